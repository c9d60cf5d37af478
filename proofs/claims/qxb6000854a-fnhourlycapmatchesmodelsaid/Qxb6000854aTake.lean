/-
  The contract of take (36).
-/
import Derived.Test.Qxb6000854aTakeMem
import Derived.Deep.LoopGhost
import Derived.Deep.RegionHeld
namespace Go.Proofs.Qxb6000854a
open Go.RowKit
set_option linter.unusedVariables false
attribute [local go_sem] run_store_float

theorem run_min_f64 {P : Program} {w : World} {ts : Array TypeId} {t : TypeId} {x y : Nat} (h : (FloatKind.f64.format.order x y).isSome = true) : (Builtin.min_ ts t #[.float .f64 x, .float .f64 y]).run P w = .ok (.float .f64 (Fl.fmin x y)) w := by
  obtain ⟨o, ho⟩ := Option.isSome_iff_exists.1 h
  have ho' : Ieee.double.order x y = some o := ho
  unfold Fl.fmin
  rw [ho']
  cases o <;> simp [Builtin.min_, Builtin.min2, ho', FloatKind.decode, FloatKind.format] <;> rfl

theorem run_max_f64 {P : Program} {w : World} {ts : Array TypeId} {t : TypeId} {x y : Nat} (h : (FloatKind.f64.format.order x y).isSome = true) : (Builtin.max_ ts t #[.float .f64 x, .float .f64 y]).run P w = .ok (.float .f64 (Fl.fmax x y)) w := by
  obtain ⟨o, ho⟩ := Option.isSome_iff_exists.1 h
  have ho' : Ieee.double.order x y = some o := ho
  unfold Fl.fmax
  rw [ho']
  cases o <;> simp [Builtin.max_, Builtin.max2, ho', FloatKind.decode, FloatKind.format] <;> rfl
attribute [local go_sem] run_min_f64 run_max_f64

theorem order_some {x y : Nat} (hx : Fl.Fin x) (hy : Fl.Fin y) : (FloatKind.f64.format.order x y).isSome = true := by
  show (Ieee.double.order x y).isSome = true
  rw [Fl.order_eq hx hy]; rfl

theorem pop_yes {t s : Int} {y sum : Nat} {r : List (Int × Nat)} {PL : List (Int × Nat) × Nat} (h : Fl.popL t ((s, y) :: r) sum = PL) (hp : 3600 ≤ Fl.el s t) : Fl.popL t r (Fl.fsub sum y) = PL := by
  rw [← h]; simp [Fl.popL, hp]
theorem pop_no {t s : Int} {y sum : Nat} {r : List (Int × Nat)} {PL : List (Int × Nat) × Nat} (h : Fl.popL t ((s, y) :: r) sum = PL) (hp : ¬ 3600 ≤ Fl.el s t) : PL = ((s, y) :: r, sum) := by
  rw [← h]; simp [Fl.popL, hp]

/-- The same, the new block's number told apart. -/
theorem law_rec2 {ops : Array Oper} {rest : List Oper} {o : Oper} {a : Act} {Q : Exit → Act → World → Prop} (hgd : o.guard = none) (s x : Operand)
    (ho : o.op = .call { callee := .builtin .append, args := #[s, x], argTypes := #[56, 56] }) (W w : World) (B C n cap c N : Nat) (hN : N = w.heap.size) (av : Option Addr) (rec : List (Int × Nat)) (p : Int × Nat) (cv : Array Value)
    (hW : W = w.alloc (.cells cv 63)) (hcv : cv = #[.int .i64 p.1, .float .f64 p.2]) (hs : a.eval s = .slice av n cap) (hrec : RecAt w B av n cap rec) (hB : B ≤ w.heap.size) (hx : a.eval x = .slice (some ⟨N, 0, none⟩) 1 c) (hn : n ≤ 4096)
    (h : ∀ a' cap' w', RecAt w' B a' (n + 1) cap' (rec ++ [p]) → Keep B C w w' → wpList Try.prog ops Q rest (a.put o.dst (.slice a' (n + 1) cap')) w') : wpList Try.prog ops Q (o :: rest) a W := by
  subst hN
  exact law_rec hgd s x ho W w B C n cap c av rec p cv hW hcv hs hrec hB hx hn h

theorem Keep.anyC {B C' C : Nat} {w w' : World} (h : Keep B C' w w') (hC : w.heap.size ≤ C') : Keep B C w w' := ⟨h.os, h.tape, h.output, h.size, fun k hk _ hT => h.block k hk (by omega) hT⟩

/-- Behind the append: the struct is as it was; the new slice and the new sum are laid into it. -/
theorem after_append {w w3 : World} {B C lim : Nat} {a a' : Option Addr} {n cap cap' sum C' : Nat} {rec : List (Int × Nat)} {p : Int × Nat} (h : CapAt w B C lim a n cap sum rec) (hr : RecAt w3 B a' (n + 1) cap' (rec ++ [p])) (hk : Keep B C' w w3) (hC : w.heap.size ≤ C') :
    (w3.cell? ⟨C, 0, none⟩ = some (.float .f64 lim) ∧ w3.cell? ⟨C, 1, none⟩ = some (.slice a n cap) ∧ w3.cell? ⟨C, 2, none⟩ = some (.float .f64 sum) ∧ w3.frozen? ⟨C, 1, none⟩ = false ∧ w3.frozen? ⟨C, 2, none⟩ = false) ∧
    ∀ v, CapAt ((w3.setCell ⟨C, 1, none⟩ (.slice a' (n + 1) cap')).setCell ⟨C, 2, none⟩ (.float .f64 v)) B C lim a' (n + 1) cap' v (rec ++ [p]) ∧ Keep B C w ((w3.setCell ⟨C, 1, none⟩ (.slice a' (n + 1) cap')).setCell ⟨C, 2, none⟩ (.float .f64 v)) := by
  have hlt : C < w.heap.size := (Array.getElem?_eq_some_iff.1 h.blk).1
  have hb : w3.heap[C]? = some (.cells #[.float .f64 lim, .slice a n cap, .float .f64 sum] 58 (0, 0)) := by
    rw [hk.block C hlt (by omega) (.inr fun cur e => by rw [h.blk] at e; simp at e)]; exact h.blk
  have hne : ∀ (b : Nat) (cur : Array Value), w3.heap[b]? = some (Obj.cells cur 63 (0, 0)) → b ≠ C := by
    rintro b cur e rfl
    rw [hb] at e
    simp at e
  refine ⟨⟨?_, ?_, ?_, frozen_of_row w3 C 1 _ 58 hb, frozen_of_row w3 C 2 _ 58 hb⟩, fun v => ⟨⟨?_, h.base, ?_⟩, ?_⟩⟩
  · rw [cell_of_row w3 C 0 _ 58 (0, 0) hb]; rfl
  · rw [cell_of_row w3 C 1 _ 58 (0, 0) hb]; rfl
  · rw [cell_of_row w3 C 2 _ 58 (0, 0) hb]; rfl
  · have h1 := heap_setCell_same w3 C 1 _ 58 (.slice a' (n + 1) cap') hb
    rw [heap_setCell_same _ C 2 _ 58 (.float .f64 v) h1]; rfl
  · refine hr.move fun b cur e => ?_
    rw [heap_setCell_other _ ⟨C, 2, none⟩ b _ (hne b cur e), heap_setCell_other _ ⟨C, 1, none⟩ b _ (hne b cur e)]
  · exact (hk.anyC hC).setC 1 _ |>.setC 2 _

/-- What take leaves. -/
def TakePost (w w' : World) (B C lim : Nat) (rec0 : List (Int × Nat)) (sum0 : Nat) (t : Int) (x : Nat) : Prop :=
  Keep B C w w' ∧ ∃ a n cap sum rec, CapAt w' B C lim a n cap sum rec ∧
    (0 < Fl.V (Fl.gotF lim (Fl.popS t rec0 sum0) x) → rec = Fl.popR t rec0 sum0 ++ [(t, Fl.gotF lim (Fl.popS t rec0 sum0) x)] ∧ sum = Fl.fadd (Fl.popS t rec0 sum0) (Fl.gotF lim (Fl.popS t rec0 sum0) x)) ∧
    (Fl.V (Fl.gotF lim (Fl.popS t rec0 sum0) x) ≤ 0 → rec = Fl.popR t rec0 sum0 ∧ sum = Fl.popS t rec0 sum0)

theorem post_no {w w' : World} {B C lim sum0 x s1 G : Nat} {rec0 rec : List (Int × Nat)} {t : Int} {a : Option Addr} {n cap : Nat} (hk : Keep B C w w') (hc : CapAt w' B C lim a n cap s1 rec) (hr : rec = Fl.popR t rec0 sum0) (hs : s1 = Fl.popS t rec0 sum0) (hG : G = Fl.gotF lim s1 x) (hV : ¬ 0 < Fl.V G) : TakePost w w' B C lim rec0 sum0 t x := by
  subst hG hr hs
  exact ⟨hk, a, n, cap, _, _, hc, fun h => absurd h hV, fun _ => ⟨rfl, rfl⟩⟩

theorem post_yes {w w' : World} {B C lim sum0 x s1 G : Nat} {rec0 rec : List (Int × Nat)} {t : Int} {a : Option Addr} {n cap : Nat} (hk : Keep B C w w') (hc : CapAt w' B C lim a n cap (Fl.fadd s1 G) (rec ++ [(t, G)])) (hr : rec = Fl.popR t rec0 sum0) (hs : s1 = Fl.popS t rec0 sum0) (hG : G = Fl.gotF lim s1 x) (hV : 0 < Fl.V G) : TakePost w w' B C lim rec0 sum0 t x := by
  subst hG hr hs
  exact ⟨hk, a, n, cap, _, _, hc, fun _ => ⟨rfl, rfl⟩, fun h => absurd hV (by omega)⟩

theorem ret_f64 {a b : Nat} (h : a = b) : Ending.returned (.float .f64 a) = .returned (.float .f64 b) := by rw [h]

theorem got_zero {G : Nat} (h : Fl.Fin G) (b : Bool) (hb : decide (0 < Fl.V G) = b) : (FloatKind.f64.format.order G 0 == some .gt) = b := by
  rw [← hb, ← Fl.V_zero]; exact Fl.gt_iff h Fl.fin_zero

set_option maxRecDepth 100000 in
set_option maxHeartbeats 1000000 in
theorem take_any (B C lim : Nat) (a0 : Option Addr) (n0 cap0 sum0 : Nat) (rec0 : List (Int × Nat)) (t : Int) (x : Nat) (δ0 β : Int) (w : World)
    (hcap : CapAt w B C lim a0 n0 cap0 sum0 rec0) (hinv : Fl.CInv lim rec0 sum0 δ0 β) (hlim : Fl.Amt lim) (hx : Fl.Amt x) (hn : n0 ≤ 4096) (hβ : β + 2 * Fl.eps ≤ 8200 * Fl.eps) (ht : -9223372036854775808 ≤ t ∧ t ≤ 9223372036854775807) (hts : ∀ p ∈ rec0, -9223372036854775808 ≤ p.1 ∧ p.1 ≤ 9223372036854775807) :
    Calls Try.prog 36 #[.pointer (some ⟨C, 0, none⟩), .int .i64 t, .float .f64 x] w fun e w' => e = .returned (.float .f64 (Fl.gotF lim (Fl.popS t rec0 sum0) x)) ∧ TakePost w w' B C lim rec0 sum0 t x := by
  obtain ⟨PL, HP⟩ := hold_name (Fl.popL t rec0 sum0)
  go_enter Try.func36, Try.ntmps36
  go_wp2
  go_loopg [25] (rec0.length) (fun k _ wr => ∃ (a : Option Addr) (n cap sum : Nat) (rec : List (Int × Nat)) (δ : Int), Hid (rec.length = k) ∧ CapAt wr B C lim a n cap sum rec ∧ Fl.CInv lim rec sum δ β ∧ Hid (Fl.popL t rec sum = PL) ∧ OnlyC C w wr ∧ n ≤ 4096 ∧ Hid (∀ p ∈ rec, -9223372036854775808 ≤ p.1 ∧ p.1 ≤ 9223372036854775807))
  case atStart => exact ⟨a0, n0, cap0, sum0, rec0, δ0, rfl, hcap, hinv, HP, OnlyC.refl _ _, hn, hts⟩
  case round =>
    obtain ⟨a, n, cap, sum, rec, δ, Hk, hc, hi, HPL, hO, hn4, hts'⟩ := hrel
    cases rec with
    | nil =>
      obtain ⟨c0, c1, c2, f0, f1, f2⟩ := hc.cells
      obtain rfl : n = 0 := hc.rows.len.symm
      have hPL : PL = ([], sum) := HPL.out.symm
      have Hr : Hid ([] = Fl.popR t rec0 sum0) := by show [] = Fl.popR t rec0 sum0; unfold Fl.popR; rw [HP.out, hPL]
      have Hs : Hid (0 = Fl.popS t rec0 sum0) := by show 0 = Fl.popS t rec0 sum0; unfold Fl.popS; rw [HP.out, hPL]; rfl
      have hi0 := hi.reset hlim
      obtain ⟨a1, a2, a3, a4, a5, a6⟩ := hi0.ask hlim hx
      obtain ⟨yy, HYY⟩ := hold_name (Fl.fsub lim 0)
      obtain ⟨G, HG⟩ := hold_name (Fl.gotF lim 0 x)
      have q := run_fsub a1
      have o1 := order_some hx.1 a2
      have o2 := order_some Fl.fin_zero (Fl.fmin_ok hx.1 a2).1
      rw [HYY.out] at q o1 o2
      have hfg : Fl.fmax 0 (Fl.fmin x yy) = G := by rw [← HYY.out]; exact HG.out
      have hGfin : Fl.Fin G := by rw [← HG.out]; exact a5
      have HRet : Hid (G = Fl.gotF lim (Fl.popS t rec0 sum0) x) := by show G = _; rw [← Hs.out]; exact HG.out.symm
      have hgr := hi0.grant t hlim hx hβ
      rw [HG.out] at hgr
      have HC : Hid _ := (hc.setSum 0).drew
      have HO : Hid _ := (hO.setCell 2 (.float .f64 0)).drew
      have hBs : B ≤ (wr.setCell ⟨C, 2, none⟩ (.float .f64 0)).drew.heap.size := by
        have h1 := HC.out.base
        have h2 := (Array.getElem?_eq_some_iff.1 HC.out.blk).1
        exact Nat.le_of_lt (Nat.lt_of_le_of_lt h1 h2)
      have HN : Hid (wr.heap.size = (wr.setCell ⟨C, 2, none⟩ (.float .f64 0)).drew.heap.size) := by show _ = _; simp [World.setCell]
      clear hPL a1 a2 a3 a4 a5 a6 hts' hi hi0 hc hO
      cases hgb : decide (0 < Fl.V G) with
      | false =>
        have qg := got_zero hGfin false hgb
        have hV : ¬ 0 < Fl.V G := of_decide_eq_false hgb
        clear hgr hgb
        have HV : Hid _ := hV
        clear hV
        go_wp2
        go_region
        all_goals go_wp2
        all_goals go_ret
        all_goals exact ⟨ret_f64 HRet.out, post_no HO.out.keep HC.out Hr.out Hs.out HG.out.symm HV.out⟩
      | true =>
        have qg := got_zero hGfin true hgb
        have hV : 0 < Fl.V G := of_decide_eq_true hgb
        have qa := run_fadd (hgr hV).1
        clear hgr hgb
        have HV : Hid _ := hV
        clear hV
        go_wp2
        go_region
        go_wp2_with (at_builtin; refine law_rec2 rfl (.tmp 75) (.tmp 79) rfl _ (wr.setCell ⟨C, 2, none⟩ (.float .f64 0)).drew B (wr.setCell ⟨C, 2, none⟩ (.float .f64 0)).drew.heap.size 0 cap 1 wr.heap.size HN.out _ [] (t, G) _ rfl rfl rfl HC.out.rows hBs rfl hn4 ?_)
        intro a' cap' w3 hr3 hk3
        obtain ⟨⟨d0, d1, d2, d3, d4⟩, hfin⟩ := after_append (rec := []) (p := (t, G)) HC.out hr3 hk3 (Nat.le_of_eq HN.out.symm)
        have HF : Hid _ := hfin (Fl.fadd 0 G)
        clear hfin hr3 hk3 o1 o2 q
        go_wp2
        go_ret
        exact ⟨ret_f64 HRet.out, post_yes (HO.out.keep.trans HF.out.2) HF.out.1 Hr.out Hs.out HG.out.symm HV.out⟩
    | cons p r =>
      obtain ⟨s, y⟩ := p
      obtain ⟨b, off, rfl, hbC, g0, g1⟩ := hc.first
      obtain ⟨c0, c1, c2, f0, f1, f2⟩ := hc.cells
      have hlen := hc.rows.len
      have hle := hc.rows.le
      have hmx := hc.rows.max
      simp only at g0 g1
      have hn0 : 0 < n := by rw [← hlen]; simp
      have hnz : (0 : Int) < (n : Int) := by omega
      have HC : Hid _ := hc
      have hs64 := hts'.out (s, y) (by simp)
      simp only at hs64
      clear hlen
      by_cases hp : 3600 ≤ Fl.el s t
      · obtain ⟨hsub, hi2⟩ := hi.pop hlim
        have q := run_fsub hsub
        simp only at q
        clear hsub hc
        obtain ⟨E, HE⟩ := hold_name (Fl.el s t)
        have hE : 3600 ≤ E := by rw [← HE.out]; exact hp
        clear hp
        go_wp2_with (go_at_call 37; refine (elapsed_any s t _ hs64 ht).mono ?_; rintro e wx ⟨rfl, rfl⟩; rw [HE.out])
        have HPL2 : Hid _ := pop_yes HPL.out (by rw [HE.out]; exact hE)
        have hts2 : Hid (∀ p ∈ r, -9223372036854775808 ≤ p.1 ∧ p.1 ≤ 9223372036854775807) := fun p hp => hts'.out p (by simp [hp])
        by_cases hcap1 : cap = 1
        · have HC2 : Hid _ := (HC.out.setSum (Fl.fsub sum y)).cut_end hcap1
          subst hcap1
          go_region
          all_goals go_wp2
          go_roundg r.length
          case measure => have := Hk.out; simp at this; omega
          case rel => exact ⟨_, _, _, _, r, _, rfl, HC2.out.drew, hi2, HPL2, ((hO.setCell 2 _).setCell 1 _).drew, by omega, hts2⟩
        · have HC2 : Hid _ := (HC.out.setSum (Fl.fsub sum y)).cut (by omega)
          go_region
          all_goals go_wp2
          go_roundg r.length
          case measure => have := Hk.out; simp at this; omega
          case rel => exact ⟨_, _, _, _, r, _, rfl, HC2.out.drew, hi2, HPL2, ((hO.setCell 2 _).setCell 1 _).drew, by omega, hts2⟩
      · have hPL := pop_no HPL.out hp
        have Hr : Hid ((s, y) :: r = Fl.popR t rec0 sum0) := by show (s, y) :: r = Fl.popR t rec0 sum0; unfold Fl.popR; rw [HP.out, hPL]
        have Hs : Hid (sum = Fl.popS t rec0 sum0) := by show sum = Fl.popS t rec0 sum0; unfold Fl.popS; rw [HP.out, hPL]; rfl
        obtain ⟨a1, a2, a3, a4, a5, a6⟩ := hi.ask hlim hx
        obtain ⟨yy, HYY⟩ := hold_name (Fl.fsub lim sum)
        obtain ⟨G, HG⟩ := hold_name (Fl.gotF lim sum x)
        have q := run_fsub a1
        have o1 := order_some hx.1 a2
        have o2 := order_some Fl.fin_zero (Fl.fmin_ok hx.1 a2).1
        rw [HYY.out] at q o1 o2
        obtain ⟨E, HE⟩ := hold_name (Fl.el s t)
        have hE : ¬ 3600 ≤ E := by rw [← HE.out]; exact hp
        have hfg : Fl.fmax 0 (Fl.fmin x yy) = G := by rw [← HYY.out]; exact HG.out
        have hGfin : Fl.Fin G := by rw [← HG.out]; exact a5
        have HRet : Hid (G = Fl.gotF lim (Fl.popS t rec0 sum0) x) := by show G = _; rw [← Hs.out]; exact HG.out.symm
        have hgr := hi.grant t hlim hx hβ
        rw [HG.out] at hgr
        clear hp hPL a1 a2 a3 a4 a5 a6 hc hts'
        cases hgb : decide (0 < Fl.V G) with
        | false =>
          have qg := got_zero hGfin false hgb
          have hV : ¬ 0 < Fl.V G := of_decide_eq_false hgb
          clear hgr hgb
          have HV : Hid _ := hV
          clear hV
          go_wp2_with (go_at_call 37; refine (elapsed_any s t _ hs64 ht).mono ?_; rintro e wx ⟨rfl, rfl⟩; rw [HE.out])
          go_region
          all_goals go_wp2
          all_goals go_ret
          all_goals exact ⟨ret_f64 HRet.out, post_no hO.drew.keep HC.out.drew Hr.out Hs.out HG.out.symm HV.out⟩
        | true =>
          have qg := got_zero hGfin true hgb
          have hV : 0 < Fl.V G := of_decide_eq_true hgb
          have qa := run_fadd (hgr hV).1
          clear hgr hgb
          have HV : Hid _ := hV
          clear hV
          have hBs : B ≤ wr.heap.size := by
            have h1 := HC.out.base
            have h2 := (Array.getElem?_eq_some_iff.1 HC.out.blk).1
            exact Nat.le_of_lt (Nat.lt_of_le_of_lt h1 h2)
          go_wp2_with (go_at_call 37; refine (elapsed_any s t _ hs64 ht).mono ?_; rintro e wx ⟨rfl, rfl⟩; rw [HE.out])
          go_region
          go_wp2_with (at_builtin; refine law_rec rfl (.tmp 75) (.tmp 79) rfl _ wx.drew B wx.drew.heap.size n cap 1 _ ((s, y) :: r) (t, G) _ rfl rfl rfl HC.out.drew.rows hBs rfl hn4 ?_)
          intro a' cap' w3 hr3 hk3
          obtain ⟨⟨d0, d1, d2, d3, d4⟩, hfin⟩ := after_append (rec := (s, y) :: r) (p := (t, G)) HC.out.drew hr3 hk3 (Nat.le_refl _)
          have HF : Hid _ := hfin (Fl.fadd sum G)
          clear hfin hr3 hk3 o1 o2 q
          go_wp2
          go_ret
          exact ⟨ret_f64 HRet.out, post_yes (hO.drew.keep.trans HF.out.2) HF.out.1 Hr.out Hs.out HG.out.symm HV.out⟩

end Go.Proofs.Qxb6000854a
