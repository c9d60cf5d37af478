/-
  The law's loop: its state, and what an append to the history does to it.
-/
import Derived.Test.Qxb6000854aZTake
namespace Go.Proofs.Qxb6000854a
open Go.RowKit
set_option linter.unusedVariables false

/-- Everything below B, and every block that is no row of tag e, is as it was. -/
structure TKeep (B : Nat) (e : TypeId) (w w' : World) : Prop where
  os : w'.os = w.os
  tape : w'.tape = w.tape
  output : w'.output = w.output
  size : w.heap.size ≤ w'.heap.size
  block : ∀ k, k < w.heap.size → (k < B ∨ ∀ cur, w.heap[k]? ≠ some (Obj.cells cur e (0, 0))) → w'.heap[k]? = w.heap[k]?

theorem TKeep.below {B : Nat} {e : TypeId} {w w' : World} (h : TKeep B e w w') (hs : B ≤ w.heap.size) : Below B w w' := ⟨h.os, h.tape, h.output, h.size, fun k hk => h.block k (by omega) (.inl hk)⟩

theorem lt_of_blk {w : World} {k : Nat} {o : Obj} (h : w.heap[k]? = some o) : k < w.heap.size := (Array.getElem?_eq_some_iff.1 h).1

theorem own_tkeep {w w' : World} {B base : Nat} {e e' : TypeId} {size : Nat} {v : Value} {n : Nat} {xs : List Value} (h : w.ownsRow base e' size v n xs) (hk : TKeep B e w w') (hne : e' ≠ e) : w'.ownsRow base e' size v n xs := by
  refine ⟨h.1, ?_⟩
  rcases h.2 with hn | ⟨g, cap, cur, hv, hb, hg, r⟩
  · exact .inl hn
  · exact .inr ⟨g, cap, cur, hv, hb, (hk.block g (lt_of_blk hg) (.inr fun c e1 => by rw [hg] at e1; simp at e1; exact hne e1.2)).trans hg, r⟩

theorem own_keep {w w' : World} {B C base : Nat} {e' : TypeId} {size : Nat} {v : Value} {n : Nat} {xs : List Value} {cs : Array Value} (h : w.ownsRow base e' size v n xs) (hk : Keep B C w w') (hC : w.heap[C]? = some (.cells cs 58 (0, 0))) (h1 : e' ≠ 63) (h2 : e' ≠ 58) : w'.ownsRow base e' size v n xs := by
  refine ⟨h.1, ?_⟩
  rcases h.2 with hn | ⟨g, cap, cur, hv, hb, hg, r⟩
  · exact .inl hn
  · refine .inr ⟨g, cap, cur, hv, hb, (hk.block g (lt_of_blk hg) ?_ (.inr fun c e1 => by rw [hg] at e1; simp at e1; exact h1 e1.2)).trans hg, r⟩
    rintro rfl
    rw [hC] at hg
    simp at hg
    exact h2 hg.2.symm

theorem cap_tkeep {w w' : World} {B C lim : Nat} {a : Option Addr} {n cap sum : Nat} {rec : List (Int × Nat)} {B' : Nat} {e : TypeId} (h : CapAt w B C lim a n cap sum rec) (hk : TKeep B' e w w') (h1 : (63 : TypeId) ≠ e) (h2 : (58 : TypeId) ≠ e) : CapAt w' B C lim a n cap sum rec := by
  refine ⟨(hk.block C (lt_of_blk h.blk) (.inr fun c e1 => by rw [h.blk] at e1; simp at e1; exact h2 e1.2)).trans h.blk, h.base, h.rows.move fun b cur hb => hk.block b (lt_of_blk hb) (.inr fun c e1 => by rw [hb] at e1; simp at e1; exact h1 e1.2)⟩

theorem tkeep_of_grown {w w1 w' : World} {B : Nat} {e : TypeId} {size : Nat} {v : Value} {n : Nat} {xs : List Value} (h : w.ownsRow B e size v n xs) {o : Obj} (hw : w1 = w.alloc o) (hg : w1.grownBy w' v.ownBlock) : TKeep B e w w' := by
  subst hw
  refine ⟨hg.os, hg.tape, hg.output, by have := hg.size; simp at this; omega, fun k hk hT => ?_⟩
  rw [hg.block k (by simp; omega) ?_, Below.heap_alloc w o k hk]
  intro hown
  rcases h.2 with ⟨rfl, _⟩ | ⟨g, cap, cur, rfl, hb, hgg, r⟩
  · simp [Value.ownBlock] at hown
  · simp [Value.ownBlock] at hown
    subst hown
    rcases hT with hT | hT
    · omega
    · exact hT cur hgg

theorem law_gI {ops : Array Oper} {rest : List Oper} {o : Oper} {a : Act} {Q : Exit → Act → World → Prop} (hgd : o.guard = none) (s x : Operand)
    (ho : o.op = .call { callee := .builtin .append, args := #[s, x], argTypes := #[37, 37] }) (W w : World) (B n c : Nat) (xs : List Value) (z : Int) (v : Value) (hW : W = w.alloc (.cells #[.int .i64 z] 2))
    (hs : a.eval s = v) (hown : w.ownsRow B 2 1 v n xs) (hB : B ≤ w.heap.size) (hx : a.eval x = .slice (some ⟨w.heap.size, 0, none⟩) 1 c) (hl : n ≤ 1048576)
    (h : ∀ v' w', w'.ownsRow B 2 1 v' (n + 1) (xs ++ [.int .i64 z]) → TKeep B 2 w w' → wpList Try.prog ops Q rest (a.put o.dst v') w') : wpList Try.prog ops Q (o :: rest) a W := by
  obtain ⟨i0, hi, hz0, hz1, hz2⟩ := info_parts Try.info2
  subst hW
  refine wpList_append_own _ hgd s x 37 ho B 2 i0 (.int .i64 0) 1 8 Try.underlying37 hi hz0 hz1 hz2 rfl (by decide) v n xs hs (World.ownsRow.alloc hown _) ⟨w.heap.size, 0, none⟩ 1 c [.int .i64 z] hx rfl (cell_one_new _ _ _) (fun u hu => by simp at hu; subst hu; rfl)
    (by unfold maxLen; omega) (by omega) (by simp; omega) ?_
  intro v' w' hown' hgrow _
  exact h v' w' hown' (tkeep_of_grown hown rfl hgrow)

theorem law_gF {ops : Array Oper} {rest : List Oper} {o : Oper} {a : Act} {Q : Exit → Act → World → Prop} (hgd : o.guard = none) (s x : Operand)
    (ho : o.op = .call { callee := .builtin .append, args := #[s, x], argTypes := #[38, 38] }) (W w : World) (B n c : Nat) (xs : List Value) (z : Nat) (v : Value) (hW : W = w.alloc (.cells #[.float .f64 z] 36))
    (hs : a.eval s = v) (hown : w.ownsRow B 36 1 v n xs) (hB : B ≤ w.heap.size) (hx : a.eval x = .slice (some ⟨w.heap.size, 0, none⟩) 1 c) (hl : n ≤ 1048576)
    (h : ∀ v' w', w'.ownsRow B 36 1 v' (n + 1) (xs ++ [.float .f64 z]) → TKeep B 36 w w' → wpList Try.prog ops Q rest (a.put o.dst v') w') : wpList Try.prog ops Q (o :: rest) a W := by
  obtain ⟨i0, hi, hz0, hz1, hz2⟩ := info_parts Try.info36
  subst hW
  refine wpList_append_own _ hgd s x 38 ho B 36 i0 (.float .f64 0) 1 8 Try.underlying38 hi hz0 hz1 hz2 rfl (by decide) v n xs hs (World.ownsRow.alloc hown _) ⟨w.heap.size, 0, none⟩ 1 c [.float .f64 z] hx rfl (cell_one_new _ _ _) (fun u hu => by simp at hu; subst hu; rfl)
    (by unfold maxLen; omega) (by omega) (by simp; omega) ?_
  intro v' w' hown' hgrow _
  exact h v' w' hown' (tkeep_of_grown hown rfl hgrow)

/-- The history's two rows. -/
def HisI (w : World) (B : Nat) (v : Value) (g : List (Int × Nat)) : Prop := w.ownsRow B 2 1 v g.length (ci (g.map Prod.fst))
def HisF (w : World) (B : Nat) (v : Value) (g : List (Int × Nat)) : Prop := w.ownsRow B 36 1 v g.length (cf (g.map Prod.snd))

theorem his_view {w : World} {B : Nat} {e : TypeId} {v : Value} {n : Nat} {xs : List Value} (h : w.ownsRow B e 1 v n xs) : ∃ a c, v = .slice a n c ∧ Rv w a xs := by
  have hl : xs.length = n := by simpa using h.1
  rcases h.2 with ⟨rfl, rfl⟩ | ⟨g, cap, cur, rfl, hb, hg, r⟩
  · exact ⟨none, 0, rfl, .inl (List.eq_nil_of_length_eq_zero hl)⟩
  · exact ⟨_, _, rfl, .inr ⟨g, 0, rfl, fun i hi => by rw [Nat.zero_add]; exact World.ownsRow.cellAt h i (by omega)⟩⟩

theorem hisI_next {w : World} {B L : Nat} {v : Value} {g : List (Int × Nat)} {t : Int} {G : Nat} (hL : Hid (g.length = L)) (h : w.ownsRow B 2 1 v (L + 1) (ci (g.map Prod.fst) ++ [.int .i64 t])) : HisI w B v (g ++ [(t, G)]) := by
  unfold HisI
  have e : ci ((g ++ [(t, G)]).map Prod.fst) = ci (g.map Prod.fst) ++ [.int .i64 t] := by simp [ci]
  rw [e, List.length_append, hL.out]; exact h

theorem hisF_next {w : World} {B L : Nat} {v : Value} {g : List (Int × Nat)} {t : Int} {G : Nat} (hL : Hid (g.length = L)) (h : w.ownsRow B 36 1 v (L + 1) (cf (g.map Prod.snd) ++ [.float .f64 G])) : HisF w B v (g ++ [(t, G)]) := by
  unfold HisF
  have e : cf ((g ++ [(t, G)]).map Prod.snd) = cf (g.map Prod.snd) ++ [.float .f64 G] := by simp [cf]
  rw [e, List.length_append, hL.out]; exact h

/-- The loop's state behind k asks. -/
structure St (w2 wr : World) (B C lim n k : Nat) (ts : List Int) (v9 v10 : Value) (g rec : List (Int × Nat)) (a : Option Addr) (nn cc sum : Nat) (δ τ : Int) : Prop where
  hisI : HisI wr B v9 g
  hisF : HisF wr B v10 g
  cap : CapAt wr B C lim a nn cc sum rec
  hist : Fl.Hist lim g rec sum δ τ
  few : g.length ≤ k
  next : k < n → τ ≤ ts.getD k 0
  below : Below B w2 wr
  base : B ≤ w2.heap.size

section
variable {w2 wr wy : World} {B C lim n k : Nat} {ts : List Int} {xs : List Nat} {v9 v10 : Value} {g rec : List (Int × Nat)} {a : Option Addr} {nn cc sum : Nat} {δ τ t : Int} {x G : Nat}

/-- The history's rows behind take. -/
theorem St.afterTake (hS : St w2 wr B C lim n k ts v9 v10 g rec a nn cc sum δ τ) (hp : TakePost wr wy B C lim rec sum t x) : HisI wy B v9 g ∧ HisF wy B v10 g ∧ Below B w2 wy ∧ B ≤ wy.heap.size := by
  have hb := Nat.le_trans hS.base hS.below.size
  refine ⟨own_keep hS.hisI hp.1 hS.cap.blk (by decide) (by decide), own_keep hS.hisF hp.1 hS.cap.blk (by decide) (by decide), hS.below.trans (hp.1.below hS.cap.base hb), Nat.le_trans hb hp.1.size⟩

theorem st_no (hS : St w2 wr B C lim n k ts v9 v10 g rec a nn cc sum δ τ) (hp : TakePost wr wy B C lim rec sum t x) (HG : Hid (Fl.gotF lim (Fl.popS t rec sum) x = G)) (hV : ¬ 0 < Fl.V G)
    (Nno : Fl.V (Fl.gotF lim (Fl.popS t rec sum) x) ≤ 0 → ∃ δ', Fl.Hist lim g (Fl.popR t rec sum) (Fl.popS t rec sum) δ' t) (hnext : k + 1 < n → t ≤ ts.getD (k + 1) 0) :
    ∃ rec' a' nn' cc' sum' δ', St w2 wy B C lim n (k + 1) ts v9 v10 g rec' a' nn' cc' sum' δ' t := by
  obtain ⟨h1, h2, h3, h4⟩ := hS.afterTake hp
  obtain ⟨hk, a', nn', cc', sum', rec', hcap, hy, hn⟩ := hp
  rw [HG.out] at hn Nno
  obtain ⟨e1, e2⟩ := hn (by omega)
  subst e1 e2
  obtain ⟨δ', hh⟩ := Nno (by omega)
  exact ⟨_, a', nn', cc', _, δ', h1, h2, hcap, hh, by have := hS.few; omega, hnext, h3, hS.base⟩

theorem st_yes {w6 w7 : World} {v9' v10' : Value} {L : Nat} (HLg : Hid (g.length = L)) (hS : St w2 wr B C lim n k ts v9 v10 g rec a nn cc sum δ τ) (hp : TakePost wr wy B C lim rec sum t x) (HG : Hid (Fl.gotF lim (Fl.popS t rec sum) x = G)) (hV : 0 < Fl.V G)
    (Nyes : 0 < Fl.V (Fl.gotF lim (Fl.popS t rec sum) x) → ∃ δ', Fl.Hist lim (g ++ [(t, Fl.gotF lim (Fl.popS t rec sum) x)]) (Fl.popR t rec sum ++ [(t, Fl.gotF lim (Fl.popS t rec sum) x)]) (Fl.fadd (Fl.popS t rec sum) (Fl.gotF lim (Fl.popS t rec sum) x)) δ' t) (hnext : k + 1 < n → t ≤ ts.getD (k + 1) 0)
    (o9 : w6.ownsRow B 2 1 v9' (L + 1) (ci (g.map Prod.fst) ++ [.int .i64 t])) (k6 : TKeep B 2 wy w6) (o10 : w7.ownsRow B 36 1 v10' (L + 1) (cf (g.map Prod.snd) ++ [.float .f64 G])) (k7 : TKeep B 36 w6 w7) :
    ∃ rec' a' nn' cc' sum' δ', St w2 w7 B C lim n (k + 1) ts v9' v10' (g ++ [(t, G)]) rec' a' nn' cc' sum' δ' t := by
  obtain ⟨h1, h2, h3, h4⟩ := hS.afterTake hp
  obtain ⟨hk, a', nn', cc', sum', rec', hcap, hy, hn⟩ := hp
  rw [HG.out] at hy Nyes
  obtain ⟨e1, e2⟩ := hy hV
  subst e1 e2
  obtain ⟨δ', hh⟩ := Nyes hV
  have h6 : B ≤ w6.heap.size := Nat.le_trans h4 k6.size
  refine ⟨_, a', nn', cc', _, δ', hisI_next HLg (own_tkeep o9 k7 (by decide)), hisF_next HLg o10, cap_tkeep (cap_tkeep hcap k6 (by decide) (by decide)) k7 (by decide) (by decide), hh, ?_, hnext, (h3.trans (k6.below h4)).trans (k7.below h6), hS.base⟩
  have := hS.few
  simp
  omega

/-- What take asks. -/
theorem St.ready (hS : St w2 wr B C lim n k ts v9 v10 g rec a nn cc sum δ τ) (hk : k ≤ 4095) (hτ : τ ≤ t) (ht : t ≤ 9223372036854775807) : nn ≤ 4096 ∧ 2 * ((g.length : Int) * Fl.eps) + 2 * Fl.eps ≤ 8200 * Fl.eps ∧ ∀ p ∈ rec, -9223372036854775808 ≤ p.1 ∧ p.1 ≤ 9223372036854775807 := by
  have hf := hS.few
  obtain ⟨old, hsp, _⟩ := hS.hist.split
  have he := Fl.eps_pos
  have hlen : (g.length : Int) * Fl.eps ≤ 4095 * Fl.eps := Int.mul_le_mul_of_nonneg_right (by omega) (Int.le_of_lt he)
  refine ⟨?_, by omega, fun p hp => ?_⟩
  · rw [← hS.cap.rows.len]
    have := congrArg List.length hsp
    simp at this
    omega
  · have := hS.hist.le p (by rw [hsp]; exact List.mem_append.2 (.inr hp))
    omega
end

/-- What is wanted: three ways; the difference is small. -/
theorem want_cases {x X G : Nat} (hx : Fl.Amt x) (hX : Fl.Fin X) (hw : ∀ u, Fl.Fin u → Fl.V u = max 0 (min (Fl.V x) (Fl.V X)) → Ieee.double.sub G u = some (Fl.fsub G u) ∧ Fl.Fin (Fl.fsub G u) ∧ Fl.V (Fl.fsub G u) ≤ 20000 * Fl.eps ∧ -(20000 * Fl.eps) ≤ Fl.V (Fl.fsub G u)) :
    ∃ U, (((FloatKind.f64.format.order x X == some .lt) = true ∧ (FloatKind.f64.format.order x 0 == some .lt) = false ∧ U = x) ∨ ((FloatKind.f64.format.order x X == some .lt) = false ∧ (FloatKind.f64.format.order X 0 == some .lt) = true ∧ U = 0) ∨ ((FloatKind.f64.format.order x X == some .lt) = false ∧ (FloatKind.f64.format.order X 0 == some .lt) = false ∧ U = X)) ∧
      Ieee.double.sub G U = some (Fl.fsub G U) ∧ Fl.Fin (Fl.fsub G U) ∧ Fl.V (Fl.fsub G U) ≤ 20000 * Fl.eps ∧ -(20000 * Fl.eps) ≤ Fl.V (Fl.fsub G U) := by
  have l1 : (FloatKind.f64.format.order x X == some .lt) = decide (Fl.V x < Fl.V X) := Fl.lt_iff hx.1 hX
  have l2 : (FloatKind.f64.format.order x 0 == some .lt) = decide (Fl.V x < Fl.V 0) := Fl.lt_iff hx.1 Fl.fin_zero
  have l3 : (FloatKind.f64.format.order X 0 == some .lt) = decide (Fl.V X < Fl.V 0) := Fl.lt_iff hX Fl.fin_zero
  rw [Fl.V_zero] at l2 l3
  have h0 := hx.2.1
  by_cases c1 : Fl.V x < Fl.V X
  · exact ⟨x, .inl ⟨by rw [l1]; simp [c1], by rw [l2, decide_eq_false_iff_not]; omega, rfl⟩, hw x hx.1 (by omega)⟩
  · by_cases c2 : Fl.V X < 0
    · exact ⟨0, .inr (.inl ⟨by rw [l1]; simp [c1], by rw [l3]; simp [c2], rfl⟩), hw 0 Fl.fin_zero (by rw [Fl.V_zero]; omega)⟩
    · exact ⟨X, .inr (.inr ⟨by rw [l1]; simp [c1], by rw [l3]; simp [c2], rfl⟩), hw X hX (by omega)⟩

/-- The difference's sign, and the last test. -/
theorem diff_cases {D : Nat} (hD : Fl.Fin D) (h1 : Fl.V D ≤ 20000 * Fl.eps) (h2 : -(20000 * Fl.eps) ≤ Fl.V D) :
    ((FloatKind.f64.format.order D 0 == some .lt) = true ∧ (FloatKind.f64.format.order (Fl.fneg D) 4562254508917369340 == some .lt || FloatKind.f64.format.order (Fl.fneg D) 4562254508917369340 == some .eq) = true) ∨
    ((FloatKind.f64.format.order D 0 == some .lt) = false ∧ (FloatKind.f64.format.order D 4562254508917369340 == some .lt || FloatKind.f64.format.order D 4562254508917369340 == some .eq) = true) := by
  cases h : (FloatKind.f64.format.order D 0 == some .lt) with
  | true =>
    obtain ⟨n1, n2⟩ := Fl.fneg_ok hD
    exact .inl ⟨rfl, Fl.tol_ok n1 (by omega)⟩
  | false => exact .inr ⟨rfl, Fl.tol_ok hD h1⟩

end Go.Proofs.Qxb6000854a
