/-
  The walk of FnHourlyCapMatchesModel (9).
-/
import Derived.Test.Qxb6000854aCapState
namespace Go.Proofs.Qxb6000854a.fnHourlyCapMatchesModel
open Go.RowKit
set_option linter.unusedVariables false

theorem unary_neg_f64 (b : Nat) : Op.unary .neg (.float .f64 b) = pure (.float .f64 (Fl.fneg b)) := rfl
attribute [local go_sem] unary_neg_f64

theorem hisI_at {w : World} {B L : Nat} {v : Value} {g : List (Int × Nat)} (H : Hid (g.length = L)) (h : HisI w B v g) : w.ownsRow B 2 1 v L (ci (g.map Prod.fst)) := by
  unfold HisI at h; rw [H.out] at h; exact h
theorem hisF_at {w : World} {B L : Nat} {v : Value} {g : List (Int × Nat)} (H : Hid (g.length = L)) (h : HisF w B v g) : w.ownsRow B 36 1 v L (cf (g.map Prod.snd)) := by
  unfold HisF at h; rw [H.out] at h; exact h

theorem st_start {w2 w4 w5 : World} {lim n : Nat} {ts : List Int} {v9 v10 : Value} (hl : Fl.Amt lim) (own9 : w4.ownsRow w2.heap.size 2 1 v9 0 []) (g4 : (w2.alloc (.cells #[.float .f64 lim, .slice none 0 0, .float .f64 0] 58)).grownBy w4 none)
    (own10 : w5.ownsRow w2.heap.size 36 1 v10 0 []) (g5 : w4.grownBy w5 none) : St w2 w5 w2.heap.size w2.heap.size lim n 0 ts v9 v10 [] [] none 0 0 0 0 (ts.getD 0 0) := by
  have hb3 : (w2.alloc (.cells #[.float .f64 lim, .slice none 0 0, .float .f64 0] 58)).heap[w2.heap.size]? = some (.cells #[.float .f64 lim, .slice none 0 0, .float .f64 0] 58 (0, 0)) := heap_alloc_new w2 _
  have hb4 := (g4.block w2.heap.size (by simp) (by simp)).trans hb3
  have hb5 := (g5.block w2.heap.size (lt_of_blk hb4) (by simp)).trans hb4
  refine ⟨own9.kept g5 (by cases hv : v9.ownBlock <;> simp), own10, ⟨hb5, Nat.le_refl _, rfl, Nat.le_refl _, by omega, fun _ => rfl, .inl rfl⟩, Fl.hist_start lim hl _, Nat.le_refl _, fun _ => Int.le_refl _, ?_, Nat.le_refl _⟩
  exact (((Below.refl _ w2).alloc (Nat.le_refl _) _).grown g4 (by simp) (by simp)).grown g5 (by have := g4.size; simp at this; omega) (by simp)

theorem getD_mem {l : List Int} {k : Nat} (h : k < l.length) : l.getD k 0 ∈ l := by simp [List.getD, h]

theorem rv_at {w : World} {a : Option Addr} {vs : List Value} (h : Rv w a vs) {k : Nat} (hk : k < vs.length) : ∃ b o, a = some ⟨b, o, none⟩ ∧ w.cell? ⟨b, o + k, none⟩ = vs[k]? := by
  rcases h with h | ⟨b, o, rfl, h⟩
  · rw [h] at hk; simp at hk
  · exact ⟨b, o, rfl, h k hk⟩

/-- zzScriptFits over two slices that came in. -/
theorem fits_any (lim : Nat) (a1 a2 : Option Addr) (n1 c1 n2 c2 n : Nat) (ts : List Int) (xs : List Nat) (w : World) (hn : Hid (min n1 n2 = n)) (hn1 : n1 ≤ 4096) (hn2 : n2 ≤ 4096) (H1 : Hid (ts.length = n1)) (H2 : Hid (xs.length = n2)) (r1 : Rv w a1 (ci ts)) (r2 : Rv w a2 (cf xs)) :
    Calls Try.prog 24 #[.float .f64 lim, .slice a1 n1 c1, .slice a2 n2 c2] w fun e w' => ∃ bv, e = .returned (.bool bv) ∧ FitsSaid lim ts xs n bv ∧ ∃ q, w' = w.drewN q := by
  cases hb1 : geZ lim with
  | false =>
    refine (fits_no1 lim a1 a2 n1 c1 n2 c2 w hb1).mono ?_
    rintro e w' ⟨rfl, rfl⟩
    exact ⟨false, rfl, FitsSaid.no _ _ _ _, 0, rfl⟩
  | true =>
    cases hb2 : leM lim with
    | false =>
      refine (fits_no2 lim a1 a2 n1 c1 n2 c2 w hb1 hb2).mono ?_
      rintro e w' ⟨rfl, rfl⟩
      exact ⟨false, rfl, FitsSaid.no _ _ _ _, 0, rfl⟩
    | true =>
      by_cases hn0 : n = 0
      · subst hn0
        refine (fits_zero lim a1 a2 n1 c1 n2 c2 w hb1 hb2 hn hn1 hn2).mono ?_
        rintro e w' ⟨rfl, rfl⟩
        exact ⟨true, rfl, fun _ => ⟨amt_of hb1 hb2, FitsTo.zero _ _⟩, 0, rfl⟩
      · have hm := hn.out
        rcases r1 with r1 | ⟨b1, o1, rfl, r1⟩
        · have := congrArg List.length r1
          rw [ci_length, H1.out] at this
          simp at this
          omega
        rcases r2 with r2 | ⟨b2, o2, rfl, r2⟩
        · have := congrArg List.length r2
          rw [cf_length, H2.out] at this
          simp at this
          omega
        exact fits_loop lim b1 o1 n1 c1 b2 o2 n2 c2 n ts xs w hb1 hb2 hn hn1 hn2 (fun i hi => by rw [r1 i (by rw [ci_length, H1.out]; exact hi), ci_at (by rw [H1.out]; exact hi)]) (fun i hi => by rw [r2 i (by rw [cf_length, H2.out]; exact hi), cf_at (by rw [H2.out]; exact hi)])

set_option maxRecDepth 100000 in
set_option maxHeartbeats 8000000 in
theorem walk_in (x1 x2 : Option Addr) (lim n1 c1 n2 c2 n : Nat) (ts : List Int) (xs : List Nat) (w : World) (H1 : Hid (ts.length = n1)) (H2 : Hid (xs.length = n2)) (hn : Hid (min n1 n2 = n)) (hn1 : n1 ≤ 4096) (hn2 : n2 ≤ 4096) (hx1 : Hid (x1 = none → n1 = 0 ∧ c1 = 0)) (hx2 : Hid (x2 = none → n2 = 0 ∧ c2 = 0))
    (r1 : Rv w x1 (ci ts)) (r2 : Rv w x2 (cf xs)) (hw64 : Hid (∀ t ∈ ts, -9223372036854775808 ≤ t ∧ t ≤ 9223372036854775807)) :
    Calls Try.prog 9 #[.float .f64 lim, .slice x1 n1 c1, .slice x2 n2 c2] w fun e w' => e = .returned (.bool true) ∧ Below w.heap.size w w' := by
  obtain ⟨iI, hiI, hzI0, hzI1, hzI2⟩ := info_parts Try.info2
  obtain ⟨iF, hiF, hzF0, hzF1, hzF2⟩ := info_parts Try.info36
  have hnn1 : n ≤ n1 := by have := hn.out; omega
  have hnn2 : n ≤ n2 := by have := hn.out; omega
  go_enter Try.func9, Try.ntmps9
  have R1 : Hid _ := fits_any lim _ _ n1 c1 n2 c2 n ts xs w hn hn1 hn2 H1 H2 r1 r2
  go_wp2_with (go_at_call 31; refine (bytes_yes lim _ n1 c1 _ n2 c2 _ hn1 hn2).mono ?_; rintro e wa ⟨rfl, rfl⟩)
  refine Calls.mono R1.out ?_
  rintro e w0 ⟨bv, rfl, hsaid, q0, rfl⟩
  clear R1
  cases bv with
  | false =>
    go_wp2
    go_ret
    exact ⟨rfl, below_drewN (Below.refl _ _) _⟩
  | true =>
    obtain ⟨hlim, hfits⟩ := hsaid rfl
    have HF : Hid _ := hfits
    clear hsaid hfits
    have r1' : Rv (wa.drewN q0) x1 (ci ts) := r1
    have r2' : Rv (wa.drewN q0) x2 (cf xs) := r2
    have bel0 : Below wa.heap.size wa (wa.drewN q0) := below_drewN (Below.refl _ _) _
    clear r1 r2
    go_wp2_with fail
    refine (cloneI_any _ n1 c1 ts _ H1 hx1.out r1' (by omega)).mono ?_
    rintro e w1 ⟨a1, rfl, s1, bel1⟩
    have r2'' := rv_below r2' bel1 (rv_lt r2')
    clear r1' r2'
    go_wp2_with fail
    refine (cloneF_any _ n2 c2 xs _ H2 hx2.out r2'' (by omega)).mono ?_
    rintro e w2 ⟨a2, rfl, s2, bel2⟩
    have s1' := rv_below s1 bel2 (rv_lt s1)
    have bel := (bel0.trans (bel1.mono bel0.size)).trans (bel2.mono (Nat.le_trans bel0.size bel1.size))
    clear s1 bel0 bel1 bel2 r2''
    go_wp2_with (first | (go_at_call 27; refine (minlen_at n1 n2 n _ (by omega) (by omega) hn).mono ?_; rintro e wb ⟨rfl, rfl⟩) | (go_at_call 28; refine (newcap_any lim _).mono ?_; rintro e wc ⟨rfl, rfl⟩) | (at_make; refine wpList_make_own _ rfl (.const (.int .i64 0)) (.tmp 46) 37 rfl wb.heap.size 2 iI (.int .i64 0) 1 Try.underlying37 hiI hzI0 hzI1 _ _ _ n rfl rfl rfl (by rw [hzI2]; omega) (by unfold maxLen; omega) (by simp) ?_; intro w4 own9 g4) | (at_make; refine wpList_make_own _ rfl (.const (.int .i64 0)) (.tmp 48) 38 rfl wb.heap.size 36 iF (.float .f64 0) 1 Try.underlying38 hiF hzF0 hzF1 _ _ _ n rfl rfl rfl (by rw [hzF2]; omega) (by unfold maxLen; omega) (by have := g4.size; simp at this; omega) ?_; intro w5 own10 g5))
    have hsz : (wb.alloc (.cells #[.float .f64 lim, .slice none 0 0, .float .f64 0] 58)).heap.size = wb.heap.size + 1 := by simp
    rw [hsz] at own9
    have S0 := st_start (n := n) (ts := ts) hlim own9 g4 own10 g5
    clear hsz
    obtain ⟨B, HB⟩ := hold_name wb.heap.size
    rw [HB.out] at S0 ⊢
    clear own9 g4 own10 g5
    go_loopw [9, 10, 11] (fun v9 v10 i wr => ∃ (k : Nat) (g rec : List (Int × Nat)) (a : Option Addr) (nn cc sum : Nat) (δ τ : Int), k ≤ n ∧ i = .int .i64 k ∧ St wb wr B B lim n k ts v9 v10 g rec a nn cc sum δ τ) (fun _ _ i _ => n - (intOf i).toNat)
    case atStart => exact ⟨0, [], [], none, 0, 0, 0, 0, _, Nat.zero_le _, rfl, S0⟩
    case round =>
      clear S0
      obtain ⟨k, g, rec, a, nn, cc, sum, δ, τ, hk, rfl, hS⟩ := hrel
      by_cases hlt : k < n
      · obtain ⟨t, HT⟩ := hold_name (ts.getD k 0)
        obtain ⟨x, HX⟩ := hold_name (xs.getD k 0)
        obtain ⟨p1, q1, rfl, m1⟩ := rv_at s1' (k := k) (by rw [ci_length, H1.out]; omega)
        obtain ⟨p2, q2, rfl, m2⟩ := rv_at s2 (k := k) (by rw [cf_length, H2.out]; omega)
        rw [ci_at (by rw [H1.out]; omega), HT.out] at m1
        rw [cf_at (by rw [H2.out]; omega), HX.out] at m2
        have g1 : wr.cell? ⟨p1, q1 + k, none⟩ = some (.int .i64 t) := (hS.below.cell (p := ⟨p1, q1 + k, none⟩) (by rw [← HB.out]; exact World.block_lt_of_cell? wb _ m1)).trans m1
        have g2 : wr.cell? ⟨p2, q2 + k, none⟩ = some (.float .f64 x) := (hS.below.cell (p := ⟨p2, q2 + k, none⟩) (by rw [← HB.out]; exact World.block_lt_of_cell? wb _ m2)).trans m2
        clear m1 m2
        have ht64 : -9223372036854775808 ≤ t ∧ t ≤ 9223372036854775807 := by
          rw [← HT.out]; exact hw64.out _ (getD_mem (by rw [H1.out]; omega))
        have hx := (HF.out k hlt).1
        rw [HX.out] at hx
        have hτ := hS.next hlt
        rw [HT.out] at hτ
        obtain ⟨R, Nyes, Nno⟩ := Fl.round_ok hlim hx hS.hist (Nat.le_trans hS.few (by omega)) hτ ht64.2 ht64.1
        obtain ⟨L, HLg⟩ := hold_name g.length
        have hLk : L ≤ k := by rw [← HLg.out]; exact hS.few
        obtain ⟨a9, c9, rfl, v9⟩ := his_view hS.hisI
        obtain ⟨a10, c10, rfl, v10⟩ := his_view hS.hisF
        rw [HLg.out]
        obtain ⟨hnn, hβ, htr⟩ := hS.ready (t := t) (by omega) hτ ht64.2
        have hnext : Hid (k + 1 < n → t ≤ ts.getD (k + 1) 0) := fun h => by rw [← HT.out]; exact (HF.out (k + 1) h).2 (by omega)
        obtain ⟨W, HW⟩ := hold_name (Fl.winF t g 0)
        obtain ⟨G, HG⟩ := hold_name (Fl.gotF lim (Fl.popS t rec sum) x)
        obtain ⟨X, HXX⟩ := hold_name (Fl.fsub lim W)
        have hsubW := R.subW
        have hXfin := R.xFin
        have hGfin := R.gotFin
        have hwant := R.want
        have hWI : Hid (∃ A δ, Fl.WI t g 0 A δ) := R.wi
        rw [HW.out, HXX.out] at hsubW hXfin
        rw [HW.out, HXX.out] at hwant
        rw [HG.out] at hGfin hwant
        have qX := run_fsub hsubW
        obtain ⟨U, hcases, u1, u2, u3, u4⟩ := want_cases hx hXfin hwant
        obtain ⟨D, HD⟩ := hold_name (Fl.fsub G U)
        rw [HD.out] at u1 u2 u3 u4
        have qD := run_fsub u1
        have hdiff := diff_cases u2 u3 u4
        rw [HLg.out] at hS
        have HS : Hid _ := hS
        have HNy : Hid _ := Nyes
        have HNn : Hid _ := Nno
        have Hx : Hid _ := hx
        have Hv9 : Hid _ := v9
        have Hv10 : Hid _ := v10
        have Htr : Hid _ := htr
        clear R Nyes Nno hsubW hXfin hwant u1 u2 u3 u4 hS hx v9 v10 htr HD
        rcases hcases with ⟨q1, q2, hU⟩ | ⟨q1, q2, hU⟩ | ⟨q1, q2, hU⟩
        · subst hU
          rcases hdiff with ⟨qd1, qd2⟩ | ⟨qd1, qd2⟩
          · cases hgb : decide (0 < Fl.V G) with
            | false =>
              have qg := got_zero hGfin false hgb
              have hV : Hid (Fl.V G ≤ 0) := Int.not_lt.1 (of_decide_eq_false hgb)
              clear hgb
              go_wp2_with (first | (go_at_call 30; refine (window_any _ _ _ _ L W g t _ HLg (by omega) HW hWI.out Hv9.out Hv10.out).mono ?_; rintro e wx ⟨rfl, rfl⟩) | (go_at_call 29; refine (ztake_any B B lim a nn cc sum rec t _ δ _ _ HS.out.cap HS.out.hist.cinv hlim Hx.out hnn hβ ht64 Htr.out G HG).mono ?_; rintro e wy ⟨rfl, hpost⟩))
              obtain ⟨rec', a', nn', cc', sum', δ', hS'⟩ := st_no HS.out hpost HG (Int.not_lt.2 hV.out) HNn.out hnext.out
              go_roundw
              case rel => exact ⟨k + 1, g, rec', a', nn', cc', sum', δ', t, by omega, by go_num, hS'⟩
              case measure => simp [intOf]; omega
            | true =>
              have qg := got_zero hGfin true hgb
              have hV : Hid (0 < Fl.V G) := (show 0 < Fl.V G from of_decide_eq_true hgb)
              clear hgb
              go_wp2_with (first | (go_at_call 30; refine (window_any _ _ _ _ L W g t _ HLg (by omega) HW hWI.out Hv9.out Hv10.out).mono ?_; rintro e wx ⟨rfl, rfl⟩) | (go_at_call 29; refine (ztake_any B B lim a nn cc sum rec t _ δ _ _ HS.out.cap HS.out.hist.cinv hlim Hx.out hnn hβ ht64 Htr.out G HG).mono ?_; rintro e wy ⟨rfl, hpost⟩) | (at_builtin; refine law_gI rfl (.tmp 91) (.tmp 93) rfl _ wy B L 1 _ t _ rfl rfl (hisI_at HLg (HS.out.afterTake hpost).1) (HS.out.afterTake hpost).2.2.2 rfl (by omega) ?_; intro v6 w6 o6 k6) | (at_builtin; refine law_gF rfl (.tmp 95) (.tmp 97) rfl _ w6 B L 1 _ G _ rfl rfl (own_tkeep (hisF_at HLg (HS.out.afterTake hpost).2.1) k6 (by decide)) (Nat.le_trans (HS.out.afterTake hpost).2.2.2 k6.size) rfl (by omega) ?_; intro v7 w7 o7 k7))
              obtain ⟨rec', a', nn', cc', sum', δ', hS'⟩ := st_yes HLg HS.out hpost HG hV.out HNy.out hnext.out o6 k6 o7 k7
              go_roundw
              case rel => exact ⟨k + 1, g ++ [(t, G)], rec', a', nn', cc', sum', δ', t, by omega, by go_num, hS'⟩
              case measure => simp [intOf]; omega
          · cases hgb : decide (0 < Fl.V G) with
            | false =>
              have qg := got_zero hGfin false hgb
              have hV : Hid (Fl.V G ≤ 0) := Int.not_lt.1 (of_decide_eq_false hgb)
              clear hgb
              go_wp2_with (first | (go_at_call 30; refine (window_any _ _ _ _ L W g t _ HLg (by omega) HW hWI.out Hv9.out Hv10.out).mono ?_; rintro e wx ⟨rfl, rfl⟩) | (go_at_call 29; refine (ztake_any B B lim a nn cc sum rec t _ δ _ _ HS.out.cap HS.out.hist.cinv hlim Hx.out hnn hβ ht64 Htr.out G HG).mono ?_; rintro e wy ⟨rfl, hpost⟩))
              obtain ⟨rec', a', nn', cc', sum', δ', hS'⟩ := st_no HS.out hpost HG (Int.not_lt.2 hV.out) HNn.out hnext.out
              go_roundw
              case rel => exact ⟨k + 1, g, rec', a', nn', cc', sum', δ', t, by omega, by go_num, hS'⟩
              case measure => simp [intOf]; omega
            | true =>
              have qg := got_zero hGfin true hgb
              have hV : Hid (0 < Fl.V G) := (show 0 < Fl.V G from of_decide_eq_true hgb)
              clear hgb
              go_wp2_with (first | (go_at_call 30; refine (window_any _ _ _ _ L W g t _ HLg (by omega) HW hWI.out Hv9.out Hv10.out).mono ?_; rintro e wx ⟨rfl, rfl⟩) | (go_at_call 29; refine (ztake_any B B lim a nn cc sum rec t _ δ _ _ HS.out.cap HS.out.hist.cinv hlim Hx.out hnn hβ ht64 Htr.out G HG).mono ?_; rintro e wy ⟨rfl, hpost⟩) | (at_builtin; refine law_gI rfl (.tmp 91) (.tmp 93) rfl _ wy B L 1 _ t _ rfl rfl (hisI_at HLg (HS.out.afterTake hpost).1) (HS.out.afterTake hpost).2.2.2 rfl (by omega) ?_; intro v6 w6 o6 k6) | (at_builtin; refine law_gF rfl (.tmp 95) (.tmp 97) rfl _ w6 B L 1 _ G _ rfl rfl (own_tkeep (hisF_at HLg (HS.out.afterTake hpost).2.1) k6 (by decide)) (Nat.le_trans (HS.out.afterTake hpost).2.2.2 k6.size) rfl (by omega) ?_; intro v7 w7 o7 k7))
              obtain ⟨rec', a', nn', cc', sum', δ', hS'⟩ := st_yes HLg HS.out hpost HG hV.out HNy.out hnext.out o6 k6 o7 k7
              go_roundw
              case rel => exact ⟨k + 1, g ++ [(t, G)], rec', a', nn', cc', sum', δ', t, by omega, by go_num, hS'⟩
              case measure => simp [intOf]; omega
        · subst hU
          rcases hdiff with ⟨qd1, qd2⟩ | ⟨qd1, qd2⟩
          · cases hgb : decide (0 < Fl.V G) with
            | false =>
              have qg := got_zero hGfin false hgb
              have hV : Hid (Fl.V G ≤ 0) := Int.not_lt.1 (of_decide_eq_false hgb)
              clear hgb
              go_wp2_with (first | (go_at_call 30; refine (window_any _ _ _ _ L W g t _ HLg (by omega) HW hWI.out Hv9.out Hv10.out).mono ?_; rintro e wx ⟨rfl, rfl⟩) | (go_at_call 29; refine (ztake_any B B lim a nn cc sum rec t _ δ _ _ HS.out.cap HS.out.hist.cinv hlim Hx.out hnn hβ ht64 Htr.out G HG).mono ?_; rintro e wy ⟨rfl, hpost⟩))
              obtain ⟨rec', a', nn', cc', sum', δ', hS'⟩ := st_no HS.out hpost HG (Int.not_lt.2 hV.out) HNn.out hnext.out
              go_roundw
              case rel => exact ⟨k + 1, g, rec', a', nn', cc', sum', δ', t, by omega, by go_num, hS'⟩
              case measure => simp [intOf]; omega
            | true =>
              have qg := got_zero hGfin true hgb
              have hV : Hid (0 < Fl.V G) := (show 0 < Fl.V G from of_decide_eq_true hgb)
              clear hgb
              go_wp2_with (first | (go_at_call 30; refine (window_any _ _ _ _ L W g t _ HLg (by omega) HW hWI.out Hv9.out Hv10.out).mono ?_; rintro e wx ⟨rfl, rfl⟩) | (go_at_call 29; refine (ztake_any B B lim a nn cc sum rec t _ δ _ _ HS.out.cap HS.out.hist.cinv hlim Hx.out hnn hβ ht64 Htr.out G HG).mono ?_; rintro e wy ⟨rfl, hpost⟩) | (at_builtin; refine law_gI rfl (.tmp 91) (.tmp 93) rfl _ wy B L 1 _ t _ rfl rfl (hisI_at HLg (HS.out.afterTake hpost).1) (HS.out.afterTake hpost).2.2.2 rfl (by omega) ?_; intro v6 w6 o6 k6) | (at_builtin; refine law_gF rfl (.tmp 95) (.tmp 97) rfl _ w6 B L 1 _ G _ rfl rfl (own_tkeep (hisF_at HLg (HS.out.afterTake hpost).2.1) k6 (by decide)) (Nat.le_trans (HS.out.afterTake hpost).2.2.2 k6.size) rfl (by omega) ?_; intro v7 w7 o7 k7))
              obtain ⟨rec', a', nn', cc', sum', δ', hS'⟩ := st_yes HLg HS.out hpost HG hV.out HNy.out hnext.out o6 k6 o7 k7
              go_roundw
              case rel => exact ⟨k + 1, g ++ [(t, G)], rec', a', nn', cc', sum', δ', t, by omega, by go_num, hS'⟩
              case measure => simp [intOf]; omega
          · cases hgb : decide (0 < Fl.V G) with
            | false =>
              have qg := got_zero hGfin false hgb
              have hV : Hid (Fl.V G ≤ 0) := Int.not_lt.1 (of_decide_eq_false hgb)
              clear hgb
              go_wp2_with (first | (go_at_call 30; refine (window_any _ _ _ _ L W g t _ HLg (by omega) HW hWI.out Hv9.out Hv10.out).mono ?_; rintro e wx ⟨rfl, rfl⟩) | (go_at_call 29; refine (ztake_any B B lim a nn cc sum rec t _ δ _ _ HS.out.cap HS.out.hist.cinv hlim Hx.out hnn hβ ht64 Htr.out G HG).mono ?_; rintro e wy ⟨rfl, hpost⟩))
              obtain ⟨rec', a', nn', cc', sum', δ', hS'⟩ := st_no HS.out hpost HG (Int.not_lt.2 hV.out) HNn.out hnext.out
              go_roundw
              case rel => exact ⟨k + 1, g, rec', a', nn', cc', sum', δ', t, by omega, by go_num, hS'⟩
              case measure => simp [intOf]; omega
            | true =>
              have qg := got_zero hGfin true hgb
              have hV : Hid (0 < Fl.V G) := (show 0 < Fl.V G from of_decide_eq_true hgb)
              clear hgb
              go_wp2_with (first | (go_at_call 30; refine (window_any _ _ _ _ L W g t _ HLg (by omega) HW hWI.out Hv9.out Hv10.out).mono ?_; rintro e wx ⟨rfl, rfl⟩) | (go_at_call 29; refine (ztake_any B B lim a nn cc sum rec t _ δ _ _ HS.out.cap HS.out.hist.cinv hlim Hx.out hnn hβ ht64 Htr.out G HG).mono ?_; rintro e wy ⟨rfl, hpost⟩) | (at_builtin; refine law_gI rfl (.tmp 91) (.tmp 93) rfl _ wy B L 1 _ t _ rfl rfl (hisI_at HLg (HS.out.afterTake hpost).1) (HS.out.afterTake hpost).2.2.2 rfl (by omega) ?_; intro v6 w6 o6 k6) | (at_builtin; refine law_gF rfl (.tmp 95) (.tmp 97) rfl _ w6 B L 1 _ G _ rfl rfl (own_tkeep (hisF_at HLg (HS.out.afterTake hpost).2.1) k6 (by decide)) (Nat.le_trans (HS.out.afterTake hpost).2.2.2 k6.size) rfl (by omega) ?_; intro v7 w7 o7 k7))
              obtain ⟨rec', a', nn', cc', sum', δ', hS'⟩ := st_yes HLg HS.out hpost HG hV.out HNy.out hnext.out o6 k6 o7 k7
              go_roundw
              case rel => exact ⟨k + 1, g ++ [(t, G)], rec', a', nn', cc', sum', δ', t, by omega, by go_num, hS'⟩
              case measure => simp [intOf]; omega
        · subst hU
          rcases hdiff with ⟨qd1, qd2⟩ | ⟨qd1, qd2⟩
          · cases hgb : decide (0 < Fl.V G) with
            | false =>
              have qg := got_zero hGfin false hgb
              have hV : Hid (Fl.V G ≤ 0) := Int.not_lt.1 (of_decide_eq_false hgb)
              clear hgb
              go_wp2_with (first | (go_at_call 30; refine (window_any _ _ _ _ L W g t _ HLg (by omega) HW hWI.out Hv9.out Hv10.out).mono ?_; rintro e wx ⟨rfl, rfl⟩) | (go_at_call 29; refine (ztake_any B B lim a nn cc sum rec t _ δ _ _ HS.out.cap HS.out.hist.cinv hlim Hx.out hnn hβ ht64 Htr.out G HG).mono ?_; rintro e wy ⟨rfl, hpost⟩))
              obtain ⟨rec', a', nn', cc', sum', δ', hS'⟩ := st_no HS.out hpost HG (Int.not_lt.2 hV.out) HNn.out hnext.out
              go_roundw
              case rel => exact ⟨k + 1, g, rec', a', nn', cc', sum', δ', t, by omega, by go_num, hS'⟩
              case measure => simp [intOf]; omega
            | true =>
              have qg := got_zero hGfin true hgb
              have hV : Hid (0 < Fl.V G) := (show 0 < Fl.V G from of_decide_eq_true hgb)
              clear hgb
              go_wp2_with (first | (go_at_call 30; refine (window_any _ _ _ _ L W g t _ HLg (by omega) HW hWI.out Hv9.out Hv10.out).mono ?_; rintro e wx ⟨rfl, rfl⟩) | (go_at_call 29; refine (ztake_any B B lim a nn cc sum rec t _ δ _ _ HS.out.cap HS.out.hist.cinv hlim Hx.out hnn hβ ht64 Htr.out G HG).mono ?_; rintro e wy ⟨rfl, hpost⟩) | (at_builtin; refine law_gI rfl (.tmp 91) (.tmp 93) rfl _ wy B L 1 _ t _ rfl rfl (hisI_at HLg (HS.out.afterTake hpost).1) (HS.out.afterTake hpost).2.2.2 rfl (by omega) ?_; intro v6 w6 o6 k6) | (at_builtin; refine law_gF rfl (.tmp 95) (.tmp 97) rfl _ w6 B L 1 _ G _ rfl rfl (own_tkeep (hisF_at HLg (HS.out.afterTake hpost).2.1) k6 (by decide)) (Nat.le_trans (HS.out.afterTake hpost).2.2.2 k6.size) rfl (by omega) ?_; intro v7 w7 o7 k7))
              obtain ⟨rec', a', nn', cc', sum', δ', hS'⟩ := st_yes HLg HS.out hpost HG hV.out HNy.out hnext.out o6 k6 o7 k7
              go_roundw
              case rel => exact ⟨k + 1, g ++ [(t, G)], rec', a', nn', cc', sum', δ', t, by omega, by go_num, hS'⟩
              case measure => simp [intOf]; omega
          · cases hgb : decide (0 < Fl.V G) with
            | false =>
              have qg := got_zero hGfin false hgb
              have hV : Hid (Fl.V G ≤ 0) := Int.not_lt.1 (of_decide_eq_false hgb)
              clear hgb
              go_wp2_with (first | (go_at_call 30; refine (window_any _ _ _ _ L W g t _ HLg (by omega) HW hWI.out Hv9.out Hv10.out).mono ?_; rintro e wx ⟨rfl, rfl⟩) | (go_at_call 29; refine (ztake_any B B lim a nn cc sum rec t _ δ _ _ HS.out.cap HS.out.hist.cinv hlim Hx.out hnn hβ ht64 Htr.out G HG).mono ?_; rintro e wy ⟨rfl, hpost⟩))
              obtain ⟨rec', a', nn', cc', sum', δ', hS'⟩ := st_no HS.out hpost HG (Int.not_lt.2 hV.out) HNn.out hnext.out
              go_roundw
              case rel => exact ⟨k + 1, g, rec', a', nn', cc', sum', δ', t, by omega, by go_num, hS'⟩
              case measure => simp [intOf]; omega
            | true =>
              have qg := got_zero hGfin true hgb
              have hV : Hid (0 < Fl.V G) := (show 0 < Fl.V G from of_decide_eq_true hgb)
              clear hgb
              go_wp2_with (first | (go_at_call 30; refine (window_any _ _ _ _ L W g t _ HLg (by omega) HW hWI.out Hv9.out Hv10.out).mono ?_; rintro e wx ⟨rfl, rfl⟩) | (go_at_call 29; refine (ztake_any B B lim a nn cc sum rec t _ δ _ _ HS.out.cap HS.out.hist.cinv hlim Hx.out hnn hβ ht64 Htr.out G HG).mono ?_; rintro e wy ⟨rfl, hpost⟩) | (at_builtin; refine law_gI rfl (.tmp 91) (.tmp 93) rfl _ wy B L 1 _ t _ rfl rfl (hisI_at HLg (HS.out.afterTake hpost).1) (HS.out.afterTake hpost).2.2.2 rfl (by omega) ?_; intro v6 w6 o6 k6) | (at_builtin; refine law_gF rfl (.tmp 95) (.tmp 97) rfl _ w6 B L 1 _ G _ rfl rfl (own_tkeep (hisF_at HLg (HS.out.afterTake hpost).2.1) k6 (by decide)) (Nat.le_trans (HS.out.afterTake hpost).2.2.2 k6.size) rfl (by omega) ?_; intro v7 w7 o7 k7))
              obtain ⟨rec', a', nn', cc', sum', δ', hS'⟩ := st_yes HLg HS.out hpost HG hV.out HNy.out hnext.out o6 k6 o7 k7
              go_roundw
              case rel => exact ⟨k + 1, g ++ [(t, G)], rec', a', nn', cc', sum', δ', t, by omega, by go_num, hS'⟩
              case measure => simp [intOf]; omega
      · go_wp2
        go_ret
        refine ⟨rfl, bel.trans (hS.below.mono ?_)⟩
        rw [← HB.out]; exact bel.size

/-- zzBytes, whatever it answers. -/
theorem bytes_any (x : Nat) (a : Option Addr) (n c : Nat) (b : Option Addr) (m d : Nat) (w : World) (h0 : n ≤ 9223372036854775807) (h1 : m ≤ 9223372036854775807) :
    Calls Try.prog 31 #[.float .f64 x, .slice a n c, .slice b m d] w fun e w' => ∃ bv, e = .returned (.bool bv) ∧ w' = w := by
  by_cases c1 : n ≤ 1048576
  · by_cases c2 : m ≤ 1048576
    · by_cases c3 : n + m ≤ 1048576
      · go_enter Try.func31, Try.ntmps31
        go_wp2
        go_ret
        exact ⟨true, rfl, rfl⟩
      · go_enter Try.func31, Try.ntmps31
        go_wp2
        go_ret
        exact ⟨false, rfl, rfl⟩
    · go_enter Try.func31, Try.ntmps31
      go_wp2
      go_ret
      exact ⟨false, rfl, rfl⟩
  · go_enter Try.func31, Try.ntmps31
    go_wp2
    go_ret
    exact ⟨false, rfl, rfl⟩

theorem walk_long (lim : Nat) (a : Option Addr) (n c : Nat) (b : Option Addr) (m d : Nat) (w : World) (h0 : n ≤ 9223372036854775807) (h1 : m ≤ 9223372036854775807) (h : 4096 < n ∨ 4096 < m) :
    Calls Try.prog 9 #[.float .f64 lim, .slice a n c, .slice b m d] w fun e w' => e = .returned (.bool true) ∧ Below w.heap.size w w' := by
  by_cases c1 : 4096 < n
  · have k1 : decide ((4096 : Int) < (n : Int)) = true := by rw [decide_eq_true_eq]; omega
    clear h
    go_enter Try.func9, Try.ntmps9
    go_wp2_with fail
    refine (bytes_any lim a n c b m d _ h0 h1).mono ?_
    rintro e wa ⟨bv, rfl, rfl⟩
    cases bv with
    | false =>
      go_wp2
      go_ret
      exact ⟨rfl, Below.refl _ _⟩
    | true =>
      go_wp2
      go_ret
      exact ⟨rfl, Below.refl _ _⟩
  · have c2 : 4096 < m := by omega
    have k1 : decide ((4096 : Int) < (n : Int)) = false := by rw [decide_eq_false_iff_not]; omega
    have k2 : decide ((4096 : Int) < (m : Int)) = true := by rw [decide_eq_true_eq]; omega
    clear h
    go_enter Try.func9, Try.ntmps9
    go_wp2_with fail
    refine (bytes_any lim a n c b m d _ h0 h1).mono ?_
    rintro e wa ⟨bv, rfl, rfl⟩
    cases bv with
    | false =>
      go_wp2
      go_ret
      exact ⟨rfl, Below.refl _ _⟩
    | true =>
      go_wp2
      go_ret
      exact ⟨rfl, Below.refl _ _⟩

/-- Whatever comes in. -/
theorem walk (lim : Nat) (x1 x2 : Option Addr) (n1 c1 n2 c2 : Nat) (ts : List Int) (xs : List Nat) (w : World) (H1 : ts.length = n1) (H2 : xs.length = n2) (h1 : n1 ≤ 9223372036854775807) (h2 : n2 ≤ 9223372036854775807) (hx1 : x1 = none → n1 = 0 ∧ c1 = 0) (hx2 : x2 = none → n2 = 0 ∧ c2 = 0)
    (r1 : Rv w x1 (ci ts)) (r2 : Rv w x2 (cf xs)) (hw64 : ∀ t ∈ ts, -9223372036854775808 ≤ t ∧ t ≤ 9223372036854775807) :
    Calls Try.prog 9 #[.float .f64 lim, .slice x1 n1 c1, .slice x2 n2 c2] w fun e w' => e = .returned (.bool true) ∧ Below w.heap.size w w' := by
  by_cases hl : 4096 < n1 ∨ 4096 < n2
  · exact walk_long lim x1 n1 c1 x2 n2 c2 w h1 h2 hl
  · exact walk_in x1 x2 lim n1 c1 n2 c2 (min n1 n2) ts xs w H1 H2 rfl (by omega) (by omega) hx1 hx2 r1 r2 hw64

end Go.Proofs.Qxb6000854a.fnHourlyCapMatchesModel
