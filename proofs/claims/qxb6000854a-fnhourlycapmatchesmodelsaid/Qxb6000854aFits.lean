/-
  The contract of zzScriptFits (24).
-/
import Derived.Test.Qxb6000854aCapBase
namespace Go.Proofs.Qxb6000854a
open Go.RowKit
set_option linter.unusedVariables false

theorem minlen_at (a b n : Nat) (w : World) (ha : a ≤ 9223372036854775807) (hb : b ≤ 9223372036854775807) (h : Hid (min a b = n)) : Calls Try.prog 27 #[.int .i64 (a : Int), .int .i64 (b : Int)] w fun e w' => e = .returned (.int .i64 (n : Int)) ∧ w' = w := by
  have := minlen_any a b w ha hb
  rw [h.out] at this
  exact this

/-- The first k asks are in order. -/
def FitsTo (ts : List Int) (xs : List Nat) (k : Nat) : Prop := ∀ i, i < k → Fl.Amt (xs.getD i 0) ∧ (0 < i → ts.getD (i - 1) 0 ≤ ts.getD i 0)

theorem FitsTo.zero (ts : List Int) (xs : List Nat) : FitsTo ts xs 0 := fun i hi => by omega

theorem FitsTo.next {ts : List Int} {xs : List Nat} {k : Nat} (h : FitsTo ts xs k) (h1 : Fl.Amt (xs.getD k 0)) (h2 : 0 < k → ts.getD (k - 1) 0 ≤ ts.getD k 0) : FitsTo ts xs (k + 1) := by
  intro i hi
  by_cases e : i = k
  · subst e; exact ⟨h1, h2⟩
  · exact h i (by omega)

/-- What the answer says. -/
def FitsSaid (lim : Nat) (ts : List Int) (xs : List Nat) (n : Nat) (bv : Bool) : Prop := bv = true → Fl.Amt lim ∧ FitsTo ts xs n

theorem FitsSaid.no (lim : Nat) (ts : List Int) (xs : List Nat) (n : Nat) : FitsSaid lim ts xs n false := fun h => by cases h

/-- The two tests on a float. -/
def geZ (x : Nat) : Bool := FloatKind.f64.format.order x 0 == some .gt || FloatKind.f64.format.order x 0 == some .eq
def leM (x : Nat) : Bool := FloatKind.f64.format.order x 4696837146684686336 == some .lt || FloatKind.f64.format.order x 4696837146684686336 == some .eq

theorem amt_of {x : Nat} (h1 : geZ x = true) (h2 : leM x = true) : Fl.Amt x := Fl.range_fin h1 h2

theorem run_ge (x : Nat) (b : Bool) (h : geZ x = b) : (FloatKind.f64.format.order x 0 == some .gt || FloatKind.f64.format.order x 0 == some .eq) = b := h
theorem run_le (x : Nat) (b : Bool) (h : leM x = b) : (FloatKind.f64.format.order x 4696837146684686336 == some .lt || FloatKind.f64.format.order x 4696837146684686336 == some .eq) = b := h

theorem fits_no1 (lim : Nat) (a1 a2 : Option Addr) (n1 c1 n2 c2 : Nat) (w : World) (h : geZ lim = false) : Calls Try.prog 24 #[.float .f64 lim, .slice a1 n1 c1, .slice a2 n2 c2] w fun e w' => e = .returned (.bool false) ∧ w' = w := by
  have q1 := run_ge lim false h
  clear h
  go_enter Try.func24, Try.ntmps24
  go_wp2
  go_ret
  exact ⟨rfl, rfl⟩

theorem fits_no2 (lim : Nat) (a1 a2 : Option Addr) (n1 c1 n2 c2 : Nat) (w : World) (h : geZ lim = true) (h2 : leM lim = false) : Calls Try.prog 24 #[.float .f64 lim, .slice a1 n1 c1, .slice a2 n2 c2] w fun e w' => e = .returned (.bool false) ∧ w' = w := by
  have q1 := run_ge lim true h
  have q2 := run_le lim false h2
  clear h h2
  go_enter Try.func24, Try.ntmps24
  go_wp2
  go_ret
  exact ⟨rfl, rfl⟩

theorem fits_zero (lim : Nat) (a1 a2 : Option Addr) (n1 c1 n2 c2 : Nat) (w : World) (h : geZ lim = true) (h2 : leM lim = true) (hn : Hid (min n1 n2 = 0)) (hn1 : n1 ≤ 4096) (hn2 : n2 ≤ 4096) : Calls Try.prog 24 #[.float .f64 lim, .slice a1 n1 c1, .slice a2 n2 c2] w fun e w' => e = .returned (.bool true) ∧ w' = w := by
  have q1 := run_ge lim true h
  have q2 := run_le lim true h2
  clear h h2
  go_enter Try.func24, Try.ntmps24
  go_wp2_with (go_at_call 27; refine (minlen_at n1 n2 0 _ (by omega) (by omega) hn).mono ?_; rintro e wa ⟨rfl, rfl⟩)
  refine wp_loop_rounds 1 ?_
  rw [rounds_succ]
  go_wp2
  go_ret
  exact ⟨rfl, rfl⟩

set_option maxHeartbeats 1000000 in
theorem fits_loop (lim b1 o1 n1 c1 b2 o2 n2 c2 n : Nat) (ts : List Int) (xs : List Nat) (w : World) (h : geZ lim = true) (h2 : leM lim = true) (hn : Hid (min n1 n2 = n)) (hn1 : n1 ≤ 4096) (hn2 : n2 ≤ 4096)
    (k1 : Hid (∀ i, i < n1 → w.cell? ⟨b1, o1 + i, none⟩ = some (.int .i64 (ts.getD i 0)))) (k2 : Hid (∀ i, i < n2 → w.cell? ⟨b2, o2 + i, none⟩ = some (.float .f64 (xs.getD i 0)))) :
    Calls Try.prog 24 #[.float .f64 lim, .slice (some ⟨b1, o1, none⟩) n1 c1, .slice (some ⟨b2, o2, none⟩) n2 c2] w fun e w' => ∃ bv, e = .returned (.bool bv) ∧ FitsSaid lim ts xs n bv ∧ ∃ q, w' = w.drewN q := by
  have hlim : Hid (Fl.Amt lim) := amt_of h h2
  have q1 := run_ge lim true h
  have q2 := run_le lim true h2
  have hnn1 : n ≤ n1 := by have := hn.out; omega
  have hnn2 : n ≤ n2 := by have := hn.out; omega
  clear h h2
  go_enter Try.func24, Try.ntmps24
  go_wp2_with (go_at_call 27; refine (minlen_at n1 n2 n _ (by omega) (by omega) hn).mono ?_; rintro e wa ⟨rfl, rfl⟩)
  clear q1 q2
  go_loopw [8] (fun v wr => ∃ k q : Nat, k ≤ n ∧ v = .int .i64 k ∧ FitsTo ts xs k ∧ wr = wa.drewN q) (fun v _ => n - (intOf v).toNat)
  case atStart => exact ⟨0, 0, Nat.zero_le _, rfl, FitsTo.zero _ _, rfl⟩
  case round =>
    obtain ⟨k, q, hk, rfl, hF, rfl⟩ := hrel
    by_cases hlt : k < n
    · obtain ⟨x, HX⟩ := hold_name (xs.getD k 0)
      have g2 := k2.out k (by omega)
      rw [HX.out] at g2
      cases hb1 : geZ x with
      | false =>
        have q1 := run_ge x false hb1
        clear hb1
        go_wp2
        go_ret
        exact ⟨_, rfl, FitsSaid.no _ _ _ _, _, rfl⟩
      | true =>
        have q1 := run_ge x true hb1
        cases hb2 : leM x with
        | false =>
          have q2 := run_le x false hb2
          clear hb1 hb2
          go_wp2
          go_ret
          exact ⟨_, rfl, FitsSaid.no _ _ _ _, _, rfl⟩
        | true =>
          have q2 := run_le x true hb2
          have hA : Hid (Fl.Amt (xs.getD k 0)) := by rw [HX.out]; exact amt_of hb1 hb2
          clear hb1 hb2
          by_cases hk0 : 0 < k
          · obtain ⟨k', rfl⟩ : ∃ k', k = k' + 1 := ⟨k - 1, by omega⟩
            obtain ⟨s1, HS1⟩ := hold_name (ts.getD (k' + 1) 0)
            obtain ⟨s0, HS0⟩ := hold_name (ts.getD k' 0)
            have g1 := k1.out (k' + 1) (by omega)
            have g0 := k1.out k' (by omega)
            rw [HS1.out] at g1
            rw [HS0.out] at g0
            have hd : (0 : Int) < (k' : Int) + 1 := by omega
            go_wp2
            go_quiet (fail)
            go_wp2
            · go_ret
              exact ⟨_, rfl, FitsSaid.no _ _ _ _, q + nq, by simp⟩
            · have hge : ¬ s1 < s0 := by omega
              have hF2 := hF.next hA.out (fun _ => by rw [HS1.out, Nat.add_sub_cancel, HS0.out]; omega)
              go_roundw
              case rel => exact ⟨k' + 1 + 1, q + nq, by omega, by go_num, hF2, by first | rfl | simp⟩
              case measure => simp [intOf]; omega
          · obtain rfl : k = 0 := by omega
            have hF2 := hF.next hA.out (fun h => by omega)
            rw [Nat.add_zero] at g2
            have hd : decide ((0 : Int) < ((0 : Nat) : Int)) = false := by decide
            go_wp2
            go_quiet (fail)
            go_wp2
            go_roundw
            case rel => exact ⟨1, q + nq, by omega, by go_num, hF2, by first | rfl | simp⟩
            case measure => simp [intOf]; omega
    · obtain rfl : k = n := by omega
      go_wp2
      go_ret
      exact ⟨_, rfl, fun _ => ⟨hlim.out, hF⟩, _, rfl⟩

end Go.Proofs.Qxb6000854a
