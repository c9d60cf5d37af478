/-
  The walk of FnAppendStringInjective (4).
-/
import Derived.Test.Qxb6000854aApp
namespace Go.Proofs.Qxb6000854a.fnAppendStringInjective
open Go.RowKit
set_option linter.unusedVariables false

theorem bytes_yes (a0 a1 : ByteArray) (w : World) (h0 : a0.size ≤ 1048576) (h1 : a1.size ≤ 1048576) (h2 : a0.size + a1.size ≤ 1048576) :
    Calls Try.prog 16 #[.string a0, .string a1] w fun e w' => e = .returned (.bool true) ∧ w' = w := by
  go_enter Try.func16, Try.ntmps16
  go_wp2
  go_ret
  exact ⟨rfl, rfl⟩

theorem bytes_no (a0 a1 : ByteArray) (w : World) (w0 : a0.size ≤ 9223372036854775807) (w1 : a1.size ≤ 9223372036854775807) (h : 1048576 < a0.size + a1.size) :
    Calls Try.prog 16 #[.string a0, .string a1] w fun e w' => e = .returned (.bool false) ∧ w' = w := by
  by_cases h0 : a0.size ≤ 1048576
  · by_cases h1 : a1.size ≤ 1048576
    · go_enter Try.func16, Try.ntmps16
      go_wp2
      go_ret
      exact ⟨rfl, rfl⟩
    · go_enter Try.func16, Try.ntmps16
      go_wp2
      go_ret
      exact ⟨rfl, rfl⟩
  · go_enter Try.func16, Try.ntmps16
    go_wp2
    go_ret
    exact ⟨rfl, rfl⟩

theorem law_eq (a b : ByteArray) : decide (([] : List Nat) ++ Pl.enc (nb a) = [] ++ Pl.enc (nb b)) = decide (a = b) := by
  rw [List.nil_append, List.nil_append, Bool.eq_iff_iff, decide_eq_true_iff, decide_eq_true_iff, Pl.enc_inj, nb_inj]

theorem str_eq (a b : ByteArray) : (a.toList == b.toList) = decide (a = b) := by
  by_cases h : a = b
  · subst h; simp
  · have : ¬ a.toList = b.toList := by
      intro e
      apply h
      rw [ByteArray.toList_eq, ByteArray.toList_eq] at e
      cases a; cases b
      simp at e
      rw [e]
    simp [h, this]

theorem law_fin {L0 L1 : List Nat} {a b : ByteArray} (H : Hid (decide (L0 = L1) = decide (a = b))) : (decide (L0 = L1) == (a.toList == b.toList)) = true := by
  rw [str_eq, H.out]; simp

set_option maxHeartbeats 400000 in
theorem walk (a0 : ByteArray) (a1 : ByteArray) (w0 : a0.size ≤ maxLen) (w1 : a1.size ≤ maxLen) (w : World) :
    Calls Try.prog 4 #[.string a0, .string a1] w fun e w' => e = .returned (.bool true) ∧ Below w.heap.size w w' := by
  unfold maxLen at w0 w1
  by_cases hs : a0.size + a1.size ≤ 1048576
  · have h0 : a0.size ≤ 1048576 := by omega
    have h1 : a1.size ≤ 1048576 := by omega
    have E0 := Pl.enc_len (nb a0)
    have E1 := Pl.enc_len (nb a1)
    have F0 := (Pl.encL_len (nb a0)).2
    have F1 := (Pl.encL_len (nb a1)).2
    rw [nb_length] at F0 F1
    have G0 : (([] : List Nat) ++ Pl.enc (nb a0)).length ≤ 1073741824 := by rw [List.nil_append]; omega
    have G1 : (([] : List Nat) ++ Pl.enc (nb a1)).length ≤ 1073741824 := by rw [List.nil_append]; omega
    have HE : Hid _ := law_eq a0 a1
    clear E0 E1 F0 F1
    obtain ⟨L0, H0⟩ := hold_name (([] : List Nat) ++ Pl.enc (nb a0))
    obtain ⟨L1, H1⟩ := hold_name (([] : List Nat) ++ Pl.enc (nb a1))
    rw [H0.out] at G0
    rw [H1.out] at G1
    have HE2 : Hid (decide (L0 = L1) = decide (a0 = a1)) := by rw [← H0.out, ← H1.out]; exact HE.out
    clear HE
    go_enter Try.func4, Try.ntmps4
    go_wp2_with (go_at_call 16; refine (bytes_yes a0 a1 _ h0 h1 hs).mono ?_; rintro e wa ⟨rfl, rfl⟩)
    refine (zapp_any none 0 [] a0 _ rfl (fun _ => rfl) (.inl rfl) (by decide) h0).mono ?_
    rintro e w1 ⟨v1, rfl, own1, bel1⟩
    rw [H0.out] at own1
    go_wp2_with fail
    refine (zapp_any none 0 [] a1 _ rfl (fun _ => rfl) (.inl rfl) (by decide) h1).mono ?_
    rintro e w2 ⟨v2, rfl, own2, bel2⟩
    rw [H1.out] at own2
    obtain ⟨x1, c1, rfl, rd1⟩ := own_view own1
    obtain ⟨x2, c2, rfl, rd2⟩ := own_view own2
    have rd1' := rd_below rd1 bel2
    have hbel := bel1.trans (bel2.mono bel1.size)
    clear own1 own2 bel1 bel2 rd1
    go_wp2_with (go_at_call 14; refine (equal_any _ _ L0 L1 _ _ _ _ _ rfl rfl G0 G1 rd1' rd2).mono ?_; rintro e w3 ⟨rfl, nq, rfl⟩)
    go_ret
    exact ⟨ret_bool (law_fin HE2), below_drewN hbel _⟩
  · go_enter Try.func4, Try.ntmps4
    go_wp2_with (go_at_call 16; refine (bytes_no a0 a1 _ w0 w1 (by omega)).mono ?_; rintro e w' ⟨rfl, rfl⟩)
    go_ret
    exact ⟨rfl, Below.refl _ _⟩

end Go.Proofs.Qxb6000854a.fnAppendStringInjective
