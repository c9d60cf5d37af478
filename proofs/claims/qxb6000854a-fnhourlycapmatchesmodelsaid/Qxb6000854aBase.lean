/-
  The contracts of zzEqual (14) and zzClone (12).
-/
import Derived.Test.Qxb6000854aRows
import Derived.Test.Qxb6000854aPlain
import Derived.WalkKit
import Derived.ProofKit
import Derived.WalkSpells
import Derived.WalkLawsBesides
import Derived.Deep.QuietTactic
import Derived.BigQuiet
namespace Go.Proofs.Qxb6000854a
open Go.RowKit
set_option linter.unusedVariables false

theorem Try.info5 : (Try.prog.info? 5).map (fun i => (i.zero, i.size, i.bytes)) = some (some (.int .u8 0), 1, 1) := by kernel_rfl

/-- Numbers as byte cells. -/
def cellsN (l : List Nat) : List Value := l.map fun n : Nat => Value.int .u8 (n : Int)

/-- The slice that begins at a holds the bytes l. -/
def Rd (w : World) (a : Option Addr) (l : List Nat) : Prop :=
  l = [] ∨ ∃ b off, a = some ⟨b, off, none⟩ ∧ ∀ i, i < l.length → w.cell? ⟨b, off + i, none⟩ = some (.int .u8 ((l.getD i 0 : Nat) : Int))

theorem below_drewN {B : Nat} {a w : World} (h : Below B a w) (n : Nat) : Below B a (w.drewN n) := h.trans ⟨rfl, rfl, rfl, Nat.le_refl _, fun _ _ => rfl⟩

theorem take_ne_of_getD {l1 l2 : List Nat} {k : Nat} (h1 : k < l1.length) (h2 : k < l2.length) (hne : l1.getD k 0 ≠ l2.getD k 0) : l1 ≠ l2 := by
  rintro rfl; exact hne rfl

theorem take_succ_eq {l1 l2 : List Nat} {k : Nat} (h1 : k < l1.length) (h2 : k < l2.length) (ht : l1.take k = l2.take k) (he : l1.getD k 0 = l2.getD k 0) : l1.take (k + 1) = l2.take (k + 1) := by
  rw [List.take_succ_eq_append_getElem h1, List.take_succ_eq_append_getElem h2, ht]
  simp [List.getD, h1, h2] at he
  rw [he]

theorem hold_name {α : Type} (y : α) : ∃ x, Hid (y = x) := ⟨y, rfl⟩

theorem equal_no {l1 l2 : List Nat} {k x1 x2 : Nat} (H1 : Hid (l1.getD k 0 = x1)) (H2 : Hid (l2.getD k 0 = x2)) (h : ((x1 : Int) != (x2 : Int)) = true) : decide (l1 = l2) = false := by
  rw [decide_eq_false_iff_not]
  rintro rfl
  have e : x1 = x2 := H1.out.symm.trans H2.out
  subst e
  simp at h

theorem equal_go {l1 l2 : List Nat} {k L x1 x2 : Nat} (L1 : Hid (l1.length = L)) (L2 : Hid (l2.length = L)) (hlt : k < L) (HT : Hid (l1.take k = l2.take k)) (H1 : Hid (l1.getD k 0 = x1)) (H2 : Hid (l2.getD k 0 = x2)) (h : ((x1 : Int) != (x2 : Int)) = false) :
    l1.take (k + 1) = l2.take (k + 1) := by
  have L1 := L1.out
  have L2 := L2.out
  have e : x1 = x2 := by simp at h; omega
  exact take_succ_eq (by omega) (by omega) HT.out (by rw [H1.out, H2.out, e])

theorem equal_end {l1 l2 : List Nat} {k L : Nat} (L1 : Hid (l1.length = L)) (L2 : Hid (l2.length = L)) (hlt : ¬ k < L) (HT : Hid (l1.take k = l2.take k)) : decide (l1 = l2) = true := by
  have L1 := L1.out
  have L2 := L2.out
  have h := HT.out
  rw [List.take_of_length_le (by omega), List.take_of_length_le (by omega)] at h
  simp [h]

theorem ret_bool {a b : Bool} (h : a = b) : Ending.returned (.bool a) = .returned (.bool b) := by rw [h]

set_option maxHeartbeats 400000 in
theorem equal_loop (b1 o1 b2 o2 c1 c2 L : Nat) (l1 l2 : List Nat) (w : World)
    (L1 : Hid (l1.length = L)) (L2 : Hid (l2.length = L)) (hn : L ≤ 1073741824)
    (h1 : ∀ i, i < L → w.cell? ⟨b1, o1 + i, none⟩ = some (.int .u8 ((l1.getD i 0 : Nat) : Int)))
    (h2 : ∀ i, i < L → w.cell? ⟨b2, o2 + i, none⟩ = some (.int .u8 ((l2.getD i 0 : Nat) : Int))) :
    Calls Try.prog 14 #[.slice (some ⟨b1, o1, none⟩) L c1, .slice (some ⟨b2, o2, none⟩) L c2] w fun e w' =>
      e = .returned (.bool (decide (l1 = l2))) ∧ ∃ n, w' = w.drewN n := by
  go_enter Try.func14, Try.ntmps14
  go_wp2
  go_loopw [5] (fun i wr => ∃ k n : Nat, k ≤ L ∧ i = .int .i64 k ∧ Hid (l1.take k = l2.take k) ∧ wr = w.drewN n) (fun i _ => L - (intOf i).toNat)
  case atStart => exact ⟨0, 0, Nat.zero_le _, rfl, rfl, rfl⟩
  case round =>
    obtain ⟨k, n, hk, rfl, HT, rfl⟩ := hrel
    by_cases hlt : k < L
    · have g1 := h1 k hlt
      have g2 := h2 k hlt
      clear h1 h2
      obtain ⟨x1, H1⟩ := hold_name (l1.getD k 0)
      obtain ⟨x2, H2⟩ := hold_name (l2.getD k 0)
      rw [H1.out] at g1
      rw [H2.out] at g2
      go_wp2
      go_quiet (fail)
      go_wp2
      · go_ret
        exact ⟨ret_bool (equal_no H1 H2 (by assumption)).symm, n + nq, by simp⟩
      · go_roundw
        case rel => exact ⟨k + 1, _, by omega, by go_num, equal_go L1 L2 hlt HT H1 H2 (by assumption), rfl⟩
        case measure => simp [intOf]; omega
    · go_wp2
      go_ret
      exact ⟨ret_bool (equal_end L1 L2 hlt HT).symm, _, rfl⟩

theorem equal_differ (a1 a2 : Option Addr) (n1 n2 c1 c2 : Nat) (w : World) (h1 : n1 ≤ 1073741824) (h2 : n2 ≤ 1073741824) (hne : ((n1 : Int) != (n2 : Int)) = true) :
    Calls Try.prog 14 #[.slice a1 n1 c1, .slice a2 n2 c2] w fun e w' => e = .returned (.bool false) ∧ w' = w := by
  go_enter Try.func14, Try.ntmps14
  go_wp2
  go_ret
  exact ⟨rfl, rfl⟩

theorem equal_empty (a1 a2 : Option Addr) (c1 c2 : Nat) (w : World) :
    Calls Try.prog 14 #[.slice a1 0 c1, .slice a2 0 c2] w fun e w' => e = .returned (.bool true) ∧ w' = w := by
  go_enter Try.func14, Try.ntmps14
  go_wp2
  refine wp_loop_rounds 1 ?_
  rw [rounds_succ]
  go_wp2
  go_ret
  exact ⟨rfl, rfl⟩

/-- zzEqual, whole. -/
theorem equal_any (a1 a2 : Option Addr) (l1 l2 : List Nat) (c1 c2 n1 n2 : Nat) (w : World) (e1 : n1 = l1.length) (e2 : n2 = l2.length)
    (h1 : n1 ≤ 1073741824) (h2 : n2 ≤ 1073741824) (r1 : Rd w a1 l1) (r2 : Rd w a2 l2) :
    Calls Try.prog 14 #[.slice a1 n1 c1, .slice a2 n2 c2] w fun e w' => e = .returned (.bool (decide (l1 = l2))) ∧ ∃ n, w' = w.drewN n := by
  by_cases hne : n1 = n2
  · by_cases h0 : n1 = 0
    · have e : l1 = l2 := by
        have a : l1 = [] := List.eq_nil_of_length_eq_zero (by omega)
        have b : l2 = [] := List.eq_nil_of_length_eq_zero (by omega)
        rw [a, b]
      obtain rfl : n2 = 0 := by omega
      obtain rfl : n1 = 0 := h0
      refine (equal_empty a1 a2 c1 c2 w).mono ?_
      rintro _ _ ⟨rfl, rfl⟩
      exact ⟨by simp [e], 0, rfl⟩
    · rcases r1 with r1 | ⟨b1, o1, rfl, r1⟩
      · rw [r1] at e1; simp at e1; omega
      rcases r2 with r2 | ⟨b2, o2, rfl, r2⟩
      · rw [r2] at e2; simp at e2; omega
      subst hne
      refine equal_loop b1 o1 b2 o2 c1 c2 n1 l1 l2 w e1.symm e2.symm h1 (fun i hi => r1 i (by omega)) (fun i hi => r2 i (by omega))
  · refine (equal_differ a1 a2 n1 n2 c1 c2 w h1 h2 (by simp; omega)).mono ?_
    rintro _ _ ⟨rfl, rfl⟩
    have e : ¬ l1 = l2 := by rintro rfl; omega
    exact ⟨by simp [e], 0, rfl⟩

end Go.Proofs.Qxb6000854a
