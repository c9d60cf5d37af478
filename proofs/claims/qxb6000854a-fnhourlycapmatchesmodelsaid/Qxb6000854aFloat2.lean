/-
  More on floats as whole numbers of units: constants, ranges, min, max, negation.
-/
import Derived.Test.Qxb6000854aFloat
import Derived.KernelRfl
namespace Go.Proofs.Qxb6000854a.Fl
open Ieee

def fadd (x y : Nat) : Nat := (double.add x y).getD 0
def fsub (x y : Nat) : Nat := (double.sub x y).getD 0
def fmin (x y : Nat) : Nat :=
  match double.order x y with
  | some .lt => x
  | some .gt => y
  | _ => if (double.read x).neg then x else y
def fmax (x y : Nat) : Nat :=
  match double.order x y with
  | some .lt => y
  | some .gt => x
  | _ => if (double.read x).neg then y else x
def fneg (x : Nat) : Nat := x ^^^ 2 ^ 63

/-- One million, in units. -/
def M6 : Int := 4294967296000000 * eps

theorem M6_eq : M6 = 4294967296000000 * eps := rfl

theorem fin_zero : Fin 0 := ⟨false, 0, 0, rfl⟩
theorem V_zero : V 0 = 0 := by kernel_rfl

theorem read_million : double.read 4696837146684686336 = .number false 8589934592000000 (-1074 + ((1041 : Nat) : Int)) := by kernel_rfl
theorem fin_million : Fin 4696837146684686336 := ⟨_, _, _, read_million⟩
theorem V_million : V 4696837146684686336 = M6 := by
  rw [V_of read_million, signed_eq]
  unfold M6 eps
  kernel_rfl

theorem read_tol : double.read 4562254508917369340 = .number false 4611686018427388 (-1074 + ((1012 : Nat) : Int)) := by kernel_rfl
theorem fin_tol : Fin 4562254508917369340 := ⟨_, _, _, read_tol⟩
theorem V_tol : 4294967 * eps ≤ V 4562254508917369340 := by
  rw [V_of read_tol, signed_eq]
  unfold eps
  have h : (4294967 * 2 ^ (expA - 54) : Nat) ≤ 4611686018427388 * 2 ^ 1012 := of_decide_eq_true (by kernel_rfl)
  have h2 := Int.ofNat_le.2 h
  simp only [Bool.false_eq_true, if_false, Int.one_mul]
  rw [Int.natCast_mul] at h2
  exact h2

/-- A word stands for a number, an infinity or no number. -/
theorem read_cases (x : Nat) : Fin x ∨ (∃ s, double.read x = .infinity s) ∨ ∃ s f, double.read x = .nan s f := by
  unfold Fin
  unfold Format.read
  simp only [least]
  split
  · exact .inl ⟨_, _, 0, rfl⟩
  split
  · exact .inl ⟨_, _, _, rfl⟩
  split
  · exact .inr (.inl ⟨_, rfl⟩)
  · exact .inr (.inr ⟨_, _, rfl⟩)

/-- What passes '>= 0' and '<= 1e6' is a number between the two. -/
theorem range_fin {x : Nat} (h1 : (double.order x 0 == some .gt || double.order x 0 == some .eq) = true) (h2 : (double.order x 4696837146684686336 == some .lt || double.order x 4696837146684686336 == some .eq) = true) :
    Fin x ∧ 0 ≤ V x ∧ V x ≤ M6 := by
  rcases read_cases x with h | ⟨s, h⟩ | ⟨s, f, h⟩
  · rw [order_eq h fin_zero] at h1
    rw [order_eq h fin_million] at h2
    rw [V_zero] at h1
    rw [V_million] at h2
    refine ⟨h, ?_, ?_⟩
    · rw [Int.compare_eq_ite_lt] at h1
      split at h1
      · simp at h1
      · omega
    · rw [Int.compare_eq_ite_lt] at h2
      split at h2
      · omega
      · split at h2
        · simp at h2
        · omega
  · exfalso
    unfold Format.order at h1 h2
    rw [h] at h1 h2
    rw [read_million] at h2
    have hz : double.read 0 = .number false 0 (-1074 + ((0 : Nat) : Int)) := rfl
    rw [hz] at h1
    cases s
    · simp [Datum.order] at h2
    · simp [Datum.order] at h1
  · exfalso
    unfold Format.order at h1
    rw [h] at h1
    simp [Datum.order] at h1

theorem lt_iff {x y : Nat} (hx : Fin x) (hy : Fin y) : (double.order x y == some .lt) = decide (V x < V y) := by
  rw [order_eq hx hy, Int.compare_eq_ite_lt]
  by_cases h : V x < V y
  · simp [h]
  · rw [if_neg h]; split <;> simp [h]

theorem gt_iff {x y : Nat} (hx : Fin x) (hy : Fin y) : (double.order x y == some .gt) = decide (V y < V x) := by
  rw [order_eq hx hy, Int.compare_eq_ite_lt]
  by_cases h : V x < V y
  · have : ¬ V y < V x := by omega
    simp [h, this]
  · rw [if_neg h]
    by_cases h2 : V y < V x <;> simp [h2]

theorem le_iff {x y : Nat} (hx : Fin x) (hy : Fin y) : (double.order x y == some .lt || double.order x y == some .eq) = decide (V x ≤ V y) := by
  rw [order_eq hx hy, Int.compare_eq_ite_lt]
  by_cases h : V x < V y
  · have : V x ≤ V y := by omega
    simp [h, this]
  · rw [if_neg h]
    by_cases h2 : V y < V x
    · have : ¬ V x ≤ V y := by omega
      simp [h2, this]
    · have : V x ≤ V y := by omega
      simp [h2, this]

theorem add_ok {x y : Nat} (hx : Fin x) (hy : Fin y) (h1 : V x + V y ≤ 18000000000000000 * eps) (h2 : -(18000000000000000 * eps) ≤ V x + V y) :
    double.add x y = some (fadd x y) ∧ Fin (fadd x y) ∧ V x + V y - eps ≤ V (fadd x y) ∧ V (fadd x y) ≤ V x + V y + eps := by
  have he := eps_pos
  have hb := big_eq
  obtain ⟨z, hz, r⟩ := add_off hx hy (by omega) (by omega)
  have e : fadd x y = z := by unfold fadd; rw [hz]; rfl
  rw [e]
  exact ⟨hz, r⟩

theorem sub_ok {x y : Nat} (hx : Fin x) (hy : Fin y) (h1 : V x - V y ≤ 18000000000000000 * eps) (h2 : -(18000000000000000 * eps) ≤ V x - V y) :
    double.sub x y = some (fsub x y) ∧ Fin (fsub x y) ∧ V x - V y - eps ≤ V (fsub x y) ∧ V (fsub x y) ≤ V x - V y + eps := by
  have he := eps_pos
  have hb := big_eq
  obtain ⟨z, hz, r⟩ := sub_off hx hy (by omega) (by omega)
  have e : fsub x y = z := by unfold fsub; rw [hz]; rfl
  rw [e]
  exact ⟨hz, r⟩

theorem fmin_ok {x y : Nat} (hx : Fin x) (hy : Fin y) : Fin (fmin x y) ∧ V (fmin x y) = min (V x) (V y) := by
  unfold fmin
  rw [order_eq hx hy, Int.compare_eq_ite_lt]
  by_cases h : V x < V y
  · rw [if_pos h]; show Fin x ∧ V x = _; exact ⟨hx, by omega⟩
  · rw [if_neg h]
    by_cases h2 : V y < V x
    · rw [if_pos h2]; show Fin y ∧ V y = _; exact ⟨hy, by omega⟩
    · rw [if_neg h2]
      show Fin (if (double.read x).neg then x else y) ∧ V (if (double.read x).neg then x else y) = _
      split
      · exact ⟨hx, by omega⟩
      · exact ⟨hy, by omega⟩

theorem fmax_ok {x y : Nat} (hx : Fin x) (hy : Fin y) : Fin (fmax x y) ∧ V (fmax x y) = max (V x) (V y) := by
  unfold fmax
  rw [order_eq hx hy, Int.compare_eq_ite_lt]
  by_cases h : V x < V y
  · rw [if_pos h]; show Fin y ∧ V y = _; exact ⟨hy, by omega⟩
  · rw [if_neg h]
    by_cases h2 : V y < V x
    · rw [if_pos h2]; show Fin x ∧ V x = _; exact ⟨hx, by omega⟩
    · rw [if_neg h2]
      show Fin (if (double.read x).neg then y else x) ∧ V (if (double.read x).neg then y else x) = _
      split
      · exact ⟨hy, by omega⟩
      · exact ⟨hx, by omega⟩

theorem xor_top (x : Nat) : (x ^^^ 2 ^ 63) % 2 ^ 63 = x % 2 ^ 63 ∧ (x ^^^ 2 ^ 63) / 2 ^ 63 % 2 = 1 - x / 2 ^ 63 % 2 := by
  constructor
  · apply Nat.eq_of_testBit_eq
    intro i
    rw [Nat.testBit_mod_two_pow, Nat.testBit_mod_two_pow, Nat.testBit_xor, Nat.testBit_two_pow]
    by_cases h : i < 63
    · have : ¬ 63 = i := by omega
      simp [h, this]
    · simp [h]
  · have h1 : (x ^^^ 2 ^ 63).testBit 63 = !(x.testBit 63) := by
      rw [Nat.testBit_xor, Nat.testBit_two_pow]; simp
    rw [Nat.testBit_eq_decide_div_mod_eq, Nat.testBit_eq_decide_div_mod_eq] at h1
    have h2 := Nat.mod_two_eq_zero_or_one ((x ^^^ 2 ^ 63) / 2 ^ 63)
    have h3 := Nat.mod_two_eq_zero_or_one (x / 2 ^ 63)
    rcases h2 with h2 | h2 <;> rcases h3 with h3 | h3 <;> simp [h2, h3] at h1 ⊢

theorem fneg_ok {x : Nat} (hx : Fin x) : Fin (fneg x) ∧ V (fneg x) = -V x := by
  obtain ⟨s, m, k, h⟩ := hx
  have hsw : double.signWeight = 2 ^ 63 := by decide
  obtain ⟨e1, e2⟩ := xor_top x
  have hr : double.read (fneg x) = .number (!s) m (-1074 + (k : Int)) := by
    unfold Format.read at h ⊢
    simp only [hsw] at h ⊢
    unfold fneg
    have hneg : ((x ^^^ 2 ^ 63) / 2 ^ 63 % 2 == 1) = !(x / 2 ^ 63 % 2 == 1) := by
      have h3 := Nat.mod_two_eq_zero_or_one (x / 2 ^ 63)
      rw [e2]
      rcases h3 with h3 | h3 <;> simp [h3]
    simp only [e1, hneg]
    generalize x % 2 ^ 63 = r at *
    generalize (x / 2 ^ 63 % 2 == 1) = g at *
    split at h
    · rename_i hlt
      simp only [Datum.number.injEq] at h
      rw [if_pos hlt, h.1, h.2.1, h.2.2]
    · rename_i hge
      split at h
      · rename_i hlt
        simp only [Datum.number.injEq] at h
        rw [if_neg hge, if_pos hlt, h.1, h.2.1, h.2.2]
      · split at h <;> cases h
  refine ⟨⟨_, _, _, hr⟩, ?_⟩
  rw [V_of hr, V_of h, signed_not]

end Go.Proofs.Qxb6000854a.Fl
