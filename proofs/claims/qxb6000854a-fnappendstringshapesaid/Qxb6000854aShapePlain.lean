/-
  Plain facts for the law on the shape of the encoding.
-/
import Derived.Test.Qxb6000854aPlain
namespace Go.Proofs.Qxb6000854a.Pl

/-- The bytes at or above 128. -/
def hi (l : List Nat) : List Nat := l.filter fun c => decide (128 ≤ c)

theorem hi_append (a b : List Nat) : hi (a ++ b) = hi a ++ hi b := by simp [hi]

theorem hi_low (l : List Nat) (h : ∀ x ∈ l, x < 128) : hi l = [] := by
  simp only [hi, List.filter_eq_nil_iff, decide_eq_true_eq]
  intro x hx
  have := h x hx
  omega

theorem hexD_lt128 (n : Nat) (h : n < 16) : hexD n < 128 := by unfold hexD; split <;> omega

theorem encB_hi (c : Nat) : hi (encB c) = hi [c] := by
  have h1 := hexD_lt128 (c % 16) (by omega)
  unfold encB
  split
  · rename_i h; rcases h with rfl | rfl <;> rfl
  iterate 5 (split; (· subst_vars; rfl))
  split
  · have h2 := hexD_lt128 (c / 16) (by omega)
    rw [hi_low, hi_low]
    · intro x hx; simp at hx; omega
    · intro x hx; simp at hx; omega
  · rfl

theorem encL_hi (l : List Nat) : hi (encL l) = hi l := by
  induction l with
  | nil => rfl
  | cons c l ih => rw [encL, hi_append, encB_hi, ih, ← hi_append]; rfl

theorem enc_hi (l : List Nat) : hi (enc l) = hi l := by
  rw [enc, show 34 :: (encL l ++ [34]) = [34] ++ (encL l ++ [34]) from rfl, hi_append, hi_append, encL_hi]
  simp [hi]

theorem encB_ge (c : Nat) : ∀ x ∈ encB c, 32 ≤ x := by
  have h1 := hexD_lt (c % 16) (by omega)
  intro x hx
  unfold encB at hx
  repeat' split at hx
  all_goals first | (simp at hx; omega) | (have h2 := hexD_lt (c / 16) (by omega); simp at hx; omega)

theorem encL_ge (l : List Nat) : ∀ x ∈ encL l, 32 ≤ x := by
  induction l with
  | nil => simp [encL]
  | cons c l ih =>
    intro x hx
    simp [encL] at hx
    rcases hx with hx | hx
    · exact encB_ge c x hx
    · exact ih x hx

theorem enc_ge (l : List Nat) : ∀ x ∈ enc l, 32 ≤ x := by
  intro x hx
  simp [enc] at hx
  rcases hx with rfl | hx | rfl
  · omega
  · exact encL_ge l x hx
  · omega

theorem enc_at_ge (l : List Nat) (k : Nat) (h : k < (enc l).length) : 32 ≤ (enc l).getD k 0 := by
  have : (enc l).getD k 0 ∈ enc l := by simp [List.getD, h]
  exact enc_ge l _ this

theorem enc_first (l : List Nat) : (enc l).getD 0 0 = 34 := rfl
theorem enc_last (l : List Nat) : (enc l).getD ((enc l).length - 1) 0 = 34 := by
  rw [enc_len]
  have e : (encL l).length + 2 - 1 = (34 :: encL l).length := by simp
  rw [e]
  unfold enc
  rw [show 34 :: (encL l ++ [34]) = (34 :: encL l) ++ [34] from rfl]
  simp [List.getD]

theorem drop_getD {l : List Nat} {k : Nat} (h : k < l.length) : l.drop k = l.getD k 0 :: l.drop (k + 1) := by
  rw [List.drop_eq_getElem_cons h]
  simp [List.getD, h]

theorem hi_drop_low {l : List Nat} {k : Nat} (h : k < l.length) (hc : l.getD k 0 < 128) : hi (l.drop k) = hi (l.drop (k + 1)) := by
  rw [drop_getD h]
  unfold hi
  rw [List.filter_cons_of_neg (by rw [decide_eq_true_eq]; omega)]

theorem hi_drop_high {l : List Nat} {k : Nat} (h : k < l.length) (hc : 128 ≤ l.getD k 0) : hi (l.drop k) = l.getD k 0 :: hi (l.drop (k + 1)) := by
  rw [drop_getD h]
  unfold hi
  rw [List.filter_cons_of_pos (by rw [decide_eq_true_eq]; exact hc)]

theorem hi_drop_end {l : List Nat} {k : Nat} (h : l.length ≤ k) : hi (l.drop k) = [] := by
  rw [List.drop_of_length_le h]; rfl

end Go.Proofs.Qxb6000854a.Pl
