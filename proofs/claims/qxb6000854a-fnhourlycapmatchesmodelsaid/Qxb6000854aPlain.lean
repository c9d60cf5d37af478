/-
  Plain functions on byte lists: what appendString writes, with no Go in sight.
-/
namespace Go.Proofs.Qxb6000854a.Pl

/-- The hex digit of a number below 16. -/
def hexD (n : Nat) : Nat := if n < 10 then 48 + n else 87 + n

/-- What appendString writes for one byte (a number below 256). -/
def encB (c : Nat) : List Nat :=
  if c = 34 ∨ c = 92 then [92, c]
  else if c = 8 then [92, 98]
  else if c = 9 then [92, 116]
  else if c = 10 then [92, 110]
  else if c = 12 then [92, 102]
  else if c = 13 then [92, 114]
  else if c < 32 then [92, 117, 48, 48, hexD (c / 16), hexD (c % 16)]
  else [c]

/-- The body between the quotes. -/
def encL : List Nat → List Nat
  | [] => []
  | c :: l => encB c ++ encL l

/-- The whole. -/
def enc (l : List Nat) : List Nat := 34 :: (encL l ++ [34])

theorem encL_append (a b : List Nat) : encL (a ++ b) = encL a ++ encL b := by
  induction a with
  | nil => rfl
  | cons c l ih => simp [encL, ih]

theorem encB_len (c : Nat) : 1 ≤ (encB c).length ∧ (encB c).length ≤ 6 := by
  unfold encB
  repeat' split
  all_goals simp

theorem encL_len (l : List Nat) : l.length ≤ (encL l).length ∧ (encL l).length ≤ 6 * l.length := by
  induction l with
  | nil => simp [encL]
  | cons c l ih =>
    have := encB_len c
    simp [encL]
    omega

theorem enc_len (l : List Nat) : (enc l).length = (encL l).length + 2 := by simp [enc]

theorem hexD_lt (n : Nat) (h : n < 16) : 48 ≤ hexD n ∧ hexD n ≤ 102 := by unfold hexD; split <;> omega

theorem encB_lt (c : Nat) (h : c < 256) : ∀ x ∈ encB c, x < 256 := by
  have h1 := hexD_lt (c / 16) (by omega)
  have h2 := hexD_lt (c % 16) (by omega)
  intro x hx
  unfold encB at hx
  repeat' split at hx
  all_goals (simp at hx; omega)

theorem encL_lt (l : List Nat) (h : ∀ x ∈ l, x < 256) : ∀ x ∈ encL l, x < 256 := by
  induction l with
  | nil => simp [encL]
  | cons c l ih =>
    intro x hx
    simp [encL] at hx
    rcases hx with hx | hx
    · exact encB_lt c (h c (by simp)) x hx
    · exact ih (fun y hy => h y (by simp [hy])) x hx

/-- Reading one unit back: the byte and what is left. -/
def decB : List Nat → Option (Nat × List Nat)
  | 92 :: 117 :: _ :: _ :: h :: l :: r => some ((if h < 58 then h - 48 else h - 87) * 16 + (if l < 58 then l - 48 else l - 87), r)
  | 92 :: 98 :: r => some (8, r)
  | 92 :: 116 :: r => some (9, r)
  | 92 :: 110 :: r => some (10, r)
  | 92 :: 102 :: r => some (12, r)
  | 92 :: 114 :: r => some (13, r)
  | 92 :: c :: r => some (c, r)
  | c :: r => some (c, r)
  | [] => none

theorem hexD_back (n : Nat) (h : n < 16) : (if hexD n < 58 then hexD n - 48 else hexD n - 87) = n := by
  unfold hexD; repeat' split
  all_goals omega

theorem decB_encB (c : Nat) (r : List Nat) : decB (encB c ++ r) = some (c, r) := by
  unfold encB
  split
  · rename_i h
    rcases h with rfl | rfl <;> rfl
  split
  · subst_vars; rfl
  split
  · subst_vars; rfl
  split
  · subst_vars; rfl
  split
  · subst_vars; rfl
  split
  · subst_vars; rfl
  split
  · rename_i h
    show some (_, r) = _
    have h1 := hexD_back (c / 16) (by omega)
    have h2 := hexD_back (c % 16) (by omega)
    rw [h1, h2]
    congr 2
    omega
  · rename_i h1 h2 h3 h4 h5 h6 h7
    have hne : c ≠ 92 := by omega
    show decB (c :: r) = _
    unfold decB
    split <;> simp_all

theorem encB_ne_quote (c : Nat) (r : List Nat) : (encB c ++ r).head? ≠ some 34 := by
  unfold encB
  repeat' split
  all_goals simp
  omega

theorem encL_inj (a b : List Nat) (h : encL a ++ [34] = encL b ++ [34]) : a = b := by
  induction a generalizing b with
  | nil =>
    cases b with
    | nil => rfl
    | cons d b =>
      exfalso
      simp only [encL, List.nil_append, List.append_assoc] at h
      have := encB_ne_quote d (encL b ++ [34])
      rw [← h] at this
      simp at this
  | cons c a ih =>
    cases b with
    | nil =>
      exfalso
      simp only [encL, List.nil_append, List.append_assoc] at h
      have := encB_ne_quote c (encL a ++ [34])
      rw [h] at this
      simp at this
    | cons d b =>
      simp only [encL, List.append_assoc] at h
      have h2 := congrArg decB h
      rw [decB_encB, decB_encB] at h2
      simp only [Option.some.injEq, Prod.mk.injEq] at h2
      rw [h2.1, ih b h2.2]

theorem enc_inj (a b : List Nat) : enc a = enc b ↔ a = b := by
  constructor
  · intro h
    unfold enc at h
    exact encL_inj a b (List.cons.inj h).2
  · rintro rfl; rfl

end Go.Proofs.Qxb6000854a.Pl
