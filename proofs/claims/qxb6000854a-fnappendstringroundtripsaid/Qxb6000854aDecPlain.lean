/-
  Plain facts for reading the encoding back: where the k-th byte's unit begins, and what stands there.
-/
import Derived.Test.Qxb6000854aPlain
namespace Go.Proofs.Qxb6000854a.Pl

/-- Where the k-th byte's unit begins in the encoding. -/
def pos (l : List Nat) (k : Nat) : Nat := 1 + (encL (l.take k)).length

theorem pos_zero (l : List Nat) : pos l 0 = 1 := rfl

theorem pos_succ (l : List Nat) (k c : Nat) (h : k < l.length) (hc : l.getD k 0 = c) : pos l (k + 1) = pos l k + (encB c).length := by
  unfold pos
  rw [List.take_succ_eq_append_getElem h, encL_append]
  simp [List.getD, h] at hc
  simp [encL, hc]
  omega

theorem enc_split (l : List Nat) (k c : Nat) (h : k < l.length) (hc : l.getD k 0 = c) : enc l = (34 :: encL (l.take k)) ++ (encB c ++ (encL (l.drop (k + 1)) ++ [34])) := by
  have e : l = l.take k ++ c :: l.drop (k + 1) := by
    simp [List.getD, h] at hc
    rw [← hc, ← List.drop_eq_getElem_cons h, List.take_append_drop]
  have e2 : encL l = encL (l.take k) ++ (encB c ++ encL (l.drop (k + 1))) := by
    conv => lhs; rw [e]
    rw [encL_append]; rfl
  rw [enc, e2]
  simp

theorem enc_at (l : List Nat) (k c i : Nat) (h : k < l.length) (hc : l.getD k 0 = c) (hi : i < (encB c).length) : (enc l).getD (pos l k + i) 0 = (encB c).getD i 0 := by
  rw [enc_split l k c h hc]
  have e : pos l k + i = (34 :: encL (l.take k)).length + i := by simp [pos]; omega
  simp only [List.getD]
  rw [e, List.getElem?_append_right (by omega), Nat.add_sub_cancel_left, List.getElem?_append_left hi]

theorem pos_room (l : List Nat) (k c : Nat) (h : k < l.length) (hc : l.getD k 0 = c) : pos l k + (encB c).length + 1 ≤ (enc l).length := by
  rw [enc_split l k c h hc]
  simp [pos]
  omega

theorem pos_end (l : List Nat) : pos l l.length + 1 = (enc l).length := by
  rw [enc_len]
  simp [pos]
  omega

theorem enc_close (l : List Nat) : (enc l).getD (pos l l.length) 0 = 34 := by
  have e : pos l l.length = (34 :: encL l).length := by simp [pos]; omega
  rw [e]
  unfold enc
  rw [show 34 :: (encL l ++ [34]) = (34 :: encL l) ++ [34] from rfl]
  simp [List.getD]

end Go.Proofs.Qxb6000854a.Pl
