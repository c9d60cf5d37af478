/-
  The hourly cap, plainly: the running sum against the recount. Amounts are words of floats; times are whole numbers.
-/
import Derived.Test.Qxb6000854aFloat2
namespace Go.Proofs.Qxb6000854a.Fl
open Ieee

/-- The seconds between two times, as Go reckons them on uint64. -/
def el (s t : Int) : Int := IntKind.u64.wrap (IntKind.u64.wrap t - IntKind.u64.wrap s)

theorem el_eq (s t : Int) (h1 : -9223372036854775808 ≤ s) (h2 : s ≤ t) (h3 : t ≤ 9223372036854775807) : el s t = t - s := by
  unfold el
  simp [IntKind.wrap, IntKind.bits, IntKind.signed]
  omega

/-- The exact sum of the amounts. -/
def S : List (Int × Nat) → Int
  | [] => 0
  | p :: r => V p.2 + S r

theorem S_append (a b : List (Int × Nat)) : S (a ++ b) = S a + S b := by
  induction a with
  | nil => simp [S]
  | cons p r ih => simp only [List.cons_append, S, ih]; omega

/-- Every amount is a number from nought to a million. -/
def Good (l : List (Int × Nat)) : Prop := ∀ p ∈ l, Fin p.2 ∧ 0 ≤ V p.2 ∧ V p.2 ≤ M6

theorem Good.tail {p : Int × Nat} {r : List (Int × Nat)} (h : Good (p :: r)) : Good r := fun q hq => h q (by simp [hq])
theorem Good.head {p : Int × Nat} {r : List (Int × Nat)} (h : Good (p :: r)) : Fin p.2 ∧ 0 ≤ V p.2 ∧ V p.2 ≤ M6 := h p (by simp)

theorem S_nonneg {l : List (Int × Nat)} (h : Good l) : 0 ≤ S l := by
  induction l with
  | nil => simp [S]
  | cons p r ih =>
    have := ih h.tail
    have := h.head
    simp only [S]; omega

/-- The recount over the history: what zzWindow does. -/
def winF (t : Int) : List (Int × Nat) → Nat → Nat
  | [], acc => acc
  | p :: r, acc => winF t r (if el p.1 t < 3600 then fadd acc p.2 else acc)

/-- The exact sum of what is counted. -/
def Sw (t : Int) : List (Int × Nat) → Int
  | [] => 0
  | p :: r => (if el p.1 t < 3600 then V p.2 else 0) + Sw t r

theorem Sw_nonneg {t : Int} {l : List (Int × Nat)} (h : Good l) : 0 ≤ Sw t l := by
  induction l with
  | nil => simp [Sw]
  | cons p r ih =>
    have := ih h.tail
    have := h.head
    simp only [Sw]; split <;> omega

/-- What is so far gathered is near the exact sum A, and there is room for the rest. -/
def WI (t : Int) (rest : List (Int × Nat)) (acc : Nat) (A δ : Int) : Prop :=
  Fin acc ∧ Good rest ∧ 0 ≤ A ∧ 0 ≤ δ ∧ V acc - A ≤ δ ∧ A - V acc ≤ δ ∧ A + Sw t rest ≤ 8000000000000000 * eps ∧ δ + (rest.length : Int) * eps ≤ 5000 * eps

theorem len_cons_eps (p : Int × Nat) (r : List (Int × Nat)) : (((p :: r).length : Nat) : Int) * eps = (r.length : Int) * eps + eps := by
  simp only [List.length_cons, Int.natCast_add, Int.add_mul]
  omega

theorem len_eps_nonneg (r : List (Int × Nat)) : 0 ≤ (r.length : Int) * eps := Int.mul_nonneg (by omega) (Int.le_of_lt eps_pos)

theorem WI.step {t : Int} {p : Int × Nat} {r : List (Int × Nat)} {acc : Nat} {A δ : Int} (h : WI t (p :: r) acc A δ) (hc : el p.1 t < 3600) :
    double.add acc p.2 = some (fadd acc p.2) ∧ WI t r (fadd acc p.2) (A + V p.2) (δ + eps) := by
  obtain ⟨h1, h2, h3, h4, h5, h6, h7, h8⟩ := h
  have he := eps_pos
  have hp := h2.head
  have hn := Sw_nonneg (t := t) h2.tail
  have hl := len_eps_nonneg r
  rw [len_cons_eps] at h8
  simp only [Sw, if_pos hc] at h7
  obtain ⟨a1, a2, a3, a4⟩ := add_ok h1 hp.1 (by omega) (by omega)
  exact ⟨a1, a2, h2.tail, by omega, by omega, by omega, by omega, by omega, by omega⟩

theorem WI.skip {t : Int} {p : Int × Nat} {r : List (Int × Nat)} {acc : Nat} {A δ : Int} (h : WI t (p :: r) acc A δ) (hc : ¬ el p.1 t < 3600) : WI t r acc A δ := by
  obtain ⟨h1, h2, h3, h4, h5, h6, h7, h8⟩ := h
  have he := eps_pos
  rw [len_cons_eps] at h8
  simp only [Sw, if_neg hc] at h7
  exact ⟨h1, h2.tail, h3, h4, h5, h6, by omega, by omega⟩

theorem WI.done {t : Int} {l : List (Int × Nat)} {acc : Nat} {A δ : Int} (h : WI t l acc A δ) :
    Fin (winF t l acc) ∧ V (winF t l acc) - (A + Sw t l) ≤ δ + (l.length : Int) * eps ∧ (A + Sw t l) - V (winF t l acc) ≤ δ + (l.length : Int) * eps := by
  have he := eps_pos
  induction l generalizing acc A δ with
  | nil =>
    obtain ⟨h1, h2, h3, h4, h5, h6, h7, h8⟩ := h
    simp only [winF, Sw, List.length_nil]
    refine ⟨h1, by omega, by omega⟩
  | cons p r ih =>
    have hl := len_eps_nonneg r
    rw [len_cons_eps]
    by_cases hc : el p.1 t < 3600
    · obtain ⟨_, hs⟩ := h.step hc
      obtain ⟨i1, i2, i3⟩ := ih hs
      simp only [winF, Sw, if_pos hc]
      generalize ((r.length : Nat) : Int) * eps = z at *
      exact ⟨i1, by omega, by omega⟩
    · obtain ⟨i1, i2, i3⟩ := ih (h.skip hc)
      simp only [winF, Sw, if_neg hc]
      generalize ((r.length : Nat) : Int) * eps = z at *
      exact ⟨i1, by omega, by omega⟩

theorem Sw_append (t : Int) (a b : List (Int × Nat)) : Sw t (a ++ b) = Sw t a + Sw t b := by
  induction a with
  | nil => simp [Sw]
  | cons p r ih => simp only [List.cons_append, Sw, ih]; omega

theorem Sw_none {t : Int} {l : List (Int × Nat)} (h : ∀ p ∈ l, ¬ el p.1 t < 3600) : Sw t l = 0 := by
  induction l with
  | nil => rfl
  | cons p r ih => simp only [Sw, if_neg (h p (by simp)), ih (fun q hq => h q (by simp [hq]))]; rfl

theorem Sw_all {t : Int} {l : List (Int × Nat)} (h : ∀ p ∈ l, el p.1 t < 3600) : Sw t l = S l := by
  induction l with
  | nil => rfl
  | cons p r ih => simp only [Sw, S, if_pos (h p (by simp)), ih (fun q hq => h q (by simp [hq]))]

/-- What take's loop leaves of the recent amounts and of the running sum. -/
def popL (t : Int) : List (Int × Nat) → Nat → List (Int × Nat) × Nat
  | [], sum => ([], sum)
  | p :: r, sum => if 3600 ≤ el p.1 t then popL t r (fsub sum p.2) else (p :: r, sum)

/-- The running sum is within δ of the exact one; β: the budget of roundings. -/
structure CInv (lim : Nat) (rec : List (Int × Nat)) (sum : Nat) (δ β : Int) : Prop where
  fin : Fin sum
  good : Good rec
  pos : 0 ≤ δ
  hi : V sum - S rec ≤ δ
  lo : S rec - V sum ≤ δ
  top : V sum ≤ V lim + δ + 2 * eps
  room : δ + (rec.length : Int) * eps ≤ β
  cap : β ≤ 8200 * eps

/-- The limit, an amount: a number from nought to a million. -/
def Amt (x : Nat) : Prop := Fin x ∧ 0 ≤ V x ∧ V x ≤ M6

theorem CInv.bounds {lim : Nat} {rec : List (Int × Nat)} {sum : Nat} {δ β : Int} (h : CInv lim rec sum δ β) (hl : Amt lim) :
    0 ≤ δ ∧ δ ≤ 8200 * eps ∧ -(8200 * eps) ≤ V sum ∧ V sum ≤ M6 + 8202 * eps ∧ 0 ≤ S rec ∧ S rec ≤ M6 + 16402 * eps := by
  have h1 := h.pos
  have h2 := h.room
  have h3 := h.cap
  have h4 := h.hi
  have h5 := h.lo
  have h6 := h.top
  have h7 := len_eps_nonneg rec
  have h8 := S_nonneg h.good
  have h9 := hl.2.2
  have h10 := eps_pos
  generalize ((rec.length : Nat) : Int) * eps = z at *
  omega

theorem CInv.pop {lim : Nat} {p : Int × Nat} {r : List (Int × Nat)} {sum : Nat} {δ β : Int} (h : CInv lim (p :: r) sum δ β) (hl : Amt lim) :
    double.sub sum p.2 = some (fsub sum p.2) ∧ CInv lim r (fsub sum p.2) (δ + eps) β := by
  have hb := h.bounds hl
  have hp := h.good.head
  have he := eps_pos
  have hM := M6_eq
  have h2 := h.room
  rw [len_cons_eps] at h2
  have h4 := h.hi
  have h5 := h.lo
  have h6 := h.top
  simp only [S] at h4 h5
  obtain ⟨a1, a2, a3, a4⟩ := sub_ok h.fin hp.1 (by omega) (by omega)
  have hc := h.cap
  refine ⟨a1, a2, h.good.tail, by omega, by omega, by omega, by omega, ?_, hc⟩
  generalize ((r.length : Nat) : Int) * eps = z at *
  omega

theorem CInv.reset {lim : Nat} {sum : Nat} {δ β : Int} (h : CInv lim [] sum δ β) (hl : Amt lim) : CInv lim [] 0 δ β := by
  have hb := h.bounds hl
  have he := eps_pos
  have h0 := hl.2.1
  refine ⟨fin_zero, h.good, h.pos, ?_, ?_, ?_, h.room, h.cap⟩
  · rw [V_zero]; simp only [S]; omega
  · rw [V_zero]; simp only [S]; omega
  · rw [V_zero]; omega

/-- What is let through. -/
def gotF (lim sum a : Nat) : Nat := fmax 0 (fmin a (fsub lim sum))

theorem CInv.ask {lim : Nat} {rec : List (Int × Nat)} {sum a : Nat} {δ β : Int} (h : CInv lim rec sum δ β) (hl : Amt lim) (ha : Amt a) :
    double.sub lim sum = some (fsub lim sum) ∧ Fin (fsub lim sum) ∧ V lim - V sum - eps ≤ V (fsub lim sum) ∧ V (fsub lim sum) ≤ V lim - V sum + eps ∧
    Fin (gotF lim sum a) ∧ V (gotF lim sum a) = max 0 (min (V a) (V (fsub lim sum))) := by
  have hb := h.bounds hl
  have he := eps_pos
  have hM := M6_eq
  have h0 := hl.2
  obtain ⟨a1, a2, a3, a4⟩ := sub_ok hl.1 h.fin (by omega) (by omega)
  obtain ⟨b1, b2⟩ := fmin_ok ha.1 a2
  obtain ⟨c1, c2⟩ := fmax_ok fin_zero b1
  refine ⟨a1, a2, a3, a4, c1, ?_⟩
  unfold gotF
  rw [c2, V_zero, b2]

theorem CInv.grant {lim : Nat} {rec : List (Int × Nat)} {sum a : Nat} {δ β : Int} (t : Int) (h : CInv lim rec sum δ β) (hl : Amt lim) (ha : Amt a) (hβ : β + 2 * eps ≤ 8200 * eps) (hg : 0 < V (gotF lim sum a)) :
    double.add sum (gotF lim sum a) = some (fadd sum (gotF lim sum a)) ∧ CInv lim (rec ++ [(t, gotF lim sum a)]) (fadd sum (gotF lim sum a)) (δ + eps) (β + 2 * eps) := by
  have hb := h.bounds hl
  have he := eps_pos
  have hM := M6_eq
  obtain ⟨s1, s2, s3, s4, g1, g2⟩ := h.ask hl ha
  have hav := ha.2
  have hgl : V (gotF lim sum a) ≤ V (fsub lim sum) ∧ V (gotF lim sum a) ≤ V a := by omega
  obtain ⟨a1, a2, a3, a4⟩ := add_ok h.fin g1 (by omega) (by omega)
  have hS : S (rec ++ [(t, gotF lim sum a)]) = S rec + V (gotF lim sum a) := by rw [S_append]; simp [S]
  have h4 := h.hi
  have h5 := h.lo
  have h2 := h.room
  have hp := h.pos
  refine ⟨a1, a2, ?_, by omega, by rw [hS]; omega, by rw [hS]; omega, by omega, ?_, hβ⟩
  · intro q hq
    simp only [List.mem_append, List.mem_singleton] at hq
    rcases hq with hq | rfl
    · exact h.good q hq
    · exact ⟨g1, by simp only; omega, by simp only; omega⟩
  · simp only [List.length_append, List.length_cons, List.length_nil, Int.natCast_add, Int.add_mul]
    generalize ((rec.length : Nat) : Int) * eps = z at *
    simp only [Int.natCast_zero, Int.natCast_one, Int.one_mul]
    omega

end Go.Proofs.Qxb6000854a.Fl
