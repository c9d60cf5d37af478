/-
  One ask of the hourly cap, plainly: the answer is within the tolerance of the recount; the history's invariant is handed on.
-/
import Derived.Test.Qxb6000854aCapPlain
namespace Go.Proofs.Qxb6000854a.Fl
open Ieee

/-- The recent amounts behind the loop. -/
def popR (t : Int) (rec : List (Int × Nat)) (sum : Nat) : List (Int × Nat) := (popL t rec sum).1
/-- The running sum behind the loop and the reset. -/
def popS (t : Int) (rec : List (Int × Nat)) (sum : Nat) : Nat := if (popL t rec sum).1 = [] then 0 else (popL t rec sum).2

theorem popL_facts {lim : Nat} (hl : Amt lim) (t : Int) (rec : List (Int × Nat)) (sum : Nat) {δ β : Int} (h : CInv lim rec sum δ β) :
    ∃ out δ', rec = out ++ (popL t rec sum).1 ∧ (∀ p ∈ out, 3600 ≤ el p.1 t) ∧ CInv lim (popL t rec sum).1 (popL t rec sum).2 δ' β ∧ (∀ p r, (popL t rec sum).1 = p :: r → ¬ 3600 ≤ el p.1 t) := by
  induction rec generalizing sum δ with
  | nil => exact ⟨[], δ, rfl, by simp, h, by simp [popL]⟩
  | cons p r ih =>
    by_cases hc : 3600 ≤ el p.1 t
    · obtain ⟨_, hs⟩ := h.pop hl
      obtain ⟨out, δ', i1, i2, i3, i4⟩ := ih _ hs
      have e : popL t (p :: r) sum = popL t r (fsub sum p.2) := by simp [popL, hc]
      rw [e]
      refine ⟨p :: out, δ', by rw [List.cons_append, ← i1], ?_, i3, i4⟩
      intro q hq
      rcases List.mem_cons.1 hq with rfl | hq
      · exact hc
      · exact i2 q hq
    · have e : popL t (p :: r) sum = (p :: r, sum) := by simp [popL, hc]
      rw [e]
      refine ⟨[], δ, rfl, by simp, h, ?_⟩
      intro q r' hq
      simp at hq
      rw [← hq.1]; exact hc

/-- What is known of the history g when the asks up to time τ have been answered. -/
structure Hist (lim : Nat) (g rec : List (Int × Nat)) (sum : Nat) (δ τ : Int) : Prop where
  split : ∃ old, g = old ++ rec ∧ ∀ p ∈ old, p.1 + 3600 ≤ τ
  cinv : CInv lim rec sum δ (2 * ((g.length : Int) * eps))
  le : ∀ p ∈ g, -9223372036854775808 ≤ p.1 ∧ p.1 ≤ τ
  sorted : rec.Pairwise (fun p q => p.1 ≤ q.1)
  good : Good g

theorem hist_start (lim : Nat) (hl : Amt lim) (τ : Int) : Hist lim [] [] 0 0 τ := by
  have he := eps_pos
  have h0 := hl.2.1
  refine ⟨⟨[], rfl, by simp⟩, ⟨fin_zero, fun p hp => by simp at hp, by omega, ?_, ?_, ?_, ?_, ?_⟩, by simp, by simp, fun p hp => by simp at hp⟩
  · rw [V_zero]; simp [S]
  · rw [V_zero]; simp [S]
  · rw [V_zero]; omega
  · simp
  · simp; omega

/-- All that one ask at time t needs. -/
structure Round (lim a : Nat) (t : Int) (g rec : List (Int × Nat)) (sum : Nat) : Prop where
  wi : ∃ A δ, WI t g 0 A δ
  winFin : Fin (winF t g 0)
  subW : double.sub lim (winF t g 0) = some (fsub lim (winF t g 0))
  xFin : Fin (fsub lim (winF t g 0))
  gotFin : Fin (gotF lim (popS t rec sum) a)
  gotLo : 0 ≤ V (gotF lim (popS t rec sum) a)
  want : ∀ u, Fin u → V u = max 0 (min (V a) (V (fsub lim (winF t g 0)))) →
    double.sub (gotF lim (popS t rec sum) a) u = some (fsub (gotF lim (popS t rec sum) a) u) ∧ Fin (fsub (gotF lim (popS t rec sum) a) u) ∧
    V (fsub (gotF lim (popS t rec sum) a) u) ≤ 20000 * eps ∧ -(20000 * eps) ≤ V (fsub (gotF lim (popS t rec sum) a) u)

theorem round_ok {lim a : Nat} (hl : Amt lim) (ha : Amt a) {g rec : List (Int × Nat)} {sum : Nat} {δ τ t : Int} (h : Hist lim g rec sum δ τ) (hg : g.length ≤ 4095) (h1 : τ ≤ t) (h2 : t ≤ 9223372036854775807) (h0 : -9223372036854775808 ≤ t) :
    Round lim a t g rec sum ∧
    (0 < V (gotF lim (popS t rec sum) a) → ∃ δ', Hist lim (g ++ [(t, gotF lim (popS t rec sum) a)]) (popR t rec sum ++ [(t, gotF lim (popS t rec sum) a)]) (fadd (popS t rec sum) (gotF lim (popS t rec sum) a)) δ' t) ∧
    (V (gotF lim (popS t rec sum) a) ≤ 0 → ∃ δ', Hist lim g (popR t rec sum) (popS t rec sum) δ' t) := by
  have he := eps_pos
  have hM := M6_eq
  obtain ⟨old, hsp, hold⟩ := h.split
  obtain ⟨out, δ1, e1, e2, e3, e4⟩ := popL_facts hl t rec sum h.cinv
  have hle : ∀ p ∈ g, el p.1 t = t - p.1 := fun p hp => by
    have := h.le p hp
    exact el_eq p.1 t this.1 (by omega) h2
  have hrec1 : popR t rec sum = (popL t rec sum).1 := rfl
  have hrecg : ∀ p ∈ rec, p ∈ g := fun p hp => by rw [hsp]; exact List.mem_append.2 (.inr hp)
  have hsub1 : ∀ p ∈ popR t rec sum, p ∈ rec := fun p hp => by rw [e1]; exact List.mem_append.2 (.inr hp)
  have hsort1 : (popR t rec sum).Pairwise (fun p q => p.1 ≤ q.1) := by
    have hs := h.sorted
    rw [e1] at hs
    exact (List.pairwise_append.1 hs).2.1
  -- all that is left is within the hour
  have hin : ∀ p ∈ popR t rec sum, el p.1 t < 3600 := by
    intro p hp
    cases hr : popR t rec sum with
    | nil => rw [hr] at hp; simp at hp
    | cons q r =>
      have hq := e4 q r hr
      rw [hr] at hsort1 hp
      have hqg := hle q (hrecg q (hsub1 q (by rw [hr]; simp)))
      have hpg := hle p (hrecg p (hsub1 p (by rw [hr]; exact hp)))
      rcases List.mem_cons.1 hp with rfl | hp'
      · omega
      · have := (List.pairwise_cons.1 hsort1).1 p hp'
        omega
  have hout : ∀ p ∈ old ++ out, ¬ el p.1 t < 3600 := by
    intro p hp
    rcases List.mem_append.1 hp with hp | hp
    · have h3 := hold p hp
      have h4 := hle p (by rw [hsp]; exact List.mem_append.2 (.inl hp))
      omega
    · have := e2 p hp
      omega
  have hgs : g = (old ++ out) ++ popR t rec sum := by rw [hsp, List.append_assoc]; congr 1
  have hSw : Sw t g = S (popR t rec sum) := by
    conv => lhs; rw [hgs]
    rw [Sw_append, Sw_none hout, Sw_all hin]; omega
  -- the running sum behind the reset
  have hc1 : CInv lim (popR t rec sum) (popS t rec sum) δ1 (2 * ((g.length : Int) * eps)) := by
    unfold popR popS
    split
    · rename_i hnil
      rw [hnil] at e3 ⊢
      exact e3.reset hl
    · exact e3
  have hb := hc1.bounds hl
  have hlen : (g.length : Int) * eps ≤ 4095 * eps := Int.mul_le_mul_of_nonneg_right (by omega) (Int.le_of_lt he)
  have hlen0 := len_eps_nonneg g
  have hwi : WI t g 0 0 0 := by
    refine ⟨fin_zero, h.good, by omega, by omega, by rw [V_zero]; omega, by rw [V_zero]; omega, by rw [hSw]; omega, by omega⟩
  obtain ⟨w1, w2, w3⟩ := hwi.done
  rw [hSw] at w2 w3
  have hh := hc1.hi
  have hlo := hc1.lo
  have hl2 := hl.2
  have ha2 := ha.2
  obtain ⟨x1, x2, x3, x4⟩ := sub_ok hl.1 w1 (by omega) (by omega)
  obtain ⟨s1, s2, s3, s4, g1, g2⟩ := hc1.ask hl ha
  refine ⟨⟨⟨0, 0, hwi⟩, w1, x1, x2, g1, by omega, ?_⟩, ?_, ?_⟩
  · intro u hu hv
    obtain ⟨d1, d2, d3, d4⟩ := sub_ok g1 hu (by omega) (by omega)
    exact ⟨d1, d2, by omega, by omega⟩
  · intro hpos
    obtain ⟨_, hgr⟩ := hc1.grant t hl ha (by omega) hpos
    refine ⟨δ1 + eps, ⟨old ++ out, by rw [← List.append_assoc, ← hgs], ?_⟩, ?_, ?_, ?_, ?_⟩
    · intro p hp
      have h3 := hout p hp
      have h4 := hle p (by rw [hgs]; exact List.mem_append.2 (.inl hp))
      omega
    · have e : 2 * (((g ++ [(t, gotF lim (popS t rec sum) a)]).length : Int) * eps) = 2 * ((g.length : Int) * eps) + 2 * eps := by
        simp only [List.length_append, List.length_cons, List.length_nil, Int.natCast_add, Int.add_mul]
        omega
      rw [e]; exact hgr
    · intro p hp
      rcases List.mem_append.1 hp with hp | hp
      · have := h.le p hp; omega
      · simp at hp; subst hp
        constructor
        · exact h0
        · exact Int.le_refl _
    · refine List.pairwise_append.2 ⟨hsort1, by simp, ?_⟩
      intro p hp q hq
      simp at hq; subst hq
      have := h.le p (hrecg p (hsub1 p hp))
      show p.1 ≤ t
      omega
    · intro p hp
      rcases List.mem_append.1 hp with hp | hp
      · exact h.good p hp
      · simp at hp; subst hp
        exact ⟨g1, by show 0 ≤ V (gotF lim (popS t rec sum) a); omega, by show V (gotF lim (popS t rec sum) a) ≤ M6; omega⟩
  · intro hnp
    refine ⟨δ1, ⟨old ++ out, hgs, ?_⟩, hc1, ?_, hsort1, h.good⟩
    · intro p hp
      have h3 := hout p hp
      have h4 := hle p (by rw [hgs]; exact List.mem_append.2 (.inl hp))
      omega
    · intro p hp
      have := h.le p hp; omega

/-- The last test. -/
theorem tol_ok {d : Nat} (hd : Fin d) (h : V d ≤ 20000 * eps) : (double.order d 4562254508917369340 == some .lt || double.order d 4562254508917369340 == some .eq) = true := by
  rw [le_iff hd fin_tol, decide_eq_true_eq]
  have := V_tol
  have := eps_pos
  omega

end Go.Proofs.Qxb6000854a.Fl
