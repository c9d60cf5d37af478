/-
  Plain functions for canonical decimals: what zzItoa writes, what the scanner's integer() reads. No Go in sight.
-/
namespace Go.Proofs.Qxb6000854a.Dec

/-- The decimal digits of a number, as bytes; none for nought. (f: fuel.) -/
def digF : Nat → Nat → List Nat
  | 0, _ => []
  | f + 1, u => if u = 0 then [] else digF f (u / 10) ++ [48 + u % 10]

def digs (u : Nat) : List Nat := digF u u

theorem digF_more (f g u : Nat) (hf : u ≤ f) (hg : u ≤ g) : digF f u = digF g u := by
  induction f generalizing g u with
  | zero =>
    obtain rfl : u = 0 := by omega
    cases g <;> simp [digF]
  | succ f ih =>
    cases g with
    | zero =>
      obtain rfl : u = 0 := by omega
      simp [digF]
    | succ g =>
      simp only [digF]
      by_cases h : u = 0
      · simp [h]
      · rw [if_neg h, if_neg h, ih g (u / 10) (by omega) (by omega)]

theorem digs_zero : digs 0 = [] := rfl

theorem digs_pos (u : Nat) (h : 0 < u) : digs u = digs (u / 10) ++ [48 + u % 10] := by
  unfold digs
  cases u with
  | zero => omega
  | succ u =>
    rw [digF, if_neg (by omega), digF_more u ((u + 1) / 10) ((u + 1) / 10) (by omega) (by omega)]

def isD (c : Nat) : Bool := decide (48 ≤ c ∧ c ≤ 57)

theorem digs_isD (u : Nat) : ∀ c ∈ digs u, isD c = true := by
  induction u using Nat.strongRecOn with
  | _ u ih =>
    by_cases h : u = 0
    · subst h; simp [digs_zero]
    · rw [digs_pos u (by omega)]
      intro c hc
      simp at hc
      rcases hc with hc | rfl
      · exact ih (u / 10) (by omega) c hc
      · unfold isD; rw [decide_eq_true_eq]; omega

theorem digs_ne (u : Nat) (h : 0 < u) : digs u ≠ [] := by rw [digs_pos u h]; simp

/-- No leading zero. -/
theorem digs_head (u : Nat) (h : 0 < u) : ∃ d r, digs u = d :: r ∧ d ≠ 48 ∧ isD d = true := by
  induction u using Nat.strongRecOn with
  | _ u ih =>
    rw [digs_pos u h]
    by_cases hq : u / 10 = 0
    · rw [hq, digs_zero]
      refine ⟨48 + u % 10, [], rfl, by omega, ?_⟩
      unfold isD; rw [decide_eq_true_eq]; omega
    · obtain ⟨d, r, e, h1, h2⟩ := ih (u / 10) (by omega) (by omega)
      exact ⟨d, r ++ [48 + u % 10], by rw [e]; rfl, h1, h2⟩

/-- The value of a row of digits. -/
def val (l : List Nat) : Nat := l.foldl (fun x d => 10 * x + (d - 48)) 0

theorem val_snoc (l : List Nat) (d : Nat) : val (l ++ [d]) = 10 * val l + (d - 48) := by simp [val]

theorem val_digs (u : Nat) : val (digs u) = u := by
  induction u using Nat.strongRecOn with
  | _ u ih =>
    by_cases h : u = 0
    · subst h; rfl
    · rw [digs_pos u (by omega), val_snoc, ih (u / 10) (by omega)]
      omega

theorem snoc_cases (l : List Nat) : l = [] ∨ ∃ r d, l = r ++ [d] := by
  rcases List.eq_nil_or_concat l with h | ⟨r, d, h⟩
  · exact .inl h
  · exact .inr ⟨r, d, by simpa using h⟩

theorem val_lt (l : List Nat) (h : ∀ c ∈ l, isD c = true) : val l < 10 ^ l.length := by
  obtain ⟨n, hn⟩ : ∃ n, l.length = n := ⟨_, rfl⟩
  induction n generalizing l with
  | zero =>
    obtain rfl : l = [] := List.eq_nil_of_length_eq_zero hn
    simp [val]
  | succ n ih =>
    rcases snoc_cases l with rfl | ⟨r, d, rfl⟩
    · simp at hn
    · rw [val_snoc]
      have h1 := ih r (fun c hc => h c (by simp [hc])) (by simp at hn; exact hn)
      have h2 := h d (by simp)
      unfold isD at h2; rw [decide_eq_true_eq] at h2
      simp only [List.length_append, List.length_cons, List.length_nil, Nat.pow_add]
      omega

/-- A row of digits without a leading zero is its value's digits. -/
theorem digs_val (l : List Nat) (h : ∀ c ∈ l, isD c = true) (hne : l ≠ []) (h0 : l.headD 0 ≠ 48) : digs (val l) = l ∧ 0 < val l := by
  obtain ⟨n, hn⟩ : ∃ n, l.length = n := ⟨_, rfl⟩
  induction n generalizing l with
  | zero => exact absurd (List.eq_nil_of_length_eq_zero hn) hne
  | succ n ih =>
    rcases snoc_cases l with rfl | ⟨r, d, rfl⟩
    · exact absurd rfl hne
    · have hd := h d (by simp)
      unfold isD at hd; rw [decide_eq_true_eq] at hd
      rw [val_snoc]
      by_cases hr : r = []
      · subst hr
        simp at h0
        have hp : 0 < 10 * val [] + (d - 48) := by simp [val]; omega
        refine ⟨?_, hp⟩
        have e : 10 * val [] + (d - 48) = d - 48 := by simp [val]
        rw [e] at hp ⊢
        rw [digs_pos _ hp, show (d - 48) / 10 = 0 by omega, digs_zero]
        simp
        omega
      · have h0' : r.headD 0 ≠ 48 := by
          cases r with
          | nil => exact absurd rfl hr
          | cons x r => simpa using h0
        obtain ⟨i1, i2⟩ := ih r (fun c hc => h c (by simp [hc])) hr h0' (by simp at hn; exact hn)
        refine ⟨?_, by omega⟩
        rw [digs_pos _ (by omega), show (10 * val r + (d - 48)) / 10 = val r by omega, i1]
        congr 2
        omega

/-- What zzItoa writes. -/
def itoa (x : Int) : List Nat := if x = 0 then [48] else (if x < 0 then [45] else []) ++ digs x.natAbs

/-- How many digits stand at the head. -/
def run (l : List Nat) : Nat := (l.takeWhile isD).length

/-- What integer() reads: the digits behind the sign. -/
def body (neg : Bool) (ds : List Nat) : Option (Int × List Nat) :=
  if run ds = 0 ∨ 16 < run ds ∨ (ds.headD 0 = 48 ∧ (1 < run ds ∨ neg = true)) then none
  else some ((if neg then -1 else 1) * (val (ds.take (run ds)) : Int), ds.drop (run ds))

def intg (l : List Nat) : Option (Int × List Nat) :=
  if l.headD 0 = 45 then body true (l.drop 1) else body false l

theorem run_le (l : List Nat) : run l ≤ l.length := by
  unfold run
  induction l with
  | nil => simp
  | cons c l ih =>
    by_cases h : isD c = true
    · simp [h]; exact ih
    · simp [h]

theorem take_run (l : List Nat) : l.take (run l) = l.takeWhile isD := by
  unfold run
  induction l with
  | nil => rfl
  | cons c l ih =>
    by_cases h : isD c = true
    · simp [h, ih]
    · simp [h]

theorem run_isD (l : List Nat) : ∀ c ∈ l.take (run l), isD c = true := by
  rw [take_run]
  induction l with
  | nil => simp
  | cons d l ih =>
    by_cases h : isD d = true
    · simp only [List.takeWhile_cons, h, if_true]
      intro c hc
      rcases List.mem_cons.1 hc with rfl | hc
      · exact h
      · exact ih c hc
    · simp [h]

theorem run_at (l : List Nat) (k : Nat) (h : k < run l) : isD (l.getD k 0) = true := by
  have hl := run_le l
  apply run_isD l
  have : (l.take (run l))[k]? = some (l.getD k 0) := by
    rw [List.getElem?_take_of_lt h]
    simp [List.getD, show k < l.length by omega]
  exact List.mem_of_getElem? this

theorem run_stop (l : List Nat) (h : run l < l.length) : isD (l.getD (run l) 0) = false := by
  induction l with
  | nil => simp [run] at h
  | cons c l ih =>
    by_cases hc : isD c = true
    · have e : run (c :: l) = run l + 1 := by simp [run, hc]
      rw [e] at h ⊢
      simpa [List.getD] using ih (by simpa using h)
    · have e : run (c :: l) = 0 := by simp [run, hc]
      rw [e]
      simpa [List.getD] using hc

theorem run_app (a t : List Nat) (ha : ∀ c ∈ a, isD c = true) (ht : t = [] ∨ isD (t.headD 0) = false) : run (a ++ t) = a.length := by
  induction a with
  | nil =>
    rcases ht with rfl | ht
    · rfl
    · cases t with
      | nil => rfl
      | cons c t => simp at ht; simp [run, ht]
  | cons c a ih =>
    have h1 := ha c (by simp)
    have h2 := ih (fun x hx => ha x (by simp [hx]))
    have : run (c :: (a ++ t)) = run (a ++ t) + 1 := by simp [run, h1]
    simpa [this] using h2

theorem digs_len (u n : Nat) (h : u < 10 ^ n) : (digs u).length ≤ n := by
  induction n generalizing u with
  | zero =>
    obtain rfl : u = 0 := by simp at h; exact h
    simp [digs_zero]
  | succ n ih =>
    by_cases hu : u = 0
    · subst hu; simp [digs_zero]
    · rw [digs_pos u (by omega)]
      have := ih (u / 10) (by rw [Nat.pow_succ] at h; omega)
      simp
      omega

/-- Read back what was written. -/
theorem intg_itoa (x : Int) (t : List Nat) (h1 : x ≤ 9999999999999999) (h2 : -9999999999999999 ≤ x) (ht : t = [] ∨ isD (t.headD 0) = false) : intg (itoa x ++ t) = some (x, t) := by
  have hb : ∀ (neg : Bool), 0 < x.natAbs → body neg (digs x.natAbs ++ t) = some ((if neg then -1 else 1) * (x.natAbs : Int), t) := by
    intro neg hp
    have hr := run_app (digs x.natAbs) t (digs_isD _) ht
    have hl := digs_len x.natAbs 16 (by omega)
    obtain ⟨d, r, e, hd, _⟩ := digs_head x.natAbs hp
    have hln : 0 < (digs x.natAbs).length := by rw [e]; simp
    have hh : (digs x.natAbs ++ t).headD 0 = d := by rw [e]; rfl
    unfold body
    rw [hr, hh, if_neg (by omega), List.take_left, List.drop_left, val_digs]
  unfold itoa
  by_cases h0 : x = 0
  · subst h0
    have hr := run_app [48] t (by simp [isD]) ht
    rw [if_pos rfl]
    unfold intg
    rw [if_neg (by simp)]
    unfold body
    rw [hr]
    simp [val]
  · rw [if_neg h0]
    by_cases hn : x < 0
    · rw [if_pos hn]
      unfold intg
      rw [if_pos (by simp)]
      have := hb true (by omega)
      simp only [List.cons_append, List.nil_append, List.drop_succ_cons, List.drop_zero]
      rw [this]
      simp
      omega
    · rw [if_neg hn, List.nil_append]
      have hp : 0 < x.natAbs := by omega
      obtain ⟨d, r, e, hd, hdd⟩ := digs_head x.natAbs hp
      unfold isD at hdd; rw [decide_eq_true_eq] at hdd
      have hh : (digs x.natAbs ++ t).headD 0 = d := by rw [e]; rfl
      unfold intg
      rw [hh, if_neg (by omega), hb false hp]
      simp
      omega

theorem body_some {neg : Bool} {ds : List Nat} {v : Int} {r : List Nat} (h : body neg ds = some (v, r)) :
    run ds ≠ 0 ∧ run ds ≤ 16 ∧ (ds.headD 0 = 48 → run ds = 1 ∧ neg = false) ∧ v = (if neg then -1 else 1) * (val (ds.take (run ds)) : Int) ∧ r = ds.drop (run ds) := by
  unfold body at h
  split at h
  · cases h
  · rename_i hc
    simp only [Option.some.injEq, Prod.mk.injEq] at h
    refine ⟨by omega, by omega, fun hh => ?_, h.1.symm, h.2.symm⟩
    cases neg <;> simp_all <;> omega

theorem body_facts {neg : Bool} {ds : List Nat} {v : Int} {r : List Nat} (h : body neg ds = some (v, r)) :
    v ≤ 9999999999999999 ∧ -9999999999999999 ≤ v ∧ ds.take (run ds) = digs v.natAbs ++ (if v = 0 then [48] else []) ∧ (v = 0 → neg = false) ∧ (v ≠ 0 → (v < 0 ↔ neg = true)) := by
  obtain ⟨h1, h2, h3, h4, h5⟩ := body_some h
  have hD := run_isD ds
  have hle := run_le ds
  have hlen : (ds.take (run ds)).length = run ds := by simp; omega
  have hv := val_lt _ hD
  rw [hlen] at hv
  have hv16 : val (ds.take (run ds)) < 10 ^ 16 := Nat.lt_of_lt_of_le hv (Nat.pow_le_pow_right (by decide) h2)
  have hvb : val (ds.take (run ds)) ≤ 9999999999999999 := by omega
  have hhead : (ds.take (run ds)).headD 0 = ds.headD 0 := by
    cases ds with
    | nil => rfl
    | cons c l =>
      cases hr : run (c :: l) with
      | zero => exact absurd hr h1
      | succ n => rfl
  have hne : ds.take (run ds) ≠ [] := by intro e; rw [e] at hlen; simp at hlen; omega
  by_cases h48 : ds.headD 0 = 48
  · obtain ⟨e1, rfl⟩ := h3 h48
    have e2 : ds.take (run ds) = [48] := by
      rw [e1] at hhead hne ⊢
      cases ds with
      | nil => simp at hne
      | cons c l => simp at h48; simp [h48]
    rw [e2] at h4
    have e3 : v = 0 := by simpa [val] using h4
    subst e3
    rw [e2]
    simp [digs_zero]
  · obtain ⟨d1, d2⟩ := digs_val _ hD hne (by rw [hhead]; exact h48)
    cases neg with
    | false =>
      simp at h4
      have e : v.natAbs = val (ds.take (run ds)) := by omega
      rw [e, d1, if_neg (by omega)]
      simp
      omega
    | true =>
      simp at h4
      have e : v.natAbs = val (ds.take (run ds)) := by omega
      rw [e, d1, if_neg (by omega)]
      simp
      omega

/-- What is accepted is canonical. -/
theorem intg_some {l : List Nat} {v : Int} {r : List Nat} (h : intg l = some (v, r)) :
    ∃ k, 0 < k ∧ k ≤ l.length ∧ r = l.drop k ∧ itoa v = l.take k ∧ v ≤ 9999999999999999 ∧ -9999999999999999 ≤ v ∧ (r = [] ∨ isD (r.headD 0) = false) := by
  have stop : ∀ ds : List Nat, ds.drop (run ds) = [] ∨ isD ((ds.drop (run ds)).headD 0) = false := by
    intro ds
    by_cases hl : run ds < ds.length
    · right
      have := run_stop ds hl
      rw [List.drop_eq_getElem_cons hl]
      simpa [List.getD, hl] using this
    · left
      exact List.drop_of_length_le (by omega)
  unfold intg at h
  split at h
  · rename_i h45
    cases l with
    | nil => simp at h45
    | cons c ds =>
      simp at h45
      subst h45
      simp only [List.drop_succ_cons, List.drop_zero] at h
      obtain ⟨f1, f2, f3, f4, f5⟩ := body_facts h
      obtain ⟨b1, b2, b3, b4, b5⟩ := body_some h
      have hle := run_le ds
      have hv0 : v ≠ 0 := fun e => by have := f4 e; cases this
      refine ⟨run ds + 1, by omega, by simp; omega, by rw [b5]; rfl, ?_, f1, f2, by rw [b5]; exact stop ds⟩
      rw [if_neg hv0] at f3
      unfold itoa
      rw [if_neg hv0, if_pos ((f5 hv0).2 rfl), List.take_succ_cons, f3]
      simp
  · obtain ⟨f1, f2, f3, f4, f5⟩ := body_facts h
    obtain ⟨b1, b2, b3, b4, b5⟩ := body_some h
    have hle := run_le l
    refine ⟨run l, by omega, by omega, b5, ?_, f1, f2, by rw [b5]; exact stop l⟩
    unfold itoa
    by_cases hv0 : v = 0
    · rw [if_pos hv0]
      rw [if_pos hv0] at f3
      rw [f3, hv0]
      rfl
    · rw [if_neg hv0] at f3 ⊢
      rw [if_neg (fun hn => by have := (f5 hv0).1 hn; cases this), f3]
      simp

end Go.Proofs.Qxb6000854a.Dec
