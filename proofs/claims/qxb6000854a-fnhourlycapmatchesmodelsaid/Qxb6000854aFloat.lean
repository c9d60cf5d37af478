/-
  Floats of 64 bits as whole numbers of units of 2^-1074: what a sum gives, and by how much it is off. No Go in sight.
-/
import Derived.Laws.FloatArith
namespace Go.Proofs.Qxb6000854a.Fl
open Ieee

/-- The word stands for a number. -/
def Fin (x : Nat) : Prop := ∃ (s : Bool) (m k : Nat), double.read x = .number s m (-1074 + (k : Int))

/-- What a datum stands for, in units of 2^-1074. -/
def VD : Datum → Int
  | .number s m p => signed s m (p + 1074).toNat
  | _ => 0

def V (x : Nat) : Int := VD (double.read x)

theorem V_of {x : Nat} {s : Bool} {m k : Nat} (h : double.read x = .number s m (-1074 + (k : Int))) : V x = signed s m k := by
  unfold V VD
  rw [h]
  show signed s m (-1074 + (k : Int) + 1074).toNat = _
  congr 1
  omega

theorem signed_eq (s : Bool) (m k : Nat) : signed s m k = (if s then -1 else 1) * ((m * 2 ^ k : Nat) : Int) := by
  unfold signed
  rw [Nat.shiftLeft_eq]
  cases s <;> simp

theorem least : double.leastPlace = -1074 := by decide

theorem cut_zero (neg : Bool) (n : Nat) : Toward.even.cut neg n 0 = n := by
  unfold Toward.cut
  simp [Nat.mod_one]

theorem cut_near (neg : Bool) (n q : Nat) (hq : q ≤ n.log2 + 2) :
    n / 2 ^ q ≤ Toward.even.cut neg n q ∧ Toward.even.cut neg n q ≤ n / 2 ^ q + 1 ∧ 2 * (Toward.even.cut neg n q * 2 ^ q) ≤ 2 * n + 2 ^ q ∧ 2 * n ≤ 2 * (Toward.even.cut neg n q * 2 ^ q) + 2 ^ q := by
  have hg : 1 <<< min q (n.log2 + 2) = 2 ^ q := by rw [Nat.min_eq_left hq, Nat.shiftLeft_eq, Nat.one_mul]
  have hd : n = 2 ^ q * (n / 2 ^ q) + n % 2 ^ q := (Nat.div_add_mod n (2 ^ q)).symm
  have hlt : n % 2 ^ q < 2 ^ q := Nat.mod_lt _ (Nat.two_pow_pos q)
  unfold Toward.cut
  simp only [hg]
  generalize n / 2 ^ q = lo at *
  generalize n % 2 ^ q = re at *
  generalize 2 ^ q = g at *
  have hm : lo * g = g * lo := Nat.mul_comm _ _
  by_cases hc : (decide (g < 2 * re) || (g == 2 * re && lo % 2 == 1)) = true
  · rw [hc]
    have : g ≤ 2 * re := by
      simp at hc
      omega
    simp only [Bool.toNat_true]
    rw [Nat.add_mul]
    omega
  · have hcf : (decide (g < 2 * re) || (g == 2 * re && lo % 2 == 1)) = false := by simpa using hc
    rw [hcf]
    have : 2 * re ≤ g := by
      simp at hc
      omega
    simp only [Bool.toNat_false, Nat.add_zero]
    omega

/-- The rung of 'kept' units of 2^L is read back as just that. -/
theorem read_rung (neg : Bool) (L kept : Nat) (hk : kept ≤ 2 ^ 53) (hL : L = 0 ∨ 2 ^ 52 ≤ kept) (hb : L ≤ 1043) :
    ∃ m k : Nat, double.read (double.word neg (L * 2 ^ 52 + kept)) = .number neg m (-1074 + (k : Int)) ∧ m * 2 ^ k = kept * 2 ^ L := by
  have hR : L * 2 ^ 52 + kept < 1046 * 2 ^ 52 := by omega
  have hsw : double.signWeight = 2 ^ 63 := by decide
  have hbin : double.binade = 2 ^ 52 := by decide
  have hinf : double.infRung = 2047 * 2 ^ 52 := by decide
  obtain ⟨R, hRd⟩ : ∃ R, R = L * 2 ^ 52 + kept := ⟨_, rfl⟩
  rw [← hRd] at hR ⊢
  have hword : double.word neg R / 2 ^ 63 % 2 = neg.toNat ∧ double.word neg R % 2 ^ 63 = R := by
    unfold Format.word
    rw [hsw]
    cases neg
    · simp; omega
    · simp; omega
  have hneg : (double.word neg R / 2 ^ 63 % 2 == 1) = neg := by rw [hword.1]; cases neg <;> rfl
  unfold Format.read
  simp only [hsw, hbin, hinf, least, hneg, hword.2]
  by_cases h1 : R < 2 ^ 52
  · rw [if_pos h1]
    obtain rfl : L = 0 := by omega
    exact ⟨R, 0, rfl, by rw [hRd]; simp⟩
  · rw [if_neg h1, if_pos (by omega)]
    by_cases h2 : kept = 2 ^ 53
    · refine ⟨2 ^ 52 + R % 2 ^ 52, R / 2 ^ 52 - 1, rfl, ?_⟩
      have e1 : R % 2 ^ 52 = 0 := by omega
      have e2 : R / 2 ^ 52 - 1 = L + 1 := by omega
      rw [e1, e2, h2, Nat.pow_succ]
      omega
    · refine ⟨2 ^ 52 + R % 2 ^ 52, R / 2 ^ 52 - 1, rfl, ?_⟩
      have hkk : 2 ^ 52 ≤ kept := by omega
      have e1 : R % 2 ^ 52 = kept - 2 ^ 52 := by omega
      have e2 : R / 2 ^ 52 - 1 = L := by omega
      rw [e1, e2, show 2 ^ 52 + (kept - 2 ^ 52) = kept by omega]

theorem pow_split (a b : Nat) : (2 : Nat) ^ (a + b) = 2 ^ a * 2 ^ b := Nat.pow_add 2 a b

/-- Rounding a number below 2^22 is off by at most 2^-32. -/
theorem nearest_off (A : Nat) (hA1 : 54 ≤ A) (hA2 : A ≤ 1096) (neg : Bool) (mag c : Nat) (h0 : mag ≠ 0) (hb : mag * 2 ^ c < 2 ^ A) :
    ∃ m k : Nat, double.read (double.nearest neg mag (-1074 + (c : Int))) = .number neg m (-1074 + (k : Int)) ∧ m * 2 ^ k ≤ mag * 2 ^ c + 2 ^ (A - 54) ∧ mag * 2 ^ c ≤ m * 2 ^ k + 2 ^ (A - 54) := by
  obtain ⟨e, he⟩ : ∃ e, e = mag.log2 := ⟨_, rfl⟩
  have hlo : 2 ^ e ≤ mag := by rw [he]; exact Nat.log2_self_le h0
  have hhi : mag < 2 ^ (e + 1) := by rw [he]; exact Nat.lt_log2_self
  have hce : c + e < A := by
    refine Nat.lt_of_not_le fun hge => ?_
    have h1 : 2 ^ A ≤ 2 ^ (e + c) := Nat.pow_le_pow_right (by decide) (by omega)
    rw [Nat.pow_add] at h1
    have h2 : 2 ^ e * 2 ^ c ≤ mag * 2 ^ c := Nat.mul_le_mul_right _ hlo
    exact absurd (Nat.lt_of_le_of_lt (Nat.le_trans h1 h2) hb) (Nat.lt_irrefl _)
  obtain ⟨L, hL⟩ : ∃ L, L = c + e - 52 := ⟨_, rfl⟩
  have hfr : double.fractionBits = 52 := rfl
  have hlast : max (-1074 + (c : Int) + ((mag.log2 : Nat) : Int) - ((52 : Nat) : Int)) (-1074) = -1074 + (L : Int) := by rw [← he]; omega
  have hinf : double.infRung = 2047 * 2 ^ 52 := by decide
  have hbin : double.binade = 2 ^ 52 := by decide
  unfold Format.nearest
  rw [if_neg h0]
  simp only [hfr, least, hlast, hinf, hbin]
  have t1 : (-1074 + (c : Int) - (-1074 + (L : Int))).toNat = c - L := by omega
  have t2 : (-1074 + (L : Int) - (-1074 + (c : Int))).toNat = L - c := by omega
  have t3 : (-1074 + (L : Int) - -1074).toNat = L := by omega
  rw [t1, t2, t3]
  by_cases hLc : L ≤ c
  · -- exact
    rw [show L - c = 0 by omega, cut_zero, Nat.shiftLeft_eq]
    obtain ⟨kept, hkept⟩ : ∃ kept, kept = mag * 2 ^ (c - L) := ⟨_, rfl⟩
    have hval : kept * 2 ^ L = mag * 2 ^ c := by rw [hkept, Nat.mul_assoc, ← Nat.pow_add, show c - L + L = c by omega]
    have hk53 : kept < 2 ^ 53 := by
      rw [hkept]
      have : mag * 2 ^ (c - L) < 2 ^ (e + 1) * 2 ^ (c - L) := Nat.mul_lt_mul_of_pos_right hhi (Nat.two_pow_pos _)
      rw [← Nat.pow_add] at this
      exact Nat.lt_of_lt_of_le this (Nat.pow_le_pow_right (by decide) (by omega))
    have hk52 : L = 0 ∨ 2 ^ 52 ≤ kept := by
      by_cases h : L = 0
      · exact .inl h
      · right
        rw [hkept]
        have : 2 ^ e * 2 ^ (c - L) ≤ mag * 2 ^ (c - L) := Nat.mul_le_mul_right _ hlo
        rw [← Nat.pow_add] at this
        rwa [show e + (c - L) = 52 by omega] at this
    rw [← hkept, Nat.min_eq_left (by omega)]
    obtain ⟨m, k, hr, hv⟩ := read_rung neg L kept (by omega) hk52 (by omega)
    refine ⟨m, k, hr, ?_, ?_⟩
    · rw [hv, hval]; exact Nat.le_add_right _ _
    · rw [hv, hval]; exact Nat.le_add_right _ _
  · -- rounded
    obtain ⟨q, hq⟩ : ∃ q, q = L - c := ⟨_, rfl⟩
    have heq : e = 52 + q := by omega
    have hLq : L = c + q := by omega
    rw [show c - L = 0 by omega, Nat.shiftLeft_zero, ← hq]
    obtain ⟨c1, c2, c3, c4⟩ := cut_near neg mag q (by omega)
    obtain ⟨kept, hkept⟩ : ∃ kept, kept = Toward.even.cut neg mag q := ⟨_, rfl⟩
    rw [← hkept] at c1 c2 c3 c4 ⊢
    have hd1 : 2 ^ 52 ≤ mag / 2 ^ q := by
      rw [Nat.le_div_iff_mul_le (Nat.two_pow_pos q), ← Nat.pow_add, ← heq]; exact hlo
    have hd2 : mag / 2 ^ q < 2 ^ 53 := by
      rw [Nat.div_lt_iff_lt_mul (Nat.two_pow_pos q), ← Nat.pow_add, show 53 + q = e + 1 by omega]; exact hhi
    rw [Nat.min_eq_left (by omega)]
    obtain ⟨m, k, hr, hv⟩ := read_rung neg L kept (by omega) (.inr (by omega)) (by omega)
    have hpow : 2 ^ c * 2 ^ q ≤ 2 * 2 ^ (A - 54) := by
      rw [← Nat.pow_add, ← hLq, ← Nat.pow_succ']
      exact Nat.pow_le_pow_right (by decide) (by omega)
    have hv2 : kept * 2 ^ L = 2 ^ c * (kept * 2 ^ q) := by
      rw [hLq, Nat.pow_add, ← Nat.mul_assoc, Nat.mul_comm kept (2 ^ c), Nat.mul_assoc]
    have hm2 : mag * 2 ^ c = 2 ^ c * mag := Nat.mul_comm _ _
    have m3 := Nat.mul_le_mul_left (2 ^ c) c3
    have m4 := Nat.mul_le_mul_left (2 ^ c) c4
    rw [Nat.mul_add] at m3 m4
    rw [Nat.mul_left_comm, Nat.mul_left_comm (2 ^ c) 2 mag] at m3
    rw [Nat.mul_left_comm, Nat.mul_left_comm (2 ^ c) 2 (kept * 2 ^ q)] at m4
    refine ⟨m, k, hr, ?_, ?_⟩
    · rw [hv, hv2, hm2]; omega
    · rw [hv, hv2, hm2]; omega

/-- The size of the numbers that are met (2^22, in units), behind a name. -/
def expA : Nat := 1096
/-- By how much one rounding may be off (2^-32, in units). -/
def eps : Int := ((2 ^ (expA - 54) : Nat) : Int)
def big : Int := ((2 ^ expA : Nat) : Int)

theorem eps_pos : 0 < eps := by unfold eps; exact Int.natCast_pos.2 (Nat.two_pow_pos _)

theorem pow54 (A : Nat) (h : 54 ≤ A) : (2 : Nat) ^ A = 18014398509481984 * 2 ^ (A - 54) := by
  rw [show (18014398509481984 : Nat) = 2 ^ 54 from rfl, ← Nat.pow_add]
  congr 1
  omega

theorem big_eq : big = 18014398509481984 * eps := by
  unfold big eps
  rw [pow54 expA (by decide), Int.natCast_mul]
  rfl

/-- Whatever is written of an exact number below 2^22: it is a number, off by at most eps. -/
theorem write_off (s : Bool) (mag c : Nat) (hb : ((mag * 2 ^ c : Nat) : Int) < big) :
    Fin (double.write (.number s mag (-1074 + (c : Int)))) ∧ signed s mag c - eps ≤ V (double.write (.number s mag (-1074 + (c : Int)))) ∧ V (double.write (.number s mag (-1074 + (c : Int)))) ≤ signed s mag c + eps := by
  have he := eps_pos
  show Fin (double.nearest s mag (-1074 + (c : Int))) ∧ _ - eps ≤ V (double.nearest s mag (-1074 + (c : Int))) ∧ V (double.nearest s mag (-1074 + (c : Int))) ≤ _
  by_cases h0 : mag = 0
  · subst h0
    have hw : double.nearest s 0 (-1074 + (c : Int)) = double.word s (0 * 2 ^ 52 + 0) := by unfold Format.nearest; rw [if_pos rfl]
    obtain ⟨m, k, hr, hv⟩ := read_rung s 0 0 (by decide) (.inl rfl) (by decide)
    rw [hw]
    have hV : V (double.word s (0 * 2 ^ 52 + 0)) = 0 := by
      rw [V_of hr, signed_eq, hv]; simp
    refine ⟨⟨s, m, k, hr⟩, ?_, ?_⟩
    · rw [hV, signed_eq]; simp; omega
    · rw [hV, signed_eq]; simp; omega
  · have hb' : mag * 2 ^ c < 2 ^ expA := by unfold big at hb; exact Int.ofNat_lt.1 hb
    obtain ⟨m, k, hr, h1, h2⟩ := nearest_off expA (by decide) (by decide) s mag c h0 hb'
    refine ⟨⟨s, m, k, hr⟩, ?_⟩
    rw [V_of hr, signed_eq, signed_eq]
    have h1' : ((m * 2 ^ k : Nat) : Int) ≤ ((mag * 2 ^ c : Nat) : Int) + eps := by
      unfold eps; rw [← Int.natCast_add]; exact Int.ofNat_le.2 h1
    have h2' : ((mag * 2 ^ c : Nat) : Int) ≤ ((m * 2 ^ k : Nat) : Int) + eps := by
      unfold eps; rw [← Int.natCast_add]; exact Int.ofNat_le.2 h2
    generalize ((m * 2 ^ k : Nat) : Int) = a at *
    generalize ((mag * 2 ^ c : Nat) : Int) = b at *
    cases s
    · simp; omega
    · simp; omega

theorem signed_shift (s : Bool) (m a d : Nat) : signed s m (d + a) = signed s m d * ((2 ^ a : Nat) : Int) := by
  rw [signed_eq, signed_eq, Nat.pow_add, Int.mul_assoc]
  congr 1
  push_cast
  rw [Int.mul_assoc]

/-- A sum of two numbers, exactly. -/
theorem sum_exact (s t : Bool) (m n a b : Nat) :
    ∃ (u : Bool) (mag c : Nat), Datum.sum (.number s m (-1074 + (a : Int))) (.number t n (-1074 + (b : Int))) = some (.number u mag (-1074 + (c : Int))) ∧ signed u mag c = signed s m a + signed t n b ∧ ((mag * 2 ^ c : Nat) : Int) = (signed s m a + signed t n b).natAbs := by
  obtain ⟨c, hc⟩ : ∃ c, c = min a b := ⟨_, rfl⟩
  have hbase : min (-1074 + (a : Int)) (-1074 + (b : Int)) = -1074 + (c : Int) := by omega
  have t1 : (-1074 + (a : Int) - (-1074 + (c : Int))).toNat = a - c := by omega
  have t2 : (-1074 + (b : Int) - (-1074 + (c : Int))).toNat = b - c := by omega
  have e1 : signed s m a = signed s m (a - c) * ((2 ^ c : Nat) : Int) := by rw [← signed_shift]; congr 1; omega
  have e2 : signed t n b = signed t n (b - c) * ((2 ^ c : Nat) : Int) := by rw [← signed_shift]; congr 1; omega
  unfold Datum.sum
  simp only [hbase, t1, t2]
  obtain ⟨T, hT⟩ : ∃ T, T = signed s m (a - c) + signed t n (b - c) := ⟨_, rfl⟩
  rw [← hT]
  have hsum : signed s m a + signed t n b = T * ((2 ^ c : Nat) : Int) := by rw [e1, e2, ← Int.add_mul, ← hT]
  refine ⟨_, T.natAbs, c, rfl, ?_, ?_⟩
  · rw [hsum, signed_eq]
    by_cases h0 : T = 0
    · simp [h0]
    · rw [if_neg h0]
      by_cases hn : T < 0
      · have : ((T.natAbs : Nat) : Int) = -T := by omega
        simp only [hn, decide_true, if_true, Int.natCast_mul, this]
        rw [Int.neg_mul, Int.one_mul, Int.neg_mul, Int.neg_neg]
      · have : ((T.natAbs : Nat) : Int) = T := by omega
        simp [hn, this]
  · rw [hsum, Int.natAbs_mul, Int.natAbs_natCast]

/-- '+' of two numbers whose sum is below 2^22. -/
theorem add_off {x y : Nat} (hx : Fin x) (hy : Fin y) (h1 : V x + V y < big) (h2 : -big < V x + V y) :
    ∃ z, double.add x y = some z ∧ Fin z ∧ V x + V y - eps ≤ V z ∧ V z ≤ V x + V y + eps := by
  obtain ⟨s, m, a, hrx⟩ := hx
  obtain ⟨t, n, b, hry⟩ := hy
  obtain ⟨u, mag, c, hs, hv, hm⟩ := sum_exact s t m n a b
  rw [V_of hrx, V_of hry] at *
  obtain ⟨w1, w2, w3⟩ := write_off u mag c (by rw [hm]; omega)
  refine ⟨double.write (.number u mag (-1074 + (c : Int))), ?_, w1, by rw [← hv]; exact w2, by rw [← hv]; exact w3⟩
  unfold Format.add
  rw [hrx, hry, hs]; rfl

theorem signed_not (t : Bool) (n b : Nat) : signed (!t) n b = -signed t n b := by
  rw [signed_eq, signed_eq]; cases t <;> simp

/-- '-' of two numbers whose difference is below 2^22. -/
theorem sub_off {x y : Nat} (hx : Fin x) (hy : Fin y) (h1 : V x - V y < big) (h2 : -big < V x - V y) :
    ∃ z, double.sub x y = some z ∧ Fin z ∧ V x - V y - eps ≤ V z ∧ V z ≤ V x - V y + eps := by
  obtain ⟨s, m, a, hrx⟩ := hx
  obtain ⟨t, n, b, hry⟩ := hy
  obtain ⟨u, mag, c, hs, hv, hm⟩ := sum_exact s (!t) m n a b
  rw [signed_not] at hv hm
  rw [V_of hrx, V_of hry] at *
  obtain ⟨w1, w2, w3⟩ := write_off u mag c (by rw [hm]; omega)
  refine ⟨double.write (.number u mag (-1074 + (c : Int))), ?_, w1, by rw [hv] at w2; omega, by rw [hv] at w3; omega⟩
  unfold Format.sub
  rw [hrx, hry]
  show (Datum.sum (.number s m (-1074 + (a : Int))) (.number (!t) n (-1074 + (b : Int)))).map double.write = _
  rw [hs]; rfl

/-- Two numbers stand to each other as their values do. -/
theorem order_eq {x y : Nat} (hx : Fin x) (hy : Fin y) : double.order x y = some (compare (V x) (V y)) := by
  obtain ⟨s, m, a, hrx⟩ := hx
  obtain ⟨t, n, b, hry⟩ := hy
  obtain ⟨c, hc⟩ : ∃ c, c = min a b := ⟨_, rfl⟩
  have hbase : min (-1074 + (a : Int)) (-1074 + (b : Int)) = -1074 + (c : Int) := by omega
  have t1 : (-1074 + (a : Int) - (-1074 + (c : Int))).toNat = a - c := by omega
  have t2 : (-1074 + (b : Int) - (-1074 + (c : Int))).toNat = b - c := by omega
  have e1 : signed s m a = signed s m (a - c) * ((2 ^ c : Nat) : Int) := by rw [← signed_shift]; congr 1; omega
  have e2 : signed t n b = signed t n (b - c) * ((2 ^ c : Nat) : Int) := by rw [← signed_shift]; congr 1; omega
  have hp : (0 : Int) < ((2 ^ c : Nat) : Int) := Int.natCast_pos.2 (Nat.two_pow_pos _)
  unfold Format.order Datum.order
  rw [V_of hrx, V_of hry, hrx, hry]
  simp only [hbase, t1, t2]
  rw [e1, e2]
  congr 1
  generalize signed s m (a - c) = p
  generalize signed t n (b - c) = q
  generalize ((2 ^ c : Nat) : Int) = g at *
  rw [Int.compare_eq_ite_lt, Int.compare_eq_ite_lt]
  have l1 : p * g < q * g ↔ p < q := Int.mul_lt_mul_right hp
  have l2 : q * g < p * g ↔ q < p := Int.mul_lt_mul_right hp
  simp only [l1, l2]

end Go.Proofs.Qxb6000854a.Fl
