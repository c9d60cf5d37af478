/-
  The walks of integer (35) over a row of digits, with and without a minus sign ahead.
-/
import Derived.Test.Qxb6000854aInteger
namespace Go.Proofs.Qxb6000854a
open Go.RowKit
set_option linter.unusedVariables false

theorem run_digit {ds : List Nat} {N k x : Nat} (HN : Hid (Dec.run ds = N)) (HX : Hid (ds.getD k 0 = x)) (hk : k < N) : 48 ≤ x ∧ x ≤ 57 := by
  have h := Dec.run_at ds k (by rw [HN.out]; exact hk)
  rw [HX.out] at h
  unfold Dec.isD at h
  rwa [decide_eq_true_eq] at h

theorem run_end {ds : List Nat} {N m x : Nat} (Hm : Hid (ds.length = m)) (HN : Hid (Dec.run ds = N)) (HX : Hid (ds.getD N 0 = x)) : N = m ∨ (N < m ∧ x < 48) ∨ (N < m ∧ 57 < x) := by
  have h1 := Dec.run_le ds
  rw [HN.out, Hm.out] at h1
  by_cases h : N < m
  · have h2 := Dec.run_stop ds (by rw [HN.out, Hm.out]; exact h)
    rw [HN.out, HX.out] at h2
    unfold Dec.isD at h2
    rw [decide_eq_false_iff_not] at h2
    omega
  · exact .inl (by omega)

theorem val_step {ds : List Nat} {m k x y : Nat} (Hm : Hid (ds.length = m)) (hk : k < m) (HX : Hid (ds.getD k 0 = x)) (HY : Hid (Dec.val (ds.take k) = y)) : Dec.val (ds.take (k + 1)) = 10 * y + (x - 48) := by
  have hl : k < ds.length := by rw [Hm.out]; exact hk
  rw [List.take_succ_eq_append_getElem hl, Dec.val_snoc, HY.out]
  have e : ds[k] = x := by have := HX.out; simpa [List.getD, hl] using this
  rw [e]

theorem val_bound {ds : List Nat} {N k y : Nat} (HN : Hid (Dec.run ds = N)) (hk : k < N) (hN : N ≤ 16) (HY : Hid (Dec.val (ds.take k) = y)) : y ≤ 999999999999999 := by
  have hle := Dec.run_le ds
  rw [HN.out] at hle
  have h1 := Dec.val_lt (ds.take k) (fun c hc => Dec.run_isD ds c (by
    rw [HN.out]
    exact (List.take_sublist_take_left (by omega)).mem hc))
  have hl : (ds.take k).length = k := by simp; omega
  rw [hl, HY.out] at h1
  have h2 : y < 10 ^ 15 := Nat.lt_of_lt_of_le h1 (Nat.pow_le_pow_right (by decide) (by omega))
  omega

theorem val_bound2 {ds : List Nat} {N y : Nat} (HN : Hid (Dec.run ds = N)) (hN : N ≤ 16) (HY : Hid (Dec.val (ds.take N) = y)) : y ≤ 9999999999999999 := by
  have h1 := Dec.val_lt (ds.take N) (fun c hc => Dec.run_isD ds c (by rw [HN.out]; exact hc))
  have hl : (ds.take N).length ≤ N := List.length_take_le _ _
  rw [HY.out] at h1
  have h2 : y < 10 ^ 16 := Nat.lt_of_lt_of_le h1 (Nat.pow_le_pow_right (by decide) (by omega))
  omega

/-- A row of digits that lies at ⟨b, o⟩. -/
def Cells (w : World) (b o m : Nat) (ds : List Nat) : Prop := ∀ i y, i < m → ds.getD i 0 = y → w.cell? ⟨b, o + i, none⟩ = some (.int .u8 (y : Int))

theorem rd_drop {w : World} {b o m N : Nat} {ds : List Nat} (Hm : Hid (ds.length = m)) (hC : Cells w b o m ds) (hN : N ≤ m) : Rd w (some ⟨b, o + N, none⟩) (ds.drop N) := by
  have hm := Hm.out
  refine .inr ⟨b, o + N, rfl, fun i hi => ?_⟩
  have hi' : N + i < m := by simp at hi; omega
  have := hC (N + i) ((ds.drop N).getD i 0) hi' (by simp [List.getD])
  rw [Nat.add_assoc]
  exact this

theorem rd_none {w : World} {a : Option Addr} {ds : List Nat} {m N : Nat} (Hm : Hid (ds.length = m)) (h : m ≤ N) : Rd w a (ds.drop N) := .inl (List.drop_of_length_le (by rw [Hm.out]; exact h))

/-- The scanner's slice is what is left, r; it lies in block b. -/
def IntOk (w w' : World) (B b : Nat) (r : List Nat) : Prop := ∃ a' c', w' = w.setCell ⟨B, 0, none⟩ (.slice a' r.length c') ∧ Rd w a' r ∧ (r = [] ∨ ∃ o, a' = some ⟨b, o, none⟩)

theorem int_ok_end {w : World} {B b : Nat} {ds : List Nat} {m N : Nat} (a' : Option Addr) (n c' : Nat) (Hm : Hid (ds.length = m)) (h : m ≤ N) (hn : n = 0) : IntOk w (w.setCell ⟨B, 0, none⟩ (.slice a' n c')) B b (ds.drop N) := by
  have e : ds.drop N = [] := List.drop_of_length_le (by rw [Hm.out]; exact h)
  subst hn
  refine ⟨a', c', by rw [e]; rfl, .inl e, .inl e⟩

theorem int_ok_mid {w : World} {B b o : Nat} {ds : List Nat} {m N : Nat} (n c' : Nat) (Hm : Hid (ds.length = m)) (hC : Cells w b o m ds) (h : N ≤ m) (hn : n = m - N) : IntOk w (w.setCell ⟨B, 0, none⟩ (.slice (some ⟨b, o + N, none⟩) n c')) B b (ds.drop N) := by
  have e : n = (ds.drop N).length := by rw [List.length_drop, Hm.out]; exact hn
  subst e
  exact ⟨_, c', rfl, rd_drop Hm hC h, .inr ⟨_, rfl⟩⟩

set_option maxHeartbeats 1000000 in
theorem int_pos_no (B b off m c N d : Nat) (ds : List Nat) (w : World) (h : Scan w B (some ⟨b, off, none⟩) (m) (c)) (Hm : Hid (ds.length = m)) (hm1 : 1 ≤ m) (hmc : m ≤ c) (hc : c ≤ 9223372036854775807) (hm2 : m ≤ 1073741824)
    (hC : Cells w b (off) m ds) (h45 : ((d : Int) == 45) = false) (HN : Hid (Dec.run ds = N)) (HD : Hid (ds.getD 0 0 = d)) (hF : N = 0 ∨ 16 < N ∨ d = 48 ∧ 1 < N) :
    Calls Try.prog 35 #[.pointer (some ⟨B, 0, none⟩)] w fun e w' => e = .returned (.int .i64 0) ∧ w' = w.setCell ⟨B, 1, none⟩ (.bool false) := by
  obtain ⟨c0, c1, f0, f1⟩ := h
  have HC : Hid _ := hC
  have g0 : w.cell? ⟨b, off, none⟩ = some (.int .u8 (d : Int)) := by have := hC 0 d (by omega) HD.out; rw [Nat.add_zero] at this; exact this
  have hNm : N ≤ m := by have := Dec.run_le ds; rw [HN.out, Hm.out] at this; exact this
  clear hC
  go_enter Try.func35, Try.ntmps35
  go_wp2
  go_loop [5] (fun u => ∃ k : Nat, k ≤ N ∧ u = .int .i64 k) (fun u => N - (intOf u).toNat)
  case atStart => exact ⟨0, Nat.zero_le _, rfl⟩
  case round =>
    obtain ⟨k, hk, rfl⟩ := hrel
    obtain ⟨x, HX⟩ := hold_name (ds.getD k 0)
    by_cases hlt : k < N
    · have gx := HC.out k x (by omega) HX.out
      obtain ⟨x1, x2⟩ := run_digit HN HX hlt
      go_wp2
      go_round
      case rel => exact ⟨k + 1, by omega, by go_num⟩
      case measure => simp [intOf]; omega
    · obtain rfl : k = N := by omega
      have hstop := run_end Hm HN HX
      have HGX : Hid (k < m → w.cell? ⟨b, off + k, none⟩ = some (.int .u8 (x : Int))) := fun hh => HC.out k x hh HX.out
      rcases hstop with rfl | ⟨hkm, hx⟩ | ⟨hkm, hx⟩
      · clear HGX
        rcases hF with rfl | hF | ⟨hF, hF2⟩
        · omega
        · have k0 : ((k : Int) == 0) = false := by rw [beq_eq_false_iff_ne]; omega
          have k16 : decide ((16 : Int) < (k : Int)) = true := by rw [decide_eq_true_eq]; omega
          go_wp2
          go_ret
          exact ⟨rfl, rfl⟩
        · subst hF
          by_cases h0 : k = 0
          · subst h0
            have hdx := HD.out.symm.trans HX.out
            omega
          by_cases h16 : 16 < k
          · have k0 : ((k : Int) == 0) = false := by rw [beq_eq_false_iff_ne]; omega
            have k16 : decide ((16 : Int) < (k : Int)) = true := by rw [decide_eq_true_eq]; omega
            go_wp2
            go_ret
            exact ⟨rfl, rfl⟩
          · go_wp2
            go_ret
            exact ⟨rfl, rfl⟩
      · have gx := HGX.out hkm
        clear HGX
        rcases hF with rfl | hF | ⟨hF, hF2⟩
        · obtain rfl : d = x := HD.out.symm.trans HX.out
          clear gx
          go_wp2
          go_ret
          exact ⟨rfl, rfl⟩
        · have k0 : ((k : Int) == 0) = false := by rw [beq_eq_false_iff_ne]; omega
          have k16 : decide ((16 : Int) < (k : Int)) = true := by rw [decide_eq_true_eq]; omega
          go_wp2
          go_ret
          exact ⟨rfl, rfl⟩
        · subst hF
          by_cases h0 : k = 0
          · subst h0
            have hdx := HD.out.symm.trans HX.out
            omega
          by_cases h16 : 16 < k
          · have k0 : ((k : Int) == 0) = false := by rw [beq_eq_false_iff_ne]; omega
            have k16 : decide ((16 : Int) < (k : Int)) = true := by rw [decide_eq_true_eq]; omega
            go_wp2
            go_ret
            exact ⟨rfl, rfl⟩
          · go_wp2
            go_ret
            exact ⟨rfl, rfl⟩
      · have gx := HGX.out hkm
        clear HGX
        rcases hF with rfl | hF | ⟨hF, hF2⟩
        · obtain rfl : d = x := HD.out.symm.trans HX.out
          clear gx
          go_wp2
          go_ret
          exact ⟨rfl, rfl⟩
        · have k0 : ((k : Int) == 0) = false := by rw [beq_eq_false_iff_ne]; omega
          have k16 : decide ((16 : Int) < (k : Int)) = true := by rw [decide_eq_true_eq]; omega
          go_wp2
          go_ret
          exact ⟨rfl, rfl⟩
        · subst hF
          by_cases h0 : k = 0
          · subst h0
            have hdx := HD.out.symm.trans HX.out
            omega
          by_cases h16 : 16 < k
          · have k0 : ((k : Int) == 0) = false := by rw [beq_eq_false_iff_ne]; omega
            have k16 : decide ((16 : Int) < (k : Int)) = true := by rw [decide_eq_true_eq]; omega
            go_wp2
            go_ret
            exact ⟨rfl, rfl⟩
          · go_wp2
            go_ret
            exact ⟨rfl, rfl⟩

set_option maxHeartbeats 1000000 in
theorem int_neg_no (B b off m c N d : Nat) (ds : List Nat) (w : World) (h : Scan w B (some ⟨b, off, none⟩) (m + 1) (c + 1)) (Hm : Hid (ds.length = m)) (hm1 : 1 ≤ m) (hmc : m ≤ c) (hc : c ≤ 9223372036854775806) (hm2 : m ≤ 1073741824)
    (hC : Cells w b (off + 1) m ds) (h45 : w.cell? ⟨b, off, none⟩ = some (.int .u8 45)) (HN : Hid (Dec.run ds = N)) (HD : Hid (ds.getD 0 0 = d)) (hF : N = 0 ∨ 16 < N ∨ d = 48) :
    Calls Try.prog 35 #[.pointer (some ⟨B, 0, none⟩)] w fun e w' => e = .returned (.int .i64 0) ∧ w' = w.setCell ⟨B, 1, none⟩ (.bool false) := by
  obtain ⟨c0, c1, f0, f1⟩ := h
  have HC : Hid _ := hC
  have g0 : w.cell? ⟨b, off + 1, none⟩ = some (.int .u8 (d : Int)) := by have := hC 0 d (by omega) HD.out; rw [Nat.add_zero] at this; exact this
  have hNm : N ≤ m := by have := Dec.run_le ds; rw [HN.out, Hm.out] at this; exact this
  clear hC
  go_enter Try.func35, Try.ntmps35
  go_wp2
  go_loop [5] (fun u => ∃ k : Nat, k ≤ N ∧ u = .int .i64 k) (fun u => N - (intOf u).toNat)
  case atStart => exact ⟨0, Nat.zero_le _, rfl⟩
  case round =>
    obtain ⟨k, hk, rfl⟩ := hrel
    obtain ⟨x, HX⟩ := hold_name (ds.getD k 0)
    by_cases hlt : k < N
    · have gx := HC.out k x (by omega) HX.out
      obtain ⟨x1, x2⟩ := run_digit HN HX hlt
      go_wp2
      go_round
      case rel => exact ⟨k + 1, by omega, by go_num⟩
      case measure => simp [intOf]; omega
    · obtain rfl : k = N := by omega
      have hstop := run_end Hm HN HX
      have HGX : Hid (k < m → w.cell? ⟨b, off + 1 + k, none⟩ = some (.int .u8 (x : Int))) := fun hh => HC.out k x hh HX.out
      rcases hstop with rfl | ⟨hkm, hx⟩ | ⟨hkm, hx⟩
      · clear HGX
        rcases hF with rfl | hF | hF
        · omega
        · have k0 : ((k : Int) == 0) = false := by rw [beq_eq_false_iff_ne]; omega
          have k16 : decide ((16 : Int) < (k : Int)) = true := by rw [decide_eq_true_eq]; omega
          go_wp2
          go_ret
          exact ⟨rfl, rfl⟩
        · subst hF
          by_cases h0 : k = 0
          · subst h0
            have hdx := HD.out.symm.trans HX.out
            omega
          by_cases h16 : 16 < k
          · have k0 : ((k : Int) == 0) = false := by rw [beq_eq_false_iff_ne]; omega
            have k16 : decide ((16 : Int) < (k : Int)) = true := by rw [decide_eq_true_eq]; omega
            go_wp2
            go_ret
            exact ⟨rfl, rfl⟩
          by_cases h1 : 1 < k
          · go_wp2
            go_ret
            exact ⟨rfl, rfl⟩
          · go_wp2
            go_ret
            exact ⟨rfl, rfl⟩
      · have gx := HGX.out hkm
        clear HGX
        rcases hF with rfl | hF | hF
        · obtain rfl : d = x := HD.out.symm.trans HX.out
          clear gx
          go_wp2
          go_ret
          exact ⟨rfl, rfl⟩
        · have k0 : ((k : Int) == 0) = false := by rw [beq_eq_false_iff_ne]; omega
          have k16 : decide ((16 : Int) < (k : Int)) = true := by rw [decide_eq_true_eq]; omega
          go_wp2
          go_ret
          exact ⟨rfl, rfl⟩
        · subst hF
          by_cases h0 : k = 0
          · subst h0
            have hdx := HD.out.symm.trans HX.out
            omega
          by_cases h16 : 16 < k
          · have k0 : ((k : Int) == 0) = false := by rw [beq_eq_false_iff_ne]; omega
            have k16 : decide ((16 : Int) < (k : Int)) = true := by rw [decide_eq_true_eq]; omega
            go_wp2
            go_ret
            exact ⟨rfl, rfl⟩
          by_cases h1 : 1 < k
          · go_wp2
            go_ret
            exact ⟨rfl, rfl⟩
          · go_wp2
            go_ret
            exact ⟨rfl, rfl⟩
      · have gx := HGX.out hkm
        clear HGX
        rcases hF with rfl | hF | hF
        · obtain rfl : d = x := HD.out.symm.trans HX.out
          clear gx
          go_wp2
          go_ret
          exact ⟨rfl, rfl⟩
        · have k0 : ((k : Int) == 0) = false := by rw [beq_eq_false_iff_ne]; omega
          have k16 : decide ((16 : Int) < (k : Int)) = true := by rw [decide_eq_true_eq]; omega
          go_wp2
          go_ret
          exact ⟨rfl, rfl⟩
        · subst hF
          by_cases h0 : k = 0
          · subst h0
            have hdx := HD.out.symm.trans HX.out
            omega
          by_cases h16 : 16 < k
          · have k0 : ((k : Int) == 0) = false := by rw [beq_eq_false_iff_ne]; omega
            have k16 : decide ((16 : Int) < (k : Int)) = true := by rw [decide_eq_true_eq]; omega
            go_wp2
            go_ret
            exact ⟨rfl, rfl⟩
          by_cases h1 : 1 < k
          · go_wp2
            go_ret
            exact ⟨rfl, rfl⟩
          · go_wp2
            go_ret
            exact ⟨rfl, rfl⟩

end Go.Proofs.Qxb6000854a
