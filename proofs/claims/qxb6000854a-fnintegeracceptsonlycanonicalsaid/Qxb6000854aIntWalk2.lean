/-
  The walks of integer (35) over a row of digits that is accepted.
-/
import Derived.Test.Qxb6000854aIntWalk
namespace Go.Proofs.Qxb6000854a
open Go.RowKit
set_option linter.unusedVariables false

set_option maxHeartbeats 1000000 in
theorem int_pos_ok (B b off m c N d : Nat) (ds : List Nat) (w : World) (h : Scan w B (some ⟨b, off, none⟩) (m) (c)) (Hm : Hid (ds.length = m)) (hm1 : 1 ≤ m) (hmc : m ≤ c) (hc : c ≤ 9223372036854775807) (hm2 : m ≤ 1073741824)
    (hC : Cells w b (off) m ds) (h45 : ((d : Int) == 45) = false) (HN : Hid (Dec.run ds = N)) (HD : Hid (ds.getD 0 0 = d)) (hN1 : 1 ≤ N) (hN2 : N ≤ 16) (V : Nat) (HV : Hid (Dec.val (ds.take N) = V)) (hS : d ≠ 48 ∨ N = 1) :
    Calls Try.prog 35 #[.pointer (some ⟨B, 0, none⟩)] w fun e w' => e = .returned (.int .i64 (V : Int)) ∧ IntOk w w' B b (ds.drop N) := by
  obtain ⟨c0, c1, f0, f1⟩ := h
  have HC : Hid _ := hC
  have g0 : w.cell? ⟨b, off, none⟩ = some (.int .u8 (d : Int)) := by have := hC 0 d (by omega) HD.out; rw [Nat.add_zero] at this; exact this
  have hNm : N ≤ m := by have := Dec.run_le ds; rw [HN.out, Hm.out] at this; exact this
  clear hC
  go_enter Try.func35, Try.ntmps35
  go_wp2
  go_loop [5] (fun u => ∃ k : Nat, k ≤ N ∧ u = .int .i64 k) (fun u => N - (intOf u).toNat)
  case atStart => exact ⟨0, Nat.zero_le _, rfl⟩
  case round =>
    obtain ⟨k, hk, rfl⟩ := hrel
    obtain ⟨x, HX⟩ := hold_name (ds.getD k 0)
    by_cases hlt : k < N
    · have gx := HC.out k x (by omega) HX.out
      obtain ⟨x1, x2⟩ := run_digit HN HX hlt
      go_wp2
      go_round
      case rel => exact ⟨k + 1, by omega, by go_num⟩
      case measure => simp [intOf]; omega
    · obtain rfl : k = N := by omega
      have hstop := run_end Hm HN HX
      have HGX : Hid (k < m → w.cell? ⟨b, off + k, none⟩ = some (.int .u8 (x : Int))) := fun hh => HC.out k x hh HX.out
      rcases hstop with rfl | ⟨hkm, hx⟩ | ⟨hkm, hx⟩
      · clear HGX
        have k0 : ((k : Int) == 0) = false := by rw [beq_eq_false_iff_ne]; omega
        have k16 : decide ((16 : Int) < (k : Int)) = false := by rw [decide_eq_false_iff_not]; omega
        rcases (show d ≠ 48 ∨ (d = 48 ∧ k = 1) by omega) with hd | ⟨hd, hk1⟩
        · have hd48 : ((d : Int) == 48) = false := by rw [beq_eq_false_iff_ne]; omega
          go_wp2
          go_loop [6, 76] (fun u v => ∃ j y : Nat, j ≤ k ∧ v = .int .i64 j ∧ u = .int .i64 y ∧ Hid (Dec.val (ds.take j) = y)) (fun _ v => k - (intOf v).toNat)
          case atStart => exact ⟨0, 0, Nat.zero_le _, rfl, rfl, rfl⟩
          case round =>
            obtain ⟨j, y, hj, rfl, rfl, HY⟩ := hrel
            by_cases hjk : j < k
            · obtain ⟨z, HZ⟩ := hold_name (ds.getD j 0)
              have gz := HC.out j z (by omega) HZ.out
              obtain ⟨z1, z2⟩ := run_digit HN HZ hjk
              have hyb := val_bound HN hjk hN2 HY
              have HY2 : Hid (Dec.val (ds.take (j + 1)) = 10 * y + (z - 48)) := val_step Hm (by omega) HZ HY
              go_wp2
              go_round
              case rel => exact ⟨j + 1, 10 * y + (z - 48), by omega, by go_num, by go_num, HY2⟩
              case measure => simp [intOf]; omega
            · obtain rfl : j = k := by omega
              have hyb := val_bound2 HN hN2 HY
              obtain rfl : y = V := HY.out.symm.trans HV.out
              by_cases hck : c = j
              · subst hck
                first
                | omega
                | (go_wp2; go_ret; exact ⟨rfl, int_ok_end _ _ _ Hm (by omega) (by omega)⟩)
              · have hck2 : ¬ c - j = 0 := by omega
                go_wp2
                go_ret
                exact ⟨rfl, int_ok_mid _ _ Hm HC.out hNm (by omega)⟩
        · subst hd
          have hk2 : ¬ 1 < k := by omega
          have hk3 : 1 ≤ k := by omega
          clear hk1
          go_wp2
          go_loop [6, 76] (fun u v => ∃ j y : Nat, j ≤ k ∧ v = .int .i64 j ∧ u = .int .i64 y ∧ Hid (Dec.val (ds.take j) = y)) (fun _ v => k - (intOf v).toNat)
          case atStart => exact ⟨0, 0, Nat.zero_le _, rfl, rfl, rfl⟩
          case round =>
            obtain ⟨j, y, hj, rfl, rfl, HY⟩ := hrel
            by_cases hjk : j < k
            · obtain ⟨z, HZ⟩ := hold_name (ds.getD j 0)
              have gz := HC.out j z (by omega) HZ.out
              obtain ⟨z1, z2⟩ := run_digit HN HZ hjk
              have hyb := val_bound HN hjk hN2 HY
              have HY2 : Hid (Dec.val (ds.take (j + 1)) = 10 * y + (z - 48)) := val_step Hm (by omega) HZ HY
              go_wp2
              go_round
              case rel => exact ⟨j + 1, 10 * y + (z - 48), by omega, by go_num, by go_num, HY2⟩
              case measure => simp [intOf]; omega
            · obtain rfl : j = k := by omega
              have hyb := val_bound2 HN hN2 HY
              obtain rfl : y = V := HY.out.symm.trans HV.out
              by_cases hck : c = j
              · subst hck
                first
                | omega
                | (go_wp2; go_ret; exact ⟨rfl, int_ok_end _ _ _ Hm (by omega) (by omega)⟩)
              · have hck2 : ¬ c - j = 0 := by omega
                go_wp2
                go_ret
                exact ⟨rfl, int_ok_mid _ _ Hm HC.out hNm (by omega)⟩
      · have gx := HGX.out hkm
        clear HGX
        have k0 : ((k : Int) == 0) = false := by rw [beq_eq_false_iff_ne]; omega
        have k16 : decide ((16 : Int) < (k : Int)) = false := by rw [decide_eq_false_iff_not]; omega
        rcases (show d ≠ 48 ∨ (d = 48 ∧ k = 1) by omega) with hd | ⟨hd, hk1⟩
        · have hd48 : ((d : Int) == 48) = false := by rw [beq_eq_false_iff_ne]; omega
          go_wp2
          go_loop [6, 76] (fun u v => ∃ j y : Nat, j ≤ k ∧ v = .int .i64 j ∧ u = .int .i64 y ∧ Hid (Dec.val (ds.take j) = y)) (fun _ v => k - (intOf v).toNat)
          case atStart => exact ⟨0, 0, Nat.zero_le _, rfl, rfl, rfl⟩
          case round =>
            obtain ⟨j, y, hj, rfl, rfl, HY⟩ := hrel
            by_cases hjk : j < k
            · obtain ⟨z, HZ⟩ := hold_name (ds.getD j 0)
              have gz := HC.out j z (by omega) HZ.out
              obtain ⟨z1, z2⟩ := run_digit HN HZ hjk
              have hyb := val_bound HN hjk hN2 HY
              have HY2 : Hid (Dec.val (ds.take (j + 1)) = 10 * y + (z - 48)) := val_step Hm (by omega) HZ HY
              go_wp2
              go_round
              case rel => exact ⟨j + 1, 10 * y + (z - 48), by omega, by go_num, by go_num, HY2⟩
              case measure => simp [intOf]; omega
            · obtain rfl : j = k := by omega
              have hyb := val_bound2 HN hN2 HY
              obtain rfl : y = V := HY.out.symm.trans HV.out
              by_cases hck : c = j
              · subst hck
                first
                | omega
                | (go_wp2; go_ret; exact ⟨rfl, int_ok_end _ _ _ Hm (by omega) (by omega)⟩)
              · have hck2 : ¬ c - j = 0 := by omega
                go_wp2
                go_ret
                exact ⟨rfl, int_ok_mid _ _ Hm HC.out hNm (by omega)⟩
        · subst hd
          have hk2 : ¬ 1 < k := by omega
          have hk3 : 1 ≤ k := by omega
          clear hk1
          go_wp2
          go_loop [6, 76] (fun u v => ∃ j y : Nat, j ≤ k ∧ v = .int .i64 j ∧ u = .int .i64 y ∧ Hid (Dec.val (ds.take j) = y)) (fun _ v => k - (intOf v).toNat)
          case atStart => exact ⟨0, 0, Nat.zero_le _, rfl, rfl, rfl⟩
          case round =>
            obtain ⟨j, y, hj, rfl, rfl, HY⟩ := hrel
            by_cases hjk : j < k
            · obtain ⟨z, HZ⟩ := hold_name (ds.getD j 0)
              have gz := HC.out j z (by omega) HZ.out
              obtain ⟨z1, z2⟩ := run_digit HN HZ hjk
              have hyb := val_bound HN hjk hN2 HY
              have HY2 : Hid (Dec.val (ds.take (j + 1)) = 10 * y + (z - 48)) := val_step Hm (by omega) HZ HY
              go_wp2
              go_round
              case rel => exact ⟨j + 1, 10 * y + (z - 48), by omega, by go_num, by go_num, HY2⟩
              case measure => simp [intOf]; omega
            · obtain rfl : j = k := by omega
              have hyb := val_bound2 HN hN2 HY
              obtain rfl : y = V := HY.out.symm.trans HV.out
              by_cases hck : c = j
              · subst hck
                first
                | omega
                | (go_wp2; go_ret; exact ⟨rfl, int_ok_end _ _ _ Hm (by omega) (by omega)⟩)
              · have hck2 : ¬ c - j = 0 := by omega
                go_wp2
                go_ret
                exact ⟨rfl, int_ok_mid _ _ Hm HC.out hNm (by omega)⟩
      · have gx := HGX.out hkm
        clear HGX
        have k0 : ((k : Int) == 0) = false := by rw [beq_eq_false_iff_ne]; omega
        have k16 : decide ((16 : Int) < (k : Int)) = false := by rw [decide_eq_false_iff_not]; omega
        rcases (show d ≠ 48 ∨ (d = 48 ∧ k = 1) by omega) with hd | ⟨hd, hk1⟩
        · have hd48 : ((d : Int) == 48) = false := by rw [beq_eq_false_iff_ne]; omega
          go_wp2
          go_loop [6, 76] (fun u v => ∃ j y : Nat, j ≤ k ∧ v = .int .i64 j ∧ u = .int .i64 y ∧ Hid (Dec.val (ds.take j) = y)) (fun _ v => k - (intOf v).toNat)
          case atStart => exact ⟨0, 0, Nat.zero_le _, rfl, rfl, rfl⟩
          case round =>
            obtain ⟨j, y, hj, rfl, rfl, HY⟩ := hrel
            by_cases hjk : j < k
            · obtain ⟨z, HZ⟩ := hold_name (ds.getD j 0)
              have gz := HC.out j z (by omega) HZ.out
              obtain ⟨z1, z2⟩ := run_digit HN HZ hjk
              have hyb := val_bound HN hjk hN2 HY
              have HY2 : Hid (Dec.val (ds.take (j + 1)) = 10 * y + (z - 48)) := val_step Hm (by omega) HZ HY
              go_wp2
              go_round
              case rel => exact ⟨j + 1, 10 * y + (z - 48), by omega, by go_num, by go_num, HY2⟩
              case measure => simp [intOf]; omega
            · obtain rfl : j = k := by omega
              have hyb := val_bound2 HN hN2 HY
              obtain rfl : y = V := HY.out.symm.trans HV.out
              by_cases hck : c = j
              · subst hck
                first
                | omega
                | (go_wp2; go_ret; exact ⟨rfl, int_ok_end _ _ _ Hm (by omega) (by omega)⟩)
              · have hck2 : ¬ c - j = 0 := by omega
                go_wp2
                go_ret
                exact ⟨rfl, int_ok_mid _ _ Hm HC.out hNm (by omega)⟩
        · subst hd
          have hk2 : ¬ 1 < k := by omega
          have hk3 : 1 ≤ k := by omega
          clear hk1
          go_wp2
          go_loop [6, 76] (fun u v => ∃ j y : Nat, j ≤ k ∧ v = .int .i64 j ∧ u = .int .i64 y ∧ Hid (Dec.val (ds.take j) = y)) (fun _ v => k - (intOf v).toNat)
          case atStart => exact ⟨0, 0, Nat.zero_le _, rfl, rfl, rfl⟩
          case round =>
            obtain ⟨j, y, hj, rfl, rfl, HY⟩ := hrel
            by_cases hjk : j < k
            · obtain ⟨z, HZ⟩ := hold_name (ds.getD j 0)
              have gz := HC.out j z (by omega) HZ.out
              obtain ⟨z1, z2⟩ := run_digit HN HZ hjk
              have hyb := val_bound HN hjk hN2 HY
              have HY2 : Hid (Dec.val (ds.take (j + 1)) = 10 * y + (z - 48)) := val_step Hm (by omega) HZ HY
              go_wp2
              go_round
              case rel => exact ⟨j + 1, 10 * y + (z - 48), by omega, by go_num, by go_num, HY2⟩
              case measure => simp [intOf]; omega
            · obtain rfl : j = k := by omega
              have hyb := val_bound2 HN hN2 HY
              obtain rfl : y = V := HY.out.symm.trans HV.out
              by_cases hck : c = j
              · subst hck
                first
                | omega
                | (go_wp2; go_ret; exact ⟨rfl, int_ok_end _ _ _ Hm (by omega) (by omega)⟩)
              · have hck2 : ¬ c - j = 0 := by omega
                go_wp2
                go_ret
                exact ⟨rfl, int_ok_mid _ _ Hm HC.out hNm (by omega)⟩

set_option maxHeartbeats 1000000 in
theorem int_neg_ok (B b off m c N d : Nat) (ds : List Nat) (w : World) (h : Scan w B (some ⟨b, off, none⟩) (m + 1) (c + 1)) (Hm : Hid (ds.length = m)) (hm1 : 1 ≤ m) (hmc : m ≤ c) (hc : c ≤ 9223372036854775806) (hm2 : m ≤ 1073741824)
    (hC : Cells w b (off + 1) m ds) (h45 : w.cell? ⟨b, off, none⟩ = some (.int .u8 45)) (HN : Hid (Dec.run ds = N)) (HD : Hid (ds.getD 0 0 = d)) (hN1 : 1 ≤ N) (hN2 : N ≤ 16) (V : Nat) (HV : Hid (Dec.val (ds.take N) = V)) (hS : d ≠ 48) :
    Calls Try.prog 35 #[.pointer (some ⟨B, 0, none⟩)] w fun e w' => e = .returned (.int .i64 (-(V : Int))) ∧ IntOk w w' B b (ds.drop N) := by
  obtain ⟨c0, c1, f0, f1⟩ := h
  have HC : Hid _ := hC
  have g0 : w.cell? ⟨b, off + 1, none⟩ = some (.int .u8 (d : Int)) := by have := hC 0 d (by omega) HD.out; rw [Nat.add_zero] at this; exact this
  have hNm : N ≤ m := by have := Dec.run_le ds; rw [HN.out, Hm.out] at this; exact this
  clear hC
  go_enter Try.func35, Try.ntmps35
  go_wp2
  go_loop [5] (fun u => ∃ k : Nat, k ≤ N ∧ u = .int .i64 k) (fun u => N - (intOf u).toNat)
  case atStart => exact ⟨0, Nat.zero_le _, rfl⟩
  case round =>
    obtain ⟨k, hk, rfl⟩ := hrel
    obtain ⟨x, HX⟩ := hold_name (ds.getD k 0)
    by_cases hlt : k < N
    · have gx := HC.out k x (by omega) HX.out
      obtain ⟨x1, x2⟩ := run_digit HN HX hlt
      go_wp2
      go_round
      case rel => exact ⟨k + 1, by omega, by go_num⟩
      case measure => simp [intOf]; omega
    · obtain rfl : k = N := by omega
      have hstop := run_end Hm HN HX
      have HGX : Hid (k < m → w.cell? ⟨b, off + 1 + k, none⟩ = some (.int .u8 (x : Int))) := fun hh => HC.out k x hh HX.out
      rcases hstop with rfl | ⟨hkm, hx⟩ | ⟨hkm, hx⟩
      · clear HGX
        have k0 : ((k : Int) == 0) = false := by rw [beq_eq_false_iff_ne]; omega
        have k16 : decide ((16 : Int) < (k : Int)) = false := by rw [decide_eq_false_iff_not]; omega
        have hd48 : ((d : Int) == 48) = false := by rw [beq_eq_false_iff_ne]; omega
        go_wp2
        go_loop [6, 76] (fun u v => ∃ j y : Nat, j ≤ k ∧ v = .int .i64 j ∧ u = .int .i64 y ∧ Hid (Dec.val (ds.take j) = y)) (fun _ v => k - (intOf v).toNat)
        case atStart => exact ⟨0, 0, Nat.zero_le _, rfl, rfl, rfl⟩
        case round =>
          obtain ⟨j, y, hj, rfl, rfl, HY⟩ := hrel
          by_cases hjk : j < k
          · obtain ⟨z, HZ⟩ := hold_name (ds.getD j 0)
            have gz := HC.out j z (by omega) HZ.out
            obtain ⟨z1, z2⟩ := run_digit HN HZ hjk
            have hyb := val_bound HN hjk hN2 HY
            have HY2 : Hid (Dec.val (ds.take (j + 1)) = 10 * y + (z - 48)) := val_step Hm (by omega) HZ HY
            go_wp2
            go_round
            case rel => exact ⟨j + 1, 10 * y + (z - 48), by omega, by go_num, by go_num, HY2⟩
            case measure => simp [intOf]; omega
          · obtain rfl : j = k := by omega
            have hyb := val_bound2 HN hN2 HY
            obtain rfl : y = V := HY.out.symm.trans HV.out
            by_cases hck : c = j
            · subst hck
              first
              | omega
              | (go_wp2; go_ret; exact ⟨rfl, int_ok_end _ _ _ Hm (by omega) (by omega)⟩)
            · have hck2 : ¬ c - j = 0 := by omega
              go_wp2
              go_ret
              exact ⟨rfl, int_ok_mid _ _ Hm HC.out hNm (by omega)⟩
      · have gx := HGX.out hkm
        clear HGX
        have k0 : ((k : Int) == 0) = false := by rw [beq_eq_false_iff_ne]; omega
        have k16 : decide ((16 : Int) < (k : Int)) = false := by rw [decide_eq_false_iff_not]; omega
        have hd48 : ((d : Int) == 48) = false := by rw [beq_eq_false_iff_ne]; omega
        go_wp2
        go_loop [6, 76] (fun u v => ∃ j y : Nat, j ≤ k ∧ v = .int .i64 j ∧ u = .int .i64 y ∧ Hid (Dec.val (ds.take j) = y)) (fun _ v => k - (intOf v).toNat)
        case atStart => exact ⟨0, 0, Nat.zero_le _, rfl, rfl, rfl⟩
        case round =>
          obtain ⟨j, y, hj, rfl, rfl, HY⟩ := hrel
          by_cases hjk : j < k
          · obtain ⟨z, HZ⟩ := hold_name (ds.getD j 0)
            have gz := HC.out j z (by omega) HZ.out
            obtain ⟨z1, z2⟩ := run_digit HN HZ hjk
            have hyb := val_bound HN hjk hN2 HY
            have HY2 : Hid (Dec.val (ds.take (j + 1)) = 10 * y + (z - 48)) := val_step Hm (by omega) HZ HY
            go_wp2
            go_round
            case rel => exact ⟨j + 1, 10 * y + (z - 48), by omega, by go_num, by go_num, HY2⟩
            case measure => simp [intOf]; omega
          · obtain rfl : j = k := by omega
            have hyb := val_bound2 HN hN2 HY
            obtain rfl : y = V := HY.out.symm.trans HV.out
            by_cases hck : c = j
            · subst hck
              first
              | omega
              | (go_wp2; go_ret; exact ⟨rfl, int_ok_end _ _ _ Hm (by omega) (by omega)⟩)
            · have hck2 : ¬ c - j = 0 := by omega
              go_wp2
              go_ret
              exact ⟨rfl, int_ok_mid _ _ Hm HC.out hNm (by omega)⟩
      · have gx := HGX.out hkm
        clear HGX
        have k0 : ((k : Int) == 0) = false := by rw [beq_eq_false_iff_ne]; omega
        have k16 : decide ((16 : Int) < (k : Int)) = false := by rw [decide_eq_false_iff_not]; omega
        have hd48 : ((d : Int) == 48) = false := by rw [beq_eq_false_iff_ne]; omega
        go_wp2
        go_loop [6, 76] (fun u v => ∃ j y : Nat, j ≤ k ∧ v = .int .i64 j ∧ u = .int .i64 y ∧ Hid (Dec.val (ds.take j) = y)) (fun _ v => k - (intOf v).toNat)
        case atStart => exact ⟨0, 0, Nat.zero_le _, rfl, rfl, rfl⟩
        case round =>
          obtain ⟨j, y, hj, rfl, rfl, HY⟩ := hrel
          by_cases hjk : j < k
          · obtain ⟨z, HZ⟩ := hold_name (ds.getD j 0)
            have gz := HC.out j z (by omega) HZ.out
            obtain ⟨z1, z2⟩ := run_digit HN HZ hjk
            have hyb := val_bound HN hjk hN2 HY
            have HY2 : Hid (Dec.val (ds.take (j + 1)) = 10 * y + (z - 48)) := val_step Hm (by omega) HZ HY
            go_wp2
            go_round
            case rel => exact ⟨j + 1, 10 * y + (z - 48), by omega, by go_num, by go_num, HY2⟩
            case measure => simp [intOf]; omega
          · obtain rfl : j = k := by omega
            have hyb := val_bound2 HN hN2 HY
            obtain rfl : y = V := HY.out.symm.trans HV.out
            by_cases hck : c = j
            · subst hck
              first
              | omega
              | (go_wp2; go_ret; exact ⟨rfl, int_ok_end _ _ _ Hm (by omega) (by omega)⟩)
            · have hck2 : ¬ c - j = 0 := by omega
              go_wp2
              go_ret
              exact ⟨rfl, int_ok_mid _ _ Hm HC.out hNm (by omega)⟩

end Go.Proofs.Qxb6000854a
