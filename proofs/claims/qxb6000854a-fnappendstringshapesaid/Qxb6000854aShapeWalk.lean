/-
  The walk of FnAppendStringShape (5).
-/
import Derived.Test.Qxb6000854aRowView
import Derived.Test.Qxb6000854aShapePlain
namespace Go.Proofs.Qxb6000854a.fnAppendStringShape
open Go.RowKit
set_option linter.unusedVariables false

theorem bytes_yes (a : Option Addr) (n c : Nat) (s : ByteArray) (w : World) (h0 : n ≤ 1048576) (h1 : s.size ≤ 1048576) (h2 : n + s.size ≤ 1048576) :
    Calls Try.prog 17 #[.slice a n c, .string s] w fun e w' => e = .returned (.bool true) ∧ w' = w := by
  go_enter Try.func17, Try.ntmps17
  go_wp2
  go_ret
  exact ⟨rfl, rfl⟩

theorem bytes_no (a : Option Addr) (n c : Nat) (s : ByteArray) (w : World) (w0 : n ≤ 9223372036854775807) (w1 : s.size ≤ 9223372036854775807) (h : 1048576 < n + s.size) :
    Calls Try.prog 17 #[.slice a n c, .string s] w fun e w' => e = .returned (.bool false) ∧ w' = w := by
  by_cases h0 : n ≤ 1048576
  · by_cases h1 : s.size ≤ 1048576
    · go_enter Try.func17, Try.ntmps17
      go_wp2
      go_ret
      exact ⟨rfl, rfl⟩
    · go_enter Try.func17, Try.ntmps17
      go_wp2
      go_ret
      exact ⟨rfl, rfl⟩
  · go_enter Try.func17, Try.ntmps17
    go_wp2
    go_ret
    exact ⟨rfl, rfl⟩

/-- What is left of the encoding and of the text bears the same high bytes. -/
def Inv (E l : List Nat) (k j : Nat) : Prop := Pl.hi (E.drop k) = Pl.hi (l.drop j)

theorem inv_low {E l : List Nat} {k j : Nat} (h : Inv E l k j) (hk : k < E.length) (hc : E.getD k 0 < 128) : Inv E l (k + 1) j := by
  unfold Inv at *; rw [← h, Pl.hi_drop_low hk hc]

theorem inv_skip {E l : List Nat} {k j : Nat} (h : Inv E l k j) (hj : j < l.length) (hc : l.getD j 0 < 128) : Inv E l k (j + 1) := by
  unfold Inv at *; rw [h, Pl.hi_drop_low hj hc]

theorem inv_some {E l : List Nat} {k j : Nat} (h : Inv E l k j) (hk : k < E.length) (hc : 128 ≤ E.getD k 0) : j < l.length := by
  refine Nat.lt_of_not_le fun hle => ?_
  unfold Inv at h
  rw [Pl.hi_drop_high hk hc, Pl.hi_drop_end hle] at h
  cases h

theorem inv_meet {E l : List Nat} {k j : Nat} (h : Inv E l k j) (hk : k < E.length) (hc : 128 ≤ E.getD k 0) (hj : j < l.length) (hd : 128 ≤ l.getD j 0) : E.getD k 0 = l.getD j 0 ∧ Inv E l (k + 1) (j + 1) := by
  unfold Inv at *
  rw [Pl.hi_drop_high hk hc, Pl.hi_drop_high hj hd] at h
  exact ⟨(List.cons.inj h).1, (List.cons.inj h).2⟩

theorem inv_end {E l : List Nat} {k j : Nat} (h : Inv E l k j) (hk : E.length ≤ k) (hj : j < l.length) : l.getD j 0 < 128 := by
  refine Nat.lt_of_not_le fun hd => ?_
  unfold Inv at h
  rw [Pl.hi_drop_end hk, Pl.hi_drop_high hj hd] at h
  cases h

theorem enc_ge_at {s : ByteArray} {E : List Nat} {M k x : Nat} (HE : Hid (Pl.enc (nb s) = E)) (HM : Hid (E.length = M)) (HX : Hid (E.getD k 0 = x)) (h : k < M) : 32 ≤ x := by
  have h2 := Pl.enc_at_ge (nb s) k
  rw [HE.out, HM.out, HX.out] at h2
  exact h2 h

set_option maxRecDepth 100000 in
set_option maxHeartbeats 1000000 in
theorem walk_in (a : Option Addr) (n cap : Nat) (olds : List Nat) (s : ByteArray) (w : World) (hlen : Hid (olds.length = n)) (rd : Rd w a olds) (hnil : a = none → n = 0 ∧ cap = 0) (hs : n + s.size ≤ 1048576) :
    Calls Try.prog 5 #[.slice a n cap, .string s] w fun e w' => e = .returned (.bool true) ∧ Below w.heap.size w w' := by
  have h0 : n ≤ 1048576 := by omega
  have h1 : s.size ≤ 1048576 := by omega
  obtain ⟨E, HE⟩ := hold_name (Pl.enc (nb s))
  obtain ⟨M, HM⟩ := hold_name E.length
  have hM1 : s.size + 2 ≤ M := by
    have := (Pl.encL_len (nb s)).1
    have := Pl.enc_len (nb s)
    rw [nb_length] at *
    rw [HE.out, HM.out] at this
    omega
  have hM2 : M ≤ 6 * s.size + 2 := by
    have := (Pl.encL_len (nb s)).2
    have := Pl.enc_len (nb s)
    rw [nb_length] at *
    rw [HE.out, HM.out] at this
    omega
  go_enter Try.func5, Try.ntmps5
  go_wp2_with (go_at_call 17; refine (bytes_yes a n cap s _ h0 h1 hs).mono ?_; rintro e wa ⟨rfl, rfl⟩)
  refine (clone_any a n cap olds _ hlen hnil rd (by omega)).mono ?_
  rintro e w1 ⟨a1, rfl, hnil1, rd1, bel1⟩
  go_wp2_with fail
  refine (zapp_any a1 n olds s _ hlen hnil1 rd1 h0 h1).mono ?_
  rintro e w2 ⟨v2, rfl, own2, bel2⟩
  rw [HE.out] at own2
  obtain ⟨g, c, rfl, hg, hc1, hc2, _, hcell⟩ := own_form2 own2 hlen HM (by omega)
  have hbel := bel1.trans (bel2.mono bel1.size)
  have F0 : w2.cell? ⟨g, n, none⟩ = some (.int .u8 34) := by
    have := hcell 0 (by omega)
    rw [← HE.out] at this
    exact this
  have F1 : w2.cell? ⟨g, n + (M - 1), none⟩ = some (.int .u8 34) := by
    rw [hcell (M - 1) (by omega), ← HM.out, ← HE.out, Pl.enc_last]; rfl
  have I0 : Inv E (nb s) 0 0 := by
    unfold Inv
    rw [List.drop_zero, List.drop_zero, ← HE.out, Pl.enc_hi]
  have HCell : Hid _ := hcell
  clear own2 bel1 bel2 rd1 hcell
  go_wp2
  go_loop [7, 8] (fun u v => ∃ j k : Nat, j ≤ s.size ∧ k ≤ M ∧ u = .int .i64 j ∧ v = .int .i64 k ∧ Inv E (nb s) k j) (fun _ v => M - (intOf v).toNat)
  case atStart => exact ⟨0, 0, Nat.zero_le _, Nat.zero_le _, rfl, rfl, I0⟩
  case round =>
    clear I0 F0 F1
    obtain ⟨j, k, hj, hk, rfl, rfl, hI⟩ := hrel
    by_cases hlt : k < M
    · obtain ⟨x, HX⟩ := hold_name (E.getD k 0)
      have g := HCell.out k hlt
      rw [HX.out] at g
      have hx32 := enc_ge_at HE HM HX hlt
      by_cases hx : x < 128
      · have I1 := inv_low hI (by rw [HM.out]; exact hlt) (by rw [HX.out]; exact hx)
        go_wp2
        go_round
        case rel => exact ⟨j, k + 1, hj, by omega, rfl, by go_num, I1⟩
        case measure => simp [intOf]; omega
      · go_wp2
        go_loop [7] (fun u => ∃ j' : Nat, j' ≤ s.size ∧ u = .int .i64 j' ∧ Inv E (nb s) k j') (fun u => s.size - (intOf u).toNat)
        case atStart => exact ⟨j, hj, rfl, hI⟩
        case round =>
          clear hI hj
          obtain ⟨j', hj, rfl, hI⟩ := hrel
          have hjs : j' < s.size := by
            have := inv_some hI (by rw [HM.out]; exact hlt) (by rw [HX.out]; omega)
            rwa [nb_length] at this
          obtain ⟨y, HY⟩ := hold_name (s[j'].toNat)
          have hy := HY.out
          have HY2 : Hid ((nb s).getD j' 0 = y) := by rw [← HY.out]; exact nb_getD s j' hjs
          have hjl : j' < (nb s).length := by rw [nb_length]; exact hjs
          have HJ : Hid (j' < (nb s).length) := hjl
          clear hjl
          by_cases hyl : y < 128
          · have I1 := inv_skip hI HJ.out (by rw [HY2.out]; exact hyl)
            go_wp2
            go_round
            case rel => exact ⟨j' + 1, by omega, by go_num, I1⟩
            case measure => simp [intOf]; omega
          · have I1 := inv_meet hI (by rw [HM.out]; exact hlt) (by rw [HX.out]; omega) HJ.out (by rw [HY2.out]; omega)
            have exy : x = y := by rw [← HX.out, ← HY2.out]; exact I1.1
            have I2 := I1.2
            subst exy
            clear I1 hI
            go_wp2
            go_round
            case rel => exact ⟨j' + 1, k + 1, by omega, by omega, by go_num, by go_num, I2⟩
            case measure => simp [intOf]; omega
    · obtain rfl : k = M := by omega
      go_wp2
      go_loop [7] (fun u => ∃ j' : Nat, j' ≤ s.size ∧ u = .int .i64 j' ∧ Inv E (nb s) k j') (fun u => s.size - (intOf u).toNat)
      case atStart => exact ⟨j, hj, rfl, hI⟩
      case round =>
        clear hI hj
        obtain ⟨j', hj, rfl, hI⟩ := hrel
        by_cases hjs : j' < s.size
        · obtain ⟨y, HY⟩ := hold_name (s[j'].toNat)
          have hy := HY.out
          have HY2 : Hid ((nb s).getD j' 0 = y) := by rw [← HY.out]; exact nb_getD s j' hjs
          have HJ : Hid (j' < (nb s).length) := by rw [nb_length]; exact hjs
          have hyl : y < 128 := by
            have := inv_end hI (by rw [HM.out]; exact Nat.le_refl _) HJ.out
            rwa [HY2.out] at this
          have I1 := inv_skip hI HJ.out (by rw [HY2.out]; exact hyl)
          go_wp2
          go_round
          case rel => exact ⟨j' + 1, by omega, by go_num, I1⟩
          case measure => simp [intOf]; omega
        · go_wp2
          go_ret
          exact ⟨rfl, hbel⟩

theorem walk (a0 : Option Addr) (len0 cap0 : Nat) (z0 : List Int) (a1 : ByteArray) (w : World) (w0 : IsRow .u8 w a0 len0 cap0 z0) (w1 : a1.size ≤ maxLen) :
    Calls Try.prog 5 #[.slice a0 len0 cap0, .string a1] w fun e w' => e = .returned (.bool true) ∧ Below w.heap.size w w' := by
  obtain ⟨l, hl, rd, _, hnil, hm⟩ := row_view w0
  by_cases hs : len0 + a1.size ≤ 1048576
  · exact walk_in a0 len0 cap0 l a1 w hl rd hnil hs
  · unfold maxLen at hm w1
    go_enter Try.func5, Try.ntmps5
    go_wp2_with (go_at_call 17; refine (bytes_no a0 len0 cap0 a1 _ hm w1 (by omega)).mono ?_; rintro e w' ⟨rfl, rfl⟩)
    go_ret
    exact ⟨rfl, Below.refl _ _⟩

end Go.Proofs.Qxb6000854a.fnAppendStringShape
