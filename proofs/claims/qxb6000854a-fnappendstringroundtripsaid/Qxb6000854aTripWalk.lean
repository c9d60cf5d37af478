/-
  The walk of FnAppendStringRoundTrip (3).
-/
import Derived.Test.Qxb6000854aDecode
namespace Go.Proofs.Qxb6000854a.fnAppendStringRoundTrip
open Go.RowKit
set_option linter.unusedVariables false

theorem bytes_yes (a : Option Addr) (n c : Nat) (s : ByteArray) (w : World) (h0 : n ≤ 1048576) (h1 : s.size ≤ 1048576) (h2 : n + s.size ≤ 1048576) :
    Calls Try.prog 11 #[.slice a n c, .string s] w fun e w' => e = .returned (.bool true) ∧ w' = w := by
  go_enter Try.func11, Try.ntmps11
  go_wp2
  go_ret
  exact ⟨rfl, rfl⟩

theorem bytes_no (a : Option Addr) (n c : Nat) (s : ByteArray) (w : World) (w0 : n ≤ 9223372036854775807) (w1 : s.size ≤ 9223372036854775807) (h : 1048576 < n + s.size) :
    Calls Try.prog 11 #[.slice a n c, .string s] w fun e w' => e = .returned (.bool false) ∧ w' = w := by
  by_cases h0 : n ≤ 1048576
  · by_cases h1 : s.size ≤ 1048576
    · go_enter Try.func11, Try.ntmps11
      go_wp2
      go_ret
      exact ⟨rfl, rfl⟩
    · go_enter Try.func11, Try.ntmps11
      go_wp2
      go_ret
      exact ⟨rfl, rfl⟩
  · go_enter Try.func11, Try.ntmps11
    go_wp2
    go_ret
    exact ⟨rfl, rfl⟩

set_option maxRecDepth 100000 in
set_option maxHeartbeats 1000000 in
theorem walk_in (a : Option Addr) (n cap : Nat) (olds : List Nat) (s : ByteArray) (w : World) (hlen : Hid (olds.length = n)) (rd : Rd w a olds) (hnil : a = none → n = 0 ∧ cap = 0) (hs : n + s.size ≤ 1048576) :
    Calls Try.prog 3 #[.slice a n cap, .string s] w fun e w' => e = .returned (.bool true) ∧ Below w.heap.size w w' := by
  have h0 : n ≤ 1048576 := by omega
  have h1 : s.size ≤ 1048576 := by omega
  obtain ⟨E, HE⟩ := hold_name (Pl.enc (nb s))
  obtain ⟨M, HM⟩ := hold_name E.length
  have hM1 : s.size + 2 ≤ M := by
    have := (Pl.encL_len (nb s)).1
    have := Pl.enc_len (nb s)
    rw [nb_length] at *
    rw [HE.out, HM.out] at this
    omega
  have hM2 : M ≤ 6 * s.size + 2 := by
    have := (Pl.encL_len (nb s)).2
    have := Pl.enc_len (nb s)
    rw [nb_length] at *
    rw [HE.out, HM.out] at this
    omega
  go_enter Try.func3, Try.ntmps3
  go_wp2_with (go_at_call 11; refine (bytes_yes a n cap s _ h0 h1 hs).mono ?_; rintro e wa ⟨rfl, rfl⟩)
  refine (clone_any a n cap olds _ hlen hnil rd (by omega)).mono ?_
  rintro e w1 ⟨a1, rfl, hnil1, rd1, bel1⟩
  go_wp2_with fail
  refine (zapp_any a1 n olds s _ hlen hnil1 rd1 h0 h1).mono ?_
  rintro e w2 ⟨v2, rfl, own2, bel2⟩
  rw [HE.out] at own2
  obtain ⟨g, c, rfl, hg, hc1, hc2, hcell0, hcell⟩ := own_form2 own2 hlen HM (by omega)
  have hbel := bel1.trans (bel2.mono bel1.size)
  have rdo : Rd w2 (some ⟨g, 0, none⟩) olds := .inr ⟨g, 0, rfl, fun i hi => by rw [Nat.zero_add]; exact hcell0 i (by rw [hlen.out] at hi; exact hi)⟩
  have rdb : Rd w2 a1 olds := rd_below rd1 bel2
  have HEnc : EncAt w2 g n M (nb s) := ⟨by rw [HE.out, HM.out], by rw [HE.out]; exact hcell⟩
  clear own2 bel1 bel2 rd1 hcell0 hcell
  go_wp2_with fail
  refine (equal_any _ a1 olds olds _ _ _ _ _ hlen.out.symm hlen.out.symm (by omega) (by omega) rdo rdb).mono ?_
  rintro e w3 ⟨rfl, nq, rfl⟩
  have HE3 : EncAt (w2.drewN nq) g n M (nb s) := HEnc
  clear rdo rdb HEnc
  go_wp2_with fail
  refine (decode_any g n M _ s _ HE3 (by omega)).mono ?_
  rintro e w4 ⟨rfl, bel4⟩
  have hfin := hbel.trans ((below_drewN (Below.refl _ _) nq).trans (bel4.mono hbel.size))
  clear HE3 bel4 hbel
  go_wp2
  go_ret
  exact ⟨rfl, hfin⟩

theorem walk (a0 : Option Addr) (len0 cap0 : Nat) (z0 : List Int) (a1 : ByteArray) (w : World) (w0 : IsRow .u8 w a0 len0 cap0 z0) (w1 : a1.size ≤ maxLen) :
    Calls Try.prog 3 #[.slice a0 len0 cap0, .string a1] w fun e w' => e = .returned (.bool true) ∧ Below w.heap.size w w' := by
  obtain ⟨l, hl, rd, _, hnil, hm⟩ := row_view w0
  by_cases hs : len0 + a1.size ≤ 1048576
  · exact walk_in a0 len0 cap0 l a1 w hl rd hnil hs
  · unfold maxLen at hm w1
    go_enter Try.func3, Try.ntmps3
    go_wp2_with (go_at_call 11; refine (bytes_no a0 len0 cap0 a1 _ hm w1 (by omega)).mono ?_; rintro e w' ⟨rfl, rfl⟩)
    go_ret
    exact ⟨rfl, Below.refl _ _⟩

end Go.Proofs.Qxb6000854a.fnAppendStringRoundTrip
