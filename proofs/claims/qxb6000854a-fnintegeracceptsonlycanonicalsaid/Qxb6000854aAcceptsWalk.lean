/-
  The walk of FnIntegerAcceptsOnlyCanonical (7).
-/
import Derived.Test.Qxb6000854aReadsWalk
import Derived.Deep.RegionWith
namespace Go.Proofs.Qxb6000854a.fnIntegerAcceptsOnlyCanonical
open Go.RowKit
open Go.Proofs.Qxb6000854a.fnIntegerReadsCanonical (digit_any)
set_option linter.unusedVariables false

theorem bytes_yes (a : Option Addr) (n c : Nat) (w : World) (h0 : n ≤ 1048576) :
    Calls Try.prog 22 #[.slice a n c] w fun e w' => e = .returned (.bool true) ∧ w' = w := by
  go_enter Try.func22, Try.ntmps22
  go_wp2
  go_ret
  exact ⟨rfl, rfl⟩

theorem bytes_no (a : Option Addr) (n c : Nat) (w : World) (w0 : n ≤ 9223372036854775807) (h : 1048576 < n) :
    Calls Try.prog 22 #[.slice a n c] w fun e w' => e = .returned (.bool false) ∧ w' = w := by
  go_enter Try.func22, Try.ntmps22
  go_wp2
  go_ret
  exact ⟨rfl, rfl⟩

theorem walk_long (a : Option Addr) (n cap : Nat) (w : World) (w0 : n ≤ 9223372036854775807) (hs : 1048576 < n) :
    Calls Try.prog 7 #[.slice a n cap] w fun e w' => e = .returned (.bool true) ∧ Below w.heap.size w w' := by
  go_enter Try.func7, Try.ntmps7
  go_wp2_with (go_at_call 22; refine (bytes_no a n cap _ w0 hs).mono ?_; rintro e wa ⟨rfl, rfl⟩)
  go_ret
  exact ⟨rfl, Below.refl _ _⟩

set_option maxRecDepth 100000 in
set_option maxHeartbeats 1000000 in
theorem walk_no (a : Option Addr) (n cap : Nat) (l : List Nat) (w : World) (hlen : Hid (l.length = n)) (rd : Rd w a l) (hnil : a = none → n = 0 ∧ cap = 0) (hs : n ≤ 1048576) (hi : Hid (Dec.intg l = none)) :
    Calls Try.prog 7 #[.slice a n cap] w fun e w' => e = .returned (.bool true) ∧ Below w.heap.size w w' := by
  go_enter Try.func7, Try.ntmps7
  go_wp2_with (go_at_call 22; refine (bytes_yes a n cap _ hs).mono ?_; rintro e wa ⟨rfl, rfl⟩)
  refine (clone_any a n cap l _ hlen hnil rd (by omega)).mono ?_
  rintro e w1 ⟨a1, rfl, hnil1, rd1, bel1⟩
  go_wp2_with fail
  refine (zint_no a1 l n n _ hlen rd1 (Nat.le_refl _) (by omega) (by omega) hi).mono ?_
  rintro e w2 ⟨rfl, bel2⟩
  have rd2 := rd_below rd1 bel2
  have hbel := bel1.trans (bel2.mono bel1.size)
  go_wp2_with (go_at_call 14; refine (equal_any _ _ l l _ _ _ _ _ hlen.out.symm hlen.out.symm (by omega) (by omega) rd2 rd2).mono ?_; rintro e w7 ⟨rfl, nq, rfl⟩)
  go_ret
  exact ⟨ret_bool (by simp), below_drewN hbel _⟩

theorem own_view3 {w : World} {B L : Nat} {v : Value} {l : List Nat} (h : Own w B v l) (HL : Hid (l.length = L)) : ∃ a c, v = .slice a L c ∧ Rd w a l := by
  obtain ⟨a, c, e, hr⟩ := own_view h
  rw [HL.out] at e
  exact ⟨a, c, e, hr⟩

theorem rd_from {w : World} {b o k : Nat} {l r : List Nat} (rd : Rd w (some ⟨b, o, none⟩) l) (hr : Hid (r = l.drop k)) : Rd w (some ⟨b, o + k, none⟩) r := by
  rw [hr.out]
  by_cases hne : l = []
  · subst hne; exact .inl (by simp)
  · obtain ⟨b1, o1, e, hc⟩ := rd_at rd hne
    simp at e
    obtain ⟨rfl, rfl⟩ := e
    by_cases hk : k ≤ l.length
    · exact rd_drop (m := l.length) rfl (cells_of_rd rfl hc) hk
    · exact .inl (List.drop_of_length_le (by omega))

theorem rd_upto {w : World} {a : Option Addr} {k : Nat} {l : List Nat} (rd : Rd w a l) : Rd w a (l.take k) := by
  by_cases hne : l = []
  · subst hne; exact .inl (by simp)
  · obtain ⟨b1, o1, e, hc⟩ := rd_at rd hne
    refine .inr ⟨b1, o1, e, fun i hi => ?_⟩
    have hi2 : i < l.length := by simp at hi; omega
    have hik : i < k := by simp at hi; omega
    rw [hc i hi2]
    simp [List.getD, List.getElem?_take_of_lt hik]

theorem first_of {w : World} {a : Option Addr} {L k : Nat} {r l : List Nat} (HL : Hid (r.length = L)) (hL0 : 0 < L) (rd : Rd w a r) (hst : Hid (r = [] ∨ Dec.isD (r.headD 0) = false)) (hl8 : Hid (∀ x ∈ l, x < 256)) (hr : Hid (r = l.drop k)) :
    ∃ b o d, a = some ⟨b, o, none⟩ ∧ d < 256 ∧ Hid (Dec.isD d = false) ∧ w.cell? ⟨b, o, none⟩ = some (.int .u8 (d : Int)) := by
  have hne : r ≠ [] := fun e => by rw [e] at HL; have := HL.out; simp at this; omega
  obtain ⟨b, o, rfl, hc⟩ := rd_at rd hne
  cases r with
  | nil => exact absurd rfl hne
  | cons d t =>
    refine ⟨b, o, d, rfl, ?_, ?_, hc 0 (by simp)⟩
    · exact hl8.out d (List.mem_of_mem_drop (i := k) (by rw [← hr.out]; simp))
    · rcases hst.out with h | h
      · exact absurd h hne
      · exact h

set_option maxRecDepth 100000 in
set_option maxHeartbeats 400000 in
theorem walk_ok (b off cap k L : Nat) (l r : List Nat) (v : Int) (w : World) (hlen : Hid (l.length = k + L)) (rd : Rd w (some ⟨b, off, none⟩) l) (hs : k + L ≤ 1048576) (hi : Hid (Dec.intg l = some (v, r)))
    (hk0 : 0 < k) (hr : Hid (r = l.drop k)) (HL : Hid (r.length = L)) (hL0 : 0 < L) (hit : Hid (Dec.itoa v = l.take k)) (hv1 : v ≤ 9999999999999999) (hv2 : -9999999999999999 ≤ v) (hst : Hid (r = [] ∨ Dec.isD (r.headD 0) = false)) (hl8 : Hid (∀ x ∈ l, x < 256)) :
    Calls Try.prog 7 #[.slice (some ⟨b, off, none⟩) (k + L) cap] w fun e w' => e = .returned (.bool true) ∧ Below w.heap.size w w' := by
  have hv1' : decide ((9999999999999999 : Int) < v) = false := by rw [decide_eq_false_iff_not]; omega
  have hv2' : decide (v < -9999999999999999) = false := by rw [decide_eq_false_iff_not]; omega
  go_enter Try.func7, Try.ntmps7
  go_wp2_with (go_at_call 22; refine (bytes_yes _ (k + L) cap _ hs).mono ?_; rintro e wa ⟨rfl, rfl⟩)
  refine (clone_any _ (k + L) cap l _ hlen (fun h => by simp at h) rd (by omega)).mono ?_
  rintro e w1 ⟨a1, rfl, hnil1, rd1, bel1⟩
  obtain ⟨b1, o1, rfl, hc1⟩ := rd_at rd1 (fun e => by rw [e] at hlen; have := hlen.out; simp at this; omega)
  clear hnil1
  go_wp2_with fail
  refine (zint_ok _ l (k + L) (k + L) _ v r L hlen rd1 (Nat.le_refl _) (by omega) (by omega) hi HL).mono ?_
  rintro e w2 ⟨a2, c2, rfl, rd2, bel2⟩
  have hbel := bel1.trans (bel2.mono bel1.size)
  have rdl := rd_below rd1 bel2
  clear rd1 bel1 bel2 hc1
  have hkc : ¬ k + L = k := by omega
  have hkL : (k : Int) ≤ (k : Int) + (L : Int) := by omega
  go_wp2_with fail
  have rdk : Rd w2 (some ⟨b1, o1 + k, none⟩) r := rd_from rdl hr
  have rdt : Rd w2 (some ⟨b1, o1, none⟩) (l.take k) := rd_upto rdl
  have HT : Hid ((l.take k).length = k) := by show (l.take k).length = k; rw [List.length_take, hlen.out]; omega
  refine (equal_any _ _ r r _ _ _ _ _ HL.out.symm HL.out.symm (by omega) (by omega) rdk rd2).mono ?_
  rintro e w3 ⟨rfl, nq, rfl⟩
  have hb3 : Below wa.heap.size wa (w2.drewN nq) := below_drewN hbel nq
  obtain ⟨b2, o2, d, rfl, hd8, hdD, g0⟩ := first_of HL hL0 rd2 hst hl8 hr
  have rdt3 : Rd (w2.drewN nq) (some ⟨b1, o1, none⟩) (l.take k) := rdt
  have g3 : (w2.drewN nq).cell? ⟨b2, o2, none⟩ = some (.int .u8 (d : Int)) := g0
  have HW : Hid (w2.heap.size ≤ (w2.drewN nq).heap.size) := Nat.le_refl _
  obtain ⟨w4, HW4⟩ := hold_name (w2.drewN nq)
  rw [HW4.out] at hb3 rdt3 g3 ⊢
  clear rdk rdt rd2 rdl g0 hbel HW HW4
  have hpL : (0 : Int) < (L : Int) := by omega
  have eT : decide (r = r) = true := by simp
  rw [eT]
  go_wp2_with (go_at_call 19; refine (digit_any d _ hd8).mono ?_; rintro e wb ⟨rfl, rfl⟩; rw [hdD.out])
  have rdtd : Rd wb.drew (some ⟨b1, o1, none⟩) (l.take k) := rdt3
  have hbd := hb3.drew
  have HP : Hid ((Dec.itoa v).length = k) := by show (Dec.itoa v).length = k; rw [hit.out]; exact HT.out
  have hkk : (k : Int) ≤ (k : Int) + (L : Int) := by omega
  clear rdt3 hb3 g3
  go_region_with (first | (go_at_call 20; refine (itoa_any v _ hv1 hv2).mono ?_; rintro e w5 ⟨v5, rfl, own5, bel5⟩; obtain ⟨x5, c5, rfl, rd5⟩ := own_view3 own5 HP; have rd6 := rd_below rdtd bel5; have hb6 := hbd.trans (bel5.mono hbd.size); clear own5 bel5) | (go_at_call 14; refine (equal_any _ _ (Dec.itoa v) (l.take k) _ _ k k _ HP.out.symm HT.out.symm (by omega) (by omega) rd5 rd6).mono ?_; rintro e w7 ⟨rfl, nq2, rfl⟩))
  all_goals
    go_wp2
    go_ret
    exact ⟨ret_bool (by rw [hit.out]; simp), below_drewN hb6 _⟩

set_option maxRecDepth 100000 in
set_option maxHeartbeats 400000 in
theorem walk_all (b off cap k : Nat) (l : List Nat) (v : Int) (w : World) (hlen : Hid (l.length = k)) (rd : Rd w (some ⟨b, off, none⟩) l) (hs : k ≤ 1048576) (hi : Hid (Dec.intg l = some (v, [])))
    (hk0 : 0 < k) (hit : Hid (Dec.itoa v = l)) (hv1 : v ≤ 9999999999999999) (hv2 : -9999999999999999 ≤ v) :
    Calls Try.prog 7 #[.slice (some ⟨b, off, none⟩) k cap] w fun e w' => e = .returned (.bool true) ∧ Below w.heap.size w w' := by
  have hv1' : decide ((9999999999999999 : Int) < v) = false := by rw [decide_eq_false_iff_not]; omega
  have hv2' : decide (v < -9999999999999999) = false := by rw [decide_eq_false_iff_not]; omega
  go_enter Try.func7, Try.ntmps7
  go_wp2_with (go_at_call 22; refine (bytes_yes _ k cap _ hs).mono ?_; rintro e wa ⟨rfl, rfl⟩)
  refine (clone_any _ k cap l _ hlen (fun h => by simp at h) rd (by omega)).mono ?_
  rintro e w1 ⟨a1, rfl, hnil1, rd1, bel1⟩
  obtain ⟨b1, o1, rfl, hc1⟩ := rd_at rd1 (fun e => by rw [e] at hlen; have := hlen.out; simp at this; omega)
  clear hnil1
  go_wp2_with fail
  refine (zint_ok _ l k k _ v [] 0 hlen rd1 (Nat.le_refl _) (by omega) (by omega) hi rfl).mono ?_
  rintro e w2 ⟨a2, c2, rfl, rd2, bel2⟩
  have hbel := bel1.trans (bel2.mono bel1.size)
  have rdl := rd_below rd1 bel2
  clear rd1 bel1 bel2 hc1
  go_wp2_with fail
  refine (equal_any _ _ [] [] _ _ 0 0 _ rfl rfl (by omega) (by omega) (.inl rfl) (.inl rfl)).mono ?_
  rintro e w3 ⟨rfl, nq, rfl⟩
  have hb3 : Below wa.heap.size wa (w2.drewN nq) := below_drewN hbel nq
  have rdt3 : Rd (w2.drewN nq) (some ⟨b1, o1, none⟩) l := rdl
  obtain ⟨w4, HW4⟩ := hold_name (w2.drewN nq)
  rw [HW4.out] at hb3 rdt3 ⊢
  clear rd2 rdl hbel HW4
  have eT : decide (([] : List Nat) = []) = true := by simp
  rw [eT]
  go_wp2_with fail
  have rdtd : Rd w4.drew (some ⟨b1, o1, none⟩) l := rdt3
  have hbd := hb3.drew
  have HP : Hid ((Dec.itoa v).length = k) := by show (Dec.itoa v).length = k; rw [hit.out]; exact hlen.out
  clear rdt3 hb3
  go_region_with (first | (go_at_call 20; refine (itoa_any v _ hv1 hv2).mono ?_; rintro e w5 ⟨v5, rfl, own5, bel5⟩; obtain ⟨x5, c5, rfl, rd5⟩ := own_view3 own5 HP; have rd6 := rd_below rdtd bel5; have hb6 := hbd.trans (bel5.mono hbd.size); clear own5 bel5) | (go_at_call 14; refine (equal_any _ _ (Dec.itoa v) l _ _ k k _ HP.out.symm hlen.out.symm (by omega) (by omega) rd5 rd6).mono ?_; rintro e w7 ⟨rfl, nq2, rfl⟩))
  all_goals
    go_wp2
    go_ret
    exact ⟨ret_bool (by rw [hit.out]; simp), below_drewN hb6 _⟩

theorem walk (a0 : Option Addr) (len0 cap0 : Nat) (z0 : List Int) (w : World) (w0 : IsRow .u8 w a0 len0 cap0 z0) :
    Calls Try.prog 7 #[.slice a0 len0 cap0] w fun e w' => e = .returned (.bool true) ∧ Below w.heap.size w w' := by
  obtain ⟨l, hl, rd, hl8, hnil, hm⟩ := row_view w0
  unfold maxLen at hm
  by_cases hs : len0 ≤ 1048576
  · cases hi : Dec.intg l with
    | none => exact walk_no a0 len0 cap0 l w hl rd hnil hs hi
    | some p =>
      obtain ⟨v, r⟩ := p
      obtain ⟨k, hk0, hkn, hr, hit, hv1, hv2, hst⟩ := Dec.intg_some hi
      obtain ⟨b, off, rfl, _⟩ := rd_at rd (fun e => by rw [e] at hkn; simp at hkn; omega)
      have hrl : r.length = len0 - k := by rw [hr, List.length_drop, hl]
      by_cases hL : k = len0
      · obtain rfl : r = [] := List.eq_nil_of_length_eq_zero (by omega)
        subst hL
        rw [List.take_of_length_le (by omega)] at hit
        exact walk_all b off cap0 k l v w hl rd hs hi hk0 hit hv1 hv2
      · obtain ⟨L, rfl⟩ : ∃ L, len0 = k + L := ⟨len0 - k, by omega⟩
        exact walk_ok b off cap0 k L l r v w hl rd hs hi hk0 hr (show r.length = L by omega) (by omega) hit hv1 hv2 hst hl8
  · exact walk_long a0 len0 cap0 w hm (by omega)

end Go.Proofs.Qxb6000854a.fnIntegerAcceptsOnlyCanonical
