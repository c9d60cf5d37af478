/-
  The walk of FnIntegerReadsCanonical (6).
-/
import Derived.Test.Qxb6000854aIntAny
namespace Go.Proofs.Qxb6000854a.fnIntegerReadsCanonical
open Go.RowKit
set_option linter.unusedVariables false

theorem bytes_yes (x : Int) (a : Option Addr) (n c : Nat) (w : World) (h0 : n ≤ 1048576) :
    Calls Try.prog 18 #[.int .i64 x, .slice a n c] w fun e w' => e = .returned (.bool true) ∧ w' = w := by
  go_enter Try.func18, Try.ntmps18
  go_wp2
  go_ret
  exact ⟨rfl, rfl⟩

theorem bytes_no (x : Int) (a : Option Addr) (n c : Nat) (w : World) (w0 : n ≤ 9223372036854775807) (h : 1048576 < n) :
    Calls Try.prog 18 #[.int .i64 x, .slice a n c] w fun e w' => e = .returned (.bool false) ∧ w' = w := by
  go_enter Try.func18, Try.ntmps18
  go_wp2
  go_ret
  exact ⟨rfl, rfl⟩

theorem digit_any (d : Nat) (w : World) (hd : d < 256) : Calls Try.prog 19 #[.int .u8 (d : Int)] w fun e w' => e = .returned (.bool (Dec.isD d)) ∧ w' = w := by
  by_cases h1 : 48 ≤ d
  · by_cases h2 : d ≤ 57
    · have e : Dec.isD d = true := by unfold Dec.isD; rw [decide_eq_true_eq]; omega
      rw [e]
      have k2 : decide ((d : Int) ≤ 57) = true := by rw [decide_eq_true_eq]; omega
      go_enter Try.func19, Try.ntmps19
      go_wp2
      go_ret
      exact ⟨rfl, rfl⟩
    · have e : Dec.isD d = false := by unfold Dec.isD; rw [decide_eq_false_iff_not]; omega
      rw [e]
      have k2 : decide ((d : Int) ≤ 57) = false := by rw [decide_eq_false_iff_not]; omega
      go_enter Try.func19, Try.ntmps19
      go_wp2
      go_ret
      exact ⟨rfl, rfl⟩
  · have e : Dec.isD d = false := by unfold Dec.isD; rw [decide_eq_false_iff_not]; omega
    rw [e]
    have k2 : decide ((48 : Int) ≤ (d : Int)) = false := by rw [decide_eq_false_iff_not]; omega
    go_enter Try.func19, Try.ntmps19
    go_wp2
    go_ret
    exact ⟨rfl, rfl⟩

theorem take_grow {l : List Nat} {k y : Nat} (hk : k < l.length) (hy : l.getD k 0 = y) : l.take k ++ [y] = l.take (k + 1) := by
  rw [List.take_succ_eq_append_getElem hk]
  simp [List.getD, hk] at hy
  rw [hy]

/-- The input as it is put together: the head's first k bytes, or the head and the tail's first k. -/
def H1 (hd : List Nat) (k : Nat) : List Nat := hd.take k
def H2 (hd tl : List Nat) (k : Nat) : List Nat := hd ++ tl.take k

theorem H1_next {w wr w2 : World} {B : Nat} {v : Value} {hd : List Nat} {k y : Nat} (h : Own w2 B v (H1 hd k ++ [y])) (hk : k < hd.length) (hy : hd.getD k 0 = y) (hb : Below B w wr) (hb2 : Below B wr w2) :
    Own w2 B v (H1 hd (k + 1)) ∧ Below B w w2 := by
  refine ⟨?_, hb.trans hb2⟩
  unfold H1 at *
  rw [← take_grow hk hy]; exact h

theorem H2_next {w wr w2 : World} {B : Nat} {v : Value} {hd tl : List Nat} {k y : Nat} (h : Own w2 B v (H2 hd tl k ++ [y])) (hk : k < tl.length) (hy : tl.getD k 0 = y) (hb : Below B w wr) (hb2 : Below B wr w2) :
    Own w2 B v (H2 hd tl (k + 1)) ∧ Below B w w2 := by
  refine ⟨?_, hb.trans hb2⟩
  unfold H2 at *
  rw [← take_grow hk hy, ← List.append_assoc]; exact h

theorem H1_len (hd : List Nat) (k : Nat) : (H1 hd k).length ≤ k := List.length_take_le _ _
theorem H2_len (hd tl : List Nat) (k : Nat) : (H2 hd tl k).length ≤ hd.length + k := by
  unfold H2
  have := List.length_take_le k tl
  simp
  omega

theorem H1_end {w : World} {B : Nat} {v : Value} {hd tl : List Nat} {n : Nat} (Hn : Hid (hd.length = n)) (h : Own w B v (H1 hd n)) : Own w B v (H2 hd tl 0) := by
  have e : H1 hd n = H2 hd tl 0 := by unfold H1 H2; rw [List.take_of_length_le (by rw [Hn.out]; exact Nat.le_refl _)]; simp
  rw [← e]; exact h

theorem H2_end {w : World} {B : Nat} {v : Value} {hd tl : List Nat} {n : Nat} (Hn : Hid (tl.length = n)) (h : Own w B v (H2 hd tl n)) : Own w B v (hd ++ tl) := by
  have e : H2 hd tl n = hd ++ tl := by unfold H2; rw [List.take_of_length_le (by rw [Hn.out]; exact Nat.le_refl _)]
  rw [← e]; exact h

/-- The tail begins with a digit: true at once. -/
theorem walk_digit (x : Int) (b off n cap d : Nat) (w : World) (hx1 : x ≤ 9999999999999999) (hx2 : -9999999999999999 ≤ x) (hn0 : 0 < n) (hs : n ≤ 1048576) (hd8 : d < 256) (hfirst : w.cell? ⟨b, off, none⟩ = some (.int .u8 (d : Int))) (hd : Hid (Dec.isD d = true)) :
    Calls Try.prog 6 #[.int .i64 x, .slice (some ⟨b, off, none⟩) n cap] w fun e w' => e = .returned (.bool true) ∧ Below w.heap.size w w' := by
  have k1 : decide ((9999999999999999 : Int) < x) = false := by rw [decide_eq_false_iff_not]; omega
  have k2 : decide (x < -9999999999999999) = false := by rw [decide_eq_false_iff_not]; omega
  have hp : (0 : Int) < (n : Int) := by omega
  go_enter Try.func6, Try.ntmps6
  go_wp2_with (first | (go_at_call 18; refine (bytes_yes x _ n cap _ hs).mono ?_; rintro e wa ⟨rfl, rfl⟩) | (go_at_call 19; refine (digit_any d _ hd8).mono ?_; rintro e wb ⟨rfl, rfl⟩; rw [hd.out]))
  go_ret
  exact ⟨rfl, Below.refl _ _⟩

/-- The number is out of range: true at once. -/
theorem walk_big (x : Int) (a : Option Addr) (n cap : Nat) (w : World) (hs : n ≤ 1048576) (h : 9999999999999999 < x) :
    Calls Try.prog 6 #[.int .i64 x, .slice a n cap] w fun e w' => e = .returned (.bool true) ∧ Below w.heap.size w w' := by
  have k1 : decide ((9999999999999999 : Int) < x) = true := by rw [decide_eq_true_eq]; omega
  go_enter Try.func6, Try.ntmps6
  go_wp2_with (go_at_call 18; refine (bytes_yes x _ n cap _ hs).mono ?_; rintro e wa ⟨rfl, rfl⟩)
  go_ret
  exact ⟨rfl, Below.refl _ _⟩

theorem walk_small (x : Int) (a : Option Addr) (n cap : Nat) (w : World) (hs : n ≤ 1048576) (h : x < -9999999999999999) :
    Calls Try.prog 6 #[.int .i64 x, .slice a n cap] w fun e w' => e = .returned (.bool true) ∧ Below w.heap.size w w' := by
  have k1 : decide ((9999999999999999 : Int) < x) = false := by rw [decide_eq_false_iff_not]; omega
  have k2 : decide (x < -9999999999999999) = true := by rw [decide_eq_true_eq]; omega
  go_enter Try.func6, Try.ntmps6
  go_wp2_with (go_at_call 18; refine (bytes_yes x _ n cap _ hs).mono ?_; rintro e wa ⟨rfl, rfl⟩)
  go_ret
  exact ⟨rfl, Below.refl _ _⟩

theorem walk_long (x : Int) (a : Option Addr) (n cap : Nat) (w : World) (w0 : n ≤ 9223372036854775807) (hs : 1048576 < n) :
    Calls Try.prog 6 #[.int .i64 x, .slice a n cap] w fun e w' => e = .returned (.bool true) ∧ Below w.heap.size w w' := by
  go_enter Try.func6, Try.ntmps6
  go_wp2_with (go_at_call 18; refine (bytes_no x _ n cap _ w0 hs).mono ?_; rintro e wa ⟨rfl, rfl⟩)
  go_ret
  exact ⟨rfl, Below.refl _ _⟩

theorem rd_below2 {w2 wr : World} {a : Option Addr} {l : List Nat} (h : Rd w2 a l) (hb : Below w2.heap.size w2 wr) : Rd wr a l := rd_below h hb

set_option maxRecDepth 100000 in
set_option maxHeartbeats 1000000 in
theorem walk_zero (x : Int) (a : Option Addr) (cap : Nat) (w : World) (hx1 : x ≤ 9999999999999999) (hx2 : -9999999999999999 ≤ x) (hnil : a = none → (0 : Nat) = 0 ∧ cap = 0) :
    Calls Try.prog 6 #[.int .i64 x, .slice a 0 cap] w fun e w' => e = .returned (.bool true) ∧ Below w.heap.size w w' := by
  obtain ⟨i0, hi, hz0, hz1, hz2⟩ := info_parts Try.info5
  have k1 : decide ((9999999999999999 : Int) < x) = false := by rw [decide_eq_false_iff_not]; omega
  have k2 : decide (x < -9999999999999999) = false := by rw [decide_eq_false_iff_not]; omega
  obtain ⟨hd', HH⟩ := hold_name (Dec.itoa x)
  obtain ⟨H, HL⟩ := hold_name hd'.length
  have hHb := itoa_len x hx1 hx2
  rw [HH.out, HL.out] at hHb
  obtain ⟨hH1, hH2⟩ := hHb
  have hin : Hid (Dec.intg (hd' ++ []) = some (x, [])) := by rw [← HH.out]; exact Dec.intg_itoa x [] hx1 hx2 (.inl rfl)
  go_enter Try.func6, Try.ntmps6
  go_wp2_with (go_at_call 18; refine (bytes_yes x a 0 cap _ (by omega)).mono ?_; rintro e wa ⟨rfl, rfl⟩)
  refine (clone_any a 0 cap [] _ rfl (fun h => ⟨rfl, (hnil h).2⟩) (.inl rfl) (by omega)).mono ?_
  rintro e w1 ⟨a1, rfl, hnil1, rd1, bel1⟩
  clear rd1
  go_wp2_with fail
  refine (itoa_any x _ hx1 hx2).mono ?_
  rintro e w2 ⟨v2, rfl, own2, bel2⟩
  rw [HH.out] at own2
  obtain ⟨g, c, e2, hg, hc1, hc2, hcell⟩ := own_form own2 (by rw [HL.out]; omega)
  rw [HL.out] at e2 hcell
  subst e2
  have hbel := bel1.trans (bel2.mono bel1.size)
  have HCell : Hid (∀ i y, i < H → hd'.getD i 0 = y → w2.cell? ⟨g, i, none⟩ = some (.int .u8 (y : Int))) := fun i y hi hy => by rw [hcell i hi, hy]
  clear hcell own2 bel1 bel2
  go_wp2_with (at_make; refine wpList_make_own _ rfl _ _ 22 rfl w2.heap.size 5 i0 (.int .u8 0) 1 Try.underlying22 hi hz0 hz1 _ _ _ (H + 0) rfl rfl (by omega) (by rw [hz2]; omega) (by unfold maxLen; omega) (Nat.le_refl _) ?_)
  intro w3 hown hgrow
  have O0 : Own w3 w2.heap.size (.slice (some ⟨w2.heap.size, 0, none⟩) 0 (H + 0)) (H1 hd' 0) := hown
  have B0 : Below w2.heap.size w2 w3 := (Below.refl _ w2).grown hgrow (Nat.le_refl _) (by simp)
  clear hown hgrow
  go_wp2
  go_loopw [6, 7] (fun v i wr => ∃ k : Nat, k ≤ H ∧ i = .int .i64 k ∧ Own wr w2.heap.size v (H1 hd' k) ∧ Below w2.heap.size w2 wr) (fun _ i _ => H - (intOf i).toNat)
  case atStart => exact ⟨0, Nat.zero_le _, rfl, O0, B0⟩
  case round =>
    clear O0 B0
    obtain ⟨k, hk, rfl, hown, hb⟩ := hrel
    have hbs := hb.size
    have hll := H1_len hd' k
    by_cases hlt : k < H
    · obtain ⟨y, HY⟩ := hold_name (hd'.getD k 0)
      have g0 := HCell.out k y hlt HY.out
      have g1 : wr.cell? ⟨g, k, none⟩ = some (.int .u8 (y : Int)) := (hb.cell (p := ⟨g, k, none⟩) (World.block_lt_of_cell? w2 _ g0)).trans g0
      clear g0
      go_wp2_with (at_builtin; refine law_app rfl (.tmp 50) (.tmp 55) rfl _ wr w2.heap.size (H1 hd' k) [y] _ _ 1 rfl rfl rfl hown hbs rfl (by simp; omega) ?_)
      intro v' w4 hown' hb2
      have R := H1_next hown' (by rw [HL.out]; exact hlt) HY.out hb hb2
      clear hown' hb2 hown hb g1
      go_wp2
      go_roundw
      case rel => exact ⟨k + 1, by omega, by go_num, R.1, R.2⟩
      case measure => simp [intOf]; omega
    · obtain rfl : k = H := by omega
      have O1 := H1_end (tl := []) HL hown
      clear hown
      go_wp2
      have O2 : Own wr w2.heap.size _ (hd' ++ []) := H2_end (tl := []) rfl O1
      clear O1
      obtain ⟨g5, c5, e5, hg5, hc5, hc6, hcell5⟩ := own_form O2 (by rw [List.length_append, HL.out]; omega)
      have HLL : Hid ((hd' ++ []).length = k + 0) := by show (hd' ++ []).length = k + 0; rw [List.length_append, HL.out]; rfl
      have rd5 : Rd wr (some ⟨g5, 0, none⟩) (hd' ++ []) := .inr ⟨g5, 0, rfl, fun i hi => by rw [Nat.zero_add]; exact hcell5 i hi⟩
      rw [HLL.out] at e5 hc5
      subst e5
      clear O2 hcell5
      refine wp_loop_rounds 1 ?_
      rw [rounds_succ]
      go_wp2_with fail
      refine (zint_ok (some ⟨g5, 0, none⟩) (hd' ++ []) (k + 0) c5 _ x [] 0 HLL rd5 hc5 hc6 (by omega) hin rfl).mono ?_
      rintro e w6 ⟨a6, c6, rfl, rd6, bel6⟩
      have hxx : (x == x) = true := by simp
      have rdt : Rd w6 a1 [] := .inl rfl
      have hfin := hbel.trans ((hb.mono hbel.size).trans (bel6.mono (Nat.le_trans hbel.size hb.size)))
      go_wp2_with (go_at_call 14; refine (equal_any _ _ [] [] _ _ 0 0 _ rfl rfl (by omega) (by omega) rd6 rdt).mono ?_; rintro e w7 ⟨rfl, nq, rfl⟩)
      go_ret
      exact ⟨ret_bool (by simp), below_drewN hfin _⟩

set_option maxRecDepth 100000 in
set_option maxHeartbeats 1000000 in
theorem walk_more (x : Int) (b off n cap d : Nat) (tl : List Nat) (w : World) (hx1 : x ≤ 9999999999999999) (hx2 : -9999999999999999 ≤ x) (hlen : Hid (tl.length = n)) (rd : Rd w (some ⟨b, off, none⟩) tl) (hn0 : 0 < n) (hs : n ≤ 1048576)
    (hd8 : d < 256) (hfirst : w.cell? ⟨b, off, none⟩ = some (.int .u8 (d : Int))) (hd : Hid (Dec.isD d = false)) (ht : Hid (tl = [] ∨ Dec.isD (tl.headD 0) = false)) :
    Calls Try.prog 6 #[.int .i64 x, .slice (some ⟨b, off, none⟩) n cap] w fun e w' => e = .returned (.bool true) ∧ Below w.heap.size w w' := by
  obtain ⟨i0, hi, hz0, hz1, hz2⟩ := info_parts Try.info5
  have k1 : decide ((9999999999999999 : Int) < x) = false := by rw [decide_eq_false_iff_not]; omega
  have k2 : decide (x < -9999999999999999) = false := by rw [decide_eq_false_iff_not]; omega
  obtain ⟨hd', HH⟩ := hold_name (Dec.itoa x)
  obtain ⟨H, HL⟩ := hold_name hd'.length
  have hHb := itoa_len x hx1 hx2
  rw [HH.out, HL.out] at hHb
  obtain ⟨hH1, hH2⟩ := hHb
  have hin : Hid (Dec.intg (hd' ++ tl) = some (x, tl)) := by rw [← HH.out]; exact Dec.intg_itoa x tl hx1 hx2 ht.out
  have hp : (0 : Int) < (n : Int) := by omega
  go_enter Try.func6, Try.ntmps6
  go_wp2_with (first | (go_at_call 18; refine (bytes_yes x _ n cap _ hs).mono ?_; rintro e wa ⟨rfl, rfl⟩) | (go_at_call 19; refine (digit_any d _ hd8).mono ?_; rintro e wb ⟨rfl, rfl⟩; rw [hd.out]))
  refine (clone_any _ n cap tl _ hlen (fun h => by simp at h) rd (by omega)).mono ?_
  rintro e w1 ⟨a1, rfl, hnil1, rd1, bel1⟩
  go_wp2_with fail
  refine (itoa_any x _ hx1 hx2).mono ?_
  rintro e w2 ⟨v2, rfl, own2, bel2⟩
  rw [HH.out] at own2
  obtain ⟨g, c, e2, hg, hc1, hc2, hcell⟩ := own_form own2 (by rw [HL.out]; omega)
  rw [HL.out] at e2 hcell
  subst e2
  have hbel := bel1.trans (bel2.mono bel1.size)
  have rd2 := rd_below rd1 bel2
  obtain ⟨bt, ot, rfl, hct⟩ := rd_at rd2 (fun e => by rw [e] at hlen; have := hlen.out; simp at this; omega)
  have HCT : Hid (∀ i y, i < n → tl.getD i 0 = y → w2.cell? ⟨bt, ot + i, none⟩ = some (.int .u8 (y : Int))) := fun i y hi hy => by rw [hct i (by rw [hlen.out]; exact hi), hy]
  clear rd1 hct
  have HCell : Hid (∀ i y, i < H → hd'.getD i 0 = y → w2.cell? ⟨g, i, none⟩ = some (.int .u8 (y : Int))) := fun i y hi hy => by rw [hcell i hi, hy]
  clear hcell own2 bel1 bel2
  go_wp2_with (at_make; refine wpList_make_own _ rfl _ _ 22 rfl w2.heap.size 5 i0 (.int .u8 0) 1 Try.underlying22 hi hz0 hz1 _ _ _ (H + n) rfl rfl (by omega) (by rw [hz2]; omega) (by unfold maxLen; omega) (Nat.le_refl _) ?_)
  intro w3 hown hgrow
  have O0 : Own w3 w2.heap.size (.slice (some ⟨w2.heap.size, 0, none⟩) 0 (H + n)) (H1 hd' 0) := hown
  have B0 : Below w2.heap.size w2 w3 := (Below.refl _ w2).grown hgrow (Nat.le_refl _) (by simp)
  clear hown hgrow
  go_wp2
  go_loopw [6, 7] (fun v i wr => ∃ k : Nat, k ≤ H ∧ i = .int .i64 k ∧ Own wr w2.heap.size v (H1 hd' k) ∧ Below w2.heap.size w2 wr) (fun _ i _ => H - (intOf i).toNat)
  case atStart => exact ⟨0, Nat.zero_le _, rfl, O0, B0⟩
  case round =>
    clear O0 B0
    obtain ⟨k, hk, rfl, hown, hb⟩ := hrel
    have hbs := hb.size
    have hll := H1_len hd' k
    by_cases hlt : k < H
    · obtain ⟨y, HY⟩ := hold_name (hd'.getD k 0)
      have g0 := HCell.out k y hlt HY.out
      have g1 : wr.cell? ⟨g, k, none⟩ = some (.int .u8 (y : Int)) := (hb.cell (p := ⟨g, k, none⟩) (World.block_lt_of_cell? w2 _ g0)).trans g0
      clear g0
      go_wp2_with (at_builtin; refine law_app rfl (.tmp 50) (.tmp 55) rfl _ wr w2.heap.size (H1 hd' k) [y] _ _ 1 rfl rfl rfl hown hbs rfl (by simp; omega) ?_)
      intro v' w4 hown' hb2
      have R := H1_next hown' (by rw [HL.out]; exact hlt) HY.out hb hb2
      clear hown' hb2 hown hb g1
      go_wp2
      go_roundw
      case rel => exact ⟨k + 1, by omega, by go_num, R.1, R.2⟩
      case measure => simp [intOf]; omega
    · obtain rfl : k = H := by omega
      have O1 := H1_end (tl := tl) HL hown
      clear hown
      go_wp2
      obtain ⟨wq, rfl⟩ : ∃ wq, wq = wr := ⟨_, rfl⟩
      go_loopw [6, 8] (fun v i wr => ∃ j : Nat, j ≤ n ∧ i = .int .i64 j ∧ Own wr w2.heap.size v (H2 hd' tl j) ∧ Below w2.heap.size w2 wr) (fun _ i _ => n - (intOf i).toNat)
      case atStart => exact ⟨0, Nat.zero_le _, rfl, O1, hb⟩
      case round =>
        clear O1 hb hbs hll
        obtain ⟨j, hj, rfl, hown, hb⟩ := hrel
        have hbs := hb.size
        have hll := H2_len hd' tl j
        rw [HL.out] at hll
        by_cases hjt : j < n
        · obtain ⟨y, HY⟩ := hold_name (tl.getD j 0)
          have g0 := HCT.out j y hjt HY.out
          have g1 : wr.cell? ⟨bt, ot + j, none⟩ = some (.int .u8 (y : Int)) := (hb.cell (p := ⟨bt, ot + j, none⟩) (World.block_lt_of_cell? w2 _ g0)).trans g0
          clear g0
          go_wp2_with (at_builtin; refine law_app rfl (.tmp 63) (.tmp 68) rfl _ wr w2.heap.size (H2 hd' tl j) [y] _ _ 1 rfl rfl rfl hown hbs rfl (by simp; omega) ?_)
          intro v' w4 hown' hb2
          have R := H2_next hown' (by rw [hlen.out]; exact hjt) HY.out hb hb2
          clear hown' hb2 hown hb g1
          go_wp2
          go_roundw
          case rel => exact ⟨j + 1, by omega, by go_num, R.1, R.2⟩
          case measure => simp [intOf]; omega
        · obtain rfl : j = n := by omega
          have O2 := H2_end hlen hown
          clear hown
          obtain ⟨g5, c5, e5, hg5, hc5, hc6, hcell5⟩ := own_form O2 (by rw [List.length_append, HL.out]; omega)
          have HLL : Hid ((hd' ++ tl).length = k + j) := by show (hd' ++ tl).length = k + j; rw [List.length_append, HL.out, hlen.out]
          have rd5 : Rd wr (some ⟨g5, 0, none⟩) (hd' ++ tl) := .inr ⟨g5, 0, rfl, fun i hi => by rw [Nat.zero_add]; exact hcell5 i hi⟩
          rw [HLL.out] at e5 hc5
          subst e5
          clear O2 hcell5
          go_wp2_with fail
          refine (zint_ok (some ⟨g5, 0, none⟩) (hd' ++ tl) (k + j) c5 _ x tl j HLL rd5 hc5 hc6 (by omega) hin hlen).mono ?_
          rintro e w6 ⟨a6, c6, rfl, rd6, bel6⟩
          have hxx : (x == x) = true := by simp
          have rdt : Rd w6 (some ⟨bt, ot, none⟩) tl := rd_below (rd_below2 rd2 hb) bel6
          have hfin := hbel.trans ((hb.mono hbel.size).trans (bel6.mono (Nat.le_trans hbel.size hb.size)))
          go_wp2_with (go_at_call 14; refine (equal_any _ _ tl tl _ _ _ _ _ hlen.out.symm hlen.out.symm (by omega) (by omega) rd6 rdt).mono ?_; rintro e w7 ⟨rfl, nq, rfl⟩)
          go_ret
          exact ⟨ret_bool (by simp), below_drewN hfin _⟩

theorem walk (a0 : Int) (a1 : Option Addr) (len1 cap1 : Nat) (z1 : List Int) (w : World) (w0 : (Lit.int .i64 a0).wf = true) (w1 : IsRow .u8 w a1 len1 cap1 z1) :
    Calls Try.prog 6 #[.int .i64 a0, .slice a1 len1 cap1] w fun e w' => e = .returned (.bool true) ∧ Below w.heap.size w w' := by
  obtain ⟨l, hl, rd, hl8, hnil, hm⟩ := row_view w1
  unfold maxLen at hm
  by_cases hs : len1 ≤ 1048576
  · by_cases h1 : 9999999999999999 < a0
    · exact walk_big a0 a1 len1 cap1 w hs h1
    by_cases h2 : a0 < -9999999999999999
    · exact walk_small a0 a1 len1 cap1 w hs h2
    cases l with
    | nil =>
      obtain rfl : len1 = 0 := hl.symm
      exact walk_zero a0 a1 cap1 w (by omega) (by omega) hnil
    | cons d r =>
      obtain ⟨b, off, rfl, hr⟩ := rd_at rd (by simp)
      have g0 : w.cell? ⟨b, off, none⟩ = some (.int .u8 (d : Int)) := hr 0 (by simp)
      have hd8 : d < 256 := hl8 d (by simp)
      have hn0 : 0 < len1 := by rw [← hl]; simp
      by_cases hd : Dec.isD d = true
      · exact walk_digit a0 b off len1 cap1 d w (by omega) (by omega) hn0 hs hd8 g0 hd
      · have hd' : Dec.isD d = false := by simpa using hd
        exact walk_more a0 b off len1 cap1 d (d :: r) w (by omega) (by omega) hl rd hn0 hs hd8 g0 hd' (.inr hd')
  · exact walk_long a0 a1 len1 cap1 w hm (by omega)

end Go.Proofs.Qxb6000854a.fnIntegerReadsCanonical
