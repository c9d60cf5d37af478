/-
  The contracts of zzHex (34) and of zzDecode (15) at an encoding.
-/
import Derived.Test.Qxb6000854aRowView
import Derived.Test.Qxb6000854aDecPlain
import Derived.Lib.SlBytesRow
namespace Go.Proofs.Qxb6000854a
open Go.RowKit
set_option linter.unusedVariables false

theorem ret_hex {a b : Int} (h : a = b) : Ending.returned (.tuple #[.int .u8 a, .bool true]) = .returned (.tuple #[.int .u8 b, .bool true]) := by rw [h]

theorem hexD_lo {n x : Nat} (h : Hid (Pl.hexD n = x)) (hn : n < 10) : x = 48 + n := by
  have := h.out; unfold Pl.hexD at this; rw [if_pos hn] at this; omega
theorem hexD_hi {n x : Nat} (h : Hid (Pl.hexD n = x)) (hn : ¬ n < 10) : x = 87 + n := by
  have := h.out; unfold Pl.hexD at this; rw [if_neg hn] at this; omega

theorem hex_any (n x : Nat) (w : World) (H : Hid (Pl.hexD n = x)) (hn : n < 16) : Calls Try.prog 34 #[.int .u8 (x : Int)] w fun e w' => e = .returned (.tuple #[.int .u8 (n : Int), .bool true]) ∧ w' = w := by
  by_cases h : n < 10
  · have HX : Hid (x = 48 + n) := hexD_lo H h
    have h1 : 48 ≤ x := by have := HX.out; omega
    have h2 : x ≤ 57 := by have := HX.out; omega
    go_enter Try.func34, Try.ntmps34
    go_wp2
    go_ret2
    exact ⟨ret_hex (by have := HX.out; omega), rfl⟩
  · have HX : Hid (x = 87 + n) := hexD_hi H h
    have h1 : 97 ≤ x := by have := HX.out; omega
    have h2 : x ≤ 102 := by have := HX.out; omega
    go_enter Try.func34, Try.ntmps34
    go_wp2
    go_ret2
    exact ⟨ret_hex (by have := HX.out; omega), rfl⟩

theorem conv_own {w : World} {B : Nat} {v : Value} {s : ByteArray} (h : Own w B v (nb s)) : (convert 22 9 v).run Try.prog w = .ok (.string s) w := by
  by_cases h0 : 0 < (nb s).length
  · obtain ⟨g, c, rfl, _, _, _, hcell⟩ := own_form h h0
    rw [nb_length]
    refine Lib.run_convert_whole w 22 5 9 Try.underlying22 Try.underlying5 Try.underlying9 g 0 s (fun i hi => ?_) c
    rw [Nat.zero_add, hcell i (by rw [nb_length]; exact hi), nb_getD s i hi]
  · have hs : s.size = 0 := by rw [← nb_length]; omega
    have hl0 : (nb s).length = 0 := by omega
    have hsd : s = ByteArray.empty := by
      apply ByteArray.ext
      exact Array.eq_empty_of_size_eq_zero hs
    rcases h.2 with ⟨rfl, _⟩ | ⟨g, cap, cur, rfl, hb, hg, hn, hm, hc, ht⟩
    · rw [hsd]
      exact run_convert_bytes_nil w 22 5 Try.underlying22 Try.underlying5 0 0 9 Try.underlying9
    · rw [nb_length]
      exact Lib.run_convert_whole w 22 5 9 Try.underlying22 Try.underlying5 Try.underlying9 g 0 s (fun i hi => by omega) cap

/-- What has been gathered behind k bytes. -/
def Gk (l : List Nat) (k : Nat) : List Nat := l.take k

theorem Gk_len (l : List Nat) (k : Nat) : (Gk l k).length ≤ k := List.length_take_le _ _

/-- Where the loop stands behind k bytes: the position p, and what has been gathered. -/
def At (l : List Nat) (k p : Nat) : Prop := Pl.pos l k = p

/-- The encoding's cells, as zzDecode finds them. -/
def EncAt (w : World) (b off M : Nat) (l : List Nat) : Prop :=
  (Pl.enc l).length = M ∧ ∀ i, i < M → w.cell? ⟨b, off + i, none⟩ = some (.int .u8 (((Pl.enc l).getD i 0 : Nat) : Int))

/-- The i-th cell of the unit at p. -/
theorem unit_cell {w wr : World} {b off M : Nat} {l : List Nat} {k p c : Nat} (hE : EncAt w b off M l) (hA : At l k p) (hk : k < l.length) (hc : l.getD k 0 = c) (hB : Below w.heap.size w wr)
    (i y : Nat) (hi : i < (Pl.encB c).length) (hy : (Pl.encB c).getD i 0 = y) : wr.cell? ⟨b, off + (p + i), none⟩ = some (.int .u8 (y : Int)) := by
  have hr := Pl.pos_room l k c hk hc
  have h1 := hE.2 (p + i) (by rw [← hE.1, ← hA]; omega)
  rw [← hA, Pl.enc_at l k c i hk hc hi, hy] at h1
  rw [← hA]
  exact (hB.cell (p := ⟨b, off + (Pl.pos l k + i), none⟩) (World.block_lt_of_cell? w _ h1)).trans h1

theorem unit_room {w : World} {b off M : Nat} {l : List Nat} {k p c : Nat} (hE : EncAt w b off M l) (hA : At l k p) (hk : k < l.length) (hc : l.getD k 0 = c) : p + (Pl.encB c).length + 1 ≤ M := by
  rw [← hE.1, ← hA]; exact Pl.pos_room l k c hk hc

theorem unit_next {l : List Nat} {k p c m : Nat} (hA : At l k p) (hk : k < l.length) (hc : l.getD k 0 = c) (hm : (Pl.encB c).length = m) : At l (k + 1) (p + m) := by
  unfold At at *
  rw [Pl.pos_succ l k c hk hc, hA, hm]

/-- One byte more has been gathered. -/
theorem gath_next {w wr w2 : World} {B : Nat} {v : Value} {l : List Nat} {k c : Nat} (h : Own w2 B v (Gk l k ++ [c])) (hk : k < l.length) (hc : l.getD k 0 = c) (hb : Below B w wr) (hb2 : Below B wr w2) :
    Own w2 B v (Gk l (k + 1)) ∧ Below B w w2 := by
  refine ⟨?_, hb.trans hb2⟩
  unfold Gk at *
  rw [List.take_succ_eq_append_getElem hk]
  simp [List.getD, hk] at hc
  rw [hc]
  exact h

theorem nb_lt (s : ByteArray) (k : Nat) : (nb s).getD k 0 < 256 := by
  by_cases h : k < s.size
  · rw [nb_getD s k h]; exact s[k].toNat_lt
  · have : (nb s)[k]? = none := List.getElem?_eq_none (by rw [nb_length]; omega)
    simp only [List.getD, this]; decide

theorem Gk_all (s : ByteArray) : Gk (nb s) s.size = nb s := by
  unfold Gk
  exact List.take_of_length_le (by rw [nb_length]; exact Nat.le_refl _)

theorem close_cell {w wr : World} {b off M : Nat} {s : ByteArray} {p : Nat} (hE : EncAt w b off M (nb s)) (hA : At (nb s) s.size p) (hB : Below w.heap.size w wr) : wr.cell? ⟨b, off + p, none⟩ = some (.int .u8 34) := by
  have he := Pl.pos_end (nb s)
  have hA' : Pl.pos (nb s) (nb s).length = p := by rw [nb_length]; exact hA
  have h1 := hE.2 p (by rw [← hE.1, ← hA']; omega)
  have h2 := Pl.enc_close (nb s)
  rw [hA'] at h2
  rw [h2] at h1
  exact (hB.cell (p := ⟨b, off + p, none⟩) (World.block_lt_of_cell? w _ h1)).trans h1

theorem close_pos {w : World} {b off M : Nat} {s : ByteArray} {p : Nat} (hE : EncAt w b off M (nb s)) (hA : At (nb s) s.size p) : ((p : Int) != (M : Int) - 1) = false := by
  have he := Pl.pos_end (nb s)
  have hA' : Pl.pos (nb s) (nb s).length = p := by rw [nb_length]; exact hA
  have := hE.1
  simp
  omega

theorem ctl0 {y : Nat} (hy : y < 16) (h34 : ¬ y = 34) (h92 : ¬ y = 92) (h8 : ¬ y = 8) (h9 : ¬ y = 9) (h10 : ¬ y = 10) (h12 : ¬ y = 12) (h13 : ¬ y = 13) : Pl.encB y = [92, 117, 48, 48, 48, Pl.hexD y] := by
  rw [← encB_ctl h34 h92 h8 h9 h10 h12 h13 (by omega), Nat.div_eq_of_lt hy, Nat.mod_eq_of_lt hy]
  rfl

theorem ctl1 {y : Nat} (hy : y < 16) (h34 : ¬ 16 + y = 34) (h92 : ¬ 16 + y = 92) (h8 : ¬ 16 + y = 8) (h9 : ¬ 16 + y = 9) (h10 : ¬ 16 + y = 10) (h12 : ¬ 16 + y = 12) (h13 : ¬ 16 + y = 13) : Pl.encB (16 + y) = [92, 117, 48, 48, 49, Pl.hexD y] := by
  rw [← encB_ctl h34 h92 h8 h9 h10 h12 h13 (by omega), show (16 + y) / 16 = 1 by omega, show (16 + y) % 16 = y by omega]
  rfl

theorem or_zero (y : Nat) (hy : y < 16) : bits BinOp.or IntKind.u8 0 (y : Int) = (y : Int) := by
  have := bits_join .u8 8 (by decide) wraps_u8 4 0 (y : Int) (by decide) (by decide) (by decide) (by omega) (by omega) (by omega)
  omega

theorem or_sixteen (y : Nat) (hy : y < 16) : bits BinOp.or IntKind.u8 16 (y : Int) = 16 + (y : Int) :=
  bits_join .u8 8 (by decide) wraps_u8 4 16 (y : Int) (by decide) (by decide) (by decide) (by omega) (by omega) (by omega)

set_option maxRecDepth 100000 in
set_option maxHeartbeats 4000000 in
theorem decode_any (b off M cap : Nat) (s : ByteArray) (w : World) (hE : EncAt w b off M (nb s)) (hM : M ≤ 1073741824) :
    Calls Try.prog 15 #[.slice (some ⟨b, off, none⟩) M cap] w fun e w' => e = .returned (.tuple #[.string s, .bool true]) ∧ Below w.heap.size w w' := by
  obtain ⟨i0, hi, hz0, hz1, hz2⟩ := info_parts Try.info5
  have hM2 : s.size + 2 ≤ M := by
    have := (Pl.encL_len (nb s)).1
    rw [nb_length] at this
    rw [← hE.1, Pl.enc_len]; omega
  have F0 : w.cell? ⟨b, off, none⟩ = some (.int .u8 34) := hE.2 0 (by omega)
  obtain ⟨B, HB⟩ := hold_name w.heap.size
  go_enter Try.func15, Try.ntmps15
  go_wp2_with (at_make; refine wpList_make_own _ rfl _ _ 22 rfl w.heap.size 5 i0 (.int .u8 0) 1 Try.underlying22 hi hz0 hz1 _ _ _ M rfl rfl rfl (by rw [hz2]; omega) (by unfold maxLen; omega) (Nat.le_refl _) ?_)
  intro w1 hown hgrow
  have R0 : Own w1 w.heap.size (.slice (some ⟨w.heap.size, 0, none⟩) 0 M) (Gk (nb s) 0) := hown
  have R1 : Below w.heap.size w w1 := (Below.refl _ w).grown hgrow (Nat.le_refl _) (by simp)
  clear hown hgrow
  go_wp2
  go_loopw [4, 5] (fun v i wr => ∃ k p : Nat, k ≤ s.size ∧ p < M ∧ i = .int .i64 p ∧ At (nb s) k p ∧ Own wr w.heap.size v (Gk (nb s) k) ∧ Below w.heap.size w wr) (fun _ i _ => M - (intOf i).toNat)
  case atStart => exact ⟨0, 1, Nat.zero_le _, by omega, rfl, rfl, R0, R1⟩
  case round =>
    clear R0 R1 F0
    obtain ⟨k, p, hk, hp, rfl, hA, hown, hbel⟩ := hrel
    have hBr := hbel.size
    have hkl := Gk_len (nb s) k
    by_cases hlt : k < s.size
    · have hc8 : (nb s).getD k 0 < 256 := nb_lt s k
      have HL : Hid (k < (nb s).length) := by rw [nb_length]; exact hlt
      obtain ⟨c, HC⟩ := hold_name ((nb s).getD k 0)
      rw [HC.out] at hc8
      have hroom := unit_room hE hA HL.out HC.out
      by_cases h34 : c = 34
      · subst h34
        have g0 := unit_cell hE hA HL.out HC.out hbel 0 92 (by decide) rfl
        have g1 := unit_cell hE hA HL.out HC.out hbel 1 34 (by decide) rfl
        have hr : p + 2 + 1 ≤ M := hroom
        have hA2 := unit_next hA HL.out HC.out (m := 2) rfl
        clear hE hroom
        rw [Nat.add_zero] at g0
        go_wp2_with (at_builtin; refine law_app rfl (.tmp 66) (.tmp 68) rfl _ wr w.heap.size (Gk (nb s) k) [34] _ _ 1 rfl rfl rfl hown hBr rfl (by simp; omega) ?_)
        intro v' w2 hown' hb2
        have R := gath_next hown' HL.out HC.out hbel hb2
        clear hown' hb2 hown hbel
        go_wp2
        go_roundw
        case rel => exact ⟨k + 1, p + 2, by omega, by omega, by go_num, hA2, R.1, R.2⟩
        case measure => simp [intOf]; omega
      by_cases h92 : c = 92
      · subst h92
        have g0 := unit_cell hE hA HL.out HC.out hbel 0 92 (by decide) rfl
        have g1 := unit_cell hE hA HL.out HC.out hbel 1 92 (by decide) rfl
        have hr : p + 2 + 1 ≤ M := hroom
        have hA2 := unit_next hA HL.out HC.out (m := 2) rfl
        clear hE hroom
        rw [Nat.add_zero] at g0
        go_wp2_with (at_builtin; refine law_app rfl (.tmp 66) (.tmp 68) rfl _ wr w.heap.size (Gk (nb s) k) [92] _ _ 1 rfl rfl rfl hown hBr rfl (by simp; omega) ?_)
        intro v' w2 hown' hb2
        have R := gath_next hown' HL.out HC.out hbel hb2
        clear hown' hb2 hown hbel
        go_wp2
        go_roundw
        case rel => exact ⟨k + 1, p + 2, by omega, by omega, by go_num, hA2, R.1, R.2⟩
        case measure => simp [intOf]; omega
      by_cases h8 : c = 8
      · subst h8
        have g0 := unit_cell hE hA HL.out HC.out hbel 0 92 (by decide) rfl
        have g1 := unit_cell hE hA HL.out HC.out hbel 1 98 (by decide) rfl
        have hr : p + 2 + 1 ≤ M := hroom
        have hA2 := unit_next hA HL.out HC.out (m := 2) rfl
        clear hE hroom
        rw [Nat.add_zero] at g0
        go_wp2_with (at_builtin; refine law_app rfl (.tmp 74) (.tmp 75) rfl _ wr w.heap.size (Gk (nb s) k) [8] _ _ 1 rfl rfl rfl hown hBr rfl (by simp; omega) ?_)
        intro v' w2 hown' hb2
        have R := gath_next hown' HL.out HC.out hbel hb2
        clear hown' hb2 hown hbel
        go_wp2
        go_roundw
        case rel => exact ⟨k + 1, p + 2, by omega, by omega, by go_num, hA2, R.1, R.2⟩
        case measure => simp [intOf]; omega
      by_cases h9 : c = 9
      · subst h9
        have g0 := unit_cell hE hA HL.out HC.out hbel 0 92 (by decide) rfl
        have g1 := unit_cell hE hA HL.out HC.out hbel 1 116 (by decide) rfl
        have hr : p + 2 + 1 ≤ M := hroom
        have hA2 := unit_next hA HL.out HC.out (m := 2) rfl
        clear hE hroom
        rw [Nat.add_zero] at g0
        go_wp2_with (at_builtin; refine law_app rfl (.tmp 81) (.tmp 82) rfl _ wr w.heap.size (Gk (nb s) k) [9] _ _ 1 rfl rfl rfl hown hBr rfl (by simp; omega) ?_)
        intro v' w2 hown' hb2
        have R := gath_next hown' HL.out HC.out hbel hb2
        clear hown' hb2 hown hbel
        go_wp2
        go_roundw
        case rel => exact ⟨k + 1, p + 2, by omega, by omega, by go_num, hA2, R.1, R.2⟩
        case measure => simp [intOf]; omega
      by_cases h10 : c = 10
      · subst h10
        have g0 := unit_cell hE hA HL.out HC.out hbel 0 92 (by decide) rfl
        have g1 := unit_cell hE hA HL.out HC.out hbel 1 110 (by decide) rfl
        have hr : p + 2 + 1 ≤ M := hroom
        have hA2 := unit_next hA HL.out HC.out (m := 2) rfl
        clear hE hroom
        rw [Nat.add_zero] at g0
        go_wp2_with (at_builtin; refine law_app rfl (.tmp 88) (.tmp 89) rfl _ wr w.heap.size (Gk (nb s) k) [10] _ _ 1 rfl rfl rfl hown hBr rfl (by simp; omega) ?_)
        intro v' w2 hown' hb2
        have R := gath_next hown' HL.out HC.out hbel hb2
        clear hown' hb2 hown hbel
        go_wp2
        go_roundw
        case rel => exact ⟨k + 1, p + 2, by omega, by omega, by go_num, hA2, R.1, R.2⟩
        case measure => simp [intOf]; omega
      by_cases h12 : c = 12
      · subst h12
        have g0 := unit_cell hE hA HL.out HC.out hbel 0 92 (by decide) rfl
        have g1 := unit_cell hE hA HL.out HC.out hbel 1 102 (by decide) rfl
        have hr : p + 2 + 1 ≤ M := hroom
        have hA2 := unit_next hA HL.out HC.out (m := 2) rfl
        clear hE hroom
        rw [Nat.add_zero] at g0
        go_wp2_with (at_builtin; refine law_app rfl (.tmp 95) (.tmp 96) rfl _ wr w.heap.size (Gk (nb s) k) [12] _ _ 1 rfl rfl rfl hown hBr rfl (by simp; omega) ?_)
        intro v' w2 hown' hb2
        have R := gath_next hown' HL.out HC.out hbel hb2
        clear hown' hb2 hown hbel
        go_wp2
        go_roundw
        case rel => exact ⟨k + 1, p + 2, by omega, by omega, by go_num, hA2, R.1, R.2⟩
        case measure => simp [intOf]; omega
      by_cases h13 : c = 13
      · subst h13
        have g0 := unit_cell hE hA HL.out HC.out hbel 0 92 (by decide) rfl
        have g1 := unit_cell hE hA HL.out HC.out hbel 1 114 (by decide) rfl
        have hr : p + 2 + 1 ≤ M := hroom
        have hA2 := unit_next hA HL.out HC.out (m := 2) rfl
        clear hE hroom
        rw [Nat.add_zero] at g0
        go_wp2_with (at_builtin; refine law_app rfl (.tmp 102) (.tmp 103) rfl _ wr w.heap.size (Gk (nb s) k) [13] _ _ 1 rfl rfl rfl hown hBr rfl (by simp; omega) ?_)
        intro v' w2 hown' hb2
        have R := gath_next hown' HL.out HC.out hbel hb2
        clear hown' hb2 hown hbel
        go_wp2
        go_roundw
        case rel => exact ⟨k + 1, p + 2, by omega, by omega, by go_num, hA2, R.1, R.2⟩
        case measure => simp [intOf]; omega
      by_cases h32 : c < 32
      · obtain ⟨y, hy, hcy⟩ : ∃ y, y < 16 ∧ (y = c ∨ 16 + y = c) := ⟨c % 16, by omega, by omega⟩
        rcases hcy with rfl | rfl
        · have eB : Pl.encB (y) = [92, 117, 48, 48, 48, Pl.hexD y] := ctl0 hy h34 h92 h8 h9 h10 h12 h13
          have hl6 : (Pl.encB (y)).length = 6 := by rw [eB]; rfl
          obtain ⟨z, HZ⟩ := hold_name (Pl.hexD y)
          rw [HZ.out] at eB
          have g0 := unit_cell hE hA HL.out HC.out hbel 0 92 (by omega) (by rw [eB]; rfl)
          have g1 := unit_cell hE hA HL.out HC.out hbel 1 117 (by omega) (by rw [eB]; rfl)
          have g2 := unit_cell hE hA HL.out HC.out hbel 2 48 (by omega) (by rw [eB]; rfl)
          have g3 := unit_cell hE hA HL.out HC.out hbel 3 48 (by omega) (by rw [eB]; rfl)
          have g4 := unit_cell hE hA HL.out HC.out hbel 4 48 (by omega) (by rw [eB]; rfl)
          have g5 := unit_cell hE hA HL.out HC.out hbel 5 z (by omega) (by rw [eB]; rfl)
          have hr : p + 6 + 1 ≤ M := by rw [hl6] at hroom; exact hroom
          have hA2 := unit_next hA HL.out HC.out (m := 6) hl6
          have hor : bits BinOp.or IntKind.u8 0 (y : Int) = (y : Int) := or_zero y hy
          have n32 : decide (32 ≤ (y : Int)) = false := by rw [decide_eq_false_iff_not]; omega
          have n8 : ((y : Int) == 8) = false := by rw [beq_eq_false_iff_ne]; omega
          have n9 : ((y : Int) == 9) = false := by rw [beq_eq_false_iff_ne]; omega
          have n10 : ((y : Int) == 10) = false := by rw [beq_eq_false_iff_ne]; omega
          have n12 : ((y : Int) == 12) = false := by rw [beq_eq_false_iff_ne]; omega
          have n13 : ((y : Int) == 13) = false := by rw [beq_eq_false_iff_ne]; omega
          clear hE hroom eB hl6
          rw [Nat.add_zero] at g0
          go_wp2_with fail
          refine (hex_any 0 48 _ rfl (by decide)).mono ?_
          rintro e wx ⟨rfl, rfl⟩
          go_wp2_with fail
          refine (hex_any y z _ HZ hy).mono ?_
          rintro e wy ⟨rfl, rfl⟩
          go_wp2_with (at_builtin; refine law_app rfl (.tmp 178) (.tmp 180) rfl _ _ w.heap.size (Gk (nb s) k) [y] _ _ 1 rfl rfl rfl hown hBr rfl (by simp; omega) ?_)
          intro v' w2 hown' hb2
          have R := gath_next hown' HL.out HC.out hbel hb2
          clear hown' hb2 hown hbel hor n32 n8 n9 n10 n12 n13
          go_wp2
          go_roundw
          case rel => exact ⟨k + 1, p + 6, by omega, by omega, by go_num, hA2, R.1, R.2⟩
          case measure => simp [intOf]; omega
        · have eB : Pl.encB (16 + y) = [92, 117, 48, 48, 49, Pl.hexD y] := ctl1 hy h34 h92 h8 h9 h10 h12 h13
          have hl6 : (Pl.encB (16 + y)).length = 6 := by rw [eB]; rfl
          obtain ⟨z, HZ⟩ := hold_name (Pl.hexD y)
          rw [HZ.out] at eB
          have g0 := unit_cell hE hA HL.out HC.out hbel 0 92 (by omega) (by rw [eB]; rfl)
          have g1 := unit_cell hE hA HL.out HC.out hbel 1 117 (by omega) (by rw [eB]; rfl)
          have g2 := unit_cell hE hA HL.out HC.out hbel 2 48 (by omega) (by rw [eB]; rfl)
          have g3 := unit_cell hE hA HL.out HC.out hbel 3 48 (by omega) (by rw [eB]; rfl)
          have g4 := unit_cell hE hA HL.out HC.out hbel 4 49 (by omega) (by rw [eB]; rfl)
          have g5 := unit_cell hE hA HL.out HC.out hbel 5 z (by omega) (by rw [eB]; rfl)
          have hr : p + 6 + 1 ≤ M := by rw [hl6] at hroom; exact hroom
          have hA2 := unit_next hA HL.out HC.out (m := 6) hl6
          have hor : bits BinOp.or IntKind.u8 16 (y : Int) = 16 + (y : Int) := or_sixteen y hy
          have n32 : decide (32 ≤ 16 + (y : Int)) = false := by rw [decide_eq_false_iff_not]; omega
          have n8 : (16 + (y : Int) == 8) = false := by rw [beq_eq_false_iff_ne]; omega
          have n9 : (16 + (y : Int) == 9) = false := by rw [beq_eq_false_iff_ne]; omega
          have n10 : (16 + (y : Int) == 10) = false := by rw [beq_eq_false_iff_ne]; omega
          have n12 : (16 + (y : Int) == 12) = false := by rw [beq_eq_false_iff_ne]; omega
          have n13 : (16 + (y : Int) == 13) = false := by rw [beq_eq_false_iff_ne]; omega
          clear hE hroom eB hl6
          rw [Nat.add_zero] at g0
          go_wp2_with fail
          refine (hex_any 1 49 _ rfl (by decide)).mono ?_
          rintro e wx ⟨rfl, rfl⟩
          go_wp2_with fail
          refine (hex_any y z _ HZ hy).mono ?_
          rintro e wy ⟨rfl, rfl⟩
          go_wp2_with (at_builtin; refine law_app rfl (.tmp 178) (.tmp 180) rfl _ _ w.heap.size (Gk (nb s) k) [16 + y] _ _ 1 rfl rfl rfl hown hBr rfl (by simp; omega) ?_)
          intro v' w2 hown' hb2
          have R := gath_next hown' HL.out HC.out hbel hb2
          clear hown' hb2 hown hbel hor n32 n8 n9 n10 n12 n13
          go_wp2
          go_roundw
          case rel => exact ⟨k + 1, p + 6, by omega, by omega, by go_num, hA2, R.1, R.2⟩
          case measure => simp [intOf]; omega
      · have eB : Pl.encB c = [c] := (encB_plain h34 h92 h8 h9 h10 h12 h13 h32).symm
        have g0 := unit_cell hE hA HL.out HC.out hbel 0 c (by rw [eB]; exact Nat.zero_lt_one) (by rw [eB]; rfl)
        have hr : p + 1 + 1 ≤ M := by rw [eB] at hroom; exact hroom
        have hA2 := unit_next hA HL.out HC.out (m := 1) (by rw [eB]; rfl)
        clear hE hroom eB
        rw [Nat.add_zero] at g0
        go_wp2_with (at_builtin; refine law_app rfl (.tmp 46) (.tmp 48) rfl _ wr w.heap.size (Gk (nb s) k) [c] _ _ 1 rfl rfl rfl hown hBr rfl (by simp; omega) ?_)
        intro v' w2 hown' hb2
        have R := gath_next hown' HL.out HC.out hbel hb2
        clear hown' hb2 hown hbel
        go_wp2
        go_roundw
        case rel => exact ⟨k + 1, p + 1, by omega, by omega, by go_num, hA2, R.1, R.2⟩
        case measure => simp [intOf]; omega
    · obtain rfl : k = s.size := by omega
      have g0 := close_cell hE hA hbel
      have hp1 := close_pos hE hA
      have hconv := conv_own (show Own wr w.heap.size _ (nb s) from by rw [← Gk_all]; exact hown)
      clear hE
      go_wp2
      go_ret2
      exact ⟨rfl, hbel⟩

end Go.Proofs.Qxb6000854a
