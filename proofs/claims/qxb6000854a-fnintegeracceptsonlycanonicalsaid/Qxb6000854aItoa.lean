/-
  The contract of zzItoa (20), for numbers of at most 16 digits.
-/
import Derived.Test.Qxb6000854aRowView
import Derived.Test.Qxb6000854aIntPlain
namespace Go.Proofs.Qxb6000854a
open Go.RowKit
set_option linter.unusedVariables false

theorem itoa_zero (w : World) : Calls Try.prog 20 #[.int .i64 0] w fun e w' => ∃ v, e = .returned v ∧ Own w' w.heap.size v (Dec.itoa 0) ∧ Below w.heap.size w w' := by
  go_enter Try.func20, Try.ntmps20
  go_wp2
  go_ret
  refine ⟨_, rfl, ?_, (Below.refl _ _).alloc (Nat.le_refl _) _⟩
  exact World.ownsRow_lit (base := w.heap.size) (e := 5) (size := 1) w #[.int .u8 48] 1 (Nat.le_refl _) (by unfold maxLen; omega) rfl

/-- The digits T stand at the end of the array of 20 cells in block B, from cell i on. -/
def Tmp (wr : World) (B i : Nat) (T : List Nat) : Prop :=
  T.length + i = 20 ∧ ∃ xs, wr.ownsRow B 52 1 (.slice (some ⟨B, 0, none⟩) 20 20) 20 xs ∧ ∀ j, j < T.length → xs[i + j]? = some (.int .u8 ((T.getD j 0 : Nat) : Int))

/-- What holds of the loop that writes the digits: u is left of x. -/
def Digs (x u i : Nat) (T : List Nat) : Prop := Dec.digs x = Dec.digs u ++ T ∧ u < 10 ^ (i - 4)

theorem digs_room {x u i : Nat} {T : List Nat} (h : Digs x u i T) (hu : 0 < u) : 5 ≤ i := by
  refine Nat.le_of_not_lt fun hlt => ?_
  have h2 := h.2
  rw [show i - 4 = 0 by omega] at h2
  simp at h2
  omega

theorem digs_step {x u i : Nat} {T : List Nat} (h : Digs x u (i + 1) T) (hu : 0 < u) : Digs x (u / 10) i ((48 + u % 10) :: T) := by
  have h5 := digs_room h hu
  refine ⟨?_, ?_⟩
  · rw [h.1, Dec.digs_pos u hu]; simp
  · have h2 := h.2
    rw [show i + 1 - 4 = (i - 4) + 1 by omega, Nat.pow_succ] at h2
    omega

theorem digs_done {x i : Nat} {T : List Nat} (h : Digs x 0 i T) : Dec.digs x = T := by
  rw [h.1, Dec.digs_zero]; rfl

theorem Tmp.there {wr : World} {B i : Nat} {T : List Nat} (h : Tmp wr B (i + 1) T) : (∃ v, wr.cell? ⟨B, i, none⟩ = some v) ∧ wr.frozen? ⟨B, i, none⟩ = false := by
  obtain ⟨hl, xs, hown, _⟩ := h
  refine ⟨?_, World.ownsRow.frozenAt hown i⟩
  have hx : xs.length = 20 := by simpa using hown.1
  refine ⟨xs[i], ?_⟩
  rw [World.ownsRow.cellAt hown i (by omega)]
  simp

theorem Tmp.step {w wr : World} {B i y : Nat} {T : List Nat} (h : Tmp wr B (i + 1) T) (hb : Below B w wr) :
    Tmp (wr.setCell ⟨B, i, none⟩ (.int .u8 (y : Int))) B i (y :: T) ∧ Below B w (wr.setCell ⟨B, i, none⟩ (.int .u8 (y : Int))) := by
  obtain ⟨hl, xs, hown, hf⟩ := h
  have hx : xs.length = 20 := by simpa using hown.1
  refine ⟨⟨by simp; omega, xs.set i (.int .u8 (y : Int)), (World.ownsRow.stored hown i _).1, fun j hj => ?_⟩, hb.setCell (Nat.le_refl _) _⟩
  cases j with
  | zero =>
    rw [Nat.add_zero, List.getElem?_set_self (by omega)]
    rfl
  | succ j =>
    rw [List.getElem?_set_ne (by omega)]
    have := hf j (by simpa using hj)
    rw [show i + (j + 1) = i + 1 + j by omega, this]
    simp [List.getD]

theorem Tmp.cell {wr : World} {B i : Nat} {T : List Nat} (h : Tmp wr B i T) (j y : Nat) (hj : j < T.length) (hy : T.getD j 0 = y) : wr.cell? ⟨B, i + j, none⟩ = some (.int .u8 (y : Int)) := by
  obtain ⟨hl, xs, hown, hf⟩ := h
  rw [World.ownsRow.cellAt hown (i + j) (by omega), hf j hj, hy]

theorem Tmp.start (w : World) (cs : Array Value) (hc : cs.size = 20) : Tmp (w.alloc (.cells cs 52)) w.heap.size 20 [] ∧ Below w.heap.size w (w.alloc (.cells cs 52)) :=
  ⟨⟨rfl, cs.toList, World.ownsRow_lit (base := w.heap.size) (e := 52) (size := 1) w cs 20 (Nat.le_refl _) (by unfold maxLen; omega) (by rw [hc]), fun j hj => by simp at hj⟩, (Below.refl _ _).alloc (Nat.le_refl _) _⟩

theorem take_more {T : List Nat} {j y : Nat} (hj : j < T.length) (hy : T.getD j 0 = y) (pre : List Nat) : pre ++ T.take (j + 1) = (pre ++ T.take j) ++ [y] := by
  rw [List.take_succ_eq_append_getElem hj]
  simp [List.getD, hj] at hy
  simp [hy]

/-- What has been copied out: the sign and the first j digits. -/
def Out (pre T : List Nat) (j : Nat) : List Nat := pre ++ T.take j

theorem Out_len (pre T : List Nat) (j : Nat) : (Out pre T j).length ≤ pre.length + j := by
  unfold Out
  have := List.length_take_le j T
  simp
  omega

theorem out_next {w wr w2 : World} {B : Nat} {v : Value} {pre T : List Nat} {j y : Nat} (h : Own w2 B v (Out pre T j ++ [y])) (hj : j < T.length) (hy : T.getD j 0 = y) (hb : Below B w wr) (hb2 : Below B wr w2) :
    Own w2 B v (Out pre T (j + 1)) ∧ Below B w w2 := by
  refine ⟨?_, hb.trans hb2⟩
  unfold Out at *
  rw [take_more hj hy]
  exact h

theorem own_base {w : World} {B B' : Nat} {v : Value} {l : List Nat} (h : Own w B v l) (hb : B' ≤ B) : Own w B' v l := ownsRow_base h hb

theorem u64_back (x : Nat) (h1 : 0 < x) (h2 : x ≤ 9999999999999999) : IntKind.u64.wrap (-IntKind.u64.wrap (-(x : Int))) = (x : Int) := by
  simp [IntKind.wrap, IntKind.bits, IntKind.signed]
  omega

theorem itoa_of_pos (x : Nat) (h1 : 0 < x) : Dec.itoa (x : Int) = [] ++ Dec.digs x := by
  unfold Dec.itoa
  rw [if_neg (by omega), if_neg (by omega)]
  simp

theorem itoa_of_neg (x : Nat) (h1 : 0 < x) : Dec.itoa (-(x : Int)) = [45] ++ Dec.digs x := by
  unfold Dec.itoa
  rw [if_neg (by omega), if_pos (by omega)]
  simp

set_option maxHeartbeats 1000000 in
theorem itoa_pos (x : Nat) (w : World) (h1 : 0 < x) (h2 : x ≤ 9999999999999999) : Calls Try.prog 20 #[.int .i64 (x : Int)] w fun e w' => ∃ v, e = .returned v ∧ Own w' w.heap.size v (Dec.itoa (x : Int)) ∧ Below w.heap.size w w' := by
  obtain ⟨i0, hi, hz0, hz1, hz2⟩ := info_parts Try.info5
  have HI : Hid (Dec.itoa (x : Int) = [] ++ Dec.digs x) := itoa_of_pos x h1
  have hneg : ((x : Int) == 0) = false := by rw [beq_eq_false_iff_ne]; omega
  have hpos : decide ((x : Int) < 0) = false := by rw [decide_eq_false_iff_not]; omega
  obtain ⟨L, HL⟩ := hold_name (Dec.itoa (x : Int))
  rw [HL.out]
  go_enter Try.func20, Try.ntmps20
  go_wp2
  have R0 := Tmp.start w #[.int .u8 0, .int .u8 0, .int .u8 0, .int .u8 0, .int .u8 0, .int .u8 0, .int .u8 0, .int .u8 0, .int .u8 0, .int .u8 0, .int .u8 0, .int .u8 0, .int .u8 0, .int .u8 0, .int .u8 0, .int .u8 0, .int .u8 0, .int .u8 0, .int .u8 0, .int .u8 0] rfl
  go_loopw [4, 6] (fun a b wr => ∃ (u i : Nat) (T : List Nat), u ≤ x ∧ i ≤ 20 ∧ a = .int .u64 u ∧ b = .int .i64 i ∧ Digs x u i T ∧ Tmp wr w.heap.size i T ∧ Below w.heap.size w wr) (fun a _ _ => (intOf a).toNat)
  case atStart => exact ⟨x, 20, [], Nat.le_refl _, Nat.le_refl _, rfl, rfl, ⟨by simp, by omega⟩, R0.1, R0.2⟩
  case round =>
    clear R0
    obtain ⟨u, i, T, hux, hi20, rfl, rfl, hD, hT, hbel⟩ := hrel
    by_cases hu : 0 < u
    · have h5 := digs_room hD hu
      obtain ⟨i', rfl⟩ : ∃ i', i = i' + 1 := ⟨i - 1, by omega⟩
      obtain ⟨⟨vo, g2⟩, g3⟩ := hT.there
      have hD2 := digs_step hD hu
      have R := hT.step (y := 48 + u % 10) hbel
      have HR : Hid _ := R
      clear R hT hbel hD
      go_wp2
      go_roundw
      case rel => exact ⟨u / 10, i', (48 + u % 10) :: T, by omega, by omega, by go_num, by go_num, hD2, HR.out.1, HR.out.2⟩
      case measure => simp [intOf]; omega
    · obtain rfl : u = 0 := by omega
      obtain ⟨wq, rfl⟩ : ∃ wq, wq = wr := ⟨_, rfl⟩
      have HT := digs_done hD
      have hTl := hT.1
      have hsz : w.heap.size ≤ wq.heap.size := hbel.size
      have HIL : Hid (L = Out [] T T.length) := by unfold Out; rw [← HL.out, HI.out, HT, List.take_length]; rfl
      have HTl : Hid (T.length + i = 20) := hTl
      have hcells : Hid (∀ j y, j < T.length → T.getD j 0 = y → wq.cell? ⟨w.heap.size, i + j, none⟩ = some (.int .u8 (y : Int))) := fun j y hj hy => hT.cell j y hj hy
      clear HT hTl hT hD
      go_wp2_with (first | (at_make; refine wpList_make_own _ rfl _ _ 22 rfl wq.heap.size 5 i0 (.int .u8 0) 1 Try.underlying22 hi hz0 hz1 _ _ _ 21 rfl rfl rfl (by rw [hz2]; omega) (by unfold maxLen; omega) (Nat.le_refl _) ?_))
      intro w1 hown hgrow
      have O1 : Own w1 wq.heap.size (.slice (some ⟨wq.heap.size, 0, none⟩) 0 21) [] := hown
      have B1 : Below wq.heap.size wq w1 := (Below.refl _ wq).grown hgrow (Nat.le_refl _) (by simp)
      have hs1 := B1.size
      clear hown hgrow
      have O3 : Own w1 wq.heap.size (.slice (some ⟨wq.heap.size, 0, none⟩) 0 21) (Out [] T 0) := O1
      have B3 := B1
      clear O1 B1
      go_wp2
      go_loopw [7, 8] (fun v b wr => ∃ j k : Nat, j ≤ T.length ∧ k = i + j ∧ b = .int .i64 k ∧ Own wr wq.heap.size v (Out [] T j) ∧ Below wq.heap.size wq wr) (fun _ b _ => 20 - (intOf b).toNat)
      case atStart => exact ⟨0, i, Nat.zero_le _, rfl, rfl, O3, B3⟩
      case round =>
        clear O3 B3
        obtain ⟨j, k, hj, hk, rfl, hown, hb2⟩ := hrel
        have HK : Hid (k = i + j) := hk
        have hbs := hb2.size
        have hlen := Out_len [] T j
        have hj20 : j ≤ 20 := by have := HTl.out; omega
        rw [List.length_nil] at hlen
        clear hk
        by_cases hlt : j < T.length
        · have hk20 : k < 20 := by have := HTl.out; have := HK.out; omega
          obtain ⟨y, HY⟩ := hold_name (T.getD j 0)
          have g0 := hcells.out j y hlt HY.out
          rw [← HK.out] at g0
          have g1 : wr.cell? ⟨w.heap.size, k, none⟩ = some (.int .u8 (y : Int)) := (hb2.cell (p := ⟨w.heap.size, k, none⟩) (World.block_lt_of_cell? wq _ g0)).trans g0
          clear g0
          go_wp2_with (at_builtin; refine law_app rfl (.tmp 42) (.tmp 46) rfl _ wr wq.heap.size (Out [] T j) [y] _ _ 1 rfl rfl rfl hown hbs rfl (by simp; omega) ?_)
          intro v' w2 hown' hb3
          have R := out_next hown' hlt HY.out hb2 hb3
          clear hown' hb3 hown hb2 g1
          go_wp2
          go_roundw
          case rel => exact ⟨j + 1, k + 1, by omega, by rw [HK.out]; omega, by go_num, R.1, R.2⟩
          case measure => simp [intOf]; omega
        · obtain rfl : j = T.length := by omega
          have hk20 : k = 20 := by have := HTl.out; have := HK.out; omega
          subst hk20
          go_wp2
          go_ret
          exact ⟨_, rfl, by rw [HIL.out]; exact own_base hown hsz, hbel.trans (hb2.mono hsz)⟩

set_option maxHeartbeats 1000000 in
theorem itoa_neg (x : Nat) (w : World) (h1 : 0 < x) (h2 : x ≤ 9999999999999999) : Calls Try.prog 20 #[.int .i64 (-(x : Int))] w fun e w' => ∃ v, e = .returned v ∧ Own w' w.heap.size v (Dec.itoa (-(x : Int))) ∧ Below w.heap.size w w' := by
  obtain ⟨i0, hi, hz0, hz1, hz2⟩ := info_parts Try.info5
  have HI : Hid (Dec.itoa (-(x : Int)) = [45] ++ Dec.digs x) := itoa_of_neg x h1
  have hu64 := u64_back x h1 h2
  have hneg : (-(x : Int) == 0) = false := by rw [beq_eq_false_iff_ne]; omega
  obtain ⟨L, HL⟩ := hold_name (Dec.itoa (-(x : Int)))
  rw [HL.out]
  go_enter Try.func20, Try.ntmps20
  go_wp2
  have R0 := Tmp.start w #[.int .u8 0, .int .u8 0, .int .u8 0, .int .u8 0, .int .u8 0, .int .u8 0, .int .u8 0, .int .u8 0, .int .u8 0, .int .u8 0, .int .u8 0, .int .u8 0, .int .u8 0, .int .u8 0, .int .u8 0, .int .u8 0, .int .u8 0, .int .u8 0, .int .u8 0, .int .u8 0] rfl
  go_loopw [4, 6] (fun a b wr => ∃ (u i : Nat) (T : List Nat), u ≤ x ∧ i ≤ 20 ∧ a = .int .u64 u ∧ b = .int .i64 i ∧ Digs x u i T ∧ Tmp wr w.heap.size i T ∧ Below w.heap.size w wr) (fun a _ _ => (intOf a).toNat)
  case atStart => exact ⟨x, 20, [], Nat.le_refl _, Nat.le_refl _, rfl, rfl, ⟨by simp, by omega⟩, R0.1, R0.2⟩
  case round =>
    clear R0
    obtain ⟨u, i, T, hux, hi20, rfl, rfl, hD, hT, hbel⟩ := hrel
    by_cases hu : 0 < u
    · have h5 := digs_room hD hu
      obtain ⟨i', rfl⟩ : ∃ i', i = i' + 1 := ⟨i - 1, by omega⟩
      obtain ⟨⟨vo, g2⟩, g3⟩ := hT.there
      have hD2 := digs_step hD hu
      have R := hT.step (y := 48 + u % 10) hbel
      have HR : Hid _ := R
      clear R hT hbel hD
      go_wp2
      go_roundw
      case rel => exact ⟨u / 10, i', (48 + u % 10) :: T, by omega, by omega, by go_num, by go_num, hD2, HR.out.1, HR.out.2⟩
      case measure => simp [intOf]; omega
    · obtain rfl : u = 0 := by omega
      obtain ⟨wq, rfl⟩ : ∃ wq, wq = wr := ⟨_, rfl⟩
      have HT := digs_done hD
      have hTl := hT.1
      have hsz : w.heap.size ≤ wq.heap.size := hbel.size
      have HIL : Hid (L = Out [45] T T.length) := by unfold Out; rw [← HL.out, HI.out, HT, List.take_length]; rfl
      have HTl : Hid (T.length + i = 20) := hTl
      have hcells : Hid (∀ j y, j < T.length → T.getD j 0 = y → wq.cell? ⟨w.heap.size, i + j, none⟩ = some (.int .u8 (y : Int))) := fun j y hj hy => hT.cell j y hj hy
      clear HT hTl hT hD
      go_wp2_with (first | (at_make; refine wpList_make_own _ rfl _ _ 22 rfl wq.heap.size 5 i0 (.int .u8 0) 1 Try.underlying22 hi hz0 hz1 _ _ _ 21 rfl rfl rfl (by rw [hz2]; omega) (by unfold maxLen; omega) (Nat.le_refl _) ?_))
      intro w1 hown hgrow
      have O1 : Own w1 wq.heap.size (.slice (some ⟨wq.heap.size, 0, none⟩) 0 21) [] := hown
      have B1 : Below wq.heap.size wq w1 := (Below.refl _ wq).grown hgrow (Nat.le_refl _) (by simp)
      have hs1 := B1.size
      clear hown hgrow
      go_wp2_with (at_builtin; refine law_app rfl (.tmp 34) (.tmp 35) rfl _ w1 wq.heap.size [] [45] _ _ 1 rfl rfl rfl O1 hs1 rfl (by simp) ?_)
      intro v2 w2 O2 B2
      have O3 : Own w2 wq.heap.size v2 (Out [45] T 0) := O2
      have B3 := B1.trans B2
      clear O1 O2 B1 B2
      go_wp2
      go_loopw [7, 8] (fun v b wr => ∃ j k : Nat, j ≤ T.length ∧ k = i + j ∧ b = .int .i64 k ∧ Own wr wq.heap.size v (Out [45] T j) ∧ Below wq.heap.size wq wr) (fun _ b _ => 20 - (intOf b).toNat)
      case atStart => exact ⟨0, i, Nat.zero_le _, rfl, rfl, O3, B3⟩
      case round =>
        clear O3 B3
        obtain ⟨j, k, hj, hk, rfl, hown, hb2⟩ := hrel
        have HK : Hid (k = i + j) := hk
        have hbs := hb2.size
        have hlen := Out_len [45] T j
        have hj20 : j ≤ 20 := by have := HTl.out; omega
        simp only [List.length_cons, List.length_nil] at hlen
        clear hk
        by_cases hlt : j < T.length
        · have hk20 : k < 20 := by have := HTl.out; have := HK.out; omega
          obtain ⟨y, HY⟩ := hold_name (T.getD j 0)
          have g0 := hcells.out j y hlt HY.out
          rw [← HK.out] at g0
          have g1 : wr.cell? ⟨w.heap.size, k, none⟩ = some (.int .u8 (y : Int)) := (hb2.cell (p := ⟨w.heap.size, k, none⟩) (World.block_lt_of_cell? wq _ g0)).trans g0
          clear g0
          go_wp2_with (at_builtin; refine law_app rfl (.tmp 42) (.tmp 46) rfl _ wr wq.heap.size (Out [45] T j) [y] _ _ 1 rfl rfl rfl hown hbs rfl (by simp; omega) ?_)
          intro v' w2 hown' hb3
          have R := out_next hown' hlt HY.out hb2 hb3
          clear hown' hb3 hown hb2 g1
          go_wp2
          go_roundw
          case rel => exact ⟨j + 1, k + 1, by omega, by rw [HK.out]; omega, by go_num, R.1, R.2⟩
          case measure => simp [intOf]; omega
        · obtain rfl : j = T.length := by omega
          have hk20 : k = 20 := by have := HTl.out; have := HK.out; omega
          subst hk20
          go_wp2
          go_ret
          exact ⟨_, rfl, by rw [HIL.out]; exact own_base hown hsz, hbel.trans (hb2.mono hsz)⟩

/-- zzItoa, whole, up to 16 digits. -/
theorem itoa_any (x : Int) (w : World) (h1 : x ≤ 9999999999999999) (h2 : -9999999999999999 ≤ x) :
    Calls Try.prog 20 #[.int .i64 x] w fun e w' => ∃ v, e = .returned v ∧ Own w' w.heap.size v (Dec.itoa x) ∧ Below w.heap.size w w' := by
  by_cases h0 : x = 0
  · subst h0; exact itoa_zero w
  · by_cases hn : x < 0
    · obtain ⟨n, rfl⟩ : ∃ n : Nat, x = -(n : Int) := ⟨x.natAbs, by omega⟩
      exact itoa_neg n w (by omega) (by omega)
    · obtain ⟨n, rfl⟩ : ∃ n : Nat, x = (n : Int) := ⟨x.natAbs, by omega⟩
      exact itoa_pos n w (by omega) (by omega)

theorem itoa_len (x : Int) (h1 : x ≤ 9999999999999999) (h2 : -9999999999999999 ≤ x) : 1 ≤ (Dec.itoa x).length ∧ (Dec.itoa x).length ≤ 17 := by
  have hl := Dec.digs_len x.natAbs 16 (by omega)
  unfold Dec.itoa
  by_cases h0 : x = 0
  · simp [h0]
  · rw [if_neg h0]
    have hne : 0 < (Dec.digs x.natAbs).length := List.length_pos_iff.2 (Dec.digs_ne _ (by omega))
    split
    · simp; omega
    · simp; omega

end Go.Proofs.Qxb6000854a
