/-
  The contract of zzClone (12).
-/
import Derived.Test.Qxb6000854aApp
namespace Go.Proofs.Qxb6000854a
open Go.RowKit
set_option linter.unusedVariables false

/-- The new row holds the first k bytes. -/
def Filled (wr : World) (B : Nat) (len : Nat) (l : List Nat) (k : Nat) : Prop :=
  ∃ xs, wr.ownsRow B 5 1 (.slice (some ⟨B, 0, none⟩) len len) len xs ∧ ∀ i, i < k → xs[i]? = some (.int .u8 ((l.getD i 0 : Nat) : Int))

theorem Filled.there {wr : World} {B len : Nat} {l : List Nat} {k : Nat} (h : Filled wr B len l k) (hk : k < len) : (∃ v, wr.cell? ⟨B, k, none⟩ = some v) ∧ wr.frozen? ⟨B, k, none⟩ = false := by
  obtain ⟨xs, hown, _⟩ := h
  refine ⟨?_, World.ownsRow.frozenAt hown k⟩
  have hx : xs.length = len := by simpa using hown.1
  refine ⟨xs[k], ?_⟩
  rw [World.ownsRow.cellAt hown k (by omega)]
  simp

theorem Filled.next {wr w : World} {B len : Nat} {l : List Nat} {k x : Nat} (h : Filled wr B len l k) (hk : k < len) (hx : Hid (l.getD k 0 = x)) (hb : Below B w wr) :
    Filled (wr.setCell ⟨B, k, none⟩ (.int .u8 (x : Int))) B len l (k + 1) ∧ Below B w (wr.setCell ⟨B, k, none⟩ (.int .u8 (x : Int))) := by
  obtain ⟨xs, hown, hf⟩ := h
  have hl : xs.length = len := by simpa using hown.1
  refine ⟨⟨xs.set k (.int .u8 (x : Int)), (World.ownsRow.stored hown k _).1, fun i hi => ?_⟩, hb.setCell (Nat.le_refl _) _⟩
  by_cases e : i = k
  · subst e
    rw [List.getElem?_set_self (by omega), hx.out]
  · rw [List.getElem?_set_ne (by omega)]
    exact hf i (by omega)

theorem Filled.rd {wr : World} {B len : Nat} {l : List Nat} (hl : Hid (l.length = len)) (h : Filled wr B len l len) : Rd wr (some ⟨B, 0, none⟩) l := by
  obtain ⟨xs, hown, hf⟩ := h
  have hl := hl.out
  refine .inr ⟨B, 0, rfl, fun i hi => ?_⟩
  rw [Nat.zero_add, World.ownsRow.cellAt hown i (by omega)]
  exact hf i (by omega)

theorem Filled.start {w w1 : World} {len : Nat} {l : List Nat} {xs : List Value} (h : w1.ownsRow w.heap.size 5 1 (.slice (some ⟨w.heap.size, 0, none⟩) len len) len xs) (hg : w.grownBy w1 none) :
    Filled w1 w.heap.size len l 0 ∧ Below w.heap.size w w1 :=
  ⟨⟨xs, h, fun i hi => by omega⟩, (Below.refl _ w).grown hg (Nat.le_refl _) (by simp)⟩

set_option maxHeartbeats 400000 in
theorem clone_some (b off len cap : Nat) (l : List Nat) (w : World) (hlen : Hid (l.length = len)) (hb : len ≤ 1073741824)
    (rd : ∀ i, i < len → w.cell? ⟨b, off + i, none⟩ = some (.int .u8 ((l.getD i 0 : Nat) : Int))) :
    Calls Try.prog 12 #[.slice (some ⟨b, off, none⟩) len cap] w fun e w' => e = .returned (.slice (some ⟨w.heap.size, 0, none⟩) len len) ∧ Rd w' (some ⟨w.heap.size, 0, none⟩) l ∧ Below w.heap.size w w' := by
  obtain ⟨i0, hi, hz0, hz1, hz2⟩ := info_parts Try.info5
  have q22 : ∀ (w : World) (a : Option Addr) (n c n' c' : Nat), (binOp .eql 22 (.slice a n c) (.slice none n' c')).run Try.prog w = .ok (.bool a.isNone) w := fun w a n c n' c' => Lib.run_eql_slice_nil w _ _ a n c n' c' Try.underlying22
  go_enter Try.func12, Try.ntmps12
  go_wp2_with (at_make; refine wpList_make_full _ rfl _ _ 22 rfl w.heap.size 5 i0 (.int .u8 0) 1 Try.underlying22 hi hz0 hz1 _ _ _ _ len rfl rfl rfl rfl (by rw [hz2]; omega) (by unfold maxLen; omega) (Nat.le_refl _) ?_)
  intro w1 hown hgrow
  have R := Filled.start (l := l) hown hgrow
  obtain ⟨B, HB⟩ := hold_name w.heap.size
  rw [HB.out] at R ⊢
  clear hown hgrow
  go_wp2
  go_loopw [4] (fun i wr => ∃ k : Nat, k ≤ len ∧ i = .int .i64 k ∧ Filled wr B len l k ∧ Below B w wr) (fun i _ => len - (intOf i).toNat)
  case atStart => exact ⟨0, Nat.zero_le _, rfl, R.1, R.2⟩
  case round =>
    clear R
    obtain ⟨k, hk, rfl, hfill, hbel⟩ := hrel
    by_cases hlt : k < len
    · obtain ⟨x, HX⟩ := hold_name (l.getD k 0)
      have g0 := rd k hlt
      rw [HX.out] at g0
      have g1 : wr.cell? ⟨b, off + k, none⟩ = some (.int .u8 (x : Int)) := (hbel.cell (p := ⟨b, off + k, none⟩) (by rw [← HB.out]; exact World.block_lt_of_cell? w _ g0)).trans g0
      obtain ⟨⟨vo, g2⟩, g3⟩ := hfill.there hlt
      have R := hfill.next hlt HX hbel
      have HR : Hid _ := R
      clear R hfill hbel g0 rd
      go_wp2
      go_roundw
      case rel => exact ⟨k + 1, by omega, by go_num, HR.out.1, HR.out.2⟩
      case measure => simp [intOf]; omega
    · obtain rfl : k = len := by omega
      have hR := Filled.rd hlen hfill
      go_wp2
      go_ret
      rw [HB.out]
      exact ⟨rfl, hR, hbel⟩

theorem clone_nil (w : World) : Calls Try.prog 12 #[.slice none 0 0] w fun e w' => e = .returned (.slice none 0 0) ∧ w' = w := by
  have q22 : ∀ (w : World) (a : Option Addr) (n c n' c' : Nat), (binOp .eql 22 (.slice a n c) (.slice none n' c')).run Try.prog w = .ok (.bool a.isNone) w := fun w a n c n' c' => Lib.run_eql_slice_nil w _ _ a n c n' c' Try.underlying22
  go_enter Try.func12, Try.ntmps12
  go_wp2
  go_ret
  exact ⟨rfl, rfl⟩

theorem clone_empty (ad : Addr) (cap : Nat) (w : World) : Calls Try.prog 12 #[.slice (some ad) 0 cap] w fun e w' => e = .returned (.slice (some ⟨w.heap.size, 0, none⟩) 0 0) ∧ Below w.heap.size w w' := by
  obtain ⟨i0, hi, hz0, hz1, hz2⟩ := info_parts Try.info5
  have q22 : ∀ (w : World) (a : Option Addr) (n c n' c' : Nat), (binOp .eql 22 (.slice a n c) (.slice none n' c')).run Try.prog w = .ok (.bool a.isNone) w := fun w a n c n' c' => Lib.run_eql_slice_nil w _ _ a n c n' c' Try.underlying22
  go_enter Try.func12, Try.ntmps12
  go_wp2_with (at_make; refine wpList_make_full _ rfl _ _ 22 rfl w.heap.size 5 i0 (.int .u8 0) 1 Try.underlying22 hi hz0 hz1 _ _ _ _ 0 rfl rfl rfl rfl (by rw [hz2]; omega) (by unfold maxLen; omega) (Nat.le_refl _) ?_)
  intro w1 hown hgrow
  have R := (Filled.start (l := []) hown hgrow).2
  clear hown hgrow
  go_wp2
  refine wp_loop_rounds 1 ?_
  rw [rounds_succ]
  go_wp2
  go_ret
  exact ⟨rfl, R⟩

/-- zzClone, whole: nil stays nil; else a new row of just as many cells. -/
theorem clone_any (a : Option Addr) (len cap : Nat) (l : List Nat) (w : World) (hlen : Hid (l.length = len)) (hnil : a = none → len = 0 ∧ cap = 0) (rd : Rd w a l) (hb : len ≤ 1073741824) :
    Calls Try.prog 12 #[.slice a len cap] w fun e w' => ∃ a', e = .returned (.slice a' len len) ∧ (a' = none → len = 0) ∧ Rd w' a' l ∧ Below w.heap.size w w' := by
  cases a with
  | none =>
    obtain ⟨rfl, rfl⟩ := hnil rfl
    refine (clone_nil w).mono ?_
    rintro _ _ ⟨rfl, rfl⟩
    exact ⟨none, rfl, fun _ => rfl, rd, Below.refl _ _⟩
  | some ad =>
    by_cases h0 : len = 0
    · subst h0
      refine (clone_empty ad cap w).mono ?_
      rintro _ w' ⟨rfl, hbel⟩
      exact ⟨_, rfl, fun h => rfl, .inl (List.eq_nil_of_length_eq_zero hlen.out), hbel⟩
    · rcases rd with rd | ⟨b, off, e, rd⟩
      · subst rd; exact absurd hlen.out.symm h0
      · obtain rfl := Option.some.inj e
        refine (clone_some b off len cap l w hlen hb (fun i hi => rd i (by rw [hlen.out]; exact hi))).mono ?_
        rintro _ w' ⟨rfl, hrd, hbel⟩
        exact ⟨_, rfl, fun h => by simp at h, hrd, hbel⟩

end Go.Proofs.Qxb6000854a
