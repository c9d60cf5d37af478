/-
  Contracts for the hourly cap's law: the clones (25, 26), zzMinLen (27), zzBytes (31), elapsed (37), ZZNewHourlyCap (28).
-/
import Derived.Test.Qxb6000854aRowView
import Derived.Test.Qxb6000854aCapRound
namespace Go.Proofs.Qxb6000854a
open Go.RowKit
set_option linter.unusedVariables false

theorem Try.info2 : (Try.prog.info? 2).map (fun i => (i.zero, i.size, i.bytes)) = some (some (.int .i64 0), 1, 8) := by kernel_rfl
theorem Try.info36 : (Try.prog.info? 36).map (fun i => (i.zero, i.size, i.bytes)) = some (some (.float .f64 0), 1, 8) := by kernel_rfl
theorem Try.info63 : (Try.prog.info? 63).map (fun i => (i.zero, i.size, i.bytes)) = some (some (.agg #[.int .i64 0, .float .f64 0]), 2, 16) := by kernel_rfl

theorem run_store_float {P : Program} {w : World} {a : Addr} {m : Mode} (k : FloatKind) (b : Nat) : (store a (.float k b) m).run P w = stored P w a (.float k b) m := run_store P w a _ m rfl
attribute [local go_sem] run_store_float

def ci (l : List Int) : List Value := l.map (Value.int .i64)
def cf (l : List Nat) : List Value := l.map (Value.float .f64)

theorem ci_length (l : List Int) : (ci l).length = l.length := by simp [ci]
theorem cf_length (l : List Nat) : (cf l).length = l.length := by simp [cf]
theorem ci_at {l : List Int} {k : Nat} (h : k < l.length) : (ci l)[k]? = some (.int .i64 (l.getD k 0)) := by simp [ci, List.getD, h]
theorem cf_at {l : List Nat} {k : Nat} (h : k < l.length) : (cf l)[k]? = some (.float .f64 (l.getD k 0)) := by simp [cf, List.getD, h]

/-- The slice that begins at a holds the cells vs. -/
def Rv (w : World) (a : Option Addr) (vs : List Value) : Prop :=
  vs = [] ∨ ∃ b off, a = some ⟨b, off, none⟩ ∧ ∀ i, i < vs.length → w.cell? ⟨b, off + i, none⟩ = vs[i]?

theorem rv_below {B : Nat} {w w' : World} {a : Option Addr} {vs : List Value} (h : Rv w a vs) (hb : Below B w w') (hB : ∀ b off, a = some ⟨b, off, none⟩ → vs ≠ [] → b < B) : Rv w' a vs := by
  rcases h with h | ⟨b, o, rfl, h⟩
  · exact .inl h
  · by_cases hn : vs = []
    · exact .inl hn
    · exact .inr ⟨b, o, rfl, fun i hi => (hb.cell (p := ⟨b, o + i, none⟩) (hB b o rfl hn)).trans (h i hi)⟩

theorem rv_lt {w : World} {a : Option Addr} {vs : List Value} (h : Rv w a vs) : ∀ b off, a = some ⟨b, off, none⟩ → vs ≠ [] → b < w.heap.size := by
  intro b off ha hn
  rcases h with h | ⟨b1, o1, e, h⟩
  · exact absurd h hn
  · rw [ha] at e
    simp at e
    have hl : 0 < vs.length := List.length_pos_iff.2 hn
    have h0 := h 0 hl
    have hv : vs[0]? = some (vs[0]'hl) := by simp
    rw [hv] at h0
    have := World.block_lt_of_cell? w _ h0
    simp at this
    omega

/-- The new row holds the first k cells. -/
def FilledV (wr : World) (B : Nat) (e : TypeId) (len : Nat) (vs : List Value) (k : Nat) : Prop :=
  ∃ xs, wr.ownsRow B e 1 (.slice (some ⟨B, 0, none⟩) len len) len xs ∧ ∀ i, i < k → xs[i]? = vs[i]?

theorem FilledV.there {wr : World} {B len : Nat} {e : TypeId} {vs : List Value} {k : Nat} (h : FilledV wr B e len vs k) (hk : k < len) : (∃ v, wr.cell? ⟨B, k, none⟩ = some v) ∧ wr.frozen? ⟨B, k, none⟩ = false := by
  obtain ⟨xs, hown, _⟩ := h
  refine ⟨?_, World.ownsRow.frozenAt hown k⟩
  have hx : xs.length = len := by simpa using hown.1
  refine ⟨xs[k], ?_⟩
  rw [World.ownsRow.cellAt hown k (by omega)]
  simp

theorem FilledV.next {wr w : World} {B len : Nat} {e : TypeId} {vs : List Value} {k : Nat} {u : Value} (h : FilledV wr B e len vs k) (hk : k < len) (hx : vs[k]? = some u) (hb : Below B w wr) :
    FilledV (wr.setCell ⟨B, k, none⟩ u) B e len vs (k + 1) ∧ Below B w (wr.setCell ⟨B, k, none⟩ u) := by
  obtain ⟨xs, hown, hf⟩ := h
  have hl : xs.length = len := by simpa using hown.1
  refine ⟨⟨xs.set k u, (World.ownsRow.stored hown k _).1, fun i hi => ?_⟩, hb.setCell (Nat.le_refl _) _⟩
  by_cases e : i = k
  · subst e
    rw [List.getElem?_set_self (by omega), hx]
  · rw [List.getElem?_set_ne (by omega)]
    exact hf i (by omega)

theorem FilledV.rd {wr : World} {B len : Nat} {e : TypeId} {vs : List Value} (hl : vs.length = len) (h : FilledV wr B e len vs len) : Rv wr (some ⟨B, 0, none⟩) vs := by
  obtain ⟨xs, hown, hf⟩ := h
  refine .inr ⟨B, 0, rfl, fun i hi => ?_⟩
  rw [Nat.zero_add, World.ownsRow.cellAt hown i (by omega)]
  exact hf i (by omega)

theorem FilledV.start {w w1 : World} {len : Nat} {e : TypeId} {vs : List Value} {xs : List Value} (h : w1.ownsRow w.heap.size e 1 (.slice (some ⟨w.heap.size, 0, none⟩) len len) len xs) (hg : w.grownBy w1 none) :
    FilledV w1 w.heap.size e len vs 0 ∧ Below w.heap.size w w1 :=
  ⟨⟨xs, h, fun i hi => by omega⟩, (Below.refl _ w).grown hg (Nat.le_refl _) (by simp)⟩

set_option maxHeartbeats 400000 in
theorem cloneI_some (b off len cap : Nat) (l : List Int) (w : World) (hlen : Hid (l.length = len)) (hb : len ≤ 1073741824)
    (rd : ∀ i, i < len → w.cell? ⟨b, off + i, none⟩ = some (.int .i64 (l.getD i 0))) :
    Calls Try.prog 25 #[.slice (some ⟨b, off, none⟩) len cap] w fun e w' => e = .returned (.slice (some ⟨w.heap.size, 0, none⟩) len len) ∧ Rv w' (some ⟨w.heap.size, 0, none⟩) (ci l) ∧ Below w.heap.size w w' := by
  obtain ⟨i0, hi, hz0, hz1, hz2⟩ := info_parts Try.info2
  have q22 : ∀ (w : World) (a : Option Addr) (n c n' c' : Nat), (binOp .eql 37 (.slice a n c) (.slice none n' c')).run Try.prog w = .ok (.bool a.isNone) w := fun w a n c n' c' => Lib.run_eql_slice_nil w _ _ a n c n' c' Try.underlying37
  go_enter Try.func25, Try.ntmps25
  go_wp2_with (at_make; refine wpList_make_full _ rfl _ _ 37 rfl w.heap.size 2 i0 (.int .i64 0) 1 Try.underlying37 hi hz0 hz1 _ _ _ _ len rfl rfl rfl rfl (by rw [hz2]; omega) (by unfold maxLen; omega) (Nat.le_refl _) ?_)
  intro w1 hown hgrow
  have R := FilledV.start (vs := ci l) hown hgrow
  obtain ⟨B, HB⟩ := hold_name w.heap.size
  rw [HB.out] at R ⊢
  clear hown hgrow
  go_wp2
  go_loopw [4] (fun i wr => ∃ k : Nat, k ≤ len ∧ i = .int .i64 k ∧ FilledV wr B 2 len (ci l) k ∧ Below B w wr) (fun i _ => len - (intOf i).toNat)
  case atStart => exact ⟨0, Nat.zero_le _, rfl, R.1, R.2⟩
  case round =>
    clear R
    obtain ⟨k, hk, rfl, hfill, hbel⟩ := hrel
    by_cases hlt : k < len
    · obtain ⟨x, HX⟩ := hold_name (l.getD k 0)
      have g0 := rd k hlt
      rw [HX.out] at g0
      have g1 : wr.cell? ⟨b, off + k, none⟩ = some (.int .i64 x) := (hbel.cell (p := ⟨b, off + k, none⟩) (by rw [← HB.out]; exact World.block_lt_of_cell? w _ g0)).trans g0
      obtain ⟨⟨vo, g2⟩, g3⟩ := hfill.there hlt
      have R := hfill.next (u := .int .i64 x) hlt (by rw [ci_at (by rw [hlen.out]; exact hlt), HX.out]) hbel
      have HR : Hid _ := R
      clear R hfill hbel g0 rd
      go_wp2
      go_roundw
      case rel => exact ⟨k + 1, by omega, by go_num, HR.out.1, HR.out.2⟩
      case measure => simp [intOf]; omega
    · obtain rfl : k = len := by omega
      have hR := FilledV.rd (by rw [ci_length]; exact hlen.out) hfill
      go_wp2
      go_ret
      rw [HB.out]
      exact ⟨rfl, hR, hbel⟩

theorem cloneI_nil (w : World) : Calls Try.prog 25 #[.slice none 0 0] w fun e w' => e = .returned (.slice none 0 0) ∧ w' = w := by
  have q22 : ∀ (w : World) (a : Option Addr) (n c n' c' : Nat), (binOp .eql 37 (.slice a n c) (.slice none n' c')).run Try.prog w = .ok (.bool a.isNone) w := fun w a n c n' c' => Lib.run_eql_slice_nil w _ _ a n c n' c' Try.underlying37
  go_enter Try.func25, Try.ntmps25
  go_wp2
  go_ret
  exact ⟨rfl, rfl⟩

theorem cloneI_empty (ad : Addr) (cap : Nat) (w : World) : Calls Try.prog 25 #[.slice (some ad) 0 cap] w fun e w' => e = .returned (.slice (some ⟨w.heap.size, 0, none⟩) 0 0) ∧ Below w.heap.size w w' := by
  obtain ⟨i0, hi, hz0, hz1, hz2⟩ := info_parts Try.info2
  have q22 : ∀ (w : World) (a : Option Addr) (n c n' c' : Nat), (binOp .eql 37 (.slice a n c) (.slice none n' c')).run Try.prog w = .ok (.bool a.isNone) w := fun w a n c n' c' => Lib.run_eql_slice_nil w _ _ a n c n' c' Try.underlying37
  go_enter Try.func25, Try.ntmps25
  go_wp2_with (at_make; refine wpList_make_full _ rfl _ _ 37 rfl w.heap.size 2 i0 (.int .i64 0) 1 Try.underlying37 hi hz0 hz1 _ _ _ _ 0 rfl rfl rfl rfl (by rw [hz2]; omega) (by unfold maxLen; omega) (Nat.le_refl _) ?_)
  intro w1 hown hgrow
  have R := (FilledV.start (vs := []) hown hgrow).2
  clear hown hgrow
  go_wp2
  refine wp_loop_rounds 1 ?_
  rw [rounds_succ]
  go_wp2
  go_ret
  exact ⟨rfl, R⟩

theorem cloneI_any (a : Option Addr) (len cap : Nat) (l : List Int) (w : World) (hlen : Hid (l.length = len)) (hnil : a = none → len = 0 ∧ cap = 0) (rd : Rv w a (ci l)) (hb : len ≤ 1073741824) :
    Calls Try.prog 25 #[.slice a len cap] w fun e w' => ∃ a', e = .returned (.slice a' len len) ∧ Rv w' a' (ci l) ∧ Below w.heap.size w w' := by
  cases a with
  | none =>
    obtain ⟨rfl, rfl⟩ := hnil rfl
    refine (cloneI_nil w).mono ?_
    rintro _ _ ⟨rfl, rfl⟩
    exact ⟨none, rfl, rd, Below.refl _ _⟩
  | some ad =>
    by_cases h0 : len = 0
    · subst h0
      refine (cloneI_empty ad cap w).mono ?_
      rintro _ w' ⟨rfl, hbel⟩
      exact ⟨_, rfl, .inl (List.eq_nil_of_length_eq_zero (by rw [ci_length]; exact hlen.out)), hbel⟩
    · rcases rd with rd | ⟨b, off, e, rd⟩
      · have h := congrArg List.length rd
        rw [ci_length, hlen.out] at h
        exact absurd h h0
      · obtain rfl := Option.some.inj e
        refine (cloneI_some b off len cap l w hlen hb (fun i hi => ?_)).mono ?_
        · rw [rd i (by rw [ci_length, hlen.out]; exact hi), ci_at (by rw [hlen.out]; exact hi)]
        · rintro _ w' ⟨rfl, hrd, hbel⟩
          exact ⟨_, rfl, hrd, hbel⟩

set_option maxHeartbeats 400000 in
theorem cloneF_some (b off len cap : Nat) (l : List Nat) (w : World) (hlen : Hid (l.length = len)) (hb : len ≤ 1073741824)
    (rd : ∀ i, i < len → w.cell? ⟨b, off + i, none⟩ = some (.float .f64 (l.getD i 0))) :
    Calls Try.prog 26 #[.slice (some ⟨b, off, none⟩) len cap] w fun e w' => e = .returned (.slice (some ⟨w.heap.size, 0, none⟩) len len) ∧ Rv w' (some ⟨w.heap.size, 0, none⟩) (cf l) ∧ Below w.heap.size w w' := by
  obtain ⟨i0, hi, hz0, hz1, hz2⟩ := info_parts Try.info36
  have q22 : ∀ (w : World) (a : Option Addr) (n c n' c' : Nat), (binOp .eql 38 (.slice a n c) (.slice none n' c')).run Try.prog w = .ok (.bool a.isNone) w := fun w a n c n' c' => Lib.run_eql_slice_nil w _ _ a n c n' c' Try.underlying38
  go_enter Try.func26, Try.ntmps26
  go_wp2_with (at_make; refine wpList_make_full _ rfl _ _ 38 rfl w.heap.size 36 i0 (.float .f64 0) 1 Try.underlying38 hi hz0 hz1 _ _ _ _ len rfl rfl rfl rfl (by rw [hz2]; omega) (by unfold maxLen; omega) (Nat.le_refl _) ?_)
  intro w1 hown hgrow
  have R := FilledV.start (vs := cf l) hown hgrow
  obtain ⟨B, HB⟩ := hold_name w.heap.size
  rw [HB.out] at R ⊢
  clear hown hgrow
  go_wp2
  go_loopw [4] (fun i wr => ∃ k : Nat, k ≤ len ∧ i = .int .i64 k ∧ FilledV wr B 36 len (cf l) k ∧ Below B w wr) (fun i _ => len - (intOf i).toNat)
  case atStart => exact ⟨0, Nat.zero_le _, rfl, R.1, R.2⟩
  case round =>
    clear R
    obtain ⟨k, hk, rfl, hfill, hbel⟩ := hrel
    by_cases hlt : k < len
    · obtain ⟨x, HX⟩ := hold_name (l.getD k 0)
      have g0 := rd k hlt
      rw [HX.out] at g0
      have g1 : wr.cell? ⟨b, off + k, none⟩ = some (.float .f64 x) := (hbel.cell (p := ⟨b, off + k, none⟩) (by rw [← HB.out]; exact World.block_lt_of_cell? w _ g0)).trans g0
      obtain ⟨⟨vo, g2⟩, g3⟩ := hfill.there hlt
      have R := hfill.next (u := .float .f64 x) hlt (by rw [cf_at (by rw [hlen.out]; exact hlt), HX.out]) hbel
      have HR : Hid _ := R
      clear R hfill hbel g0 rd
      go_wp2
      go_roundw
      case rel => exact ⟨k + 1, by omega, by go_num, HR.out.1, HR.out.2⟩
      case measure => simp [intOf]; omega
    · obtain rfl : k = len := by omega
      have hR := FilledV.rd (by rw [cf_length]; exact hlen.out) hfill
      go_wp2
      go_ret
      rw [HB.out]
      exact ⟨rfl, hR, hbel⟩

theorem cloneF_nil (w : World) : Calls Try.prog 26 #[.slice none 0 0] w fun e w' => e = .returned (.slice none 0 0) ∧ w' = w := by
  have q22 : ∀ (w : World) (a : Option Addr) (n c n' c' : Nat), (binOp .eql 38 (.slice a n c) (.slice none n' c')).run Try.prog w = .ok (.bool a.isNone) w := fun w a n c n' c' => Lib.run_eql_slice_nil w _ _ a n c n' c' Try.underlying38
  go_enter Try.func26, Try.ntmps26
  go_wp2
  go_ret
  exact ⟨rfl, rfl⟩

theorem cloneF_empty (ad : Addr) (cap : Nat) (w : World) : Calls Try.prog 26 #[.slice (some ad) 0 cap] w fun e w' => e = .returned (.slice (some ⟨w.heap.size, 0, none⟩) 0 0) ∧ Below w.heap.size w w' := by
  obtain ⟨i0, hi, hz0, hz1, hz2⟩ := info_parts Try.info36
  have q22 : ∀ (w : World) (a : Option Addr) (n c n' c' : Nat), (binOp .eql 38 (.slice a n c) (.slice none n' c')).run Try.prog w = .ok (.bool a.isNone) w := fun w a n c n' c' => Lib.run_eql_slice_nil w _ _ a n c n' c' Try.underlying38
  go_enter Try.func26, Try.ntmps26
  go_wp2_with (at_make; refine wpList_make_full _ rfl _ _ 38 rfl w.heap.size 36 i0 (.float .f64 0) 1 Try.underlying38 hi hz0 hz1 _ _ _ _ 0 rfl rfl rfl rfl (by rw [hz2]; omega) (by unfold maxLen; omega) (Nat.le_refl _) ?_)
  intro w1 hown hgrow
  have R := (FilledV.start (vs := []) hown hgrow).2
  clear hown hgrow
  go_wp2
  refine wp_loop_rounds 1 ?_
  rw [rounds_succ]
  go_wp2
  go_ret
  exact ⟨rfl, R⟩

theorem cloneF_any (a : Option Addr) (len cap : Nat) (l : List Nat) (w : World) (hlen : Hid (l.length = len)) (hnil : a = none → len = 0 ∧ cap = 0) (rd : Rv w a (cf l)) (hb : len ≤ 1073741824) :
    Calls Try.prog 26 #[.slice a len cap] w fun e w' => ∃ a', e = .returned (.slice a' len len) ∧ Rv w' a' (cf l) ∧ Below w.heap.size w w' := by
  cases a with
  | none =>
    obtain ⟨rfl, rfl⟩ := hnil rfl
    refine (cloneF_nil w).mono ?_
    rintro _ _ ⟨rfl, rfl⟩
    exact ⟨none, rfl, rd, Below.refl _ _⟩
  | some ad =>
    by_cases h0 : len = 0
    · subst h0
      refine (cloneF_empty ad cap w).mono ?_
      rintro _ w' ⟨rfl, hbel⟩
      exact ⟨_, rfl, .inl (List.eq_nil_of_length_eq_zero (by rw [cf_length]; exact hlen.out)), hbel⟩
    · rcases rd with rd | ⟨b, off, e, rd⟩
      · have h := congrArg List.length rd
        rw [cf_length, hlen.out] at h
        exact absurd h h0
      · obtain rfl := Option.some.inj e
        refine (cloneF_some b off len cap l w hlen hb (fun i hi => ?_)).mono ?_
        · rw [rd i (by rw [cf_length, hlen.out]; exact hi), cf_at (by rw [hlen.out]; exact hi)]
        · rintro _ w' ⟨rfl, hrd, hbel⟩
          exact ⟨_, rfl, hrd, hbel⟩

theorem minlen_any (a b : Nat) (w : World) (ha : a ≤ 9223372036854775807) (hb : b ≤ 9223372036854775807) : Calls Try.prog 27 #[.int .i64 (a : Int), .int .i64 (b : Int)] w fun e w' => e = .returned (.int .i64 ((min a b : Nat) : Int)) ∧ w' = w := by
  by_cases h : a < b
  · rw [Nat.min_eq_left (by omega)]
    go_enter Try.func27, Try.ntmps27
    go_wp2
    go_ret
    exact ⟨rfl, rfl⟩
  · rw [Nat.min_eq_right (by omega)]
    go_enter Try.func27, Try.ntmps27
    go_wp2
    go_ret
    exact ⟨rfl, rfl⟩

theorem elapsed_any (s t : Int) (w : World) (hs : -9223372036854775808 ≤ s ∧ s ≤ 9223372036854775807) (ht : -9223372036854775808 ≤ t ∧ t ≤ 9223372036854775807) : Calls Try.prog 37 #[.int .i64 s, .int .i64 t] w fun e w' => e = .returned (.int .u64 (Fl.el s t)) ∧ w' = w := by
  go_enter Try.func37, Try.ntmps37
  go_wp2
  go_ret
  exact ⟨rfl, rfl⟩

theorem newcap_any (lim : Nat) (w : World) : Calls Try.prog 28 #[.float .f64 lim] w fun e w' => e = .returned (.pointer (some ⟨w.heap.size, 0, none⟩)) ∧ w' = w.alloc (.cells #[.float .f64 lim, .slice none 0 0, .float .f64 0] 58) := by
  go_enter Try.func28, Try.ntmps28
  go_wp2
  go_ret
  exact ⟨rfl, rfl⟩

theorem bytes_yes (x : Nat) (a : Option Addr) (n c : Nat) (b : Option Addr) (m d : Nat) (w : World) (h0 : n ≤ 4096) (h1 : m ≤ 4096) :
    Calls Try.prog 31 #[.float .f64 x, .slice a n c, .slice b m d] w fun e w' => e = .returned (.bool true) ∧ w' = w := by
  go_enter Try.func31, Try.ntmps31
  go_wp2
  go_ret
  exact ⟨rfl, rfl⟩

theorem run_fadd {x y z : Nat} (h : Ieee.double.add x y = some z) (w : World) : (binOp .add 36 (.float .f64 x) (.float .f64 y)).run Try.prog w = .ok (.float .f64 z) w := run_float_arith w .add 36 .f64 x y z h
theorem run_fsub {x y z : Nat} (h : Ieee.double.sub x y = some z) (w : World) : (binOp .sub 36 (.float .f64 x) (.float .f64 y)).run Try.prog w = .ok (.float .f64 z) w := run_float_arith w .sub 36 .f64 x y z h

theorem drop_step {g : List (Int × Nat)} {j : Nat} (h : j < g.length) : ∃ p, g.drop j = p :: g.drop (j + 1) ∧ (g.map Prod.fst).getD j 0 = p.1 ∧ (g.map Prod.snd).getD j 0 = p.2 := by
  refine ⟨g[j], List.drop_eq_getElem_cons h, ?_, ?_⟩
  · simp [List.getD, h]
  · simp [List.getD, h]

theorem win_yes {t : Int} {p : Int × Nat} {r : List (Int × Nat)} {z R : Nat} (h : Fl.winF t (p :: r) z = R) (hc : Fl.el p.1 t < 3600) : Fl.winF t r (Fl.fadd z p.2) = R := by
  rw [← h]; simp [Fl.winF, hc]
theorem win_no {t : Int} {p : Int × Nat} {r : List (Int × Nat)} {z R : Nat} (h : Fl.winF t (p :: r) z = R) (hc : ¬ Fl.el p.1 t < 3600) : Fl.winF t r z = R := by
  rw [← h]; simp [Fl.winF, hc]

set_option maxHeartbeats 400000 in
theorem window_some (b1 o1 c1 b2 o2 c2 n R : Nat) (g : List (Int × Nat)) (t : Int) (w : World) (Hn : Hid (g.length = n)) (hn : n ≤ 1073741824) (HR : Hid (Fl.winF t g 0 = R)) (hW : ∃ A δ, Fl.WI t g 0 A δ)
    (h1 : Hid (∀ i, i < n → w.cell? ⟨b1, o1 + i, none⟩ = some (.int .i64 ((g.map Prod.fst).getD i 0)))) (h2 : Hid (∀ i, i < n → w.cell? ⟨b2, o2 + i, none⟩ = some (.float .f64 ((g.map Prod.snd).getD i 0)))) :
    Calls Try.prog 30 #[.slice (some ⟨b1, o1, none⟩) n c1, .slice (some ⟨b2, o2, none⟩) n c2, .int .i64 t] w fun e w' => e = .returned (.float .f64 R) ∧ w' = w := by
  obtain ⟨A0, δ0, hW0⟩ := hW
  go_enter Try.func30, Try.ntmps30
  go_wp2
  go_loop [7, 8] (fun u v => ∃ (j z : Nat) (A δ : Int), j ≤ n ∧ v = .int .i64 j ∧ u = .float .f64 z ∧ Hid (Fl.winF t (g.drop j) z = R) ∧ Fl.WI t (g.drop j) z A δ) (fun _ v => n - (intOf v).toNat)
  case atStart => exact ⟨0, 0, A0, δ0, Nat.zero_le _, rfl, rfl, HR, hW0⟩
  case round =>
    clear hW0
    obtain ⟨j, z, A, δ, hj, rfl, rfl, HZ, hW⟩ := hrel
    by_cases hlt : j < n
    · obtain ⟨p, e1, e2, e3⟩ := drop_step (g := g) (j := j) (by rw [Hn.out]; exact hlt)
      have g1 := h1.out j hlt
      have g2 := h2.out j hlt
      rw [e2] at g1
      rw [e3] at g2
      rw [e1] at hW HZ
      obtain ⟨s, x⟩ := p
      simp only at g1 g2
      by_cases hc : Fl.el s t < 3600
      · obtain ⟨ha, hW2⟩ := hW.step hc
        have HZ2 : Hid _ := win_yes HZ.out hc
        have hadd := run_fadd ha
        have hc' : IntKind.u64.wrap (IntKind.u64.wrap t - IntKind.u64.wrap s) < 3600 := hc
        clear e1 e2 e3 ha hW hc
        go_wp2
        go_round
        case rel => exact ⟨j + 1, _, _, _, by omega, by go_num, rfl, HZ2, hW2⟩
        case measure => simp [intOf]; omega
      · have hW2 := hW.skip hc
        have HZ2 : Hid _ := win_no HZ.out hc
        have hc' : ¬ IntKind.u64.wrap (IntKind.u64.wrap t - IntKind.u64.wrap s) < 3600 := hc
        clear e1 e2 e3 hW hc
        go_wp2
        go_round
        case rel => exact ⟨j + 1, _, _, _, by omega, by go_num, rfl, HZ2, hW2⟩
        case measure => simp [intOf]; omega
    · have e : z = R := by
        have := HZ.out
        rw [List.drop_of_length_le (by rw [Hn.out]; omega)] at this
        exact this
      subst e
      go_wp2
      go_ret
      exact ⟨rfl, rfl⟩

theorem window_nil (a1 a2 : Option Addr) (c1 c2 : Nat) (t : Int) (w : World) :
    Calls Try.prog 30 #[.slice a1 0 c1, .slice a2 0 c2, .int .i64 t] w fun e w' => e = .returned (.float .f64 0) ∧ w' = w := by
  go_enter Try.func30, Try.ntmps30
  go_wp2
  refine wp_loop_rounds 1 ?_
  rw [rounds_succ]
  go_wp2
  go_ret
  exact ⟨rfl, rfl⟩

theorem window_any (a1 a2 : Option Addr) (c1 c2 n R : Nat) (g : List (Int × Nat)) (t : Int) (w : World) (Hn : Hid (g.length = n)) (hn : n ≤ 1073741824) (HR : Hid (Fl.winF t g 0 = R)) (hW : ∃ A δ, Fl.WI t g 0 A δ)
    (h1 : Rv w a1 (ci (g.map Prod.fst))) (h2 : Rv w a2 (cf (g.map Prod.snd))) :
    Calls Try.prog 30 #[.slice a1 n c1, .slice a2 n c2, .int .i64 t] w fun e w' => e = .returned (.float .f64 R) ∧ w' = w := by
  by_cases h0 : n = 0
  · subst h0
    obtain rfl : g = [] := List.eq_nil_of_length_eq_zero Hn.out
    obtain rfl : (0 : Nat) = R := HR.out
    exact window_nil a1 a2 c1 c2 t w
  · rcases h1 with h1 | ⟨b1, o1, rfl, h1⟩
    · have := congrArg List.length h1
      rw [ci_length, List.length_map, Hn.out] at this
      exact absurd this h0
    rcases h2 with h2 | ⟨b2, o2, rfl, h2⟩
    · have := congrArg List.length h2
      rw [cf_length, List.length_map, Hn.out] at this
      exact absurd this h0
    refine window_some b1 o1 c1 b2 o2 c2 n R g t w Hn hn HR hW (fun i hi => ?_) (fun i hi => ?_)
    · rw [h1 i (by rw [ci_length, List.length_map, Hn.out]; exact hi), ci_at (by rw [List.length_map, Hn.out]; exact hi)]
    · rw [h2 i (by rw [cf_length, List.length_map, Hn.out]; exact hi), cf_at (by rw [List.length_map, Hn.out]; exact hi)]

end Go.Proofs.Qxb6000854a
