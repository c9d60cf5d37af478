/-
  The hourly cap in memory: its struct in block C, its recent amounts in a row that may begin inside its block.
-/
import Derived.Test.Qxb6000854aFits
namespace Go.Proofs.Qxb6000854a
open Go.RowKit
set_option linter.unusedVariables false

/-- The cells of a row of {at, amount}. -/
def recCells : List (Int × Nat) → List Value
  | [] => []
  | p :: r => .int .i64 p.1 :: .float .f64 p.2 :: recCells r

theorem recCells_length (l : List (Int × Nat)) : (recCells l).length = l.length * 2 := by
  induction l with
  | nil => rfl
  | cons p r ih => simp only [recCells, List.length_cons, ih]; omega

theorem recCells_append (a b : List (Int × Nat)) : recCells (a ++ b) = recCells a ++ recCells b := by
  induction a with
  | nil => rfl
  | cons p r ih => simp [recCells, ih]

theorem recCells_one (l : List (Int × Nat)) : ∀ u ∈ recCells l, u.oneCell' = true := by
  induction l with
  | nil => intro u hu; simp [recCells] at hu
  | cons p r ih =>
    intro u hu
    simp only [recCells, List.mem_cons] at hu
    rcases hu with rfl | rfl | hu
    · rfl
    · rfl
    · exact ih u hu

/-- The slice of recent amounts. -/
structure RecAt (w : World) (B : Nat) (a : Option Addr) (n cap : Nat) (rec : List (Int × Nat)) : Prop where
  len : rec.length = n
  le : n ≤ cap
  max : cap ≤ 9223372036854775807
  nil : a = none → cap = 0
  row : cap = 0 ∨ ∃ b off cur, a = some ⟨b, off, none⟩ ∧ B ≤ b ∧ w.heap[b]? = some (.cells cur 63 (0, 0)) ∧ off + cap * 2 ≤ cur.size ∧ ∀ j u, (recCells rec)[j]? = some u → cur[off + j]? = some u

/-- The cap. -/
structure CapAt (w : World) (B C lim : Nat) (a : Option Addr) (n cap sum : Nat) (rec : List (Int × Nat)) : Prop where
  blk : w.heap[C]? = some (.cells #[.float .f64 lim, .slice a n cap, .float .f64 sum] 58 (0, 0))
  base : B ≤ C
  rows : RecAt w B a n cap rec

/-- Everything but block C is as it was. -/
structure OnlyC (C : Nat) (w w' : World) : Prop where
  os : w'.os = w.os
  tape : w'.tape = w.tape
  output : w'.output = w.output
  size : w'.heap.size = w.heap.size
  block : ∀ k, k ≠ C → w'.heap[k]? = w.heap[k]?

theorem OnlyC.refl (C : Nat) (w : World) : OnlyC C w w := ⟨rfl, rfl, rfl, rfl, fun _ _ => rfl⟩
theorem OnlyC.trans {C : Nat} {a b c : World} (h : OnlyC C a b) (k : OnlyC C b c) : OnlyC C a c :=
  ⟨k.os.trans h.os, k.tape.trans h.tape, k.output.trans h.output, k.size.trans h.size, fun i hi => (k.block i hi).trans (h.block i hi)⟩
theorem OnlyC.drew {C : Nat} {a b : World} (h : OnlyC C a b) : OnlyC C a b.drew := ⟨h.os, h.tape, h.output, h.size, h.block⟩
theorem OnlyC.setCell {C : Nat} {a b : World} (h : OnlyC C a b) (i : Nat) (v : Value) : OnlyC C a (b.setCell ⟨C, i, none⟩ v) :=
  h.trans ⟨rfl, rfl, rfl, by simp [World.setCell], fun k hk => heap_setCell_other b ⟨C, i, none⟩ k v hk⟩
theorem OnlyC.below {B C : Nat} {w w' : World} (h : OnlyC C w w') (hB : B ≤ C) : Below B w w' := ⟨h.os, h.tape, h.output, by rw [h.size]; exact Nat.le_refl _, fun k hk => h.block k (by omega)⟩

section
variable {w : World} {B C lim : Nat} {a : Option Addr} {n cap sum : Nat} {rec : List (Int × Nat)}

theorem CapAt.cells (h : CapAt w B C lim a n cap sum rec) : w.cell? ⟨C, 0, none⟩ = some (.float .f64 lim) ∧ w.cell? ⟨C, 1, none⟩ = some (.slice a n cap) ∧ w.cell? ⟨C, 2, none⟩ = some (.float .f64 sum) ∧
    w.frozen? ⟨C, 0, none⟩ = false ∧ w.frozen? ⟨C, 1, none⟩ = false ∧ w.frozen? ⟨C, 2, none⟩ = false := by
  refine ⟨?_, ?_, ?_, frozen_of_row w C 0 _ 58 h.blk, frozen_of_row w C 1 _ 58 h.blk, frozen_of_row w C 2 _ 58 h.blk⟩
  · rw [cell_of_row w C 0 _ 58 (0, 0) h.blk]; rfl
  · rw [cell_of_row w C 1 _ 58 (0, 0) h.blk]; rfl
  · rw [cell_of_row w C 2 _ 58 (0, 0) h.blk]; rfl

/-- A row of another block is told apart from the struct by its tag. -/
theorem CapAt.ne (h : CapAt w B C lim a n cap sum rec) {b : Nat} {cur : Array Value} (hb : w.heap[b]? = some (.cells cur 63 (0, 0))) : b ≠ C := by
  rintro rfl
  have := h.blk
  rw [hb] at this
  simp at this

theorem RecAt.move {w' : World} (h : RecAt w B a n cap rec) (hb : ∀ (b : Nat) (cur : Array Value), w.heap[b]? = some (Obj.cells cur 63 (0, 0)) → w'.heap[b]? = w.heap[b]?) : RecAt w' B a n cap rec := by
  refine ⟨h.len, h.le, h.max, h.nil, ?_⟩
  rcases h.row with h0 | ⟨b, off, cur, e, h1, h2, h3, h4⟩
  · exact .inl h0
  · exact .inr ⟨b, off, cur, e, h1, (hb b cur h2).trans h2, h3, h4⟩

/-- The first of the recent amounts, in memory. -/
theorem CapAt.first {p : Int × Nat} {r : List (Int × Nat)} (h : CapAt w B C lim a n cap sum (p :: r)) :
    ∃ b off, a = some ⟨b, off, none⟩ ∧ b ≠ C ∧ w.cell? ⟨b, off, none⟩ = some (.int .i64 p.1) ∧ w.cell? ⟨b, off + 1, none⟩ = some (.float .f64 p.2) := by
  have hl := h.rows.len
  have hle := h.rows.le
  simp at hl
  rcases h.rows.row with h0 | ⟨b, off, cur, e, h1, h2, h3, h4⟩
  · omega
  · refine ⟨b, off, e, h.ne h2, ?_, ?_⟩
    · rw [cell_of_row w b off cur 63 (0, 0) h2]; exact h4 0 _ rfl
    · rw [cell_of_row w b (off + 1) cur 63 (0, 0) h2]; exact h4 1 _ rfl

/-- A new sum. -/
theorem CapAt.setSum (h : CapAt w B C lim a n cap sum rec) (v : Nat) : CapAt (w.setCell ⟨C, 2, none⟩ (.float .f64 v)) B C lim a n cap v rec := by
  refine ⟨?_, h.base, h.rows.move fun b cur hb => heap_setCell_other w ⟨C, 2, none⟩ b _ (h.ne hb)⟩
  rw [heap_setCell_same w C 2 _ 58 _ h.blk]; rfl

theorem CapAt.drew (h : CapAt w B C lim a n cap sum rec) : CapAt w.drew B C lim a n cap sum rec := ⟨h.blk, h.base, ⟨h.rows.len, h.rows.le, h.rows.max, h.rows.nil, h.rows.row⟩⟩

/-- The first is cut off: there was one cell more. -/
theorem CapAt.cut {b off : Nat} {p : Int × Nat} {r : List (Int × Nat)} (h : CapAt w B C lim (some ⟨b, off, none⟩) n cap sum (p :: r)) (hc : 1 < cap) :
    CapAt (w.setCell ⟨C, 1, none⟩ (.slice (some ⟨b, off + 2, none⟩) (n - 1) (cap - 1))) B C lim (some ⟨b, off + 2, none⟩) (n - 1) (cap - 1) sum r := by
  have hl := h.rows.len
  have hle := h.rows.le
  simp at hl
  refine ⟨?_, h.base, by omega, by omega, by have := h.rows.max; omega, fun e => by simp at e, ?_⟩
  · rw [heap_setCell_same w C 1 _ 58 _ h.blk]; rfl
  · rcases h.rows.row with h0 | ⟨b', off', cur, e, h1, h2, h3, h4⟩
    · omega
    · simp at e
      obtain ⟨rfl, rfl⟩ := e
      refine .inr ⟨b, off + 2, cur, rfl, h1, (heap_setCell_other w ⟨C, 1, none⟩ b _ (h.ne h2)).trans h2, by omega, fun j u hu => ?_⟩
      rw [show off + 2 + j = off + (j + 2) by omega]
      exact h4 (j + 2) u (by simpa [recCells] using hu)

/-- The first is cut off: it was the last cell. -/
theorem CapAt.cut_end {b off : Nat} {p : Int × Nat} {r : List (Int × Nat)} (h : CapAt w B C lim (some ⟨b, off, none⟩) n cap sum (p :: r)) (hc : cap = 1) :
    CapAt (w.setCell ⟨C, 1, none⟩ (.slice (some ⟨b, off, none⟩) 0 0)) B C lim (some ⟨b, off, none⟩) 0 0 sum r := by
  have hl := h.rows.len
  have hle := h.rows.le
  simp at hl
  refine ⟨?_, h.base, by omega, by omega, by omega, fun e => by simp at e, .inl rfl⟩
  rw [heap_setCell_same w C 1 _ 58 _ h.blk]; rfl

end

/-- Everything below B, and every block that is no row of recent amounts and not C, is as it was. -/
structure Keep (B C : Nat) (w w' : World) : Prop where
  os : w'.os = w.os
  tape : w'.tape = w.tape
  output : w'.output = w.output
  size : w.heap.size ≤ w'.heap.size
  block : ∀ k, k < w.heap.size → k ≠ C → (k < B ∨ ∀ cur, w.heap[k]? ≠ some (Obj.cells cur 63 (0, 0))) → w'.heap[k]? = w.heap[k]?

theorem Keep.refl (B C : Nat) (w : World) : Keep B C w w := ⟨rfl, rfl, rfl, Nat.le_refl _, fun _ _ _ _ => rfl⟩
theorem Keep.trans {B C : Nat} {a b c : World} (h : Keep B C a b) (k : Keep B C b c) : Keep B C a c :=
  ⟨k.os.trans h.os, k.tape.trans h.tape, k.output.trans h.output, Nat.le_trans h.size k.size, fun i hi hC hT => by
    have e := h.block i hi hC hT
    rw [k.block i (Nat.lt_of_lt_of_le hi h.size) hC (hT.elim .inl fun hn => .inr (by rw [e]; exact hn)), e]⟩
theorem OnlyC.keep {B C : Nat} {w w' : World} (h : OnlyC C w w') : Keep B C w w' := ⟨h.os, h.tape, h.output, by rw [h.size]; exact Nat.le_refl _, fun k _ hC _ => h.block k hC⟩
theorem Keep.below {B C : Nat} {w w' : World} (h : Keep B C w w') (hB : B ≤ C) (hs : B ≤ w.heap.size) : Below B w w' := ⟨h.os, h.tape, h.output, h.size, fun k hk => h.block k (by omega) (by omega) (.inl hk)⟩
theorem Keep.alloc {B C : Nat} (w : World) (o : Obj) : Keep B C w (w.alloc o) := ⟨rfl, rfl, rfl, by simp, fun k hk _ _ => Below.heap_alloc w o k hk⟩
theorem Keep.setC {B C : Nat} {a w : World} (h : Keep B C a w) (i : Nat) (v : Value) : Keep B C a (w.setCell ⟨C, i, none⟩ v) := h.trans (OnlyC.setCell (OnlyC.refl C w) i v).keep
theorem Keep.drew {B C : Nat} {a b : World} (h : Keep B C a b) : Keep B C a b.drew := ⟨h.os, h.tape, h.output, h.size, h.block⟩

/-- A fresh row that was made by append. -/
theorem rec_of_own {w : World} {B base n : Nat} {v : Value} {l : List (Int × Nat)} (h : w.ownsRow base 63 2 v n (recCells l)) (hB : B ≤ base) (hl : l.length = n) (hn : 0 < n) :
    ∃ a cap, v = .slice a n cap ∧ RecAt w B a n cap l := by
  rcases h.2 with ⟨_, h0⟩ | ⟨g, cap, cur, rfl, hb, hg, hnc, hm, hc, ht⟩
  · omega
  · refine ⟨_, _, rfl, hl, hnc, hm, fun e => by simp at e, .inr ⟨g, 0, cur, rfl, by omega, hg, by omega, fun j u hu => ?_⟩⟩
    rw [← ht, List.getElem?_take] at hu
    split at hu
    · rw [Nat.zero_add]; simpa using hu
    · cases hu

/-- 'c.recent = append(c.recent, capped{..})'. -/
theorem law_rec {ops : Array Oper} {rest : List Oper} {o : Oper} {a : Act} {Q : Exit → Act → World → Prop} (hgd : o.guard = none) (s x : Operand)
    (ho : o.op = .call { callee := .builtin .append, args := #[s, x], argTypes := #[56, 56] }) (W w : World) (B C n cap c : Nat) (av : Option Addr) (rec : List (Int × Nat)) (p : Int × Nat) (cv : Array Value)
    (hW : W = w.alloc (.cells cv 63)) (hcv : cv = #[.int .i64 p.1, .float .f64 p.2]) (hs : a.eval s = .slice av n cap) (hrec : RecAt w B av n cap rec) (hB : B ≤ w.heap.size) (hx : a.eval x = .slice (some ⟨w.heap.size, 0, none⟩) 1 c) (hn : n ≤ 4096)
    (h : ∀ a' cap' w', RecAt w' B a' (n + 1) cap' (rec ++ [p]) → Keep B C w w' → wpList Try.prog ops Q rest (a.put o.dst (.slice a' (n + 1) cap')) w') : wpList Try.prog ops Q (o :: rest) a W := by
  obtain ⟨i0, hi, hz0, hz1, hz2⟩ := info_parts Try.info63
  subst hcv
  subst hW
  have hk1 : Keep B C w (w.alloc (.cells #[.int .i64 p.1, .float .f64 p.2] 63)) := Keep.alloc w _
  have hnews : ∀ j u, (recCells [p])[j]? = some u → (w.alloc (.cells #[.int .i64 p.1, .float .f64 p.2] 63)).cell? ((⟨w.heap.size, 0, none⟩ : Addr).add j) = some u := cells_new w (recCells [p]) 63
  have hrec1 : RecAt (w.alloc (.cells #[.int .i64 p.1, .float .f64 p.2] 63)) B av n cap rec := hrec.move fun b cur hb => Below.heap_alloc w _ b (Array.getElem?_eq_some_iff.1 hb).1
  have hl := hrec.len
  have hle := hrec.le
  have hgrown : ∀ v' w', w'.ownsRow (w.alloc (.cells #[.int .i64 p.1, .float .f64 p.2] 63)).heap.size 63 2 v' (n + 1) (recCells rec ++ recCells [p]) → (w.alloc (.cells #[.int .i64 p.1, .float .f64 p.2] 63)).grownBy w' none → wpList Try.prog ops Q rest (a.put o.dst v') w' := by
    intro v' w' hown hg
    rw [← recCells_append] at hown
    obtain ⟨a', cap', rfl, hr⟩ := rec_of_own (B := B) hown (by simp; omega) (by simp; omega) (by omega)
    refine h a' cap' w' hr (hk1.trans ⟨hg.os, hg.tape, hg.output, hg.size, fun k hk _ _ => hg.block k hk (by simp)⟩)
  rcases hrec1.row with h0 | ⟨b, off, cur, rfl, hb1, hb2, hb3, hb4⟩
  · obtain rfl : n = 0 := by omega
    obtain rfl : rec = [] := List.eq_nil_of_length_eq_zero hl
    exact wpList_append_grows _ hgd s x 56 ho 63 i0 (.agg #[.int .i64 0, .float .f64 0]) 2 16 Try.underlying56 hi hz0 hz1 hz2 rfl (by decide) av 0 cap [] hs (fun e => ⟨rfl, h0⟩) rfl (fun _ _ j u hu => by simp at hu) ⟨w.heap.size, 0, none⟩ 1 c (recCells [p]) hx rfl hnews (recCells_one _)
      (by omega) (by unfold maxLen; omega) (by omega) hgrown
  · refine wpList_append_arg _ hgd s x 56 ho 63 i0 (.agg #[.int .i64 0, .float .f64 0]) 2 16 Try.underlying56 hi hz0 hz1 hz2 rfl (by decide) b off n cap (recCells rec) hs (by rw [recCells_length, hl]) (fun j u hu => ?_) ⟨w.heap.size, 0, none⟩ 1 c (recCells [p]) hx rfl hnews (recCells_one _)
      (fun hroom j hj => ?_) (by unfold maxLen; omega) (by omega) (fun hroom => ?_) (fun _ => hgrown)
    · rw [cell_of_row _ b (off + j) cur 63 (0, 0) hb2]; exact hb4 j u hu
    · have hj2 : j < 2 := hj
      refine ⟨?_, frozen_of_row _ b _ cur 63 hb2⟩
      rw [cell_of_row _ b (off + n * 2 + j) cur 63 (0, 0) hb2]
      simp
      omega
    · -- there is room
      have hset : ((w.alloc (.cells #[.int .i64 p.1, .float .f64 p.2] 63)).setCells b (off + n * 2) (recCells [p])) = ((w.alloc (.cells #[.int .i64 p.1, .float .f64 p.2] 63)).setCell ⟨b, off + n * 2, none⟩ (.int .i64 p.1)).setCell ⟨b, off + n * 2 + 1, none⟩ (.float .f64 p.2) := rfl
      rw [hset]
      have q1 := heap_setCell_same _ b (off + n * 2) cur 63 (.int .i64 p.1) hb2
      have q2 := heap_setCell_same _ b (off + n * 2 + 1) _ 63 (.float .f64 p.2) q1
      refine h (some ⟨b, off, none⟩) cap _ ⟨by simp; omega, hroom, hrec.max, fun e => by simp at e, .inr ⟨b, off, _, rfl, hb1, q2, by simp; omega, fun j u hu => ?_⟩⟩ ?_
      · rw [recCells_append] at hu
        have hrl : (recCells rec).length = n * 2 := by rw [recCells_length, hl]
        by_cases hj : j < n * 2
        · rw [List.getElem?_append_left (by omega)] at hu
          rw [Array.getElem?_setIfInBounds_ne (by omega), Array.getElem?_setIfInBounds_ne (by omega)]
          exact hb4 j u hu
        · rw [List.getElem?_append_right (by omega), hrl] at hu
          have hjl : j - n * 2 < 2 := (List.getElem?_eq_some_iff.1 hu).1
          by_cases hj0 : j = n * 2
          · subst hj0
            rw [Nat.sub_self] at hu
            rw [Array.getElem?_setIfInBounds_ne (by omega), Array.getElem?_setIfInBounds_self_of_lt (by omega)]
            exact hu
          · obtain rfl : j = n * 2 + 1 := by omega
            rw [show n * 2 + 1 - n * 2 = 1 by omega] at hu
            rw [show off + (n * 2 + 1) = off + n * 2 + 1 by omega, Array.getElem?_setIfInBounds_self_of_lt (by simp; omega)]
            exact hu
      · refine hk1.trans ⟨rfl, rfl, rfl, by simp [World.setCell], fun k hk hC hT => ?_⟩
        have hkb : k ≠ b := by
          rintro rfl
          rcases hT with hT | hT
          · omega
          · exact hT cur hb2
        rw [heap_setCell_other _ ⟨b, off + n * 2 + 1, none⟩ k _ hkb, heap_setCell_other _ ⟨b, off + n * 2, none⟩ k _ hkb]

end Go.Proofs.Qxb6000854a
