/-
  integer (35) and ZZInteger (21), whole: what they answer is Dec.intg.
-/
import Derived.Test.Qxb6000854aIntWalk2
namespace Go.Proofs.Qxb6000854a
open Go.RowKit
set_option linter.unusedVariables false

theorem headD_getD (l : List Nat) : l.headD 0 = l.getD 0 0 := by cases l <;> rfl

theorem body_none {neg : Bool} {ds : List Nat} (h : Dec.body neg ds = none) : Dec.run ds = 0 ∨ 16 < Dec.run ds ∨ (ds.getD 0 0 = 48 ∧ (1 < Dec.run ds ∨ neg = true)) := by
  unfold Dec.body at h
  rw [headD_getD] at h
  split at h
  · assumption
  · cases h

theorem cells_of_rd {w : World} {b off m : Nat} {l : List Nat} (hl : l.length = m) (hr : ∀ i, i < l.length → w.cell? ⟨b, off + i, none⟩ = some (.int .u8 ((l.getD i 0 : Nat) : Int))) : Cells w b off m l := by
  intro i y hi hy
  rw [hr i (by omega), hy]

theorem rd_at {w : World} {a : Option Addr} {l : List Nat} (rd : Rd w a l) (h : l ≠ []) : ∃ b off, a = some ⟨b, off, none⟩ ∧ ∀ i, i < l.length → w.cell? ⟨b, off + i, none⟩ = some (.int .u8 ((l.getD i 0 : Nat) : Int)) := by
  rcases rd with rd | rd
  · exact absurd rd h
  · exact rd

theorem cells_tail {w : World} {b off : Nat} {x : Nat} {ds : List Nat} (hr : ∀ i, i < (x :: ds).length → w.cell? ⟨b, off + i, none⟩ = some (.int .u8 (((x :: ds).getD i 0 : Nat) : Int))) : Cells w b (off + 1) ds.length ds := by
  intro i y hi hy
  have := hr (i + 1) (by simp; omega)
  rw [show off + 1 + i = off + (i + 1) by omega, this]
  simp [List.getD] at hy ⊢
  omega

theorem integer_no (B : Nat) (a : Option Addr) (l : List Nat) (len cap : Nat) (w : World) (h : Scan w B a len cap) (hl : l.length = len) (rd : Rd w a l) (hc1 : len ≤ cap) (hc2 : cap ≤ 9223372036854775807) (hm : len ≤ 1073741824) (hi : Dec.intg l = none) :
    Calls Try.prog 35 #[.pointer (some ⟨B, 0, none⟩)] w fun e w' => e = .returned (.int .i64 0) ∧ w' = w.setCell ⟨B, 1, none⟩ (.bool false) := by
  cases l with
  | nil =>
    obtain rfl : len = 0 := hl.symm
    exact int_empty B a cap w h
  | cons x ds =>
    obtain ⟨b, off, rfl, hr⟩ := rd_at rd (by simp)
    unfold Dec.intg at hi
    by_cases h45 : x = 45
    · subst h45
      rw [if_pos (show (45 :: ds).headD 0 = 45 from rfl)] at hi
      have g0 : w.cell? ⟨b, off, none⟩ = some (.int .u8 45) := hr 0 (by simp)
      have hb := body_none hi
      simp only [List.drop_succ_cons, List.drop_zero] at hb
      cases ds with
      | nil =>
        obtain rfl : len = 1 := hl.symm
        exact int_minus B b off cap w h hc1 (by omega) g0
      | cons y r =>
        obtain ⟨c, rfl⟩ : ∃ c, cap = c + 1 := ⟨cap - 1, by simp at hl; omega⟩
        have hlen : len = (y :: r).length + 1 := by simp at hl ⊢; omega
        rw [hlen] at h
        refine int_neg_no B b off (y :: r).length c (Dec.run (y :: r)) y (y :: r) w h rfl (by simp) (by simp at hl ⊢; omega) (by omega) (by simp at hl ⊢; omega) (cells_tail hr) g0 rfl rfl ?_
        rcases hb with hb | hb | hb
        · exact .inl hb
        · exact .inr (.inl hb)
        · exact .inr (.inr hb.1)
    · rw [if_neg (by simpa using h45)] at hi
      have hb := body_none hi
      have hlen : len = (x :: ds).length := hl.symm
      rw [hlen] at h
      refine int_pos_no B b off (x :: ds).length cap (Dec.run (x :: ds)) x (x :: ds) w h rfl (by simp) (by omega) (by omega) (by omega) (cells_of_rd rfl hr) (by rw [beq_eq_false_iff_ne]; omega) rfl rfl ?_
      rcases hb with hb | hb | ⟨hb1, hb2⟩
      · exact .inl hb
      · exact .inr (.inl hb)
      · exact .inr (.inr ⟨hb1, by rcases hb2 with hb2 | hb2; exact hb2; cases hb2⟩)

theorem integer_ok (B : Nat) (a : Option Addr) (l : List Nat) (len cap : Nat) (w : World) (v : Int) (r : List Nat) (h : Scan w B a len cap) (hl : l.length = len) (rd : Rd w a l) (hne : ∀ b o, a = some ⟨b, o, none⟩ → l ≠ [] → b ≠ B) (hc1 : len ≤ cap) (hc2 : cap ≤ 9223372036854775807) (hm : len ≤ 1073741824) (hi : Dec.intg l = some (v, r)) :
    Calls Try.prog 35 #[.pointer (some ⟨B, 0, none⟩)] w fun e w' => e = .returned (.int .i64 v) ∧ ∃ b, (r = [] ∨ b ≠ B) ∧ IntOk w w' B b r := by
  cases l with
  | nil => simp [Dec.intg, Dec.body, Dec.run] at hi
  | cons x ds =>
    obtain ⟨b, off, rfl, hr⟩ := rd_at rd (by simp)
    unfold Dec.intg at hi
    by_cases h45 : x = 45
    · subst h45
      rw [if_pos (show (45 :: ds).headD 0 = 45 from rfl)] at hi
      have g0 : w.cell? ⟨b, off, none⟩ = some (.int .u8 45) := hr 0 (by simp)
      simp only [List.drop_succ_cons, List.drop_zero] at hi
      obtain ⟨b1, b2, b3, rfl, rfl⟩ := Dec.body_some hi
      have hle := Dec.run_le ds
      obtain ⟨c, rfl⟩ : ∃ c, cap = c + 1 := ⟨cap - 1, by simp at hl; omega⟩
      have hlen : len = ds.length + 1 := by simp at hl ⊢; omega
      rw [hlen] at h
      have := int_neg_ok B b off ds.length c (Dec.run ds) (ds.getD 0 0) ds w h rfl (by omega) (by simp at hl ⊢; omega) (by omega) (by simp at hl ⊢; omega) (cells_tail hr) g0 rfl rfl (by omega) b2 _ rfl
        (fun e => by have := (b3 (by rw [headD_getD]; exact e)).2; cases this)
      refine this.mono ?_
      rintro e w' ⟨rfl, hok⟩
      refine ⟨?_, b, .inr (hne b off rfl (by simp)), hok⟩
      simp
    · rw [if_neg (by simpa using h45)] at hi
      obtain ⟨b1, b2, b3, rfl, rfl⟩ := Dec.body_some hi
      have hle := Dec.run_le (x :: ds)
      have hlen : len = (x :: ds).length := hl.symm
      rw [hlen] at h
      have := int_pos_ok B b off (x :: ds).length cap (Dec.run (x :: ds)) x (x :: ds) w h rfl (by simp) (by omega) (by omega) (by omega) (cells_of_rd rfl hr) (by rw [beq_eq_false_iff_ne]; omega) rfl rfl (by omega) b2 _ rfl
        (by by_cases e : x = 48
            · exact .inr (b3 e).1
            · exact .inl e)
      refine this.mono ?_
      rintro e w' ⟨rfl, hok⟩
      refine ⟨?_, b, .inr (hne b off rfl (by simp)), hok⟩
      simp

/-- The scanner as ZZInteger lays it. -/
theorem scan_new (w : World) (a : Option Addr) (len cap : Nat) : Scan (w.alloc (.cells #[.slice a len cap, .bool true] 54)) w.heap.size a len cap := by
  have hb : (w.alloc (.cells #[.slice a len cap, .bool true] 54)).heap[w.heap.size]? = some (.cells #[.slice a len cap, .bool true] 54 (0, 0)) := heap_alloc_new w _
  refine ⟨?_, ?_, ?_, ?_⟩
  · rw [cell_of_row _ w.heap.size 0 _ 54 (0, 0) hb]; rfl
  · rw [cell_of_row _ w.heap.size 1 _ 54 (0, 0) hb]; rfl
  · exact frozen_of_row _ w.heap.size 0 _ 54 hb
  · exact frozen_of_row _ w.heap.size 1 _ 54 hb

theorem rd_alloc {w : World} {a : Option Addr} {l : List Nat} (h : Rd w a l) (o : Obj) : Rd (w.alloc o) a l := rd_below h ((Below.refl _ _).alloc (Nat.le_refl _) _)

/-- A cell beside the one that is stored keeps what it held; the one that is stored holds the new value. -/
theorem cell_set_ne {w : World} {B i j : Nat} {v u : Value} (h : w.cell? ⟨B, i, none⟩ = some v) (hne : i ≠ j) : (w.setCell ⟨B, j, none⟩ u).cell? ⟨B, i, none⟩ = some v := by
  have := World.cell?_setCells_out B [u] j w ⟨B, i, none⟩ (fun _ _ => by simp; omega)
  simp only [World.setCells] at this
  rw [this]; exact h

theorem cell_set_eq {w : World} {B i : Nat} {v u : Value} (h : w.cell? ⟨B, i, none⟩ = some v) : (w.setCell ⟨B, i, none⟩ u).cell? ⟨B, i, none⟩ = some u := by
  have := World.cell?_setCells_in B [u] i w (fun j hj => by simp at hj; subst hj; simp [h]) 0 (by simp)
  simpa [World.setCells] using this

theorem after_no {w w2 : World} {a : Option Addr} {len cap : Nat} (h : w2 = (w.alloc (.cells #[.slice a len cap, .bool true] 54)).setCell ⟨w.heap.size, 1, none⟩ (.bool false)) :
    w2.cell? ⟨w.heap.size, 0, none⟩ = some (.slice a len cap) ∧ w2.cell? ⟨w.heap.size, 1, none⟩ = some (.bool false) ∧ Below w.heap.size w w2 := by
  subst h
  have hs := scan_new w a len cap
  exact ⟨cell_set_ne hs.c0 (by decide), cell_set_eq hs.c1, ((Below.refl _ _).alloc (Nat.le_refl _) _).setCell (Nat.le_refl _) _⟩

theorem after_ok {w w2 : World} {a : Option Addr} {len cap b : Nat} {r : List Nat} (h : IntOk (w.alloc (.cells #[.slice a len cap, .bool true] 54)) w2 w.heap.size b r) (hb : r = [] ∨ b ≠ w.heap.size) :
    ∃ a' c', w2.cell? ⟨w.heap.size, 0, none⟩ = some (.slice a' r.length c') ∧ w2.cell? ⟨w.heap.size, 1, none⟩ = some (.bool true) ∧ Rd w2 a' r ∧ Below w.heap.size w w2 := by
  obtain ⟨a', c', rfl, hr, hx⟩ := h
  have hs := scan_new w a len cap
  have hbel : Below w.heap.size w ((w.alloc (.cells #[.slice a len cap, .bool true] 54)).setCell ⟨w.heap.size, 0, none⟩ (.slice a' r.length c')) := ((Below.refl _ _).alloc (Nat.le_refl _) _).setCell (Nat.le_refl _) _
  refine ⟨a', c', cell_set_eq hs.c0, cell_set_ne hs.c1 (by decide), ?_, hbel⟩
  rcases hr with hr | ⟨b1, o1, rfl, hr⟩
  · exact .inl hr
  · by_cases e : r = []
    · exact .inl e
    · have hbb : b1 = b := by
        rcases hx with hx | ⟨o, hx⟩
        · exact absurd hx e
        · simp at hx; exact hx.1
      have hne : b1 ≠ w.heap.size := by
        rcases hb with hb | hb
        · exact absurd hb e
        · rw [hbb]; exact hb
      refine .inr ⟨b1, o1, rfl, fun i hi => ?_⟩
      have h1 := hr i hi
      have h2 := Below.heap_setCell (w.alloc (.cells #[.slice a len cap, .bool true] 54)) ⟨w.heap.size, 0, none⟩ (.slice (some ⟨b1, o1, none⟩) r.length c') b1 hne
      exact (World.cell?_of_block (a := ⟨b1, o1 + i, none⟩) h2).trans h1

set_option maxHeartbeats 400000 in
theorem zint_no (a : Option Addr) (l : List Nat) (len cap : Nat) (w : World) (hl : Hid (l.length = len)) (rd : Rd w a l) (hc1 : len ≤ cap) (hc2 : cap ≤ 9223372036854775807) (hm : len ≤ 1073741824) (hi : Hid (Dec.intg l = none)) :
    Calls Try.prog 21 #[.slice a len cap] w fun e w' => e = .returned (.tuple #[.int .i64 0, .slice a len cap, .bool false]) ∧ Below w.heap.size w w' := by
  go_enter Try.func21, Try.ntmps21
  go_wp2_with fail
  refine (integer_no w.heap.size a l len cap _ (scan_new w a len cap) hl.out (rd_alloc rd _) hc1 hc2 hm hi.out).mono ?_
  rintro e w2 ⟨rfl, hw2⟩
  obtain ⟨c0, c1, hb⟩ := after_no hw2
  clear hw2
  go_wp2
  go_quiet (fail)
  go_wp2
  go_ret3
  exact ⟨rfl, below_drewN hb _⟩

theorem rd_block {w : World} {a : Option Addr} {l : List Nat} (rd : Rd w a l) : ∀ b o, a = some ⟨b, o, none⟩ → l ≠ [] → b ≠ w.heap.size := by
  intro b o ha hne
  obtain ⟨b1, o1, e, hr⟩ := rd_at rd hne
  rw [ha] at e
  simp at e
  have := World.block_lt_of_cell? w _ (hr 0 (List.length_pos_iff.2 hne))
  simp at this
  omega

set_option maxHeartbeats 400000 in
theorem zint_ok (a : Option Addr) (l : List Nat) (len cap : Nat) (w : World) (v : Int) (r : List Nat) (L : Nat) (hl : Hid (l.length = len)) (rd : Rd w a l) (hc1 : len ≤ cap) (hc2 : cap ≤ 9223372036854775807) (hm : len ≤ 1073741824) (hi : Hid (Dec.intg l = some (v, r))) (HL : Hid (r.length = L)) :
    Calls Try.prog 21 #[.slice a len cap] w fun e w' => ∃ a' c', e = .returned (.tuple #[.int .i64 v, .slice a' L c', .bool true]) ∧ Rd w' a' r ∧ Below w.heap.size w w' := by
  go_enter Try.func21, Try.ntmps21
  go_wp2_with fail
  refine (integer_ok w.heap.size a l len cap _ v r (scan_new w a len cap) hl.out (rd_alloc rd _) (rd_block rd) hc1 hc2 hm hi.out).mono ?_
  rintro e w2 ⟨rfl, b, hbb, hw2⟩
  obtain ⟨a', c', c0, c1, hr, hb⟩ := after_ok hw2 hbb
  rw [HL.out] at c0
  clear hw2
  go_wp2
  go_quiet (fail)
  go_wp2
  go_ret3
  exact ⟨_, _, rfl, hr, below_drewN hb _⟩

end Go.Proofs.Qxb6000854a
