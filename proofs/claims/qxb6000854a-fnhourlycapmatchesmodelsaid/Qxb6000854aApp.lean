/-
  The contract of appendString (33) and ZZAppendString (13).
-/
import Derived.Test.Qxb6000854aBase
import Derived.Lib.AppendStr
import Derived.Deep.RegionLaw
import Derived.Maps.AppendAt
namespace Go.Proofs.Qxb6000854a
open Go.RowKit
set_option linter.unusedVariables false

/-- A string's bytes as numbers. -/
def nb (s : ByteArray) : List Nat := s.data.toList.map fun c => c.toNat

theorem nb_length (s : ByteArray) : (nb s).length = s.size := by
  unfold nb
  rw [List.length_map, Array.length_toList]
  rfl

theorem nb_getD (s : ByteArray) (k : Nat) (h : k < s.size) : (nb s).getD k 0 = s[k].toNat := by
  have h' : k < s.data.size := h
  have e : s.data[k]? = some s.data[k] := Array.getElem?_eq_getElem h'
  simp [nb, List.getD, e]
  rfl

theorem ownsRow_base {w : World} {base base' : Nat} {e : TypeId} {size : Nat} {v : Value} {n : Nat} {xs : List Value} (h : w.ownsRow base e size v n xs) (hb : base' ≤ base) : w.ownsRow base' e size v n xs := by
  refine ⟨h.1, ?_⟩
  rcases h.2 with h2 | ⟨g, cap, cur, hv, hg, r⟩
  · exact .inl h2
  · exact .inr ⟨g, cap, cur, hv, by omega, r⟩

/-- What has been written behind k bytes. -/
def Xk (olds l : List Nat) (k : Nat) : List Nat := olds ++ 34 :: Pl.encL (l.take k)

theorem Xk_zero (olds l : List Nat) : Xk olds l 0 = olds ++ [34] := by simp [Xk, Pl.encL]

theorem Xk_succ (olds l : List Nat) (k : Nat) (h : k < l.length) : Xk olds l (k + 1) = Xk olds l k ++ Pl.encB (l.getD k 0) := by
  unfold Xk
  rw [List.take_succ_eq_append_getElem h, Pl.encL_append]
  simp [Pl.encL, List.getD, h]

theorem Xk_end (olds l : List Nat) : Xk olds l l.length ++ [34] = olds ++ Pl.enc l := by simp [Xk, Pl.enc]

theorem Xk_len (olds l : List Nat) (k : Nat) : (Xk olds l k).length ≤ olds.length + 1 + 6 * k := by
  unfold Xk
  have := Pl.encL_len (l.take k)
  have h2 : (l.take k).length ≤ k := List.length_take_le _ _
  simp
  omega

theorem cellsN_append (a b : List Nat) : cellsN (a ++ b) = cellsN a ++ cellsN b := by simp [cellsN]
theorem cellsN_length (a : List Nat) : (cellsN a).length = a.length := by simp [cellsN]

/-- The slice v owns the bytes l, in a block from B on. -/
def Own (w : World) (B : Nat) (v : Value) (l : List Nat) : Prop := w.ownsRow B 5 1 v l.length (cellsN l)

/-- A new block's cells lie at its head. -/
theorem cells_new (w : World) (cs : List Value) (t : TypeId) : ∀ j u, cs[j]? = some u → (w.alloc (.cells cs.toArray t)).cell? ((⟨w.heap.size, 0, none⟩ : Addr).add j) = some u := by
  intro j u hj
  rw [Addr.add_lit, Nat.zero_add, cell_of_row _ w.heap.size j cs.toArray t (0, 0) (heap_alloc_new w _)]
  simpa using hj

theorem cellsN_oneCell (l : List Nat) : ∀ u ∈ cellsN l, u.oneCell' = true := by
  intro u hu
  obtain ⟨_, _, rfl⟩ := List.mem_map.1 hu
  rfl

/-- 'b = append(b, x, ..)': onto an owned row, what is appended lying in a new block. -/
theorem law_app {ops : Array Oper} {rest : List Oper} {o : Oper} {a : Act} {Q : Exit → Act → World → Prop} (hgd : o.guard = none) (s x : Operand)
    (ho : o.op = .call { callee := .builtin .append, args := #[s, x], argTypes := #[22, 22] }) (W w : World) (B : Nat) (xs cs : List Nat) (cv : Array Value) (v : Value) (c : Nat)
    (hW : W = w.alloc (.cells cv 5)) (hcv : cv = (cellsN cs).toArray)
    (hs : a.eval s = v) (hown : Own w B v xs) (hB : B ≤ w.heap.size) (hx : a.eval x = .slice (some ⟨w.heap.size, 0, none⟩) cs.length c) (hl : xs.length + cs.length ≤ 1073741824)
    (h : ∀ v' w', Own w' B v' (xs ++ cs) → Below B w w' → wpList Try.prog ops Q rest (a.put o.dst v') w') : wpList Try.prog ops Q (o :: rest) a W := by
  obtain ⟨i0, hi, hz0, hz1, hz2⟩ := info_parts Try.info5
  subst hcv
  subst hW
  refine wpList_append_own _ hgd s x 22 ho B 5 i0 (.int .u8 0) 1 1 Try.underlying22 hi hz0 hz1 hz2 rfl (by decide) v xs.length (cellsN xs) hs (World.ownsRow.alloc hown _) ⟨w.heap.size, 0, none⟩ cs.length c (cellsN cs) hx (by simp [cellsN_length]) (cells_new _ _ _) (cellsN_oneCell _)
    (by unfold maxLen; omega) (by omega) (by simp; omega) ?_
  intro v' w' hown' hgrow _
  refine h v' w' ?_ ?_
  · unfold Own; rw [cellsN_append, List.length_append]; exact hown'
  · refine ((Below.refl _ w).alloc hB _).grown hgrow (by simp; omega) (fun k hk => (World.ownsRow.lt hown k hk).1)

/-- append of a string to a row that is owned. -/
theorem law_str {ops : Array Oper} {rest : List Oper} {o : Oper} {a : Act} {Q : Exit → Act → World → Prop} (hgd : o.guard = none) (s x : Operand)
    (ho : o.op = .call { callee := .builtin .append, args := #[s, x], argTypes := #[22, 9] }) (w : World) (B : Nat) (xs cs : List Nat) (v : Value) (st : ByteArray)
    (hcv : Lib.strCells st = cellsN cs) (hsz : st.size = cs.length)
    (hs : a.eval s = v) (hown : Own w B v xs) (hB : B ≤ w.heap.size) (hx : a.eval x = .string st) (hl : xs.length + cs.length ≤ 1073741824)
    (h : ∀ v' w', Own w' B v' (xs ++ cs) → Below B w w' → wpList Try.prog ops Q rest (a.put o.dst v') w') : wpList Try.prog ops Q (o :: rest) a w := by
  obtain ⟨i0, hi, hz0, hz1, hz2⟩ := info_parts Try.info5
  refine Lib.wpList_append_own_string _ hgd s x 22 9 ho B 5 i0 Try.underlying22 Try.underlying9 hi hz0 hz1 hz2 v xs.length (cellsN xs) hs hown st hx
    (by unfold maxLen; omega) (by omega) hB ?_
  intro v' w' hown' hgrow _
  refine h v' w' ?_ ?_
  · unfold Own; rw [cellsN_append, List.length_append, ← hcv, ← hsz]; exact hown'
  · refine (Below.refl _ w).grown hgrow hB (fun k hk => (World.ownsRow.lt hown k hk).1)

/-- The same inside a region that draws. -/
theorem step_app {ops : Array Oper} {o : Oper} {a : Act} {K : Act → World → Prop} {Q : Exit → Act → World → Prop} {E : Prop} (hgd : o.guard = none) (s x : Operand)
    (ho : o.op = .call { callee := .builtin .append, args := #[s, x], argTypes := #[22, 22] }) (W w : World) (B : Nat) (xs cs : List Nat) (cv : Array Value) (v : Value) (c : Nat)
    (hW : W = w.alloc (.cells cv 5)) (hcv : cv = (cellsN cs).toArray)
    (hs : a.eval s = v) (hown : Own w B v xs) (hB : B ≤ w.heap.size) (hx : a.eval x = .slice (some ⟨w.heap.size, 0, none⟩) cs.length c) (hl : xs.length + cs.length ≤ 1073741824)
    (h : ∀ v' w', Own w' B v' (xs ++ cs) → Below B w w' → K (a.put o.dst v') w') :
    if Region.wanted o (yielded ops a.tmps) = true then Oper.wp Try.prog o a W K Q else E := by
  have hw : Region.wanted o (yielded ops a.tmps) = true := by simp [Region.wanted, hgd]
  rw [if_pos hw]
  obtain ⟨i0, hi, hz0, hz1, hz2⟩ := info_parts Try.info5
  subst hcv
  subst hW
  refine wp_append_own _ s x 22 ho B 5 i0 (.int .u8 0) 1 1 Try.underlying22 hi hz0 hz1 hz2 rfl (by decide) v xs.length (cellsN xs) hs (World.ownsRow.alloc hown _) ⟨w.heap.size, 0, none⟩ cs.length c (cellsN cs) hx (by simp [cellsN_length]) (cells_new _ _ _) (cellsN_oneCell _)
    (by unfold maxLen; omega) (by omega) (by simp; omega) ?_
  intro v' w' hown' hgrow _
  refine h v' w' ?_ ?_
  · unfold Own; rw [cellsN_append, List.length_append]; exact hown'
  · refine ((Below.refl _ w).alloc hB _).grown hgrow (by simp; omega) (fun k hk => (World.ownsRow.lt hown k hk).1)

/-- One append: the relation at k + 1. -/
theorem own_next {w w1 : World} {wr : World} {B : Nat} {v : Value} {olds : List Nat} {s : ByteArray} {k : Nat} {cs : List Nat} (hlt : k < s.size) {c : Nat} (HC : Hid (s[k].toNat = c))
    (h : Own w1 B v (Xk olds (nb s) k ++ cs)) (hbel : Below B w wr) (hb2 : Below B wr w1) (hcs : cs = Pl.encB c) :
    Own w1 B v (Xk olds (nb s) (k + 1)) ∧ Below B w w1 := by
  refine ⟨?_, hbel.trans hb2⟩
  rw [Xk_succ _ _ _ (by rw [nb_length]; exact hlt), nb_getD s k hlt, HC.out, ← hcs]
  exact h

theorem encB_ctl {c : Nat} (h34 : ¬ c = 34) (h92 : ¬ c = 92) (h8 : ¬ c = 8) (h9 : ¬ c = 9) (h10 : ¬ c = 10) (h12 : ¬ c = 12) (h13 : ¬ c = 13) (h32 : c < 32) : [92, 117, 48, 48, Pl.hexD (c / 16), Pl.hexD (c % 16)] = Pl.encB c := by
  simp [Pl.encB, *]

theorem hex_nat (n : Nat) (hn : n < 16) (h : n < (⟨#[48, 49, 50, 51, 52, 53, 54, 55, 56, 57, 97, 98, 99, 100, 101, 102]⟩ : ByteArray).size) :
    (⟨#[48, 49, 50, 51, 52, 53, 54, 55, 56, 57, 97, 98, 99, 100, 101, 102]⟩ : ByteArray)[n].toNat = Pl.hexD n := by
  match n, hn with
  | 0, _ => rfl
  | 1, _ => rfl
  | 2, _ => rfl
  | 3, _ => rfl
  | 4, _ => rfl
  | 5, _ => rfl
  | 6, _ => rfl
  | 7, _ => rfl
  | 8, _ => rfl
  | 9, _ => rfl
  | 10, _ => rfl
  | 11, _ => rfl
  | 12, _ => rfl
  | 13, _ => rfl
  | 14, _ => rfl
  | 15, _ => rfl
  | n + 16, hn => omega

theorem hex_at (z : Int) (n : Nat) (hz : z = (n : Int)) (hn : n < 16) (h : z.toNat < (⟨#[48, 49, 50, 51, 52, 53, 54, 55, 56, 57, 97, 98, 99, 100, 101, 102]⟩ : ByteArray).size) :
    (⟨#[48, 49, 50, 51, 52, 53, 54, 55, 56, 57, 97, 98, 99, 100, 101, 102]⟩ : ByteArray)[z.toNat].toNat = Pl.hexD n := by
  subst hz
  exact hex_nat n hn h

theorem own_last {w w1 wr : World} {B : Nat} {v : Value} {olds : List Nat} {s : ByteArray} (h : Own w1 B v (Xk olds (nb s) s.size ++ [34])) (hbel : Below B w wr) (hb2 : Below B wr w1) :
    Own w1 B v (olds ++ Pl.enc (nb s)) ∧ Below B w w1 := by
  refine ⟨?_, hbel.trans hb2⟩
  rw [← nb_length, Xk_end] at h
  exact h

theorem encB_plain {c : Nat} (h34 : ¬ c = 34) (h92 : ¬ c = 92) (h8 : ¬ c = 8) (h9 : ¬ c = 9) (h10 : ¬ c = 10) (h12 : ¬ c = 12) (h13 : ¬ c = 13) (h32 : ¬ c < 32) : [c] = Pl.encB c := by
  simp [Pl.encB, *]

theorem holds_alloc {w : World} {ao : Option Addr} {olds : List Nat} (h : Rd w ao olds) (cs : Array Value) (t : TypeId) :
    ∀ b, ao = some b → ∀ j u, (cellsN olds)[j]? = some u → (w.alloc (.cells cs t)).cell? (b.add j) = some u := by
  intro b hb j u hu
  rcases h with rfl | ⟨b1, o1, rfl, h⟩
  · simp [cellsN] at hu
  · obtain rfl := Option.some.inj hb
    have hj : j < olds.length := by simpa [cellsN] using (List.getElem?_eq_some_iff.1 hu).1
    have hc := h j hj
    have e : u = .int .u8 ((olds.getD j 0 : Nat) : Int) := by
      simp [cellsN, hj] at hu
      simp [List.getD, hj, ← hu]
    rw [Addr.add_lit, World.cell?_alloc_lt _ _ _ (World.block_lt_of_cell? w _ hc), hc, e]

theorem app_start {w w1 : World} {v : Value} {n : Nat} {olds l : List Nat} {o : Obj} {B : Nat} (hlen : Hid (olds.length = n)) (hown : w1.ownsRow B 5 1 v (n + 1) (cellsN olds ++ [.int .u8 34])) (hgrow : (w.alloc o).grownBy w1 none) (hB : w.heap.size ≤ B) :
    Own w1 w.heap.size v (Xk olds l 0) ∧ Below w.heap.size w w1 := by
  have hl := hlen.out
  have e : cellsN olds ++ [.int .u8 34] = cellsN (Xk olds l 0) := by rw [Xk_zero, cellsN_append]; rfl
  have e2 : n + 1 = (Xk olds l 0).length := by rw [Xk_zero]; simp [hl]
  rw [e, e2] at hown
  refine ⟨ownsRow_base hown hB, ?_⟩
  exact ((Below.refl _ w).alloc (Nat.le_refl _) o).grown hgrow (by simp) (by simp)

set_option maxHeartbeats 1000000 in
theorem app_any (ao : Option Addr) (n : Nat) (olds : List Nat) (s : ByteArray) (w : World) (hlen : Hid (olds.length = n)) (hnone : ao = none → n = 0) (hrd : Rd w ao olds) (hb : n ≤ 1048576) (hs : s.size ≤ 1048576) :
    Calls Try.prog 33 #[.slice ao n n, .string s] w fun e w' => ∃ v, e = .returned v ∧ Own w' w.heap.size v (olds ++ Pl.enc (nb s)) ∧ Below w.heap.size w w' := by
  obtain ⟨i0, hi, hz0, hz1, hz2⟩ := info_parts Try.info5
  go_enter Try.func33, Try.ntmps33
  go_wp2_with (at_builtin; refine wpList_append_grows _ rfl (.tmp 7) (.tmp 8) 22 rfl 5 i0 (.int .u8 0) 1 1 Try.underlying22 hi hz0 hz1 hz2 rfl (by decide) ao n n (cellsN olds) rfl ?c0 ?c1 ?c2 ⟨w.heap.size, 0, none⟩ 1 1 [.int .u8 34] rfl rfl ?c3 ?c4 ?c5 ?c6 ?c7 ?_)
  case c0 => intro h; exact ⟨hnone h, hnone h⟩
  case c1 => rw [cellsN_length, hlen.out, Nat.mul_one]
  case c2 => exact holds_alloc hrd _ _
  case c3 => exact cell_one_new _ _ _
  case c4 => intro u hu; simp at hu; subst hu; rfl
  case c5 => omega
  case c6 => unfold maxLen; omega
  case c7 => omega
  intro v' w1 hown hgrow
  have R0 := app_start (l := nb s) hlen hown hgrow (by simp)
  clear hown hgrow
  go_wp2
  go_loopw [0, 12] (fun v i wr => ∃ k : Nat, k ≤ s.size ∧ i = .int .i64 k ∧ Own wr w.heap.size v (Xk olds (nb s) k) ∧ Below w.heap.size w wr) (fun _ i _ => s.size - (intOf i).toNat)
  case atStart => exact ⟨0, Nat.zero_le _, rfl, R0.1, R0.2⟩
  case round =>
    clear R0
    obtain ⟨k, hk, rfl, hown, hbel⟩ := hrel
    have hXl := Xk_len olds (nb s) k
    rw [hlen.out] at hXl
    have hBr := hbel.size
    by_cases hlt : k < s.size
    · obtain ⟨c, HC⟩ := hold_name (s[k].toNat)
      have hc := HC.out
      have hc8 : c < 256 := by have := s[k].toNat_lt; omega
      by_cases h34 : c = 34
      · subst h34
        go_wp2_with (at_builtin; refine law_app rfl (.tmp 37) (.tmp 39) rfl _ wr w.heap.size (Xk olds (nb s) k) [92, 34] _ _ 2 rfl rfl rfl hown hBr rfl (by simp; omega) ?_)
        intro v' w2 hown' hb2
        have R := own_next hlt HC hown' hbel hb2 rfl
        clear hown' hb2 hown hbel
        go_wp2
        go_roundw
        case rel => exact ⟨k + 1, by omega, by go_num, R.1, R.2⟩
        case measure => simp [intOf]; omega
      by_cases h92 : c = 92
      · subst h92
        go_wp2_with (at_builtin; refine law_app rfl (.tmp 37) (.tmp 39) rfl _ wr w.heap.size (Xk olds (nb s) k) [92, 92] _ _ 2 rfl rfl rfl hown hBr rfl (by simp; omega) ?_)
        intro v' w2 hown' hb2
        have R := own_next hlt HC hown' hbel hb2 rfl
        clear hown' hb2 hown hbel
        go_wp2
        go_roundw
        case rel => exact ⟨k + 1, by omega, by go_num, R.1, R.2⟩
        case measure => simp [intOf]; omega
      by_cases h8 : c = 8
      · subst h8
        go_wp2_with (at_builtin; refine law_str rfl (.tmp 43) (.const (.string ⟨#[92, 98]⟩)) rfl wr w.heap.size (Xk olds (nb s) k) [92, 98] _ ⟨#[92, 98]⟩ rfl rfl rfl hown hBr rfl (by simp; omega) ?_)
        intro v' w2 hown' hb2
        have R := own_next hlt HC hown' hbel hb2 rfl
        clear hown' hb2 hown hbel
        go_wp2
        go_roundw
        case rel => exact ⟨k + 1, by omega, by go_num, R.1, R.2⟩
        case measure => simp [intOf]; omega
      by_cases h9 : c = 9
      · subst h9
        go_wp2_with (at_builtin; refine law_str rfl (.tmp 47) (.const (.string ⟨#[92, 116]⟩)) rfl wr w.heap.size (Xk olds (nb s) k) [92, 116] _ ⟨#[92, 116]⟩ rfl rfl rfl hown hBr rfl (by simp; omega) ?_)
        intro v' w2 hown' hb2
        have R := own_next hlt HC hown' hbel hb2 rfl
        clear hown' hb2 hown hbel
        go_wp2
        go_roundw
        case rel => exact ⟨k + 1, by omega, by go_num, R.1, R.2⟩
        case measure => simp [intOf]; omega
      by_cases h10 : c = 10
      · subst h10
        go_wp2_with (at_builtin; refine law_str rfl (.tmp 51) (.const (.string ⟨#[92, 110]⟩)) rfl wr w.heap.size (Xk olds (nb s) k) [92, 110] _ ⟨#[92, 110]⟩ rfl rfl rfl hown hBr rfl (by simp; omega) ?_)
        intro v' w2 hown' hb2
        have R := own_next hlt HC hown' hbel hb2 rfl
        clear hown' hb2 hown hbel
        go_wp2
        go_roundw
        case rel => exact ⟨k + 1, by omega, by go_num, R.1, R.2⟩
        case measure => simp [intOf]; omega
      by_cases h12 : c = 12
      · subst h12
        go_wp2_with (at_builtin; refine law_str rfl (.tmp 55) (.const (.string ⟨#[92, 102]⟩)) rfl wr w.heap.size (Xk olds (nb s) k) [92, 102] _ ⟨#[92, 102]⟩ rfl rfl rfl hown hBr rfl (by simp; omega) ?_)
        intro v' w2 hown' hb2
        have R := own_next hlt HC hown' hbel hb2 rfl
        clear hown' hb2 hown hbel
        go_wp2
        go_roundw
        case rel => exact ⟨k + 1, by omega, by go_num, R.1, R.2⟩
        case measure => simp [intOf]; omega
      by_cases h13 : c = 13
      · subst h13
        go_wp2_with (at_builtin; refine law_str rfl (.tmp 59) (.const (.string ⟨#[92, 114]⟩)) rfl wr w.heap.size (Xk olds (nb s) k) [92, 114] _ ⟨#[92, 114]⟩ rfl rfl rfl hown hBr rfl (by simp; omega) ?_)
        intro v' w2 hown' hb2
        have R := own_next hlt HC hown' hbel hb2 rfl
        clear hown' hb2 hown hbel
        go_wp2
        go_roundw
        case rel => exact ⟨k + 1, by omega, by go_num, R.1, R.2⟩
        case measure => simp [intOf]; omega
      by_cases h32 : c < 32
      · have hb15 : bits BinOp.and IntKind.u8 (c : Int) 15 = (c : Int) % 16 := u8_and15 _ (by omega) (by omega)
        have hi1 : 0 ≤ (c : Int) / 16 := by omega
        have hi2 : (c : Int) / 16 < 16 := by omega
        have hi3 : 0 ≤ (c : Int) % 16 := by omega
        have hi4 : (c : Int) % 16 < 16 := by omega
        have ht1 := fun h => hex_at ((c : Int) / 16) (c / 16) (by omega) (by omega) h
        have ht2 := fun h => hex_at ((c : Int) % 16) (c % 16) (by omega) (by omega) h
        go_wp2_with fail
        go_region_law (refine step_app rfl (.tmp 21) (.tmp 28) rfl _ wr.drew w.heap.size (Xk olds (nb s) k) [92, 117, 48, 48, Pl.hexD (c / 16), Pl.hexD (c % 16)] _ _ 6 rfl rfl rfl hown hBr rfl (by simp; omega) ?_; intro v2 w2 hown2 hb2)
        all_goals
          have R := own_next hlt HC hown2 hbel.drew hb2 (encB_ctl h34 h92 h8 h9 h10 h12 h13 h32)
          clear hown2 hb2 hown hbel ht1 ht2 hb15
          go_wp2
          go_roundw
          case rel => exact ⟨k + 1, by omega, by go_num, R.1, R.2⟩
          case measure => simp [intOf]; omega
      · go_wp2_with (at_builtin; refine law_app rfl (.tmp 30) (.tmp 32) rfl _ wr w.heap.size (Xk olds (nb s) k) [c] _ _ 1 rfl rfl rfl hown hBr rfl (by simp; omega) ?_)
        intro v' w2 hown' hb2
        have R := own_next hlt HC hown' hbel hb2 (encB_plain h34 h92 h8 h9 h10 h12 h13 h32)
        clear hown' hb2 hown hbel
        go_wp2
        go_roundw
        case rel => exact ⟨k + 1, by omega, by go_num, R.1, R.2⟩
        case measure => simp [intOf]; omega
    · obtain rfl : k = s.size := by omega
      go_wp2_with (at_builtin; refine law_app rfl (.tmp 62) (.tmp 63) rfl _ wr w.heap.size (Xk olds (nb s) s.size) [34] _ _ 1 rfl rfl rfl hown hBr rfl (by simp; omega) ?_)
      intro v' w2 hown' hb2
      have R := own_last hown' hbel hb2
      clear hown' hb2 hown hbel
      go_wp2
      go_ret
      exact ⟨_, rfl, R.1, R.2⟩

/-- ZZAppendString, whole. -/
theorem zapp_any (ao : Option Addr) (n : Nat) (olds : List Nat) (s : ByteArray) (w : World) (hlen : Hid (olds.length = n)) (hnone : ao = none → n = 0) (hrd : Rd w ao olds) (hb : n ≤ 1048576) (hs : s.size ≤ 1048576) :
    Calls Try.prog 13 #[.slice ao n n, .string s] w fun e w' => ∃ v, e = .returned v ∧ Own w' w.heap.size v (olds ++ Pl.enc (nb s)) ∧ Below w.heap.size w w' := by
  go_enter Try.func13, Try.ntmps13
  go_wp2_with (go_at_call 33; refine (app_any ao n olds s _ hlen hnone hrd hb hs).mono ?_; rintro e w' ⟨v, rfl, hown, hbel⟩)
  go_ret
  exact ⟨_, rfl, hown, hbel⟩

theorem own_view {w : World} {B : Nat} {v : Value} {l : List Nat} (h : Own w B v l) : ∃ a c, v = .slice a l.length c ∧ Rd w a l := by
  rcases h.2 with ⟨rfl, h0⟩ | ⟨g, cap, cur, rfl, hb, hg, hn, hm, hc, ht⟩
  · have e : l = [] := List.eq_nil_of_length_eq_zero h0
    subst e
    exact ⟨none, 0, rfl, .inl rfl⟩
  · refine ⟨_, _, rfl, .inr ⟨g, 0, rfl, fun i hi => ?_⟩⟩
    have := World.ownsRow.cellAt h i (by omega)
    rw [Nat.zero_add, this]
    simp [cellsN, List.getD, hi]

theorem rd_below {w w' : World} {a : Option Addr} {l : List Nat} (h : Rd w a l) (hb : Below w.heap.size w w') : Rd w' a l := by
  rcases h with h | ⟨b, o, rfl, h⟩
  · exact .inl h
  · exact .inr ⟨b, o, rfl, fun i hi => (hb.cell (p := ⟨b, o + i, none⟩) (World.block_lt_of_cell? w _ (h i hi))).trans (h i hi)⟩

theorem nb_inj {a b : ByteArray} : nb a = nb b ↔ a = b := by
  constructor
  · intro h
    have h2 : a.data.toList = b.data.toList := by
      refine List.map_inj_right (f := fun c : UInt8 => c.toNat) ?_ |>.1 h
      intro x y hxy
      exact UInt8.toNat_inj.1 hxy
    cases a; cases b
    simp at h2
    rw [h2]
  · rintro rfl; rfl

end Go.Proofs.Qxb6000854a
