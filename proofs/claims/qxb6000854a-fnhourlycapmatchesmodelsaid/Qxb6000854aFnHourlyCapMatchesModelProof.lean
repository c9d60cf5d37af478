/-
  THE ROW's STEP of 'Rows.FnHourlyCapMatchesModelSaid', typed after the shells of the other rows (no shell is given for floats); the walk lies in Qxb6000854aModelWalk.
-/
import Derived.Test.Qxb6000854aModelWalk
import Derived.WalkKit
import Derived.ProofKit
import Derived.OpenShut
import Derived.ShutString
import Derived.ChangeOld
import Derived.Below
import Derived.Laws.Cover2
import Derived.Deep.Slices
namespace Go.Proofs.Qxb6000854a.fnHourlyCapMatchesModel
open Go.ChangeShapes Go.WideShapes Go.ChangeAt Go.RowKit
open Go.ChangeMaps (open_string shut_string)
set_option linter.unusedVariables false

theorem own : ownKnob Try.prog.godebug = none := by kernel_rfl
theorem laidOut : laidOutB Try.prog = true := by kernel_rfl

section
variable {H : Type} {enc : TypeId × Value → H} {P : Program} {w : World} {base : Nat} {spare : Nat → Bool} {held : Bool}
/-- A cell that reads as a float is one. -/
theorem float_cell {t : TypeId} {k : FloatKind} {n : Nat} {v : Value} {y : DataW H × List MemPlace} (ht : P.underlying t = some (.float k)) (h : DataW.trod enc P w base spare held n t [v] = some y) : ∃ b, v = .float k b := by
  cases n with
  | zero => simp [DataW.trod] at h
  | succ n =>
    simp only [DataW.trod, ht] at h
    cases v <;> simp_all

/-- The cells of a slice of floats that came in. -/
theorem open_floats {t e : TypeId} {fuel : Nat} {a : Option Addr} {len cap : Nat} {y : DataW H × List MemPlace} (ht : P.underlying t = some (.slice e)) (he : P.underlying e = some (.float .f64)) (hc : P.cellsOf e = 1)
    (h : DataW.trod enc P w base spare held fuel t (Value.slice a len cap).cells.toList = some y) : ∃ xs : List Nat, xs.length = len ∧ len ≤ maxLen ∧ (a = none → len = 0 ∧ cap = 0) ∧ Rv w a (cf xs) := by
  rcases Deep.open_slice1 ht hc h with ⟨hcs, _⟩ | ⟨x, l, c, m, n, V, D, Pl, hcs, _, hl, hm, hmm, _, hV⟩
  · simp [Value.cells] at hcs
    obtain ⟨rfl, rfl, rfl⟩ := hcs
    exact ⟨[], rfl, Nat.zero_le _, fun _ => ⟨rfl, rfl⟩, .inl rfl⟩
  · simp [Value.cells] at hcs
    obtain ⟨rfl, rfl, rfl⟩ := hcs
    have hlm : len ≤ m := by rw [hmm]; split <;> omega
    obtain ⟨f, hf⟩ := Deep.choose_lt (α := Nat) (n := len) (p := fun i b => V i = .float .f64 b) (fun i hi => float_cell he (hV i (by omega)).2)
    refine ⟨(List.range len).map f, by simp, by omega, fun e => by simp at e, ?_⟩
    by_cases h0 : len = 0
    · exact .inl (by simp [h0, cf])
    · obtain ⟨b, off, spot⟩ := x
      have hc0 := (hV 0 (by omega)).1
      have hspot : spot = none := by simpa [Addr.add] using World.cell?_spot hc0
      subst hspot
      refine .inr ⟨b, off, rfl, fun i hi => ?_⟩
      have hi' : i < len := by simpa [cf] using hi
      have h1 := (hV i (by omega)).1
      rw [Addr.add_lit, hf i hi'] at h1
      rw [h1]
      simp [cf, hi']

/-- The cells of a slice of int64 that came in. -/
theorem open_times {t e : TypeId} {fuel : Nat} {a : Option Addr} {len cap : Nat} {y : DataW H × List MemPlace} (ht : P.underlying t = some (.slice e)) (he : P.underlying e = some (.int .i64)) (hc : P.cellsOf e = 1)
    (h : DataW.trod enc P w base (fun _ => true) held fuel t (Value.slice a len cap).cells.toList = some y) : ∃ ts : List Int, ts.length = len ∧ len ≤ maxLen ∧ (a = none → len = 0 ∧ cap = 0) ∧ Rv w a (ci ts) ∧ ∀ t ∈ ts, -9223372036854775808 ≤ t ∧ t ≤ 9223372036854775807 := by
  rcases open_ints ht he hc h with ⟨hcs, _⟩ | ⟨x, l, c, zs, hcs, _, hl, hm, hz, _, hcell, hwz⟩
  · simp [Value.cells] at hcs
    obtain ⟨rfl, rfl, rfl⟩ := hcs
    exact ⟨[], rfl, Nat.zero_le _, fun _ => ⟨rfl, rfl⟩, .inl rfl, by simp⟩
  · simp [Value.cells] at hcs
    obtain ⟨rfl, rfl, rfl⟩ := hcs
    have hz' : zs.length = cap := by simpa using hz
    refine ⟨zs.take len, by simp; omega, by omega, fun e => by simp at e, ?_, fun t ht => ?_⟩
    · by_cases h0 : len = 0
      · exact .inl (by simp [h0, ci])
      · obtain ⟨b, off, spot⟩ := x
        have hc0 := hcell 0 (by omega)
        have hspot : spot = none := by simpa [Addr.add] using World.cell?_spot hc0
        subst hspot
        refine .inr ⟨b, off, rfl, fun i hi => ?_⟩
        have hi' : i < len := by simp [ci] at hi; omega
        have h1 := hcell i (by omega)
        rw [Addr.add_lit] at h1
        rw [h1]
        simp [ci, List.getD, List.getElem?_take_of_lt hi', show i < zs.length by omega]
    · exact bounds_i64 (hwz t (List.mem_of_mem_take ht))
end

set_option maxRecDepth 100000 in
theorem lifted (os : Os) (started : os.Started) (H : Type) (enc : TypeId × Value → H) :
    ReturnsInHanded {} Try.checked os 9 .any (Rows.fnHourlyCapMatchesModelSpec.pre6 enc Try.prog Try.f9 Rows.fnHourlyCapMatchesModelRow.domain false) (Rows.fnHourlyCapMatchesModelSpec.post enc Try.prog Try.f9 false true false false) := by
  refine returnsInHanded_of_change (C := Try.checked) own started (by kernel_rfl) Try.func9
    (ChangeSpec.witness6 (enc := enc) (C := Try.checked) false ⟨#[], #[.float .f64 0, .slice none 0 0, .slice none 0 0], []⟩ 8 (by kernel_rfl) (by kernel_rfl) (by kernel_rfl) (by kernel_rfl)) ?_
  intro W base args ds gs before hval0 hW hcnd _
  have hval : ∀ (j : Nat) t v, Try.f9.params[j]? = some t → args[j]? = some v → Value.okWide Try.prog W .any base t v := hval0
  have hW' := hW
  obtain ⟨p, q, hA0, hV, rfl, hfz, hnd⟩ := hW
  have hA : DataW.TrodAll enc Try.prog W 0 (fun _ => true) true Try.f9.params.toList args.toList ds p := hA0
  rw [Try.params9] at hA hval
  obtain ⟨v0, vs0, d0, ds0, p0, q0, hargs, rfl, rfl, h0, r0⟩ := trodAll_cons hA
  obtain ⟨v1, vs1, d1, ds1, p1, q1, rfl, rfl, rfl, h1, r1⟩ := trodAll_cons r0
  obtain ⟨v2, vs2, d2, ds2, p2, q2, rfl, rfl, rfl, h2, r2⟩ := trodAll_cons r1
  obtain ⟨rfl, rfl, rfl⟩ := trodAll_nil r2
  obtain rfl : args = #[v0, v1, v2] := by cases args; simp_all
  obtain ⟨rfl, rfl⟩ := trodVars_none hV
  obtain ⟨a0, rfl, rfl, rfl, w0⟩ := open_float Try.underlying36 (hval 0 36 v0 rfl rfl) h0
  obtain ⟨a1, len1, cap1, rfl⟩ := okWide_slice Try.underlying37 (hval 1 37 v1 rfl rfl)
  obtain ⟨a2, len2, cap2, rfl⟩ := okWide_slice Try.underlying38 (hval 2 38 v2 rfl rfl)
  have k1 := h1
  have k2 := h2
  have lt1 : ∀ x ∈ p1, x.block < W.heap.size := by obtain ⟨m, hm⟩ := k1; exact DataW.trod_lt m _ _ _ hm
  have lt2 : ∀ x ∈ p2, x.block < W.heap.size := by obtain ⟨m, hm⟩ := k2; exact DataW.trod_lt m _ _ _ hm
  obtain ⟨ts, e1, m1, n1, r1', b1⟩ : ∃ ts : List Int, ts.length = len1 ∧ len1 ≤ maxLen ∧ (a1 = none → len1 = 0 ∧ cap1 = 0) ∧ Rv W a1 (ci ts) ∧ ∀ t ∈ ts, -9223372036854775808 ≤ t ∧ t ≤ 9223372036854775807 := by
    obtain ⟨fuel, hf⟩ := h1
    exact open_times Try.underlying37 Try.underlying2 (by kernel_rfl) hf
  obtain ⟨xs, e2, m2, n2, r2'⟩ : ∃ xs : List Nat, xs.length = len2 ∧ len2 ≤ maxLen ∧ (a2 = none → len2 = 0 ∧ cap2 = 0) ∧ Rv W a2 (cf xs) := by
    obtain ⟨fuel, hf⟩ := h2
    exact open_floats Try.underlying38 Try.underlying36 (by kernel_rfl) hf
  clear hA0 hval0
  unfold maxLen at m1 m2
  refine (walk a0 a1 a2 len1 cap1 len2 cap2 ts xs W e1 e2 m1 m2 n1 n2 r1' r2' b1).mono fun e W' ⟨he, bel⟩ => ?_
  subst he
  exact ⟨_, rfl, _, _, _, [], _, [], hW', trodAll_mk1 (shut_bool Try.underlying4 _), (trodAll_cons_mk (shut_float Try.underlying36 w0) (trodAll_cons_mk (Below.trod laidOut (by kernel_rfl) (of_decide_eq_true (by kernel_rfl)) k1 bel lt1) (trodAll_cons_mk (Below.trod laidOut (by kernel_rfl) (of_decide_eq_true (by kernel_rfl)) k2 bel lt2) trodAll_mk0))), rfl, bel.frame _, fun h => by cases h⟩

theorem over : Rows.fnHourlyCapMatchesModelRow.holds Try.pinned (OpenSpec.ofChange Rows.fnHourlyCapMatchesModelSpec) :=
  OpenClaim.holds_of_wide 9 Try.f9 rfl rfl rfl rfl rfl rfl rfl ⟨rfl, rfl, rfl, rfl, rfl⟩ rfl rfl rfl rfl rfl (by kernel_rfl) Try.func9 (by kernel_rfl)
    (of_decide_eq_true (by kernel_rfl)) (by unfold Func.isWrapper; first | (rw [if_pos (by decide +kernel)]; kernel_rfl) | (rw [if_neg (by decide +kernel)]; exact ⟨rfl, rfl⟩))
    (fun os started H enc _ => lifted os started H enc)

/-- ████ THE STATEMENT ████ -/
theorem proved : Rows.FnHourlyCapMatchesModelSaid := over
#print axioms proved
end Go.Proofs.Qxb6000854a.fnHourlyCapMatchesModel
