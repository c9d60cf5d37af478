/-
  What the walks are told of a slice of bytes that came in.
-/
import Derived.Test.Qxb6000854aClone
import Derived.OpenShut
namespace Go.Proofs.Qxb6000854a
open Go.RowKit
set_option linter.unusedVariables false

/-- A slice of integers that came in: nil; or a row of 'cap' cells, the numbers zs, each fitting its kind. -/
def IsRow (k : IntKind) (w : World) (a : Option Addr) (len cap : Nat) (zs : List Int) : Prop :=
  (a = none ∧ len = 0 ∧ cap = 0 ∧ zs = []) ∨
  ∃ x, a = some x ∧ len ≤ cap ∧ cap ≤ maxLen ∧ zs.length = cap ∧ (∀ i, i < zs.length → w.cell? (x.add i) = some (.int k (zs.getD i 0))) ∧ ∀ n ∈ zs, (Lit.int k n).wf = true

theorem row_view {w : World} {a : Option Addr} {len cap : Nat} {zs : List Int} (h : IsRow .u8 w a len cap zs) :
    ∃ l : List Nat, l.length = len ∧ Rd w a l ∧ (∀ x ∈ l, x < 256) ∧ (a = none → len = 0 ∧ cap = 0) ∧ len ≤ maxLen := by
  rcases h with ⟨rfl, rfl, rfl, rfl⟩ | ⟨x, rfl, hl, hm, hz, hcell, hwf⟩
  · exact ⟨[], rfl, .inl rfl, by simp, fun _ => ⟨rfl, rfl⟩, Nat.zero_le _⟩
  · refine ⟨(zs.take len).map Int.toNat, by simp; omega, ?_, ?_, by simp, by omega⟩
    · by_cases h0 : len = 0
      · subst h0; exact .inl (by simp)
      · obtain ⟨b, off, spot⟩ := x
        have hc := hcell 0 (by omega)
        have hspot : spot = none := by simpa [Addr.add] using World.cell?_spot hc
        subst hspot
        refine .inr ⟨b, off, rfl, fun i hi => ?_⟩
        have hi' : i < zs.length := by simp at hi; omega
        have hil : i < len := by simp at hi; omega
        have h1 := hcell i hi'
        rw [Addr.add_lit] at h1
        rw [h1]
        have hb := bounds_u8 (hwf (zs.getD i 0) (by simp [List.getD, hi']))
        have e : ((zs.take len).map Int.toNat).getD i 0 = (zs.getD i 0).toNat := by
          simp [List.getD, hil, hi']
        rw [e, Int.toNat_of_nonneg hb.1]
    · intro y hy
      obtain ⟨z, hz1, rfl⟩ := List.mem_map.1 hy
      have hb := bounds_u8 (hwf z (List.mem_of_mem_take hz1))
      omega

/-- An owned row that is not empty, written out. -/
theorem own_form {w : World} {B : Nat} {v : Value} {l : List Nat} (h : Own w B v l) (hne : 0 < l.length) :
    ∃ g c, v = .slice (some ⟨g, 0, none⟩) l.length c ∧ B ≤ g ∧ l.length ≤ c ∧ c ≤ 9223372036854775807 ∧ ∀ i, i < l.length → w.cell? ⟨g, i, none⟩ = some (.int .u8 ((l.getD i 0 : Nat) : Int)) := by
  rcases h.2 with ⟨rfl, h0⟩ | ⟨g, cap, cur, rfl, hb, hg, hn, hm, hc, ht⟩
  · omega
  · refine ⟨g, cap, rfl, hb, hn, hm, fun i hi => ?_⟩
    have := World.ownsRow.cellAt h i (by omega)
    rw [this]
    simp [cellsN, List.getD, hi]

/-- An owned row of two parts, written out. -/
theorem own_form2 {w : World} {B n M : Nat} {v : Value} {olds E : List Nat} (h : Own w B v (olds ++ E)) (hlen : Hid (olds.length = n)) (HM : Hid (E.length = M)) (hne : 0 < M) :
    ∃ g c, v = .slice (some ⟨g, 0, none⟩) (n + M) c ∧ B ≤ g ∧ n + M ≤ c ∧ c ≤ 9223372036854775807 ∧ (∀ i, i < n → w.cell? ⟨g, i, none⟩ = some (.int .u8 ((olds.getD i 0 : Nat) : Int))) ∧
      ∀ i, i < M → w.cell? ⟨g, n + i, none⟩ = some (.int .u8 ((E.getD i 0 : Nat) : Int)) := by
  have h1 := hlen.out
  have h2 := HM.out
  have el : (olds ++ E).length = n + M := by rw [List.length_append, h1, h2]
  obtain ⟨g, c, rfl, hg, hc1, hc2, hcell⟩ := own_form h (by omega)
  rw [el] at hc1 hcell ⊢
  refine ⟨g, c, rfl, hg, hc1, hc2, fun i hi => ?_, fun i hi => ?_⟩
  · rw [hcell i (by omega)]
    simp [List.getD, List.getElem?_append_left (show i < olds.length by omega)]
  · rw [hcell (n + i) (by omega)]
    simp only [List.getD, ← h1]
    rw [List.getElem?_append_right (by omega), Nat.add_sub_cancel_left]

end Go.Proofs.Qxb6000854a
