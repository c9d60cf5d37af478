/-
  The contracts of integer (35) and ZZInteger (21).
-/
import Derived.Test.Qxb6000854aItoa
namespace Go.Proofs.Qxb6000854a
open Go.RowKit
set_option linter.unusedVariables false

/-- The scanner lies in block B: its slice and its flag. -/
structure Scan (w : World) (B : Nat) (a : Option Addr) (len cap : Nat) : Prop where
  c0 : w.cell? ⟨B, 0, none⟩ = some (.slice a len cap)
  c1 : w.cell? ⟨B, 1, none⟩ = some (.bool true)
  f0 : w.frozen? ⟨B, 0, none⟩ = false
  f1 : w.frozen? ⟨B, 1, none⟩ = false

/-- An empty slice: refused. -/
theorem int_empty (B : Nat) (a : Option Addr) (cap : Nat) (w : World) (h : Scan w B a 0 cap) :
    Calls Try.prog 35 #[.pointer (some ⟨B, 0, none⟩)] w fun e w' => e = .returned (.int .i64 0) ∧ w' = w.setCell ⟨B, 1, none⟩ (.bool false) := by
  obtain ⟨c0, c1, f0, f1⟩ := h
  go_enter Try.func35, Try.ntmps35
  go_wp2
  refine wp_loop_rounds 1 ?_
  rw [rounds_succ]
  go_wp2
  go_ret
  exact ⟨rfl, rfl⟩

/-- A lone minus sign: refused. -/
theorem int_minus (B b off cap : Nat) (w : World) (h : Scan w B (some ⟨b, off, none⟩) 1 cap) (hc : 1 ≤ cap) (hc2 : cap ≤ 9223372036854775807) (hd : w.cell? ⟨b, off, none⟩ = some (.int .u8 45)) :
    Calls Try.prog 35 #[.pointer (some ⟨B, 0, none⟩)] w fun e w' => e = .returned (.int .i64 0) ∧ w' = w.setCell ⟨B, 1, none⟩ (.bool false) := by
  obtain ⟨c0, c1, f0, f1⟩ := h
  by_cases hc1 : cap = 1
  · subst hc1
    go_enter Try.func35, Try.ntmps35
    go_wp2
    refine wp_loop_rounds 1 ?_
    rw [rounds_succ]
    go_wp2
    go_ret
    exact ⟨rfl, rfl⟩
  · go_enter Try.func35, Try.ntmps35
    go_wp2
    refine wp_loop_rounds 1 ?_
    rw [rounds_succ]
    go_wp2
    go_ret
    exact ⟨rfl, rfl⟩

end Go.Proofs.Qxb6000854a
