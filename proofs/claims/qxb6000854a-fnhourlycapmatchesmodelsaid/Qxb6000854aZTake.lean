/-
  ZZTake (29).
-/
import Derived.Test.Qxb6000854aTake
namespace Go.Proofs.Qxb6000854a
open Go.RowKit
set_option linter.unusedVariables false

/-- ZZTake. -/
theorem ztake_any (B C lim : Nat) (a0 : Option Addr) (n0 cap0 sum0 : Nat) (rec0 : List (Int × Nat)) (t : Int) (x : Nat) (δ0 β : Int) (w : World)
    (hcap : CapAt w B C lim a0 n0 cap0 sum0 rec0) (hinv : Fl.CInv lim rec0 sum0 δ0 β) (hlim : Fl.Amt lim) (hx : Fl.Amt x) (hn : n0 ≤ 4096) (hβ : β + 2 * Fl.eps ≤ 8200 * Fl.eps) (ht : -9223372036854775808 ≤ t ∧ t ≤ 9223372036854775807) (hts : ∀ p ∈ rec0, -9223372036854775808 ≤ p.1 ∧ p.1 ≤ 9223372036854775807) (G : Nat) (HG : Hid (Fl.gotF lim (Fl.popS t rec0 sum0) x = G)) :
    Calls Try.prog 29 #[.pointer (some ⟨C, 0, none⟩), .int .i64 t, .float .f64 x] w fun e w' => e = .returned (.float .f64 G) ∧ TakePost w w' B C lim rec0 sum0 t x := by
  have H := take_any B C lim a0 n0 cap0 sum0 rec0 t x δ0 β w hcap hinv hlim hx hn hβ ht hts
  rw [HG.out] at H
  clear hcap hinv hlim hx hn hβ ht hts
  have HH : Hid _ := H
  clear H
  go_enter Try.func29, Try.ntmps29
  go_wp2_with fail
  refine Calls.mono HH.out ?_
  rintro e w' ⟨rfl, hp⟩
  go_wp2
  go_ret
  exact ⟨rfl, hp⟩

end Go.Proofs.Qxb6000854a
