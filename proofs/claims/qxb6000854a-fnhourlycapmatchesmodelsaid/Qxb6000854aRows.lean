/-
  No cell of these rows narrows 'for every input' (looked for: loops, veiled, ifaces, maps, wideKeys, modest, calm, conditions, laid).
  DERIVED. THE GIVEN ROWS OF THIS SEAT. 8 by the template 'for every input the law returns true; each argument reads behind the call as it read before'; 0 by the template 'total and deterministic' (their statements: Qxb6000854aTotals.lean).
  GIVEN WITH THE SEED: the statements are not yours to turn. If you find one false, say at which input.
  Laid BY PROGRAM, IN A SANDBOX (cutbox-rows.mjs): the forced cells as the released guide's own fill.sh prints them over the translation bb587ee37ce08bd3… (all of the seat's roots in one cut). By AI agents, Wed Nov 11 2026. No macro, syntax, notation, axiom, sorry.
-/
import Derived.Test.Qxb6000854aChecked
import GoSem.Claim
import GoSem.ClaimJoined
import GoSem.ClaimMapViews
import Derived.JoinedTies
import Derived.KernelRfl
namespace Go.Proofs.Qxb6000854a
/- THE CELL 'sum', in the pinned program and in every row, IS THE sha256 OF THE DUMP (.gsa) THAT Qxb6000854aProg.lean LOADS. Nothing in Lean hashes anything: it is a label: what it is worth is what the hold of that sum in a sandbox is worth. -/
noncomputable def Try.pinned : Pinned := { name := "qxb6000854a", sum := "bb587ee37ce08bd3ee74b6c9694e89bcd6d0fa13340865449c309235e04cccce", checked := Try.checked }
namespace Rows
def none {H : Type} : Left H := { results := [], args := [] }

/-- 'zzlaws_root_b1.FnAppendStringRoundTrip': WHATEVER THE INPUT: true; the input reads as it did. -/
def fnAppendStringRoundTripSpec : ChangeSpec := { name := "fnAppendStringRoundTrip", fn := fun _ => fun
  | [d1, d2] => { results := [.lit (.bool true)], args := [d1, d2] }
  | _ => none }
def fnAppendStringRoundTripRow : OpenClaim := { program := "qxb6000854a", sum := "bb587ee37ce08bd3ee74b6c9694e89bcd6d0fa13340865449c309235e04cccce", func := "example.com/esteem/esteem/zzlaws_root_b1.FnAppendStringRoundTrip", spec := "fnAppendStringRoundTrip", apart := false }
def FnAppendStringRoundTripSaid : Prop := fnAppendStringRoundTripRow.holds Try.pinned (OpenSpec.ofChange fnAppendStringRoundTripSpec)

/-- ITS FALSE NEIGHBOUR: 'it returns false'. Refute it at one input. -/
def fnAppendStringRoundTripWrong : ChangeSpec := { name := "fnAppendStringRoundTrip", fn := fun _ => fun
  | [d1, d2] => { results := [.lit (.bool false)], args := [d1, d2] }
  | _ => none }
def FnAppendStringRoundTripWrongFalsely : Prop := fnAppendStringRoundTripRow.holds Try.pinned (OpenSpec.ofChange fnAppendStringRoundTripWrong)

/-- 'zzlaws_root_b1.FnAppendStringInjective': WHATEVER THE INPUT: true; the input reads as it did. -/
def fnAppendStringInjectiveSpec : ChangeSpec := { name := "fnAppendStringInjective", fn := fun _ => fun
  | [d1, d2] => { results := [.lit (.bool true)], args := [d1, d2] }
  | _ => none }
def fnAppendStringInjectiveRow : OpenClaim := { program := "qxb6000854a", sum := "bb587ee37ce08bd3ee74b6c9694e89bcd6d0fa13340865449c309235e04cccce", func := "example.com/esteem/esteem/zzlaws_root_b1.FnAppendStringInjective", spec := "fnAppendStringInjective", apart := false }
def FnAppendStringInjectiveSaid : Prop := fnAppendStringInjectiveRow.holds Try.pinned (OpenSpec.ofChange fnAppendStringInjectiveSpec)

/-- ITS FALSE NEIGHBOUR: 'it returns false'. Refute it at one input. -/
def fnAppendStringInjectiveWrong : ChangeSpec := { name := "fnAppendStringInjective", fn := fun _ => fun
  | [d1, d2] => { results := [.lit (.bool false)], args := [d1, d2] }
  | _ => none }
def FnAppendStringInjectiveWrongFalsely : Prop := fnAppendStringInjectiveRow.holds Try.pinned (OpenSpec.ofChange fnAppendStringInjectiveWrong)

/-- 'zzlaws_root_b1.FnAppendStringShape': WHATEVER THE INPUT: true; the input reads as it did. -/
def fnAppendStringShapeSpec : ChangeSpec := { name := "fnAppendStringShape", fn := fun _ => fun
  | [d1, d2] => { results := [.lit (.bool true)], args := [d1, d2] }
  | _ => none }
def fnAppendStringShapeRow : OpenClaim := { program := "qxb6000854a", sum := "bb587ee37ce08bd3ee74b6c9694e89bcd6d0fa13340865449c309235e04cccce", func := "example.com/esteem/esteem/zzlaws_root_b1.FnAppendStringShape", spec := "fnAppendStringShape", apart := false }
def FnAppendStringShapeSaid : Prop := fnAppendStringShapeRow.holds Try.pinned (OpenSpec.ofChange fnAppendStringShapeSpec)

/-- ITS FALSE NEIGHBOUR: 'it returns false'. Refute it at one input. -/
def fnAppendStringShapeWrong : ChangeSpec := { name := "fnAppendStringShape", fn := fun _ => fun
  | [d1, d2] => { results := [.lit (.bool false)], args := [d1, d2] }
  | _ => none }
def FnAppendStringShapeWrongFalsely : Prop := fnAppendStringShapeRow.holds Try.pinned (OpenSpec.ofChange fnAppendStringShapeWrong)

/-- 'zzlaws_root_b1.FnIntegerReadsCanonical': WHATEVER THE INPUT: true; the input reads as it did. -/
def fnIntegerReadsCanonicalSpec : ChangeSpec := { name := "fnIntegerReadsCanonical", fn := fun _ => fun
  | [d1, d2] => { results := [.lit (.bool true)], args := [d1, d2] }
  | _ => none }
def fnIntegerReadsCanonicalRow : OpenClaim := { program := "qxb6000854a", sum := "bb587ee37ce08bd3ee74b6c9694e89bcd6d0fa13340865449c309235e04cccce", func := "example.com/esteem/esteem/zzlaws_root_b1.FnIntegerReadsCanonical", spec := "fnIntegerReadsCanonical", apart := false }
def FnIntegerReadsCanonicalSaid : Prop := fnIntegerReadsCanonicalRow.holds Try.pinned (OpenSpec.ofChange fnIntegerReadsCanonicalSpec)

/-- ITS FALSE NEIGHBOUR: 'it returns false'. Refute it at one input. -/
def fnIntegerReadsCanonicalWrong : ChangeSpec := { name := "fnIntegerReadsCanonical", fn := fun _ => fun
  | [d1, d2] => { results := [.lit (.bool false)], args := [d1, d2] }
  | _ => none }
def FnIntegerReadsCanonicalWrongFalsely : Prop := fnIntegerReadsCanonicalRow.holds Try.pinned (OpenSpec.ofChange fnIntegerReadsCanonicalWrong)

/-- 'zzlaws_root_b1.FnIntegerAcceptsOnlyCanonical': WHATEVER THE INPUT: true; the input reads as it did. -/
def fnIntegerAcceptsOnlyCanonicalSpec : ChangeSpec := { name := "fnIntegerAcceptsOnlyCanonical", fn := fun _ => fun
  | [d] => { results := [.lit (.bool true)], args := [d] }
  | _ => none }
def fnIntegerAcceptsOnlyCanonicalRow : OpenClaim := { program := "qxb6000854a", sum := "bb587ee37ce08bd3ee74b6c9694e89bcd6d0fa13340865449c309235e04cccce", func := "example.com/esteem/esteem/zzlaws_root_b1.FnIntegerAcceptsOnlyCanonical", spec := "fnIntegerAcceptsOnlyCanonical", apart := false }
def FnIntegerAcceptsOnlyCanonicalSaid : Prop := fnIntegerAcceptsOnlyCanonicalRow.holds Try.pinned (OpenSpec.ofChange fnIntegerAcceptsOnlyCanonicalSpec)

/-- ITS FALSE NEIGHBOUR: 'it returns false'. Refute it at one input. -/
def fnIntegerAcceptsOnlyCanonicalWrong : ChangeSpec := { name := "fnIntegerAcceptsOnlyCanonical", fn := fun _ => fun
  | [d] => { results := [.lit (.bool false)], args := [d] }
  | _ => none }
def FnIntegerAcceptsOnlyCanonicalWrongFalsely : Prop := fnIntegerAcceptsOnlyCanonicalRow.holds Try.pinned (OpenSpec.ofChange fnIntegerAcceptsOnlyCanonicalWrong)

/-- 'zzlaws_root_b1.FnHourlyCapWindowBound': WHATEVER THE INPUT: true; the input reads as it did. -/
def fnHourlyCapWindowBoundSpec : ChangeSpec := { name := "fnHourlyCapWindowBound", fn := fun _ => fun
  | [d1, d2, d3] => { results := [.lit (.bool true)], args := [d1, d2, d3] }
  | _ => none }
def fnHourlyCapWindowBoundRow : OpenClaim := { program := "qxb6000854a", sum := "bb587ee37ce08bd3ee74b6c9694e89bcd6d0fa13340865449c309235e04cccce", func := "example.com/esteem/esteem/zzlaws_root_b1.FnHourlyCapWindowBound", spec := "fnHourlyCapWindowBound", apart := false }
def FnHourlyCapWindowBoundSaid : Prop := fnHourlyCapWindowBoundRow.holds Try.pinned (OpenSpec.ofChange fnHourlyCapWindowBoundSpec)

/-- ITS FALSE NEIGHBOUR: 'it returns false'. Refute it at one input. -/
def fnHourlyCapWindowBoundWrong : ChangeSpec := { name := "fnHourlyCapWindowBound", fn := fun _ => fun
  | [d1, d2, d3] => { results := [.lit (.bool false)], args := [d1, d2, d3] }
  | _ => none }
def FnHourlyCapWindowBoundWrongFalsely : Prop := fnHourlyCapWindowBoundRow.holds Try.pinned (OpenSpec.ofChange fnHourlyCapWindowBoundWrong)

/-- 'zzlaws_root_b1.FnHourlyCapMatchesModel': WHATEVER THE INPUT: true; the input reads as it did. -/
def fnHourlyCapMatchesModelSpec : ChangeSpec := { name := "fnHourlyCapMatchesModel", fn := fun _ => fun
  | [d1, d2, d3] => { results := [.lit (.bool true)], args := [d1, d2, d3] }
  | _ => none }
def fnHourlyCapMatchesModelRow : OpenClaim := { program := "qxb6000854a", sum := "bb587ee37ce08bd3ee74b6c9694e89bcd6d0fa13340865449c309235e04cccce", func := "example.com/esteem/esteem/zzlaws_root_b1.FnHourlyCapMatchesModel", spec := "fnHourlyCapMatchesModel", apart := false }
def FnHourlyCapMatchesModelSaid : Prop := fnHourlyCapMatchesModelRow.holds Try.pinned (OpenSpec.ofChange fnHourlyCapMatchesModelSpec)

/-- ITS FALSE NEIGHBOUR: 'it returns false'. Refute it at one input. -/
def fnHourlyCapMatchesModelWrong : ChangeSpec := { name := "fnHourlyCapMatchesModel", fn := fun _ => fun
  | [d1, d2, d3] => { results := [.lit (.bool false)], args := [d1, d2, d3] }
  | _ => none }
def FnHourlyCapMatchesModelWrongFalsely : Prop := fnHourlyCapMatchesModelRow.holds Try.pinned (OpenSpec.ofChange fnHourlyCapMatchesModelWrong)

/-- 'zzlaws_root_b1.FnHourlyCapShiftInvariant': WHATEVER THE INPUT: true; the input reads as it did. -/
def fnHourlyCapShiftInvariantSpec : ChangeSpec := { name := "fnHourlyCapShiftInvariant", fn := fun _ => fun
  | [d1, d2, d3, d4] => { results := [.lit (.bool true)], args := [d1, d2, d3, d4] }
  | _ => none }
def fnHourlyCapShiftInvariantRow : OpenClaim := { program := "qxb6000854a", sum := "bb587ee37ce08bd3ee74b6c9694e89bcd6d0fa13340865449c309235e04cccce", func := "example.com/esteem/esteem/zzlaws_root_b1.FnHourlyCapShiftInvariant", spec := "fnHourlyCapShiftInvariant", apart := false }
def FnHourlyCapShiftInvariantSaid : Prop := fnHourlyCapShiftInvariantRow.holds Try.pinned (OpenSpec.ofChange fnHourlyCapShiftInvariantSpec)

/-- ITS FALSE NEIGHBOUR: 'it returns false'. Refute it at one input. -/
def fnHourlyCapShiftInvariantWrong : ChangeSpec := { name := "fnHourlyCapShiftInvariant", fn := fun _ => fun
  | [d1, d2, d3, d4] => { results := [.lit (.bool false)], args := [d1, d2, d3, d4] }
  | _ => none }
def FnHourlyCapShiftInvariantWrongFalsely : Prop := fnHourlyCapShiftInvariantRow.holds Try.pinned (OpenSpec.ofChange fnHourlyCapShiftInvariantWrong)

end Rows
end Go.Proofs.Qxb6000854a
