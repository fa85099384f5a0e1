/-
  No cell of these rows narrows 'for every input' (looked for: loops, veiled, ifaces, maps, wideKeys, modest, calm, conditions, laid).
  DERIVED. THE GIVEN ROWS OF THIS SEAT. 5 by the template 'for every input the law returns true; each argument reads behind the call as it read before'; 0 by the template 'total and deterministic' (their statements: Qxb6603061aTotals.lean).
  GIVEN WITH THE SEED: the statements are not yours to turn. If you find one false, say at which input.
  Laid BY PROGRAM, IN A SANDBOX (cutbox-rows.mjs): the forced cells as the released guide's own fill.sh prints them over the translation 507eda1dcda68ac8… (all of the seat's roots in one cut). By AI agents, Wed Nov 11 2026. No macro, syntax, notation, axiom, sorry.
-/
import Derived.Test.Qxb6603061aChecked
import GoSem.Claim
import GoSem.ClaimJoined
import GoSem.ClaimMapViews
import Derived.JoinedTies
import Derived.KernelRfl
namespace Go.Proofs.Qxb6603061a
/- THE CELL 'sum', in the pinned program and in every row, IS THE sha256 OF THE DUMP (.gsa) THAT Qxb6603061aProg.lean LOADS. Nothing in Lean hashes anything: it is a label: what it is worth is what the hold of that sum in a sandbox is worth. -/
noncomputable def Try.pinned : Pinned := { name := "qxb6603061a", sum := "507eda1dcda68ac85a4bf3288f5ee2bb2a3f4a484ca5b220f02d2e77834af6e1", checked := Try.checked }
namespace Rows
def none {H : Type} : Left H := { results := [], args := [] }

/-- 'zzlaws_pkg_farm_b1.FnPhaseIsFloorModulo': WHATEVER THE INPUT: true; the input reads as it did. -/
def fnPhaseIsFloorModuloSpec : ChangeSpec := { name := "fnPhaseIsFloorModulo", fn := fun _ => fun
  | [d1, d2, d3] => { results := [.lit (.bool true)], args := [d1, d2, d3] }
  | _ => none }
def fnPhaseIsFloorModuloRow : OpenClaim := { program := "qxb6603061a", sum := "507eda1dcda68ac85a4bf3288f5ee2bb2a3f4a484ca5b220f02d2e77834af6e1", func := "example.com/allotment/allotment/zzlaws_pkg_farm_b1.FnPhaseIsFloorModulo", spec := "fnPhaseIsFloorModulo", apart := false }
def FnPhaseIsFloorModuloSaid : Prop := fnPhaseIsFloorModuloRow.holds Try.pinned (OpenSpec.ofChange fnPhaseIsFloorModuloSpec)

/-- ITS FALSE NEIGHBOUR: 'it returns false'. Refute it at one input. -/
def fnPhaseIsFloorModuloWrong : ChangeSpec := { name := "fnPhaseIsFloorModulo", fn := fun _ => fun
  | [d1, d2, d3] => { results := [.lit (.bool false)], args := [d1, d2, d3] }
  | _ => none }
def FnPhaseIsFloorModuloWrongFalsely : Prop := fnPhaseIsFloorModuloRow.holds Try.pinned (OpenSpec.ofChange fnPhaseIsFloorModuloWrong)

/-- 'zzlaws_pkg_farm_b1.FnPhaseStepsByOne': WHATEVER THE INPUT: true; the input reads as it did. -/
def fnPhaseStepsByOneSpec : ChangeSpec := { name := "fnPhaseStepsByOne", fn := fun _ => fun
  | [d1, d2, d3] => { results := [.lit (.bool true)], args := [d1, d2, d3] }
  | _ => none }
def fnPhaseStepsByOneRow : OpenClaim := { program := "qxb6603061a", sum := "507eda1dcda68ac85a4bf3288f5ee2bb2a3f4a484ca5b220f02d2e77834af6e1", func := "example.com/allotment/allotment/zzlaws_pkg_farm_b1.FnPhaseStepsByOne", spec := "fnPhaseStepsByOne", apart := false }
def FnPhaseStepsByOneSaid : Prop := fnPhaseStepsByOneRow.holds Try.pinned (OpenSpec.ofChange fnPhaseStepsByOneSpec)

/-- ITS FALSE NEIGHBOUR: 'it returns false'. Refute it at one input. -/
def fnPhaseStepsByOneWrong : ChangeSpec := { name := "fnPhaseStepsByOne", fn := fun _ => fun
  | [d1, d2, d3] => { results := [.lit (.bool false)], args := [d1, d2, d3] }
  | _ => none }
def FnPhaseStepsByOneWrongFalsely : Prop := fnPhaseStepsByOneRow.holds Try.pinned (OpenSpec.ofChange fnPhaseStepsByOneWrong)

/-- 'zzlaws_pkg_farm_b1.FnOpenPhasesExact': WHATEVER THE INPUT: true; the input reads as it did. -/
def fnOpenPhasesExactSpec : ChangeSpec := { name := "fnOpenPhasesExact", fn := fun _ => fun
  | [d1, d2, d3, d4] => { results := [.lit (.bool true)], args := [d1, d2, d3, d4] }
  | _ => none }
def fnOpenPhasesExactRow : OpenClaim := { program := "qxb6603061a", sum := "507eda1dcda68ac85a4bf3288f5ee2bb2a3f4a484ca5b220f02d2e77834af6e1", func := "example.com/allotment/allotment/zzlaws_pkg_farm_b1.FnOpenPhasesExact", spec := "fnOpenPhasesExact", apart := false }
def FnOpenPhasesExactSaid : Prop := fnOpenPhasesExactRow.holds Try.pinned (OpenSpec.ofChange fnOpenPhasesExactSpec)

/-- ITS FALSE NEIGHBOUR: 'it returns false'. Refute it at one input. -/
def fnOpenPhasesExactWrong : ChangeSpec := { name := "fnOpenPhasesExact", fn := fun _ => fun
  | [d1, d2, d3, d4] => { results := [.lit (.bool false)], args := [d1, d2, d3, d4] }
  | _ => none }
def FnOpenPhasesExactWrongFalsely : Prop := fnOpenPhasesExactRow.holds Try.pinned (OpenSpec.ofChange fnOpenPhasesExactWrong)

/-- 'zzlaws_pkg_farm_b1.FnOpenPhasesCountIsWindow': WHATEVER THE INPUT: true; the input reads as it did. -/
def fnOpenPhasesCountIsWindowSpec : ChangeSpec := { name := "fnOpenPhasesCountIsWindow", fn := fun _ => fun
  | [d1, d2, d3] => { results := [.lit (.bool true)], args := [d1, d2, d3] }
  | _ => none }
def fnOpenPhasesCountIsWindowRow : OpenClaim := { program := "qxb6603061a", sum := "507eda1dcda68ac85a4bf3288f5ee2bb2a3f4a484ca5b220f02d2e77834af6e1", func := "example.com/allotment/allotment/zzlaws_pkg_farm_b1.FnOpenPhasesCountIsWindow", spec := "fnOpenPhasesCountIsWindow", apart := false }
def FnOpenPhasesCountIsWindowSaid : Prop := fnOpenPhasesCountIsWindowRow.holds Try.pinned (OpenSpec.ofChange fnOpenPhasesCountIsWindowSpec)

/-- ITS FALSE NEIGHBOUR: 'it returns false'. Refute it at one input. -/
def fnOpenPhasesCountIsWindowWrong : ChangeSpec := { name := "fnOpenPhasesCountIsWindow", fn := fun _ => fun
  | [d1, d2, d3] => { results := [.lit (.bool false)], args := [d1, d2, d3] }
  | _ => none }
def FnOpenPhasesCountIsWindowWrongFalsely : Prop := fnOpenPhasesCountIsWindowRow.holds Try.pinned (OpenSpec.ofChange fnOpenPhasesCountIsWindowWrong)

/-- 'zzlaws_pkg_farm_b1.FnOpenPhasesAdvanceWithT': WHATEVER THE INPUT: true; the input reads as it did. -/
def fnOpenPhasesAdvanceWithTSpec : ChangeSpec := { name := "fnOpenPhasesAdvanceWithT", fn := fun _ => fun
  | [d1, d2, d3] => { results := [.lit (.bool true)], args := [d1, d2, d3] }
  | _ => none }
def fnOpenPhasesAdvanceWithTRow : OpenClaim := { program := "qxb6603061a", sum := "507eda1dcda68ac85a4bf3288f5ee2bb2a3f4a484ca5b220f02d2e77834af6e1", func := "example.com/allotment/allotment/zzlaws_pkg_farm_b1.FnOpenPhasesAdvanceWithT", spec := "fnOpenPhasesAdvanceWithT", apart := false }
def FnOpenPhasesAdvanceWithTSaid : Prop := fnOpenPhasesAdvanceWithTRow.holds Try.pinned (OpenSpec.ofChange fnOpenPhasesAdvanceWithTSpec)

/-- ITS FALSE NEIGHBOUR: 'it returns false'. Refute it at one input. -/
def fnOpenPhasesAdvanceWithTWrong : ChangeSpec := { name := "fnOpenPhasesAdvanceWithT", fn := fun _ => fun
  | [d1, d2, d3] => { results := [.lit (.bool false)], args := [d1, d2, d3] }
  | _ => none }
def FnOpenPhasesAdvanceWithTWrongFalsely : Prop := fnOpenPhasesAdvanceWithTRow.holds Try.pinned (OpenSpec.ofChange fnOpenPhasesAdvanceWithTWrong)

end Rows
end Go.Proofs.Qxb6603061a
