/-
  No cell of these rows narrows 'for every input' (looked for: loops, veiled, ifaces, maps, wideKeys, modest, calm, conditions, laid).
  DERIVED. THE GIVEN ROWS OF THIS SEAT. 4 by the template 'for every input the law returns true; each argument reads behind the call as it read before'; 0 by the template 'total and deterministic' (their statements: Qxb6604591aTotals.lean).
  GIVEN WITH THE SEED: the statements are not yours to turn. If you find one false, say at which input.
  Laid BY PROGRAM, IN A SANDBOX (cutbox-rows.mjs): the forced cells as the released guide's own fill.sh prints them over the translation f6b871c6facbae9f… (all of the seat's roots in one cut). By AI agents, Wed Nov 11 2026. No macro, syntax, notation, axiom, sorry.
-/
import Derived.Test.Qxb6604591aChecked
import GoSem.Claim
import GoSem.ClaimJoined
import GoSem.ClaimMapViews
import Derived.JoinedTies
import Derived.KernelRfl
namespace Go.Proofs.Qxb6604591a
/- THE CELL 'sum', in the pinned program and in every row, IS THE sha256 OF THE DUMP (.gsa) THAT Qxb6604591aProg.lean LOADS. Nothing in Lean hashes anything: it is a label: what it is worth is what the hold of that sum in a sandbox is worth. -/
noncomputable def Try.pinned : Pinned := { name := "qxb6604591a", sum := "f6b871c6facbae9f2d821695dfcc8b54640f89d5fa223e8ffcd1e7ea30b01dd7", checked := Try.checked }
namespace Rows
def none {H : Type} : Left H := { results := [], args := [] }

/-- 'zzlaws_ocsp_b1.FnWithinSplitsBack': WHATEVER THE INPUT: true; the input reads as it did. -/
def fnWithinSplitsBackSpec : ChangeSpec := { name := "fnWithinSplitsBack", fn := fun _ => fun
  | [d1, d2, d3] => { results := [.lit (.bool true)], args := [d1, d2, d3] }
  | _ => none }
def fnWithinSplitsBackRow : OpenClaim := { program := "qxb6604591a", sum := "f6b871c6facbae9f2d821695dfcc8b54640f89d5fa223e8ffcd1e7ea30b01dd7", func := "example.com/vouchsafe/vouchsafe/zzlaws_ocsp_b1.FnWithinSplitsBack", spec := "fnWithinSplitsBack", apart := false }
def FnWithinSplitsBackSaid : Prop := fnWithinSplitsBackRow.holds Try.pinned (OpenSpec.ofChange fnWithinSplitsBackSpec)

/-- ITS FALSE NEIGHBOUR: 'it returns false'. Refute it at one input. -/
def fnWithinSplitsBackWrong : ChangeSpec := { name := "fnWithinSplitsBack", fn := fun _ => fun
  | [d1, d2, d3] => { results := [.lit (.bool false)], args := [d1, d2, d3] }
  | _ => none }
def FnWithinSplitsBackWrongFalsely : Prop := fnWithinSplitsBackRow.holds Try.pinned (OpenSpec.ofChange fnWithinSplitsBackWrong)

/-- 'zzlaws_ocsp_b1.FnWithinNestsAsJoinedPath': WHATEVER THE INPUT: true; the input reads as it did. -/
def fnWithinNestsAsJoinedPathSpec : ChangeSpec := { name := "fnWithinNestsAsJoinedPath", fn := fun _ => fun
  | [d1, d2, d3, d4] => { results := [.lit (.bool true)], args := [d1, d2, d3, d4] }
  | _ => none }
def fnWithinNestsAsJoinedPathRow : OpenClaim := { program := "qxb6604591a", sum := "f6b871c6facbae9f2d821695dfcc8b54640f89d5fa223e8ffcd1e7ea30b01dd7", func := "example.com/vouchsafe/vouchsafe/zzlaws_ocsp_b1.FnWithinNestsAsJoinedPath", spec := "fnWithinNestsAsJoinedPath", apart := false }
def FnWithinNestsAsJoinedPathSaid : Prop := fnWithinNestsAsJoinedPathRow.holds Try.pinned (OpenSpec.ofChange fnWithinNestsAsJoinedPathSpec)

/-- ITS FALSE NEIGHBOUR: 'it returns false'. Refute it at one input. -/
def fnWithinNestsAsJoinedPathWrong : ChangeSpec := { name := "fnWithinNestsAsJoinedPath", fn := fun _ => fun
  | [d1, d2, d3, d4] => { results := [.lit (.bool false)], args := [d1, d2, d3, d4] }
  | _ => none }
def FnWithinNestsAsJoinedPathWrongFalsely : Prop := fnWithinNestsAsJoinedPathRow.holds Try.pinned (OpenSpec.ofChange fnWithinNestsAsJoinedPathWrong)

/-- 'zzlaws_ocsp_b1.FnNameAtByScan': WHATEVER THE INPUT: true; the input reads as it did. -/
def fnNameAtByScanSpec : ChangeSpec := { name := "fnNameAtByScan", fn := fun _ => fun
  | [d1, d2] => { results := [.lit (.bool true)], args := [d1, d2] }
  | _ => none }
def fnNameAtByScanRow : OpenClaim := { program := "qxb6604591a", sum := "f6b871c6facbae9f2d821695dfcc8b54640f89d5fa223e8ffcd1e7ea30b01dd7", func := "example.com/vouchsafe/vouchsafe/zzlaws_ocsp_b1.FnNameAtByScan", spec := "fnNameAtByScan", apart := false }
def FnNameAtByScanSaid : Prop := fnNameAtByScanRow.holds Try.pinned (OpenSpec.ofChange fnNameAtByScanSpec)

/-- ITS FALSE NEIGHBOUR: 'it returns false'. Refute it at one input. -/
def fnNameAtByScanWrong : ChangeSpec := { name := "fnNameAtByScan", fn := fun _ => fun
  | [d1, d2] => { results := [.lit (.bool false)], args := [d1, d2] }
  | _ => none }
def FnNameAtByScanWrongFalsely : Prop := fnNameAtByScanRow.holds Try.pinned (OpenSpec.ofChange fnNameAtByScanWrong)

/-- 'zzlaws_ocsp_b1.FnNameAtShiftsUnderPrepend': WHATEVER THE INPUT: true; the input reads as it did. -/
def fnNameAtShiftsUnderPrependSpec : ChangeSpec := { name := "fnNameAtShiftsUnderPrepend", fn := fun _ => fun
  | [d1, d2, d3] => { results := [.lit (.bool true)], args := [d1, d2, d3] }
  | _ => none }
def fnNameAtShiftsUnderPrependRow : OpenClaim := { program := "qxb6604591a", sum := "f6b871c6facbae9f2d821695dfcc8b54640f89d5fa223e8ffcd1e7ea30b01dd7", func := "example.com/vouchsafe/vouchsafe/zzlaws_ocsp_b1.FnNameAtShiftsUnderPrepend", spec := "fnNameAtShiftsUnderPrepend", apart := false }
def FnNameAtShiftsUnderPrependSaid : Prop := fnNameAtShiftsUnderPrependRow.holds Try.pinned (OpenSpec.ofChange fnNameAtShiftsUnderPrependSpec)

/-- ITS FALSE NEIGHBOUR: 'it returns false'. Refute it at one input. -/
def fnNameAtShiftsUnderPrependWrong : ChangeSpec := { name := "fnNameAtShiftsUnderPrepend", fn := fun _ => fun
  | [d1, d2, d3] => { results := [.lit (.bool false)], args := [d1, d2, d3] }
  | _ => none }
def FnNameAtShiftsUnderPrependWrongFalsely : Prop := fnNameAtShiftsUnderPrependRow.holds Try.pinned (OpenSpec.ofChange fnNameAtShiftsUnderPrependWrong)

end Rows
end Go.Proofs.Qxb6604591a
