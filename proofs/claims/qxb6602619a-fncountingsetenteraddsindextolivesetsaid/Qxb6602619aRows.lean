/-
  No cell of these rows narrows 'for every input' (looked for: loops, veiled, ifaces, maps, wideKeys, modest, calm, conditions, laid).
  DERIVED. THE GIVEN ROWS OF THIS SEAT. 4 by the template 'for every input the law returns true; each argument reads behind the call as it read before'; 0 by the template 'total and deterministic' (their statements: Qxb6602619aTotals.lean).
  GIVEN WITH THE SEED: the statements are not yours to turn. If you find one false, say at which input.
  Laid BY PROGRAM, IN A SANDBOX (cutbox-rows.mjs): the forced cells as the released guide's own fill.sh prints them over the translation 32cc4949386d723c… (all of the seat's roots in one cut). By AI agents, Wed Nov 11 2026. No macro, syntax, notation, axiom, sorry.
-/
import Derived.Test.Qxb6602619aChecked
import GoSem.Claim
import GoSem.ClaimJoined
import GoSem.ClaimMapViews
import Derived.JoinedTies
import Derived.KernelRfl
namespace Go.Proofs.Qxb6602619a
/- THE CELL 'sum', in the pinned program and in every row, IS THE sha256 OF THE DUMP (.gsa) THAT Qxb6602619aProg.lean LOADS. Nothing in Lean hashes anything: it is a label: what it is worth is what the hold of that sum in a sandbox is worth. -/
noncomputable def Try.pinned : Pinned := { name := "qxb6602619a", sum := "32cc4949386d723c94d55b21bf2566ab89d1dd8c391b4496bb4770c9cbebe615", checked := Try.checked }
namespace Rows
def none {H : Type} : Left H := { results := [], args := [] }

/-- 'zzlaws_root_b1.FnCountingSetEnterAddsIndexToLiveSet': WHATEVER THE INPUT: true; the input reads as it did. -/
def fnCountingSetEnterAddsIndexToLiveSetSpec : ChangeSpec := { name := "fnCountingSetEnterAddsIndexToLiveSet", fn := fun _ => fun
  | [d1, d2, d3, d4, d5] => { results := [.lit (.bool true)], args := [d1, d2, d3, d4, d5] }
  | _ => none }
def fnCountingSetEnterAddsIndexToLiveSetRow : OpenClaim := { program := "qxb6602619a", sum := "32cc4949386d723c94d55b21bf2566ab89d1dd8c391b4496bb4770c9cbebe615", func := "example.com/garm/garm/zzlaws_root_b1.FnCountingSetEnterAddsIndexToLiveSet", spec := "fnCountingSetEnterAddsIndexToLiveSet", apart := false }
def FnCountingSetEnterAddsIndexToLiveSetSaid : Prop := fnCountingSetEnterAddsIndexToLiveSetRow.holds Try.pinned (OpenSpec.ofChange fnCountingSetEnterAddsIndexToLiveSetSpec)

/-- ITS FALSE NEIGHBOUR: 'it returns false'. Refute it at one input. -/
def fnCountingSetEnterAddsIndexToLiveSetWrong : ChangeSpec := { name := "fnCountingSetEnterAddsIndexToLiveSet", fn := fun _ => fun
  | [d1, d2, d3, d4, d5] => { results := [.lit (.bool false)], args := [d1, d2, d3, d4, d5] }
  | _ => none }
def FnCountingSetEnterAddsIndexToLiveSetWrongFalsely : Prop := fnCountingSetEnterAddsIndexToLiveSetRow.holds Try.pinned (OpenSpec.ofChange fnCountingSetEnterAddsIndexToLiveSetWrong)

/-- 'zzlaws_root_b1.FnCountingSetEnterIsIdempotent': WHATEVER THE INPUT: true; the input reads as it did. -/
def fnCountingSetEnterIsIdempotentSpec : ChangeSpec := { name := "fnCountingSetEnterIsIdempotent", fn := fun _ => fun
  | [d1, d2, d3, d4, d5] => { results := [.lit (.bool true)], args := [d1, d2, d3, d4, d5] }
  | _ => none }
def fnCountingSetEnterIsIdempotentRow : OpenClaim := { program := "qxb6602619a", sum := "32cc4949386d723c94d55b21bf2566ab89d1dd8c391b4496bb4770c9cbebe615", func := "example.com/garm/garm/zzlaws_root_b1.FnCountingSetEnterIsIdempotent", spec := "fnCountingSetEnterIsIdempotent", apart := false }
def FnCountingSetEnterIsIdempotentSaid : Prop := fnCountingSetEnterIsIdempotentRow.holds Try.pinned (OpenSpec.ofChange fnCountingSetEnterIsIdempotentSpec)

/-- ITS FALSE NEIGHBOUR: 'it returns false'. Refute it at one input. -/
def fnCountingSetEnterIsIdempotentWrong : ChangeSpec := { name := "fnCountingSetEnterIsIdempotent", fn := fun _ => fun
  | [d1, d2, d3, d4, d5] => { results := [.lit (.bool false)], args := [d1, d2, d3, d4, d5] }
  | _ => none }
def FnCountingSetEnterIsIdempotentWrongFalsely : Prop := fnCountingSetEnterIsIdempotentRow.holds Try.pinned (OpenSpec.ofChange fnCountingSetEnterIsIdempotentWrong)

/-- 'zzlaws_root_b1.FnCountingSetReadKeepsWindow': WHATEVER THE INPUT: true; the input reads as it did. -/
def fnCountingSetReadKeepsWindowSpec : ChangeSpec := { name := "fnCountingSetReadKeepsWindow", fn := fun _ => fun
  | [d1, d2, d3, d4, d5, d6] => { results := [.lit (.bool true)], args := [d1, d2, d3, d4, d5, d6] }
  | _ => none }
def fnCountingSetReadKeepsWindowRow : OpenClaim := { program := "qxb6602619a", sum := "32cc4949386d723c94d55b21bf2566ab89d1dd8c391b4496bb4770c9cbebe615", func := "example.com/garm/garm/zzlaws_root_b1.FnCountingSetReadKeepsWindow", spec := "fnCountingSetReadKeepsWindow", apart := false }
def FnCountingSetReadKeepsWindowSaid : Prop := fnCountingSetReadKeepsWindowRow.holds Try.pinned (OpenSpec.ofChange fnCountingSetReadKeepsWindowSpec)

/-- ITS FALSE NEIGHBOUR: 'it returns false'. Refute it at one input. -/
def fnCountingSetReadKeepsWindowWrong : ChangeSpec := { name := "fnCountingSetReadKeepsWindow", fn := fun _ => fun
  | [d1, d2, d3, d4, d5, d6] => { results := [.lit (.bool false)], args := [d1, d2, d3, d4, d5, d6] }
  | _ => none }
def FnCountingSetReadKeepsWindowWrongFalsely : Prop := fnCountingSetReadKeepsWindowRow.holds Try.pinned (OpenSpec.ofChange fnCountingSetReadKeepsWindowWrong)

/-- 'zzlaws_root_b1.FnCountingSetReadIsIdempotent': WHATEVER THE INPUT: true; the input reads as it did. -/
def fnCountingSetReadIsIdempotentSpec : ChangeSpec := { name := "fnCountingSetReadIsIdempotent", fn := fun _ => fun
  | [d1, d2, d3, d4, d5, d6] => { results := [.lit (.bool true)], args := [d1, d2, d3, d4, d5, d6] }
  | _ => none }
def fnCountingSetReadIsIdempotentRow : OpenClaim := { program := "qxb6602619a", sum := "32cc4949386d723c94d55b21bf2566ab89d1dd8c391b4496bb4770c9cbebe615", func := "example.com/garm/garm/zzlaws_root_b1.FnCountingSetReadIsIdempotent", spec := "fnCountingSetReadIsIdempotent", apart := false }
def FnCountingSetReadIsIdempotentSaid : Prop := fnCountingSetReadIsIdempotentRow.holds Try.pinned (OpenSpec.ofChange fnCountingSetReadIsIdempotentSpec)

/-- ITS FALSE NEIGHBOUR: 'it returns false'. Refute it at one input. -/
def fnCountingSetReadIsIdempotentWrong : ChangeSpec := { name := "fnCountingSetReadIsIdempotent", fn := fun _ => fun
  | [d1, d2, d3, d4, d5, d6] => { results := [.lit (.bool false)], args := [d1, d2, d3, d4, d5, d6] }
  | _ => none }
def FnCountingSetReadIsIdempotentWrongFalsely : Prop := fnCountingSetReadIsIdempotentRow.holds Try.pinned (OpenSpec.ofChange fnCountingSetReadIsIdempotentWrong)

end Rows
end Go.Proofs.Qxb6602619a
