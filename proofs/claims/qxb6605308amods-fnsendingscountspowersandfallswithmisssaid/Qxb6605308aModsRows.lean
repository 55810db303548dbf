/-
  No cell of these rows narrows 'for every input' (looked for: loops, veiled, ifaces, maps, wideKeys, modest, calm, conditions, laid).
  DERIVED. THE GIVEN ROWS OF THIS SEAT. 3 by the template 'for every input the law returns true; each argument reads behind the call as it read before'; 0 by the template 'total and deterministic' (their statements: Qxb6605308aModsTotals.lean).
  GIVEN WITH THE SEED: the statements are not yours to turn. If you find one false, say at which input.
  Laid BY PROGRAM, IN A SANDBOX (cutbox-rows.mjs): the forced cells as the released guide's own fill.sh prints them over the translation 627b8b251f75ce41… (all of the seat's roots in one cut). By AI agents, Wed Nov 11 2026. No macro, syntax, notation, axiom, sorry.
-/
import Derived.Test.Qxb6605308aModsChecked
import GoSem.Claim
import GoSem.ClaimJoined
import GoSem.ClaimMapViews
import Derived.JoinedTies
import Derived.KernelRfl
namespace Go.Proofs.Qxb6605308aMods
/- THE CELL 'sum', in the pinned program and in every row, IS THE sha256 OF THE DUMP (.gsa) THAT Qxb6605308aModsProg.lean LOADS. Nothing in Lean hashes anything: it is a label: what it is worth is what the hold of that sum in a sandbox is worth. -/
noncomputable def Trym.pinned : Pinned := { name := "qxb6605308amods", sum := "627b8b251f75ce4141e5c4db69b65c1c18d73d84e8edfdeffbe06ae7f825b6fe", checked := Trym.checked }
namespace Rows
def none {H : Type} : Left H := { results := [], args := [] }

/-- 'zzlaws_transport_b1.FnSendingsCountsPowersAndGrowsWithLoss': WHATEVER THE INPUT: true; the input reads as it did. -/
def fnSendingsCountsPowersAndGrowsWithLossSpec : ChangeSpec := { name := "fnSendingsCountsPowersAndGrowsWithLoss", fn := fun _ => fun
  | [d1, d2, d3] => { results := [.lit (.bool true)], args := [d1, d2, d3] }
  | _ => none }
def fnSendingsCountsPowersAndGrowsWithLossRow : OpenClaim := { program := "qxb6605308amods", sum := "627b8b251f75ce4141e5c4db69b65c1c18d73d84e8edfdeffbe06ae7f825b6fe", func := "example.com/spindrift/spindrift/zzlaws_transport_b1.FnSendingsCountsPowersAndGrowsWithLoss", spec := "fnSendingsCountsPowersAndGrowsWithLoss", make := .lifted ["publicsums"], apart := false }
def FnSendingsCountsPowersAndGrowsWithLossSaid : Prop := fnSendingsCountsPowersAndGrowsWithLossRow.holds Trym.pinned (OpenSpec.ofChange fnSendingsCountsPowersAndGrowsWithLossSpec)

/-- ITS FALSE NEIGHBOUR: 'it returns false'. Refute it at one input. -/
def fnSendingsCountsPowersAndGrowsWithLossWrong : ChangeSpec := { name := "fnSendingsCountsPowersAndGrowsWithLoss", fn := fun _ => fun
  | [d1, d2, d3] => { results := [.lit (.bool false)], args := [d1, d2, d3] }
  | _ => none }
def FnSendingsCountsPowersAndGrowsWithLossWrongFalsely : Prop := fnSendingsCountsPowersAndGrowsWithLossRow.holds Trym.pinned (OpenSpec.ofChange fnSendingsCountsPowersAndGrowsWithLossWrong)

/-- 'zzlaws_transport_b1.FnSendingsCountsPowersAndFallsWithMiss': WHATEVER THE INPUT: true; the input reads as it did. -/
def fnSendingsCountsPowersAndFallsWithMissSpec : ChangeSpec := { name := "fnSendingsCountsPowersAndFallsWithMiss", fn := fun _ => fun
  | [d1, d2, d3] => { results := [.lit (.bool true)], args := [d1, d2, d3] }
  | _ => none }
def fnSendingsCountsPowersAndFallsWithMissRow : OpenClaim := { program := "qxb6605308amods", sum := "627b8b251f75ce4141e5c4db69b65c1c18d73d84e8edfdeffbe06ae7f825b6fe", func := "example.com/spindrift/spindrift/zzlaws_transport_b1.FnSendingsCountsPowersAndFallsWithMiss", spec := "fnSendingsCountsPowersAndFallsWithMiss", make := .lifted ["publicsums"], apart := false }
def FnSendingsCountsPowersAndFallsWithMissSaid : Prop := fnSendingsCountsPowersAndFallsWithMissRow.holds Trym.pinned (OpenSpec.ofChange fnSendingsCountsPowersAndFallsWithMissSpec)

/-- ITS FALSE NEIGHBOUR: 'it returns false'. Refute it at one input. -/
def fnSendingsCountsPowersAndFallsWithMissWrong : ChangeSpec := { name := "fnSendingsCountsPowersAndFallsWithMiss", fn := fun _ => fun
  | [d1, d2, d3] => { results := [.lit (.bool false)], args := [d1, d2, d3] }
  | _ => none }
def FnSendingsCountsPowersAndFallsWithMissWrongFalsely : Prop := fnSendingsCountsPowersAndFallsWithMissRow.holds Trym.pinned (OpenSpec.ofChange fnSendingsCountsPowersAndFallsWithMissWrong)

/-- 'zzlaws_transport_b1.FnOfStreamIsExactlyTheTwelveStreamKinds': WHATEVER THE INPUT: true; the input reads as it did. -/
def fnOfStreamIsExactlyTheTwelveStreamKindsSpec : ChangeSpec := { name := "fnOfStreamIsExactlyTheTwelveStreamKinds", fn := fun _ => fun
  | [d] => { results := [.lit (.bool true)], args := [d] }
  | _ => none }
def fnOfStreamIsExactlyTheTwelveStreamKindsRow : OpenClaim := { program := "qxb6605308amods", sum := "627b8b251f75ce4141e5c4db69b65c1c18d73d84e8edfdeffbe06ae7f825b6fe", func := "example.com/spindrift/spindrift/zzlaws_transport_b1.FnOfStreamIsExactlyTheTwelveStreamKinds", spec := "fnOfStreamIsExactlyTheTwelveStreamKinds", make := .lifted ["publicsums"], apart := false }
def FnOfStreamIsExactlyTheTwelveStreamKindsSaid : Prop := fnOfStreamIsExactlyTheTwelveStreamKindsRow.holds Trym.pinned (OpenSpec.ofChange fnOfStreamIsExactlyTheTwelveStreamKindsSpec)

/-- ITS FALSE NEIGHBOUR: 'it returns false'. Refute it at one input. -/
def fnOfStreamIsExactlyTheTwelveStreamKindsWrong : ChangeSpec := { name := "fnOfStreamIsExactlyTheTwelveStreamKinds", fn := fun _ => fun
  | [d] => { results := [.lit (.bool false)], args := [d] }
  | _ => none }
def FnOfStreamIsExactlyTheTwelveStreamKindsWrongFalsely : Prop := fnOfStreamIsExactlyTheTwelveStreamKindsRow.holds Trym.pinned (OpenSpec.ofChange fnOfStreamIsExactlyTheTwelveStreamKindsWrong)

end Rows
end Go.Proofs.Qxb6605308aMods
