/-
  NARROWER THAN 'FOR EVERY INPUT', by the rows' own cells (each row's printed sentence says how): FnFewestIsFirstMemberWithLeastCount: maps · FnFewestSortedIsBytewiseLeastOfTheLeast: maps.
  DERIVED. THE GIVEN ROWS OF THIS SEAT. 4 by the template 'for every input the law returns true; each argument reads behind the call as it read before'; 0 by the template 'total and deterministic' (their statements: Qxb6604069aModsTotals.lean).
  GIVEN WITH THE SEED: the statements are not yours to turn. If you find one false, say at which input.
  Laid BY PROGRAM, IN A SANDBOX (cutbox-rows.mjs): the forced cells as the released guide's own fill.sh prints them over the translation b7dd6c854bf399ea… (all of the seat's roots in one cut). By AI agents, Wed Nov 11 2026. No macro, syntax, notation, axiom, sorry.
-/
import Derived.Test.Qxb6604069aModsChecked
import GoSem.Claim
import GoSem.ClaimJoined
import GoSem.ClaimMapViews
import Derived.JoinedTies
import Derived.KernelRfl
namespace Go.Proofs.Qxb6604069aMods
/- THE CELL 'sum', in the pinned program and in every row, IS THE sha256 OF THE DUMP (.gsa) THAT Qxb6604069aModsProg.lean LOADS. Nothing in Lean hashes anything: it is a label: what it is worth is what the hold of that sum in a sandbox is worth. -/
noncomputable def Trym.pinned : Pinned := { name := "qxb6604069amods", sum := "b7dd6c854bf399eaeef81ed6c2c0dbabea5145fe6524c06e5e0205730515a2f7", checked := Trym.checked }
namespace Rows
def none {H : Type} : Left H := { results := [], args := [] }

/-- 'zzlaws_root_b1.FnFnv1a32UnwindsOneByteAtATime': WHATEVER THE INPUT: true; the input reads as it did. -/
def fnFnv1a32UnwindsOneByteAtATimeSpec : ChangeSpec := { name := "fnFnv1a32UnwindsOneByteAtATime", fn := fun _ => fun
  | [d] => { results := [.lit (.bool true)], args := [d] }
  | _ => none }
def fnFnv1a32UnwindsOneByteAtATimeRow : OpenClaim := { program := "qxb6604069amods", sum := "b7dd6c854bf399eaeef81ed6c2c0dbabea5145fe6524c06e5e0205730515a2f7", func := "example.com/shard-mapper/shard-mapper/zzlaws_root_b1.FnFnv1a32UnwindsOneByteAtATime", spec := "fnFnv1a32UnwindsOneByteAtATime", make := .lifted ["publicsums"], apart := false }
def FnFnv1a32UnwindsOneByteAtATimeSaid : Prop := fnFnv1a32UnwindsOneByteAtATimeRow.holds Trym.pinned (OpenSpec.ofChange fnFnv1a32UnwindsOneByteAtATimeSpec)

/-- ITS FALSE NEIGHBOUR: 'it returns false'. Refute it at one input. -/
def fnFnv1a32UnwindsOneByteAtATimeWrong : ChangeSpec := { name := "fnFnv1a32UnwindsOneByteAtATime", fn := fun _ => fun
  | [d] => { results := [.lit (.bool false)], args := [d] }
  | _ => none }
def FnFnv1a32UnwindsOneByteAtATimeWrongFalsely : Prop := fnFnv1a32UnwindsOneByteAtATimeRow.holds Trym.pinned (OpenSpec.ofChange fnFnv1a32UnwindsOneByteAtATimeWrong)

/-- 'zzlaws_root_b1.FnFnv1a32PublishedVectors': WHATEVER THE INPUT: true; the input reads as it did. -/
def fnFnv1a32PublishedVectorsSpec : ChangeSpec := { name := "fnFnv1a32PublishedVectors", fn := fun _ => fun
  | [] => { results := [.lit (.bool true)], args := [] }
  | _ => none }
def fnFnv1a32PublishedVectorsRow : OpenClaim := { program := "qxb6604069amods", sum := "b7dd6c854bf399eaeef81ed6c2c0dbabea5145fe6524c06e5e0205730515a2f7", func := "example.com/shard-mapper/shard-mapper/zzlaws_root_b1.FnFnv1a32PublishedVectors", spec := "fnFnv1a32PublishedVectors", make := .lifted ["publicsums"], apart := false }
def FnFnv1a32PublishedVectorsSaid : Prop := fnFnv1a32PublishedVectorsRow.holds Trym.pinned (OpenSpec.ofChange fnFnv1a32PublishedVectorsSpec)

/-- ITS FALSE NEIGHBOUR: 'it returns false'. Refute it at one input. -/
def fnFnv1a32PublishedVectorsWrong : ChangeSpec := { name := "fnFnv1a32PublishedVectors", fn := fun _ => fun
  | [] => { results := [.lit (.bool false)], args := [] }
  | _ => none }
def FnFnv1a32PublishedVectorsWrongFalsely : Prop := fnFnv1a32PublishedVectorsRow.holds Trym.pinned (OpenSpec.ofChange fnFnv1a32PublishedVectorsWrong)

/-- 'zzlaws_root_b1.FnFewestIsFirstMemberWithLeastCount': WHATEVER THE INPUT: true; the input reads as it did. -/
def fnFewestIsFirstMemberWithLeastCountSpec : ChangeSpec := { name := "fnFewestIsFirstMemberWithLeastCount", fn := fun _ => fun
  | [d1, d2] => { results := [.lit (.bool true)], args := [d1, d2] }
  | _ => none }
def fnFewestIsFirstMemberWithLeastCountRow : OpenClaim := { program := "qxb6604069amods", sum := "b7dd6c854bf399eaeef81ed6c2c0dbabea5145fe6524c06e5e0205730515a2f7", func := "example.com/shard-mapper/shard-mapper/zzlaws_root_b1.FnFewestIsFirstMemberWithLeastCount", spec := "fnFewestIsFirstMemberWithLeastCount", maps := true, make := .lifted ["publicsums"], apart := false }
def FnFewestIsFirstMemberWithLeastCountSaid : Prop := fnFewestIsFirstMemberWithLeastCountRow.holds Trym.pinned (OpenSpec.ofChange fnFewestIsFirstMemberWithLeastCountSpec)

/-- ITS FALSE NEIGHBOUR: 'it returns false'. Refute it at one input. -/
def fnFewestIsFirstMemberWithLeastCountWrong : ChangeSpec := { name := "fnFewestIsFirstMemberWithLeastCount", fn := fun _ => fun
  | [d1, d2] => { results := [.lit (.bool false)], args := [d1, d2] }
  | _ => none }
def FnFewestIsFirstMemberWithLeastCountWrongFalsely : Prop := fnFewestIsFirstMemberWithLeastCountRow.holds Trym.pinned (OpenSpec.ofChange fnFewestIsFirstMemberWithLeastCountWrong)

/-- 'zzlaws_root_b1.FnFewestSortedIsBytewiseLeastOfTheLeast': WHATEVER THE INPUT: true; the input reads as it did. -/
def fnFewestSortedIsBytewiseLeastOfTheLeastSpec : ChangeSpec := { name := "fnFewestSortedIsBytewiseLeastOfTheLeast", fn := fun _ => fun
  | [d1, d2] => { results := [.lit (.bool true)], args := [d1, d2] }
  | _ => none }
def fnFewestSortedIsBytewiseLeastOfTheLeastRow : OpenClaim := { program := "qxb6604069amods", sum := "b7dd6c854bf399eaeef81ed6c2c0dbabea5145fe6524c06e5e0205730515a2f7", func := "example.com/shard-mapper/shard-mapper/zzlaws_root_b1.FnFewestSortedIsBytewiseLeastOfTheLeast", spec := "fnFewestSortedIsBytewiseLeastOfTheLeast", maps := true, make := .lifted ["publicsums"], apart := false }
def FnFewestSortedIsBytewiseLeastOfTheLeastSaid : Prop := fnFewestSortedIsBytewiseLeastOfTheLeastRow.holds Trym.pinned (OpenSpec.ofChange fnFewestSortedIsBytewiseLeastOfTheLeastSpec)

/-- ITS FALSE NEIGHBOUR: 'it returns false'. Refute it at one input. -/
def fnFewestSortedIsBytewiseLeastOfTheLeastWrong : ChangeSpec := { name := "fnFewestSortedIsBytewiseLeastOfTheLeast", fn := fun _ => fun
  | [d1, d2] => { results := [.lit (.bool false)], args := [d1, d2] }
  | _ => none }
def FnFewestSortedIsBytewiseLeastOfTheLeastWrongFalsely : Prop := fnFewestSortedIsBytewiseLeastOfTheLeastRow.holds Trym.pinned (OpenSpec.ofChange fnFewestSortedIsBytewiseLeastOfTheLeastWrong)

end Rows
end Go.Proofs.Qxb6604069aMods
