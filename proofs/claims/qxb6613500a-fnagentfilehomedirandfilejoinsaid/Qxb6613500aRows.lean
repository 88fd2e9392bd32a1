/-
  No cell of these rows narrows 'for every input' (looked for: loops, veiled, ifaces, maps, wideKeys, modest, calm, conditions, laid).
  DERIVED. THE GIVEN ROWS OF THIS SEAT. 3 by the template 'for every input the law returns true; each argument reads behind the call as it read before'; 0 by the template 'total and deterministic' (their statements: Qxb6613500aTotals.lean).
  GIVEN WITH THE SEED: the statements are not yours to turn. If you find one false, say at which input.
  Laid BY PROGRAM, IN A SANDBOX (cutbox-rows.mjs): the forced cells as the released guide's own fill.sh prints them over the translation 6891e35fcb7e46ec… (all of the seat's roots in one cut). By AI agents, Wed Nov 11 2026. No macro, syntax, notation, axiom, sorry.
-/
import Derived.Test.Qxb6613500aChecked
import GoSem.Claim
import GoSem.ClaimJoined
import GoSem.ClaimMapViews
import Derived.JoinedTies
import Derived.KernelRfl
namespace Go.Proofs.Qxb6613500a
/- THE CELL 'sum', in the pinned program and in every row, IS THE sha256 OF THE DUMP (.gsa) THAT Qxb6613500aProg.lean LOADS. Nothing in Lean hashes anything: it is a label: what it is worth is what the hold of that sum in a sandbox is worth. -/
noncomputable def Try.pinned : Pinned := { name := "qxb6613500a", sum := "6891e35fcb7e46ecd9314362fb3b97c223da6cd68678f7683a52834c72d9e143", checked := Try.checked }
namespace Rows
def none {H : Type} : Left H := { results := [], args := [] }

/-- 'zzlaws_agent_b1.FnAgentFileHomeAndEnvParts': WHATEVER THE INPUT: true; the input reads as it did. -/
def fnAgentFileHomeAndEnvPartsSpec : ChangeSpec := { name := "fnAgentFileHomeAndEnvParts", fn := fun _ => fun
  | [d1, d2, d3] => { results := [.lit (.bool true)], args := [d1, d2, d3] }
  | _ => none }
def fnAgentFileHomeAndEnvPartsRow : OpenClaim := { program := "qxb6613500a", sum := "6891e35fcb7e46ecd9314362fb3b97c223da6cd68678f7683a52834c72d9e143", func := "example.com/recalld/recalld/zzlaws_agent_b1.FnAgentFileHomeAndEnvParts", spec := "fnAgentFileHomeAndEnvParts", apart := false }
def FnAgentFileHomeAndEnvPartsSaid : Prop := fnAgentFileHomeAndEnvPartsRow.holds Try.pinned (OpenSpec.ofChange fnAgentFileHomeAndEnvPartsSpec)

/-- ITS FALSE NEIGHBOUR: 'it returns false'. Refute it at one input. -/
def fnAgentFileHomeAndEnvPartsWrong : ChangeSpec := { name := "fnAgentFileHomeAndEnvParts", fn := fun _ => fun
  | [d1, d2, d3] => { results := [.lit (.bool false)], args := [d1, d2, d3] }
  | _ => none }
def FnAgentFileHomeAndEnvPartsWrongFalsely : Prop := fnAgentFileHomeAndEnvPartsRow.holds Try.pinned (OpenSpec.ofChange fnAgentFileHomeAndEnvPartsWrong)

/-- 'zzlaws_agent_b1.FnAgentFileHomeDirAndFileJoin': WHATEVER THE INPUT: true; the input reads as it did. -/
def fnAgentFileHomeDirAndFileJoinSpec : ChangeSpec := { name := "fnAgentFileHomeDirAndFileJoin", fn := fun _ => fun
  | [d1, d2] => { results := [.lit (.bool true)], args := [d1, d2] }
  | _ => none }
def fnAgentFileHomeDirAndFileJoinRow : OpenClaim := { program := "qxb6613500a", sum := "6891e35fcb7e46ecd9314362fb3b97c223da6cd68678f7683a52834c72d9e143", func := "example.com/recalld/recalld/zzlaws_agent_b1.FnAgentFileHomeDirAndFileJoin", spec := "fnAgentFileHomeDirAndFileJoin", apart := false }
def FnAgentFileHomeDirAndFileJoinSaid : Prop := fnAgentFileHomeDirAndFileJoinRow.holds Try.pinned (OpenSpec.ofChange fnAgentFileHomeDirAndFileJoinSpec)

/-- ITS FALSE NEIGHBOUR: 'it returns false'. Refute it at one input. -/
def fnAgentFileHomeDirAndFileJoinWrong : ChangeSpec := { name := "fnAgentFileHomeDirAndFileJoin", fn := fun _ => fun
  | [d1, d2] => { results := [.lit (.bool false)], args := [d1, d2] }
  | _ => none }
def FnAgentFileHomeDirAndFileJoinWrongFalsely : Prop := fnAgentFileHomeDirAndFileJoinRow.holds Try.pinned (OpenSpec.ofChange fnAgentFileHomeDirAndFileJoinWrong)

/-- 'zzlaws_agent_b1.FnCompareStartBinarySearch': WHATEVER THE INPUT: true; the input reads as it did. -/
def fnCompareStartBinarySearchSpec : ChangeSpec := { name := "fnCompareStartBinarySearch", fn := fun _ => fun
  | [d1, d2] => { results := [.lit (.bool true)], args := [d1, d2] }
  | _ => none }
def fnCompareStartBinarySearchRow : OpenClaim := { program := "qxb6613500a", sum := "6891e35fcb7e46ecd9314362fb3b97c223da6cd68678f7683a52834c72d9e143", func := "example.com/recalld/recalld/zzlaws_agent_b1.FnCompareStartBinarySearch", spec := "fnCompareStartBinarySearch", apart := false }
def FnCompareStartBinarySearchSaid : Prop := fnCompareStartBinarySearchRow.holds Try.pinned (OpenSpec.ofChange fnCompareStartBinarySearchSpec)

/-- ITS FALSE NEIGHBOUR: 'it returns false'. Refute it at one input. -/
def fnCompareStartBinarySearchWrong : ChangeSpec := { name := "fnCompareStartBinarySearch", fn := fun _ => fun
  | [d1, d2] => { results := [.lit (.bool false)], args := [d1, d2] }
  | _ => none }
def FnCompareStartBinarySearchWrongFalsely : Prop := fnCompareStartBinarySearchRow.holds Try.pinned (OpenSpec.ofChange fnCompareStartBinarySearchWrong)

end Rows
end Go.Proofs.Qxb6613500a
