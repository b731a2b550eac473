/-
  No cell of these rows narrows 'for every input' (looked for: loops, veiled, ifaces, maps, wideKeys, modest, calm, conditions, laid).
  DERIVED. THE GIVEN ROWS OF THIS SEAT. 3 by the template 'for every input the law returns true; each argument reads behind the call as it read before'; 0 by the template 'total and deterministic' (their statements: Qxb6601951aTotals.lean).
  GIVEN WITH THE SEED: the statements are not yours to turn. If you find one false, say at which input.
  Laid BY PROGRAM, IN A SANDBOX (cutbox-rows.mjs): the forced cells as the released guide's own fill.sh prints them over the translation 89a619703a83af27… (all of the seat's roots in one cut). By AI agents, Wed Nov 11 2026. No macro, syntax, notation, axiom, sorry.
-/
import Derived.Test.Qxb6601951aChecked
import GoSem.Claim
import GoSem.ClaimJoined
import GoSem.ClaimMapViews
import Derived.JoinedTies
import Derived.KernelRfl
namespace Go.Proofs.Qxb6601951a
/- THE CELL 'sum', in the pinned program and in every row, IS THE sha256 OF THE DUMP (.gsa) THAT Qxb6601951aProg.lean LOADS. Nothing in Lean hashes anything: it is a label: what it is worth is what the hold of that sum in a sandbox is worth. -/
noncomputable def Try.pinned : Pinned := { name := "qxb6601951a", sum := "89a619703a83af2786951a580f6c8cdce13f541fbe930d1d4ce316687c1682e1", checked := Try.checked }
namespace Rows
def none {H : Type} : Left H := { results := [], args := [] }

/-- 'zzlaws_yamlnode_b1.FnNewPartitionSortsValuesByBlockThenIndex': WHATEVER THE INPUT: true; the input reads as it did. -/
def fnNewPartitionSortsValuesByBlockThenIndexSpec : ChangeSpec := { name := "fnNewPartitionSortsValuesByBlockThenIndex", fn := fun _ => fun
  | [d1, d2] => { results := [.lit (.bool true)], args := [d1, d2] }
  | _ => none }
def fnNewPartitionSortsValuesByBlockThenIndexRow : OpenClaim := { program := "qxb6601951a", sum := "89a619703a83af2786951a580f6c8cdce13f541fbe930d1d4ce316687c1682e1", func := "example.com/laminate/laminate/zzlaws_yamlnode_b1.FnNewPartitionSortsValuesByBlockThenIndex", spec := "fnNewPartitionSortsValuesByBlockThenIndex", apart := false }
def FnNewPartitionSortsValuesByBlockThenIndexSaid : Prop := fnNewPartitionSortsValuesByBlockThenIndexRow.holds Try.pinned (OpenSpec.ofChange fnNewPartitionSortsValuesByBlockThenIndexSpec)

/-- ITS FALSE NEIGHBOUR: 'it returns false'. Refute it at one input. -/
def fnNewPartitionSortsValuesByBlockThenIndexWrong : ChangeSpec := { name := "fnNewPartitionSortsValuesByBlockThenIndex", fn := fun _ => fun
  | [d1, d2] => { results := [.lit (.bool false)], args := [d1, d2] }
  | _ => none }
def FnNewPartitionSortsValuesByBlockThenIndexWrongFalsely : Prop := fnNewPartitionSortsValuesByBlockThenIndexRow.holds Try.pinned (OpenSpec.ofChange fnNewPartitionSortsValuesByBlockThenIndexWrong)

/-- 'zzlaws_yamlnode_b1.FnSplitMovesValuesToNewBlockAtTailOfB': WHATEVER THE INPUT: true; the input reads as it did. -/
def fnSplitMovesValuesToNewBlockAtTailOfBSpec : ChangeSpec := { name := "fnSplitMovesValuesToNewBlockAtTailOfB", fn := fun _ => fun
  | [d1, d2, d3, d4] => { results := [.lit (.bool true)], args := [d1, d2, d3, d4] }
  | _ => none }
def fnSplitMovesValuesToNewBlockAtTailOfBRow : OpenClaim := { program := "qxb6601951a", sum := "89a619703a83af2786951a580f6c8cdce13f541fbe930d1d4ce316687c1682e1", func := "example.com/laminate/laminate/zzlaws_yamlnode_b1.FnSplitMovesValuesToNewBlockAtTailOfB", spec := "fnSplitMovesValuesToNewBlockAtTailOfB", apart := false }
def FnSplitMovesValuesToNewBlockAtTailOfBSaid : Prop := fnSplitMovesValuesToNewBlockAtTailOfBRow.holds Try.pinned (OpenSpec.ofChange fnSplitMovesValuesToNewBlockAtTailOfBSpec)

/-- ITS FALSE NEIGHBOUR: 'it returns false'. Refute it at one input. -/
def fnSplitMovesValuesToNewBlockAtTailOfBWrong : ChangeSpec := { name := "fnSplitMovesValuesToNewBlockAtTailOfB", fn := fun _ => fun
  | [d1, d2, d3, d4] => { results := [.lit (.bool false)], args := [d1, d2, d3, d4] }
  | _ => none }
def FnSplitMovesValuesToNewBlockAtTailOfBWrongFalsely : Prop := fnSplitMovesValuesToNewBlockAtTailOfBRow.holds Try.pinned (OpenSpec.ofChange fnSplitMovesValuesToNewBlockAtTailOfBWrong)

/-- 'zzlaws_yamlnode_b1.FnSplitBlockSplitsOffPiecesAndQueuesAllButLargest': WHATEVER THE INPUT: true; the input reads as it did. -/
def fnSplitBlockSplitsOffPiecesAndQueuesAllButLargestSpec : ChangeSpec := { name := "fnSplitBlockSplitsOffPiecesAndQueuesAllButLargest", fn := fun _ => fun
  | [d1, d2, d3, d4, d5, d6, d7] => { results := [.lit (.bool true)], args := [d1, d2, d3, d4, d5, d6, d7] }
  | _ => none }
def fnSplitBlockSplitsOffPiecesAndQueuesAllButLargestRow : OpenClaim := { program := "qxb6601951a", sum := "89a619703a83af2786951a580f6c8cdce13f541fbe930d1d4ce316687c1682e1", func := "example.com/laminate/laminate/zzlaws_yamlnode_b1.FnSplitBlockSplitsOffPiecesAndQueuesAllButLargest", spec := "fnSplitBlockSplitsOffPiecesAndQueuesAllButLargest", apart := false }
def FnSplitBlockSplitsOffPiecesAndQueuesAllButLargestSaid : Prop := fnSplitBlockSplitsOffPiecesAndQueuesAllButLargestRow.holds Try.pinned (OpenSpec.ofChange fnSplitBlockSplitsOffPiecesAndQueuesAllButLargestSpec)

/-- ITS FALSE NEIGHBOUR: 'it returns false'. Refute it at one input. -/
def fnSplitBlockSplitsOffPiecesAndQueuesAllButLargestWrong : ChangeSpec := { name := "fnSplitBlockSplitsOffPiecesAndQueuesAllButLargest", fn := fun _ => fun
  | [d1, d2, d3, d4, d5, d6, d7] => { results := [.lit (.bool false)], args := [d1, d2, d3, d4, d5, d6, d7] }
  | _ => none }
def FnSplitBlockSplitsOffPiecesAndQueuesAllButLargestWrongFalsely : Prop := fnSplitBlockSplitsOffPiecesAndQueuesAllButLargestRow.holds Try.pinned (OpenSpec.ofChange fnSplitBlockSplitsOffPiecesAndQueuesAllButLargestWrong)

end Rows
end Go.Proofs.Qxb6601951a
