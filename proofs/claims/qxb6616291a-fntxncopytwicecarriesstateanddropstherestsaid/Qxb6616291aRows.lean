/-
  No cell of these rows narrows 'for every input' (looked for: loops, veiled, ifaces, maps, wideKeys, modest, calm, conditions, laid).
  DERIVED. THE GIVEN ROWS OF THIS SEAT. 4 by the template 'for every input the law returns true; each argument reads behind the call as it read before'; 0 by the template 'total and deterministic' (their statements: Qxb6616291aTotals.lean).
  GIVEN WITH THE SEED: the statements are not yours to turn. If you find one false, say at which input.
  Laid BY PROGRAM, IN A SANDBOX (cutbox-rows.mjs): the forced cells as the released guide's own fill.sh prints them over the translation aea9800b57212f9a… (all of the seat's roots in one cut). By AI agents, Wed Nov 11 2026. No macro, syntax, notation, axiom, sorry.
-/
import Derived.Test.Qxb6616291aChecked
import GoSem.Claim
import GoSem.ClaimJoined
import GoSem.ClaimMapViews
import Derived.JoinedTies
import Derived.KernelRfl
namespace Go.Proofs.Qxb6616291a
/- THE CELL 'sum', in the pinned program and in every row, IS THE sha256 OF THE DUMP (.gsa) THAT Qxb6616291aProg.lean LOADS. Nothing in Lean hashes anything: it is a label: what it is worth is what the hold of that sum in a sandbox is worth. -/
noncomputable def Try.pinned : Pinned := { name := "qxb6616291a", sum := "aea9800b57212f9a98c353fa7188b80f2f976d7d3e13d603be537ef6493ff0e9", checked := Try.checked }
namespace Rows
def none {H : Type} : Left H := { results := [], args := [] }

/-- 'zzlaws_internal_coordinator_b1.FnAddAllHoldsEveryTxnInXidOrderInFullBlocks': WHATEVER THE INPUT: true; the input reads as it did. -/
def fnAddAllHoldsEveryTxnInXidOrderInFullBlocksSpec : ChangeSpec := { name := "fnAddAllHoldsEveryTxnInXidOrderInFullBlocks", fn := fun _ => fun
  | [d1, d2] => { results := [.lit (.bool true)], args := [d1, d2] }
  | _ => none }
def fnAddAllHoldsEveryTxnInXidOrderInFullBlocksRow : OpenClaim := { program := "qxb6616291a", sum := "aea9800b57212f9a98c353fa7188b80f2f976d7d3e13d603be537ef6493ff0e9", func := "example.com/triptych/triptych/zzlaws_internal_coordinator_b1.FnAddAllHoldsEveryTxnInXidOrderInFullBlocks", spec := "fnAddAllHoldsEveryTxnInXidOrderInFullBlocks", inPlace := ["internal/bytealg.abigen_runtime_cmpstring"], unfollowed := true, recurses := true, named := ["encoding/binary.BigEndian"], apart := false }
def FnAddAllHoldsEveryTxnInXidOrderInFullBlocksSaid : Prop := fnAddAllHoldsEveryTxnInXidOrderInFullBlocksRow.holds Try.pinned (OpenSpec.ofChange fnAddAllHoldsEveryTxnInXidOrderInFullBlocksSpec)

/-- ITS FALSE NEIGHBOUR: 'it returns false'. Refute it at one input. -/
def fnAddAllHoldsEveryTxnInXidOrderInFullBlocksWrong : ChangeSpec := { name := "fnAddAllHoldsEveryTxnInXidOrderInFullBlocks", fn := fun _ => fun
  | [d1, d2] => { results := [.lit (.bool false)], args := [d1, d2] }
  | _ => none }
def FnAddAllHoldsEveryTxnInXidOrderInFullBlocksWrongFalsely : Prop := fnAddAllHoldsEveryTxnInXidOrderInFullBlocksRow.holds Try.pinned (OpenSpec.ofChange fnAddAllHoldsEveryTxnInXidOrderInFullBlocksWrong)

/-- 'zzlaws_internal_coordinator_b1.FnAddAllInTwoPartsReadsAsAllAtOnce': WHATEVER THE INPUT: true; the input reads as it did. -/
def fnAddAllInTwoPartsReadsAsAllAtOnceSpec : ChangeSpec := { name := "fnAddAllInTwoPartsReadsAsAllAtOnce", fn := fun _ => fun
  | [d1, d2] => { results := [.lit (.bool true)], args := [d1, d2] }
  | _ => none }
def fnAddAllInTwoPartsReadsAsAllAtOnceRow : OpenClaim := { program := "qxb6616291a", sum := "aea9800b57212f9a98c353fa7188b80f2f976d7d3e13d603be537ef6493ff0e9", func := "example.com/triptych/triptych/zzlaws_internal_coordinator_b1.FnAddAllInTwoPartsReadsAsAllAtOnce", spec := "fnAddAllInTwoPartsReadsAsAllAtOnce", inPlace := ["internal/bytealg.abigen_runtime_cmpstring"], unfollowed := true, recurses := true, named := ["encoding/binary.BigEndian"], apart := false }
def FnAddAllInTwoPartsReadsAsAllAtOnceSaid : Prop := fnAddAllInTwoPartsReadsAsAllAtOnceRow.holds Try.pinned (OpenSpec.ofChange fnAddAllInTwoPartsReadsAsAllAtOnceSpec)

/-- ITS FALSE NEIGHBOUR: 'it returns false'. Refute it at one input. -/
def fnAddAllInTwoPartsReadsAsAllAtOnceWrong : ChangeSpec := { name := "fnAddAllInTwoPartsReadsAsAllAtOnce", fn := fun _ => fun
  | [d1, d2] => { results := [.lit (.bool false)], args := [d1, d2] }
  | _ => none }
def FnAddAllInTwoPartsReadsAsAllAtOnceWrongFalsely : Prop := fnAddAllInTwoPartsReadsAsAllAtOnceRow.holds Try.pinned (OpenSpec.ofChange fnAddAllInTwoPartsReadsAsAllAtOnceWrong)

/-- 'zzlaws_internal_coordinator_b1.FnTxnCopyTwiceCarriesStateAndDropsTheRest': WHATEVER THE INPUT: true; the input reads as it did. -/
def fnTxnCopyTwiceCarriesStateAndDropsTheRestSpec : ChangeSpec := { name := "fnTxnCopyTwiceCarriesStateAndDropsTheRest", fn := fun _ => fun
  | [d] => { results := [.lit (.bool true)], args := [d] }
  | _ => none }
def fnTxnCopyTwiceCarriesStateAndDropsTheRestRow : OpenClaim := { program := "qxb6616291a", sum := "aea9800b57212f9a98c353fa7188b80f2f976d7d3e13d603be537ef6493ff0e9", func := "example.com/triptych/triptych/zzlaws_internal_coordinator_b1.FnTxnCopyTwiceCarriesStateAndDropsTheRest", spec := "fnTxnCopyTwiceCarriesStateAndDropsTheRest", apart := false }
def FnTxnCopyTwiceCarriesStateAndDropsTheRestSaid : Prop := fnTxnCopyTwiceCarriesStateAndDropsTheRestRow.holds Try.pinned (OpenSpec.ofChange fnTxnCopyTwiceCarriesStateAndDropsTheRestSpec)

/-- ITS FALSE NEIGHBOUR: 'it returns false'. Refute it at one input. -/
def fnTxnCopyTwiceCarriesStateAndDropsTheRestWrong : ChangeSpec := { name := "fnTxnCopyTwiceCarriesStateAndDropsTheRest", fn := fun _ => fun
  | [d] => { results := [.lit (.bool false)], args := [d] }
  | _ => none }
def FnTxnCopyTwiceCarriesStateAndDropsTheRestWrongFalsely : Prop := fnTxnCopyTwiceCarriesStateAndDropsTheRestRow.holds Try.pinned (OpenSpec.ofChange fnTxnCopyTwiceCarriesStateAndDropsTheRestWrong)

/-- 'zzlaws_internal_coordinator_b1.FnTxnCopyIsASnapshotOfBranches': WHATEVER THE INPUT: true; the input reads as it did. -/
def fnTxnCopyIsASnapshotOfBranchesSpec : ChangeSpec := { name := "fnTxnCopyIsASnapshotOfBranches", fn := fun _ => fun
  | [d1, d2, d3] => { results := [.lit (.bool true)], args := [d1, d2, d3] }
  | _ => none }
def fnTxnCopyIsASnapshotOfBranchesRow : OpenClaim := { program := "qxb6616291a", sum := "aea9800b57212f9a98c353fa7188b80f2f976d7d3e13d603be537ef6493ff0e9", func := "example.com/triptych/triptych/zzlaws_internal_coordinator_b1.FnTxnCopyIsASnapshotOfBranches", spec := "fnTxnCopyIsASnapshotOfBranches", apart := false }
def FnTxnCopyIsASnapshotOfBranchesSaid : Prop := fnTxnCopyIsASnapshotOfBranchesRow.holds Try.pinned (OpenSpec.ofChange fnTxnCopyIsASnapshotOfBranchesSpec)

/-- ITS FALSE NEIGHBOUR: 'it returns false'. Refute it at one input. -/
def fnTxnCopyIsASnapshotOfBranchesWrong : ChangeSpec := { name := "fnTxnCopyIsASnapshotOfBranches", fn := fun _ => fun
  | [d1, d2, d3] => { results := [.lit (.bool false)], args := [d1, d2, d3] }
  | _ => none }
def FnTxnCopyIsASnapshotOfBranchesWrongFalsely : Prop := fnTxnCopyIsASnapshotOfBranchesRow.holds Try.pinned (OpenSpec.ofChange fnTxnCopyIsASnapshotOfBranchesWrong)

end Rows
end Go.Proofs.Qxb6616291a
