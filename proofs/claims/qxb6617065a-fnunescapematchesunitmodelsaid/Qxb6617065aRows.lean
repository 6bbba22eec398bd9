/-
  No cell of these rows narrows 'for every input' (looked for: loops, veiled, ifaces, maps, wideKeys, modest, calm, conditions, laid).
  DERIVED. THE GIVEN ROWS OF THIS SEAT. 2 by the template 'for every input the law returns true; each argument reads behind the call as it read before'; 0 by the template 'total and deterministic' (their statements: Qxb6617065aTotals.lean).
  GIVEN WITH THE SEED: the statements are not yours to turn. If you find one false, say at which input.
  Laid BY PROGRAM, IN A SANDBOX (cutbox-rows.mjs): the forced cells as the released guide's own fill.sh prints them over the translation e2c46b8e95e07fdc… (all of the seat's roots in one cut). By AI agents, Wed Nov 11 2026. No macro, syntax, notation, axiom, sorry.
-/
import Derived.Test.Qxb6617065aChecked
import GoSem.Claim
import GoSem.ClaimJoined
import GoSem.ClaimMapViews
import Derived.JoinedTies
import Derived.KernelRfl
namespace Go.Proofs.Qxb6617065a
/- THE CELL 'sum', in the pinned program and in every row, IS THE sha256 OF THE DUMP (.gsa) THAT Qxb6617065aProg.lean LOADS. Nothing in Lean hashes anything: it is a label: what it is worth is what the hold of that sum in a sandbox is worth. -/
noncomputable def Try.pinned : Pinned := { name := "qxb6617065a", sum := "e2c46b8e95e07fdce98da0d11cf8fcffd0c72bb200be0fee2fa04494bbb02278", checked := Try.checked }
namespace Rows
def none {H : Type} : Left H := { results := [], args := [] }

/-- 'zzlaws_internal_jsondoc_b1.FnUnescapeMatchesUnitModel': WHATEVER THE INPUT: true; the input reads as it did. -/
def fnUnescapeMatchesUnitModelSpec : ChangeSpec := { name := "fnUnescapeMatchesUnitModel", fn := fun _ => fun
  | [d] => { results := [.lit (.bool true)], args := [d] }
  | _ => none }
def fnUnescapeMatchesUnitModelRow : OpenClaim := { program := "qxb6617065a", sum := "e2c46b8e95e07fdce98da0d11cf8fcffd0c72bb200be0fee2fa04494bbb02278", func := "example.com/planfold/planfold/zzlaws_internal_jsondoc_b1.FnUnescapeMatchesUnitModel", spec := "fnUnescapeMatchesUnitModel", apart := false }
def FnUnescapeMatchesUnitModelSaid : Prop := fnUnescapeMatchesUnitModelRow.holds Try.pinned (OpenSpec.ofChange fnUnescapeMatchesUnitModelSpec)

/-- ITS FALSE NEIGHBOUR: 'it returns false'. Refute it at one input. -/
def fnUnescapeMatchesUnitModelWrong : ChangeSpec := { name := "fnUnescapeMatchesUnitModel", fn := fun _ => fun
  | [d] => { results := [.lit (.bool false)], args := [d] }
  | _ => none }
def FnUnescapeMatchesUnitModelWrongFalsely : Prop := fnUnescapeMatchesUnitModelRow.holds Try.pinned (OpenSpec.ofChange fnUnescapeMatchesUnitModelWrong)

/-- 'zzlaws_internal_jsondoc_b1.FnUnescapeInsertPlainByteAndShortens': WHATEVER THE INPUT: true; the input reads as it did. -/
def fnUnescapeInsertPlainByteAndShortensSpec : ChangeSpec := { name := "fnUnescapeInsertPlainByteAndShortens", fn := fun _ => fun
  | [d1, d2, d3] => { results := [.lit (.bool true)], args := [d1, d2, d3] }
  | _ => none }
def fnUnescapeInsertPlainByteAndShortensRow : OpenClaim := { program := "qxb6617065a", sum := "e2c46b8e95e07fdce98da0d11cf8fcffd0c72bb200be0fee2fa04494bbb02278", func := "example.com/planfold/planfold/zzlaws_internal_jsondoc_b1.FnUnescapeInsertPlainByteAndShortens", spec := "fnUnescapeInsertPlainByteAndShortens", apart := false }
def FnUnescapeInsertPlainByteAndShortensSaid : Prop := fnUnescapeInsertPlainByteAndShortensRow.holds Try.pinned (OpenSpec.ofChange fnUnescapeInsertPlainByteAndShortensSpec)

/-- ITS FALSE NEIGHBOUR: 'it returns false'. Refute it at one input. -/
def fnUnescapeInsertPlainByteAndShortensWrong : ChangeSpec := { name := "fnUnescapeInsertPlainByteAndShortens", fn := fun _ => fun
  | [d1, d2, d3] => { results := [.lit (.bool false)], args := [d1, d2, d3] }
  | _ => none }
def FnUnescapeInsertPlainByteAndShortensWrongFalsely : Prop := fnUnescapeInsertPlainByteAndShortensRow.holds Try.pinned (OpenSpec.ofChange fnUnescapeInsertPlainByteAndShortensWrong)

end Rows
end Go.Proofs.Qxb6617065a
