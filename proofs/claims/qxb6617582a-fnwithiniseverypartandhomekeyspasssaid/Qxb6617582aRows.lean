/-
  No cell of these rows narrows 'for every input' (looked for: loops, veiled, ifaces, maps, wideKeys, modest, calm, conditions, laid).
  DERIVED. THE GIVEN ROWS OF THIS SEAT. 1 by the template 'for every input the law returns true; each argument reads behind the call as it read before'; 0 by the template 'total and deterministic' (their statements: Qxb6617582aTotals.lean).
  GIVEN WITH THE SEED: the statements are not yours to turn. If you find one false, say at which input.
  Laid BY PROGRAM, IN A SANDBOX (cutbox-rows.mjs): the forced cells as the released guide's own fill.sh prints them over the translation 0fd93358be7c3922… (all of the seat's roots in one cut). By AI agents, Wed Nov 11 2026. No macro, syntax, notation, axiom, sorry.
-/
import Derived.Test.Qxb6617582aChecked
import GoSem.Claim
import GoSem.ClaimJoined
import GoSem.ClaimMapViews
import Derived.JoinedTies
import Derived.KernelRfl
namespace Go.Proofs.Qxb6617582a
/- THE CELL 'sum', in the pinned program and in every row, IS THE sha256 OF THE DUMP (.gsa) THAT Qxb6617582aProg.lean LOADS. Nothing in Lean hashes anything: it is a label: what it is worth is what the hold of that sum in a sandbox is worth. -/
noncomputable def Try.pinned : Pinned := { name := "qxb6617582a", sum := "0fd93358be7c3922669ca169d21203b64a82b57a3d49e50d7af23c1b74ab2b71", checked := Try.checked }
namespace Rows
def none {H : Type} : Left H := { results := [], args := [] }

/-- 'zzlaws_internal_cli_b1.FnWithinIsEveryPartAndHomeKeysPass': WHATEVER THE INPUT: true; the input reads as it did. -/
def fnWithinIsEveryPartAndHomeKeysPassSpec : ChangeSpec := { name := "fnWithinIsEveryPartAndHomeKeysPass", fn := fun _ => fun
  | [d1, d2, d3, d4, d5, d6, d7, d8] => { results := [.lit (.bool true)], args := [d1, d2, d3, d4, d5, d6, d7, d8] }
  | _ => none }
def fnWithinIsEveryPartAndHomeKeysPassRow : OpenClaim := { program := "qxb6617582a", sum := "0fd93358be7c3922669ca169d21203b64a82b57a3d49e50d7af23c1b74ab2b71", func := "example.com/waymark/waymark/zzlaws_internal_cli_b1.FnWithinIsEveryPartAndHomeKeysPass", spec := "fnWithinIsEveryPartAndHomeKeysPass", plainKeys := false, apart := false }
def FnWithinIsEveryPartAndHomeKeysPassSaid : Prop := fnWithinIsEveryPartAndHomeKeysPassRow.holds Try.pinned (OpenSpec.ofChange fnWithinIsEveryPartAndHomeKeysPassSpec)

/-- ITS FALSE NEIGHBOUR: 'it returns false'. Refute it at one input. -/
def fnWithinIsEveryPartAndHomeKeysPassWrong : ChangeSpec := { name := "fnWithinIsEveryPartAndHomeKeysPass", fn := fun _ => fun
  | [d1, d2, d3, d4, d5, d6, d7, d8] => { results := [.lit (.bool false)], args := [d1, d2, d3, d4, d5, d6, d7, d8] }
  | _ => none }
def FnWithinIsEveryPartAndHomeKeysPassWrongFalsely : Prop := fnWithinIsEveryPartAndHomeKeysPassRow.holds Try.pinned (OpenSpec.ofChange fnWithinIsEveryPartAndHomeKeysPassWrong)

end Rows
end Go.Proofs.Qxb6617582a
