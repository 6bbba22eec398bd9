/-
  No cell of these rows narrows 'for every input' (looked for: loops, veiled, ifaces, maps, wideKeys, modest, calm, conditions, laid).
  DERIVED. THE GIVEN ROWS OF THIS SEAT. 1 by the template 'for every input the law returns true; each argument reads behind the call as it read before'; 0 by the template 'total and deterministic' (their statements: Qxb6616385aFmtTotals.lean).
  GIVEN WITH THE SEED: the statements are not yours to turn. If you find one false, say at which input.
  Laid BY PROGRAM, IN A SANDBOX (cutbox-rows.mjs): the forced cells as the released guide's own fill.sh prints them over the translation 426f3180b9d6e872… (all of the seat's roots in one cut). By AI agents, Wed Nov 11 2026. No macro, syntax, notation, axiom, sorry.
-/
import Derived.Test.Qxb6616385aFmtChecked
import GoSem.Claim
import GoSem.ClaimJoined
import GoSem.ClaimMapViews
import Derived.JoinedTies
import Derived.KernelRfl
namespace Go.Proofs.Qxb6616385aFmt
/- THE CELL 'sum', in the pinned program and in every row, IS THE sha256 OF THE DUMP (.gsa) THAT Qxb6616385aFmtProg.lean LOADS. Nothing in Lean hashes anything: it is a label: what it is worth is what the hold of that sum in a sandbox is worth. -/
noncomputable def Tryf.pinned : Pinned := { name := "qxb6616385afmt", sum := "426f3180b9d6e8729641c9f8bca9cfc37a1da0f8ea8574baa76699650df2fb55", checked := Tryf.checked }
namespace Rows
def none {H : Type} : Left H := { results := [], args := [] }

/-- 'zzlaws_pkg_safefile_b1.FnNotRegularNeverNil': WHATEVER THE INPUT: true; the input reads as it did. -/
def fnNotRegularNeverNilSpec : ChangeSpec := { name := "fnNotRegularNeverNil", fn := fun _ => fun
  | [d] => { results := [.lit (.bool true)], args := [d] }
  | _ => none }
def fnNotRegularNeverNilRow : OpenClaim := { program := "qxb6616385afmt", sum := "426f3180b9d6e8729641c9f8bca9cfc37a1da0f8ea8574baa76699650df2fb55", func := "example.com/mooring/mooring/zzlaws_pkg_safefile_b1.FnNotRegularNeverNil", spec := "fnNotRegularNeverNil", stops := ["fmt.errorf"], inPlace := ["fmt.errorf"], apart := false }
/-- NO THEOREM (fmt's text is open here; it may be false): for the released tool's asking of the row's closed facts alone. THE STATEMENT IS 'FnNotRegularNeverNilToldSaid' (Qxb6616385aFmtCards.lean). -/
def FnNotRegularNeverNilFormAsk : Prop := fnNotRegularNeverNilRow.holds Tryf.pinned (OpenSpec.ofChange fnNotRegularNeverNilSpec)

/-- ITS FALSE NEIGHBOUR: 'it returns false'. Refute it at one input. -/
def fnNotRegularNeverNilWrong : ChangeSpec := { name := "fnNotRegularNeverNil", fn := fun _ => fun
  | [d] => { results := [.lit (.bool false)], args := [d] }
  | _ => none }
def FnNotRegularNeverNilWrongFormAsk : Prop := fnNotRegularNeverNilRow.holds Tryf.pinned (OpenSpec.ofChange fnNotRegularNeverNilWrong)

end Rows
end Go.Proofs.Qxb6616385aFmt
