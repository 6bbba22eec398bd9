/-
  DERIVED. GIVEN WITH THE SEED: THE CARDS: each row of Qxb6616385aFmtRows.lean that lists a variable, with what it lists TIED to the program's text (the seventh form; the later family's looks); each row that meets fmt, with fmt's text TOLD by the authors' own Lean function (tested against real Go, not proved from fmt's source: count such statements apart). THE CARD IS WHAT COUNTS. Prove the row's statement (the work); the ties are given (Qxb6616385aFmtTie.lean); close each card by the builder's one call (the guide's Derived/Test/ToyasCard.lean, 'card_holds'). Laid BY PROGRAM, IN A SANDBOX (cutbox-door.mjs). By AI agents, Wed Nov 11 2026. No macro, syntax, notation, axiom, sorry.
-/
import Derived.Test.Qxb6616385aFmtRows
import GoSem.ClaimSeven
namespace Go.Proofs.Qxb6616385aFmt
namespace Rows

/-- THE TOLD CARD OF 'zzlaws_pkg_safefile_b1.FnNotRegularNeverNil'. -/
def fnNotRegularNeverNilCard : Claim7 := { stood := { row := fnNotRegularNeverNilRow, standIns := [], harness := (true, "ed7cd84da09a03f5532c7b58ad1375a7cedf9655515f3cb87d05eee0b6d49b98"), looks := false }, told := true, goes := false }
def FnNotRegularNeverNilToldSaid : Prop := Claim7.holds Tryf.pinned (.plain (OpenSpec.ofChange fnNotRegularNeverNilSpec)) fnNotRegularNeverNilCard
/-- ITS FALSE NEIGHBOUR. Refute it at one input. -/
def FnNotRegularNeverNilToldWrongFalsely : Prop := Claim7.holds Tryf.pinned (.plain (OpenSpec.ofChange fnNotRegularNeverNilWrong)) fnNotRegularNeverNilCard
end Rows
end Go.Proofs.Qxb6616385aFmt
