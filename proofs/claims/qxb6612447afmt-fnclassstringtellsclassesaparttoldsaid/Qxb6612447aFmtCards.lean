/-
  DERIVED. GIVEN WITH THE SEED: THE CARDS: each row of Qxb6612447aFmtRows.lean that lists a variable, with what it lists TIED to the program's text (the seventh form; the later family's looks); each row that meets fmt, with fmt's text TOLD by the authors' own Lean function (tested against real Go, not proved from fmt's source: count such statements apart). THE CARD IS WHAT COUNTS. Prove the row's statement (the work); the ties are given (Qxb6612447aFmtTie.lean); close each card by the builder's one call (the guide's Derived/Test/ToyasCard.lean, 'card_holds'). Laid BY PROGRAM, IN A SANDBOX (cutbox-door.mjs). By AI agents, Wed Nov 11 2026. No macro, syntax, notation, axiom, sorry.
-/
import Derived.Test.Qxb6612447aFmtRows
import GoSem.ClaimSeven
namespace Go.Proofs.Qxb6612447aFmt
namespace Rows

/-- THE TOLD AND TIED CARD OF 'zzlaws_root_b1.FnClassStringTellsClassesApart'. -/
def fnClassStringTellsClassesApartCard : Claim7 := { stood := { row := fnClassStringTellsClassesApartRow, standIns := [], harness := (true, "658e13dbc114be6909f48c3c362af745c4e7bdf2dbd88d52565dc30186fbfd9a"), looks := false }, told := true, laidByText := true, laidKinds := [.widerDeep], laidTests := true, laidLooks := .later, goes := false }
def FnClassStringTellsClassesApartToldSaid : Prop := Claim7.holds Tryf.pinned (.plain (OpenSpec.ofChange fnClassStringTellsClassesApartSpec)) fnClassStringTellsClassesApartCard
/-- ITS FALSE NEIGHBOUR. Refute it at one input. -/
def FnClassStringTellsClassesApartToldWrongFalsely : Prop := Claim7.holds Tryf.pinned (.plain (OpenSpec.ofChange fnClassStringTellsClassesApartWrong)) fnClassStringTellsClassesApartCard
end Rows
end Go.Proofs.Qxb6612447aFmt
