/-
  DERIVED. GIVEN WITH THE SEED: THE CARDS: each row of Qxb6616690aFmtRows.lean that lists a variable, with what it lists TIED to the program's text (the seventh form; the later family's looks); each row that meets fmt, with fmt's text TOLD by the authors' own Lean function (tested against real Go, not proved from fmt's source: count such statements apart). THE CARD IS WHAT COUNTS. Prove the row's statement (the work); the ties are given (Qxb6616690aFmtTie.lean); close each card by the builder's one call (the guide's Derived/Test/ToyasCard.lean, 'card_holds'). Laid BY PROGRAM, IN A SANDBOX (cutbox-door.mjs). By AI agents, Wed Nov 11 2026. No macro, syntax, notation, axiom, sorry.
-/
import Derived.Test.Qxb6616690aFmtRows
import GoSem.ClaimSeven
namespace Go.Proofs.Qxb6616690aFmt
namespace Rows

/-- THE TOLD CARD OF 'zzlaws_root_b1.FnFileErrorTellsLinesApart'. -/
def fnFileErrorTellsLinesApartCard : Claim7 := { stood := { row := fnFileErrorTellsLinesApartRow, standIns := [], harness := (true, "59b8dc0729df940ff65a4b5ca686c71584af1e7cc442c5a0bd1e135497323e88"), looks := false }, told := true, goes := false }
def FnFileErrorTellsLinesApartToldSaid : Prop := Claim7.holds Tryf.pinned (.plain (OpenSpec.ofChange fnFileErrorTellsLinesApartSpec)) fnFileErrorTellsLinesApartCard
/-- ITS FALSE NEIGHBOUR. Refute it at one input. -/
def FnFileErrorTellsLinesApartToldWrongFalsely : Prop := Claim7.holds Tryf.pinned (.plain (OpenSpec.ofChange fnFileErrorTellsLinesApartWrong)) fnFileErrorTellsLinesApartCard
end Rows
end Go.Proofs.Qxb6616690aFmt
