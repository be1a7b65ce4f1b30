/-
  No cell of these rows narrows 'for every input' (looked for: loops, veiled, ifaces, maps, wideKeys, modest, calm, conditions, laid).
  DERIVED. THE GIVEN ROWS OF THIS SEAT. 1 by the template 'for every input the law returns true; each argument reads behind the call as it read before'; 0 by the template 'total and deterministic' (their statements: Qxb6616690aFmtTotals.lean).
  GIVEN WITH THE SEED: the statements are not yours to turn. If you find one false, say at which input.
  Laid BY PROGRAM, IN A SANDBOX (cutbox-rows.mjs): the forced cells as the released guide's own fill.sh prints them over the translation c811c4578af0741b… (all of the seat's roots in one cut). By AI agents, Wed Nov 11 2026. No macro, syntax, notation, axiom, sorry.
-/
import Derived.Test.Qxb6616690aFmtChecked
import GoSem.Claim
import GoSem.ClaimJoined
import GoSem.ClaimMapViews
import Derived.JoinedTies
import Derived.KernelRfl
namespace Go.Proofs.Qxb6616690aFmt
/- THE CELL 'sum', in the pinned program and in every row, IS THE sha256 OF THE DUMP (.gsa) THAT Qxb6616690aFmtProg.lean LOADS. Nothing in Lean hashes anything: it is a label: what it is worth is what the hold of that sum in a sandbox is worth. -/
noncomputable def Tryf.pinned : Pinned := { name := "qxb6616690afmt", sum := "c811c4578af0741b6c1a4a6792aa52ebf4698cd36d523b319ee15ff3bcb40128", checked := Tryf.checked }
namespace Rows
def none {H : Type} : Left H := { results := [], args := [] }

/-- 'zzlaws_root_b1.FnFileErrorTellsLinesApart': WHATEVER THE INPUT: true; the input reads as it did. -/
def fnFileErrorTellsLinesApartSpec : ChangeSpec := { name := "fnFileErrorTellsLinesApart", fn := fun _ => fun
  | [d1, d2, d3, d4, d5] => { results := [.lit (.bool true)], args := [d1, d2, d3, d4, d5] }
  | _ => none }
def fnFileErrorTellsLinesApartRow : OpenClaim := { program := "qxb6616690afmt", sum := "c811c4578af0741b6c1a4a6792aa52ebf4698cd36d523b319ee15ff3bcb40128", func := "example.com/drawline/drawline/zzlaws_root_b1.FnFileErrorTellsLinesApart", spec := "fnFileErrorTellsLinesApart", stops := ["fmt.Sprintf, its operands' methods called"], inPlace := ["fmt.Sprintf"], unfollowed := true, recurses := true, apart := false }
/-- NO THEOREM (fmt's text is open here; it may be false): for the released tool's asking of the row's closed facts alone. THE STATEMENT IS 'FnFileErrorTellsLinesApartToldSaid' (Qxb6616690aFmtCards.lean). -/
def FnFileErrorTellsLinesApartFormAsk : Prop := fnFileErrorTellsLinesApartRow.holds Tryf.pinned (OpenSpec.ofChange fnFileErrorTellsLinesApartSpec)

/-- ITS FALSE NEIGHBOUR: 'it returns false'. Refute it at one input. -/
def fnFileErrorTellsLinesApartWrong : ChangeSpec := { name := "fnFileErrorTellsLinesApart", fn := fun _ => fun
  | [d1, d2, d3, d4, d5] => { results := [.lit (.bool false)], args := [d1, d2, d3, d4, d5] }
  | _ => none }
def FnFileErrorTellsLinesApartWrongFormAsk : Prop := fnFileErrorTellsLinesApartRow.holds Tryf.pinned (OpenSpec.ofChange fnFileErrorTellsLinesApartWrong)

end Rows
end Go.Proofs.Qxb6616690aFmt
