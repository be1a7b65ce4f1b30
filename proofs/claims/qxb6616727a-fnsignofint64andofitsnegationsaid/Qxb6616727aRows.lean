/-
  No cell of these rows narrows 'for every input' (looked for: loops, veiled, ifaces, maps, wideKeys, modest, calm, conditions, laid).
  DERIVED. THE GIVEN ROWS OF THIS SEAT. 1 by the template 'for every input the law returns true; each argument reads behind the call as it read before'; 0 by the template 'total and deterministic' (their statements: Qxb6616727aTotals.lean).
  GIVEN WITH THE SEED: the statements are not yours to turn. If you find one false, say at which input.
  Laid BY PROGRAM, IN A SANDBOX (cutbox-rows.mjs): the forced cells as the released guide's own fill.sh prints them over the translation d2403ec62413bd40… (all of the seat's roots in one cut). By AI agents, Wed Nov 11 2026. No macro, syntax, notation, axiom, sorry.
-/
import Derived.Test.Qxb6616727aChecked
import GoSem.Claim
import GoSem.ClaimJoined
import GoSem.ClaimMapViews
import Derived.JoinedTies
import Derived.KernelRfl
namespace Go.Proofs.Qxb6616727a
/- THE CELL 'sum', in the pinned program and in every row, IS THE sha256 OF THE DUMP (.gsa) THAT Qxb6616727aProg.lean LOADS. Nothing in Lean hashes anything: it is a label: what it is worth is what the hold of that sum in a sandbox is worth. -/
noncomputable def Try.pinned : Pinned := { name := "qxb6616727a", sum := "d2403ec62413bd40835c5b5282d4b22f9d329475fc4931638babfd85ca8d2cfb", checked := Try.checked }
namespace Rows
def none {H : Type} : Left H := { results := [], args := [] }

/-- 'zzlaws_quantity_b1.FnSignOfInt64AndOfItsNegation': WHATEVER THE INPUT: true; the input reads as it did. -/
def fnSignOfInt64AndOfItsNegationSpec : ChangeSpec := { name := "fnSignOfInt64AndOfItsNegation", fn := fun _ => fun
  | [d] => { results := [.lit (.bool true)], args := [d] }
  | _ => none }
def fnSignOfInt64AndOfItsNegationRow : OpenClaim := { program := "qxb6616727a", sum := "d2403ec62413bd40835c5b5282d4b22f9d329475fc4931638babfd85ca8d2cfb", func := "example.com/allotmeter/allotmeter/zzlaws_quantity_b1.FnSignOfInt64AndOfItsNegation", spec := "fnSignOfInt64AndOfItsNegation", apart := false }
def FnSignOfInt64AndOfItsNegationSaid : Prop := fnSignOfInt64AndOfItsNegationRow.holds Try.pinned (OpenSpec.ofChange fnSignOfInt64AndOfItsNegationSpec)

/-- ITS FALSE NEIGHBOUR: 'it returns false'. Refute it at one input. -/
def fnSignOfInt64AndOfItsNegationWrong : ChangeSpec := { name := "fnSignOfInt64AndOfItsNegation", fn := fun _ => fun
  | [d] => { results := [.lit (.bool false)], args := [d] }
  | _ => none }
def FnSignOfInt64AndOfItsNegationWrongFalsely : Prop := fnSignOfInt64AndOfItsNegationRow.holds Try.pinned (OpenSpec.ofChange fnSignOfInt64AndOfItsNegationWrong)

end Rows
end Go.Proofs.Qxb6616727a
