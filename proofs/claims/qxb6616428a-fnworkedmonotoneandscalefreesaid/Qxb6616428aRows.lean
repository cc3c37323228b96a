/-
  No cell of these rows narrows 'for every input' (looked for: loops, veiled, ifaces, maps, wideKeys, modest, calm, conditions, laid).
  DERIVED. THE GIVEN ROWS OF THIS SEAT. 1 by the template 'for every input the law returns true; each argument reads behind the call as it read before'; 0 by the template 'total and deterministic' (their statements: Qxb6616428aTotals.lean).
  GIVEN WITH THE SEED: the statements are not yours to turn. If you find one false, say at which input.
  Laid BY PROGRAM, IN A SANDBOX (cutbox-rows.mjs): the forced cells as the released guide's own fill.sh prints them over the translation 86778ff6778921fc… (all of the seat's roots in one cut). By AI agents, Wed Nov 11 2026. No macro, syntax, notation, axiom, sorry.
-/
import Derived.Test.Qxb6616428aChecked
import GoSem.Claim
import GoSem.ClaimJoined
import GoSem.ClaimMapViews
import Derived.JoinedTies
import Derived.KernelRfl
namespace Go.Proofs.Qxb6616428a
/- THE CELL 'sum', in the pinned program and in every row, IS THE sha256 OF THE DUMP (.gsa) THAT Qxb6616428aProg.lean LOADS. Nothing in Lean hashes anything: it is a label: what it is worth is what the hold of that sum in a sandbox is worth. -/
noncomputable def Try.pinned : Pinned := { name := "qxb6616428a", sum := "86778ff6778921fc4ab0bfd894ea5a614916526117b47f1fd3f1ad63140f2d71", checked := Try.checked }
namespace Rows
def none {H : Type} : Left H := { results := [], args := [] }

/-- 'zzlaws_records_b1.FnWorkedMonotoneAndScaleFree': WHATEVER THE INPUT: true; the input reads as it did. -/
def fnWorkedMonotoneAndScaleFreeSpec : ChangeSpec := { name := "fnWorkedMonotoneAndScaleFree", fn := fun _ => fun
  | [d1, d2, d3, d4, d5, d6] => { results := [.lit (.bool true)], args := [d1, d2, d3, d4, d5, d6] }
  | _ => none }
def fnWorkedMonotoneAndScaleFreeRow : OpenClaim := { program := "qxb6616428a", sum := "86778ff6778921fc4ab0bfd894ea5a614916526117b47f1fd3f1ad63140f2d71", func := "example.com/vestline/vestline/zzlaws_records_b1.FnWorkedMonotoneAndScaleFree", spec := "fnWorkedMonotoneAndScaleFree", apart := false }
def FnWorkedMonotoneAndScaleFreeSaid : Prop := fnWorkedMonotoneAndScaleFreeRow.holds Try.pinned (OpenSpec.ofChange fnWorkedMonotoneAndScaleFreeSpec)

/-- ITS FALSE NEIGHBOUR: 'it returns false'. Refute it at one input. -/
def fnWorkedMonotoneAndScaleFreeWrong : ChangeSpec := { name := "fnWorkedMonotoneAndScaleFree", fn := fun _ => fun
  | [d1, d2, d3, d4, d5, d6] => { results := [.lit (.bool false)], args := [d1, d2, d3, d4, d5, d6] }
  | _ => none }
def FnWorkedMonotoneAndScaleFreeWrongFalsely : Prop := fnWorkedMonotoneAndScaleFreeRow.holds Try.pinned (OpenSpec.ofChange fnWorkedMonotoneAndScaleFreeWrong)

end Rows
end Go.Proofs.Qxb6616428a
