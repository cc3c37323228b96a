/-
  No cell of these rows narrows 'for every input' (looked for: loops, veiled, ifaces, maps, wideKeys, modest, calm, conditions, laid).
  DERIVED. THE GIVEN ROWS OF THIS SEAT. 1 by the template 'for every input the law returns true; each argument reads behind the call as it read before'; 0 by the template 'total and deterministic' (their statements: Qxb6617659aTotals.lean).
  GIVEN WITH THE SEED: the statements are not yours to turn. If you find one false, say at which input.
  Laid BY PROGRAM, IN A SANDBOX (cutbox-rows.mjs): the forced cells as the released guide's own fill.sh prints them over the translation c99c590cc54ccabd… (all of the seat's roots in one cut). By AI agents, Wed Nov 11 2026. No macro, syntax, notation, axiom, sorry.
-/
import Derived.Test.Qxb6617659aChecked
import GoSem.Claim
import GoSem.ClaimJoined
import GoSem.ClaimMapViews
import Derived.JoinedTies
import Derived.KernelRfl
namespace Go.Proofs.Qxb6617659a
/- THE CELL 'sum', in the pinned program and in every row, IS THE sha256 OF THE DUMP (.gsa) THAT Qxb6617659aProg.lean LOADS. Nothing in Lean hashes anything: it is a label: what it is worth is what the hold of that sum in a sandbox is worth. -/
noncomputable def Try.pinned : Pinned := { name := "qxb6617659a", sum := "c99c590cc54ccabd3296dfbfa8020a92d3186a27d34bba6922abd8f47aea4072", checked := Try.checked }
namespace Rows
def none {H : Type} : Left H := { results := [], args := [] }

/-- 'zzlaws_paxos_b1.FnOverlapSortedMatchesSearch': WHATEVER THE INPUT: true; the input reads as it did. -/
def fnOverlapSortedMatchesSearchSpec : ChangeSpec := { name := "fnOverlapSortedMatchesSearch", fn := fun _ => fun
  | [d1, d2] => { results := [.lit (.bool true)], args := [d1, d2] }
  | _ => none }
def fnOverlapSortedMatchesSearchRow : OpenClaim := { program := "qxb6617659a", sum := "c99c590cc54ccabd3296dfbfa8020a92d3186a27d34bba6922abd8f47aea4072", func := "example.com/ballothall/ballothall/zzlaws_paxos_b1.FnOverlapSortedMatchesSearch", spec := "fnOverlapSortedMatchesSearch", apart := false }
def FnOverlapSortedMatchesSearchSaid : Prop := fnOverlapSortedMatchesSearchRow.holds Try.pinned (OpenSpec.ofChange fnOverlapSortedMatchesSearchSpec)

/-- ITS FALSE NEIGHBOUR: 'it returns false'. Refute it at one input. -/
def fnOverlapSortedMatchesSearchWrong : ChangeSpec := { name := "fnOverlapSortedMatchesSearch", fn := fun _ => fun
  | [d1, d2] => { results := [.lit (.bool false)], args := [d1, d2] }
  | _ => none }
def FnOverlapSortedMatchesSearchWrongFalsely : Prop := fnOverlapSortedMatchesSearchRow.holds Try.pinned (OpenSpec.ofChange fnOverlapSortedMatchesSearchWrong)

end Rows
end Go.Proofs.Qxb6617659a
