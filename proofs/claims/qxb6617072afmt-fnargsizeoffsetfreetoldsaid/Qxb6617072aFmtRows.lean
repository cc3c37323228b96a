/-
  No cell of these rows narrows 'for every input' (looked for: loops, veiled, ifaces, maps, wideKeys, modest, calm, conditions, laid).
  DERIVED. THE GIVEN ROWS OF THIS SEAT. 2 by the template 'for every input the law returns true; each argument reads behind the call as it read before'; 0 by the template 'total and deterministic' (their statements: Qxb6617072aFmtTotals.lean).
  GIVEN WITH THE SEED: the statements are not yours to turn. If you find one false, say at which input.
  Laid BY PROGRAM, IN A SANDBOX (cutbox-rows.mjs): the forced cells as the released guide's own fill.sh prints them over the translation df429f0ca150400e… (all of the seat's roots in one cut). By AI agents, Wed Nov 11 2026. No macro, syntax, notation, axiom, sorry.
-/
import Derived.Test.Qxb6617072aFmtChecked
import GoSem.Claim
import GoSem.ClaimJoined
import GoSem.ClaimMapViews
import Derived.JoinedTies
import Derived.KernelRfl
namespace Go.Proofs.Qxb6617072aFmt
/- THE CELL 'sum', in the pinned program and in every row, IS THE sha256 OF THE DUMP (.gsa) THAT Qxb6617072aFmtProg.lean LOADS. Nothing in Lean hashes anything: it is a label: what it is worth is what the hold of that sum in a sandbox is worth. -/
noncomputable def Tryf.pinned : Pinned := { name := "qxb6617072afmt", sum := "df429f0ca150400e7b63fdd00c5143c3af74093bb02802211e56caeccadc73c2", checked := Tryf.checked }
namespace Rows
def none {H : Type} : Left H := { results := [], args := [] }

/-- 'zzlaws_internal_cborcore_e1.FnArgSizeNeighbours': WHATEVER THE INPUT: true; the input reads as it did. -/
def fnArgSizeNeighboursSpec : ChangeSpec := { name := "fnArgSizeNeighbours", fn := fun _ => fun
  | [d1, d2, d3] => { results := [.lit (.bool true)], args := [d1, d2, d3] }
  | _ => none }
def fnArgSizeNeighboursRow : OpenClaim := { program := "qxb6617072afmt", sum := "df429f0ca150400e7b63fdd00c5143c3af74093bb02802211e56caeccadc73c2", func := "example.com/hectograph/hectograph/zzlaws_internal_cborcore_e1.FnArgSizeNeighbours", spec := "fnArgSizeNeighbours", stops := ["fmt.Sprintf"], inPlace := ["fmt.Sprintf"], apart := false }
/-- NO THEOREM (fmt's text is open here; it may be false): for the released tool's asking of the row's closed facts alone. THE STATEMENT IS 'FnArgSizeNeighboursToldSaid' (Qxb6617072aFmtCards.lean). -/
def FnArgSizeNeighboursFormAsk : Prop := fnArgSizeNeighboursRow.holds Tryf.pinned (OpenSpec.ofChange fnArgSizeNeighboursSpec)

/-- ITS FALSE NEIGHBOUR: 'it returns false'. Refute it at one input. -/
def fnArgSizeNeighboursWrong : ChangeSpec := { name := "fnArgSizeNeighbours", fn := fun _ => fun
  | [d1, d2, d3] => { results := [.lit (.bool false)], args := [d1, d2, d3] }
  | _ => none }
def FnArgSizeNeighboursWrongFormAsk : Prop := fnArgSizeNeighboursRow.holds Tryf.pinned (OpenSpec.ofChange fnArgSizeNeighboursWrong)

/-- 'zzlaws_internal_cborcore_e1.FnArgSizeOffsetFree': WHATEVER THE INPUT: true; the input reads as it did. -/
def fnArgSizeOffsetFreeSpec : ChangeSpec := { name := "fnArgSizeOffsetFree", fn := fun _ => fun
  | [d1, d2, d3] => { results := [.lit (.bool true)], args := [d1, d2, d3] }
  | _ => none }
def fnArgSizeOffsetFreeRow : OpenClaim := { program := "qxb6617072afmt", sum := "df429f0ca150400e7b63fdd00c5143c3af74093bb02802211e56caeccadc73c2", func := "example.com/hectograph/hectograph/zzlaws_internal_cborcore_e1.FnArgSizeOffsetFree", spec := "fnArgSizeOffsetFree", stops := ["fmt.Sprintf"], inPlace := ["fmt.Sprintf"], apart := false }
/-- NO THEOREM (fmt's text is open here; it may be false): for the released tool's asking of the row's closed facts alone. THE STATEMENT IS 'FnArgSizeOffsetFreeToldSaid' (Qxb6617072aFmtCards.lean). -/
def FnArgSizeOffsetFreeFormAsk : Prop := fnArgSizeOffsetFreeRow.holds Tryf.pinned (OpenSpec.ofChange fnArgSizeOffsetFreeSpec)

/-- ITS FALSE NEIGHBOUR: 'it returns false'. Refute it at one input. -/
def fnArgSizeOffsetFreeWrong : ChangeSpec := { name := "fnArgSizeOffsetFree", fn := fun _ => fun
  | [d1, d2, d3] => { results := [.lit (.bool false)], args := [d1, d2, d3] }
  | _ => none }
def FnArgSizeOffsetFreeWrongFormAsk : Prop := fnArgSizeOffsetFreeRow.holds Tryf.pinned (OpenSpec.ofChange fnArgSizeOffsetFreeWrong)

end Rows
end Go.Proofs.Qxb6617072aFmt
