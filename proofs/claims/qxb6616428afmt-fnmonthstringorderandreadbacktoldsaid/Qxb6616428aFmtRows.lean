/-
  No cell of these rows narrows 'for every input' (looked for: loops, veiled, ifaces, maps, wideKeys, modest, calm, conditions, laid).
  DERIVED. THE GIVEN ROWS OF THIS SEAT. 2 by the template 'for every input the law returns true; each argument reads behind the call as it read before'; 0 by the template 'total and deterministic' (their statements: Qxb6616428aFmtTotals.lean).
  GIVEN WITH THE SEED: the statements are not yours to turn. If you find one false, say at which input.
  Laid BY PROGRAM, IN A SANDBOX (cutbox-rows.mjs): the forced cells as the released guide's own fill.sh prints them over the translation 21faa3bd0320139d… (all of the seat's roots in one cut). By AI agents, Wed Nov 11 2026. No macro, syntax, notation, axiom, sorry.
-/
import Derived.Test.Qxb6616428aFmtChecked
import GoSem.Claim
import GoSem.ClaimJoined
import GoSem.ClaimMapViews
import Derived.JoinedTies
import Derived.KernelRfl
namespace Go.Proofs.Qxb6616428aFmt
/- THE CELL 'sum', in the pinned program and in every row, IS THE sha256 OF THE DUMP (.gsa) THAT Qxb6616428aFmtProg.lean LOADS. Nothing in Lean hashes anything: it is a label: what it is worth is what the hold of that sum in a sandbox is worth. -/
noncomputable def Tryf.pinned : Pinned := { name := "qxb6616428afmt", sum := "21faa3bd0320139d9dede7297ed1b21d78a382e681c04b649fb7bd5574b6704c", checked := Tryf.checked }
namespace Rows
def none {H : Type} : Left H := { results := [], args := [] }

/-- 'zzlaws_records_b1.FnMonthStringYearLater': WHATEVER THE INPUT: true; the input reads as it did. -/
def fnMonthStringYearLaterSpec : ChangeSpec := { name := "fnMonthStringYearLater", fn := fun _ => fun
  | [d] => { results := [.lit (.bool true)], args := [d] }
  | _ => none }
def fnMonthStringYearLaterRow : OpenClaim := { program := "qxb6616428afmt", sum := "21faa3bd0320139d9dede7297ed1b21d78a382e681c04b649fb7bd5574b6704c", func := "example.com/vestline/vestline/zzlaws_records_b1.FnMonthStringYearLater", spec := "fnMonthStringYearLater", stops := ["fmt.Sprintf"], inPlace := ["fmt.Sprintf"], apart := false }
/-- NO THEOREM (fmt's text is open here; it may be false): for the released tool's asking of the row's closed facts alone. THE STATEMENT IS 'FnMonthStringYearLaterToldSaid' (Qxb6616428aFmtCards.lean). -/
def FnMonthStringYearLaterFormAsk : Prop := fnMonthStringYearLaterRow.holds Tryf.pinned (OpenSpec.ofChange fnMonthStringYearLaterSpec)

/-- ITS FALSE NEIGHBOUR: 'it returns false'. Refute it at one input. -/
def fnMonthStringYearLaterWrong : ChangeSpec := { name := "fnMonthStringYearLater", fn := fun _ => fun
  | [d] => { results := [.lit (.bool false)], args := [d] }
  | _ => none }
def FnMonthStringYearLaterWrongFormAsk : Prop := fnMonthStringYearLaterRow.holds Tryf.pinned (OpenSpec.ofChange fnMonthStringYearLaterWrong)

/-- 'zzlaws_records_b1.FnMonthStringOrderAndReadBack': WHATEVER THE INPUT: true; the input reads as it did. -/
def fnMonthStringOrderAndReadBackSpec : ChangeSpec := { name := "fnMonthStringOrderAndReadBack", fn := fun _ => fun
  | [d1, d2] => { results := [.lit (.bool true)], args := [d1, d2] }
  | _ => none }
def fnMonthStringOrderAndReadBackRow : OpenClaim := { program := "qxb6616428afmt", sum := "21faa3bd0320139d9dede7297ed1b21d78a382e681c04b649fb7bd5574b6704c", func := "example.com/vestline/vestline/zzlaws_records_b1.FnMonthStringOrderAndReadBack", spec := "fnMonthStringOrderAndReadBack", stops := ["fmt.Sprintf"], inPlace := ["fmt.Sprintf"], apart := false }
/-- NO THEOREM (fmt's text is open here; it may be false): for the released tool's asking of the row's closed facts alone. THE STATEMENT IS 'FnMonthStringOrderAndReadBackToldSaid' (Qxb6616428aFmtCards.lean). -/
def FnMonthStringOrderAndReadBackFormAsk : Prop := fnMonthStringOrderAndReadBackRow.holds Tryf.pinned (OpenSpec.ofChange fnMonthStringOrderAndReadBackSpec)

/-- ITS FALSE NEIGHBOUR: 'it returns false'. Refute it at one input. -/
def fnMonthStringOrderAndReadBackWrong : ChangeSpec := { name := "fnMonthStringOrderAndReadBack", fn := fun _ => fun
  | [d1, d2] => { results := [.lit (.bool false)], args := [d1, d2] }
  | _ => none }
def FnMonthStringOrderAndReadBackWrongFormAsk : Prop := fnMonthStringOrderAndReadBackRow.holds Tryf.pinned (OpenSpec.ofChange fnMonthStringOrderAndReadBackWrong)

end Rows
end Go.Proofs.Qxb6616428aFmt
