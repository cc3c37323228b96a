/-
  DERIVED. GIVEN WITH THE SEED: THE CARDS: each row of Qxb6616428aFmtRows.lean that lists a variable, with what it lists TIED to the program's text (the seventh form; the later family's looks); each row that meets fmt, with fmt's text TOLD by the authors' own Lean function (tested against real Go, not proved from fmt's source: count such statements apart). THE CARD IS WHAT COUNTS. Prove the row's statement (the work); the ties are given (Qxb6616428aFmtTie.lean); close each card by the builder's one call (the guide's Derived/Test/ToyasCard.lean, 'card_holds'). Laid BY PROGRAM, IN A SANDBOX (cutbox-door.mjs). By AI agents, Wed Nov 11 2026. No macro, syntax, notation, axiom, sorry.
-/
import Derived.Test.Qxb6616428aFmtRows
import GoSem.ClaimSeven
namespace Go.Proofs.Qxb6616428aFmt
namespace Rows

/-- THE TOLD CARD OF 'zzlaws_records_b1.FnMonthStringYearLater'. -/
def fnMonthStringYearLaterCard : Claim7 := { stood := { row := fnMonthStringYearLaterRow, standIns := [], harness := (true, "ef07264e99eda981bc0108855dba7b570d6fbebd19cd775fdd927a3d78e9b4b0"), looks := false }, told := true, goes := false }
def FnMonthStringYearLaterToldSaid : Prop := Claim7.holds Tryf.pinned (.plain (OpenSpec.ofChange fnMonthStringYearLaterSpec)) fnMonthStringYearLaterCard
/-- ITS FALSE NEIGHBOUR. Refute it at one input. -/
def FnMonthStringYearLaterToldWrongFalsely : Prop := Claim7.holds Tryf.pinned (.plain (OpenSpec.ofChange fnMonthStringYearLaterWrong)) fnMonthStringYearLaterCard

/-- THE TOLD CARD OF 'zzlaws_records_b1.FnMonthStringOrderAndReadBack'. -/
def fnMonthStringOrderAndReadBackCard : Claim7 := { stood := { row := fnMonthStringOrderAndReadBackRow, standIns := [], harness := (true, "ef07264e99eda981bc0108855dba7b570d6fbebd19cd775fdd927a3d78e9b4b0"), looks := false }, told := true, goes := false }
def FnMonthStringOrderAndReadBackToldSaid : Prop := Claim7.holds Tryf.pinned (.plain (OpenSpec.ofChange fnMonthStringOrderAndReadBackSpec)) fnMonthStringOrderAndReadBackCard
/-- ITS FALSE NEIGHBOUR. Refute it at one input. -/
def FnMonthStringOrderAndReadBackToldWrongFalsely : Prop := Claim7.holds Tryf.pinned (.plain (OpenSpec.ofChange fnMonthStringOrderAndReadBackWrong)) fnMonthStringOrderAndReadBackCard
end Rows
end Go.Proofs.Qxb6616428aFmt
