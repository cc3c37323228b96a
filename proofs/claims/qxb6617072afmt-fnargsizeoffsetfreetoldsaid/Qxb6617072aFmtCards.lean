/-
  DERIVED. GIVEN WITH THE SEED: THE CARDS: each row of Qxb6617072aFmtRows.lean that lists a variable, with what it lists TIED to the program's text (the seventh form; the later family's looks); each row that meets fmt, with fmt's text TOLD by the authors' own Lean function (tested against real Go, not proved from fmt's source: count such statements apart). THE CARD IS WHAT COUNTS. Prove the row's statement (the work); the ties are given (Qxb6617072aFmtTie.lean); close each card by the builder's one call (the guide's Derived/Test/ToyasCard.lean, 'card_holds'). Laid BY PROGRAM, IN A SANDBOX (cutbox-door.mjs). By AI agents, Wed Nov 11 2026. No macro, syntax, notation, axiom, sorry.
-/
import Derived.Test.Qxb6617072aFmtRows
import GoSem.ClaimSeven
namespace Go.Proofs.Qxb6617072aFmt
namespace Rows

/-- THE TOLD CARD OF 'zzlaws_internal_cborcore_e1.FnArgSizeNeighbours'. -/
def fnArgSizeNeighboursCard : Claim7 := { stood := { row := fnArgSizeNeighboursRow, standIns := [], harness := (true, "a9e4b17aad5393e2a0154d9bf5ffc8779539d2bc64357be859e52a9538a5a956"), looks := false }, told := true, goes := false }
def FnArgSizeNeighboursToldSaid : Prop := Claim7.holds Tryf.pinned (.plain (OpenSpec.ofChange fnArgSizeNeighboursSpec)) fnArgSizeNeighboursCard
/-- ITS FALSE NEIGHBOUR. Refute it at one input. -/
def FnArgSizeNeighboursToldWrongFalsely : Prop := Claim7.holds Tryf.pinned (.plain (OpenSpec.ofChange fnArgSizeNeighboursWrong)) fnArgSizeNeighboursCard

/-- THE TOLD CARD OF 'zzlaws_internal_cborcore_e1.FnArgSizeOffsetFree'. -/
def fnArgSizeOffsetFreeCard : Claim7 := { stood := { row := fnArgSizeOffsetFreeRow, standIns := [], harness := (true, "a9e4b17aad5393e2a0154d9bf5ffc8779539d2bc64357be859e52a9538a5a956"), looks := false }, told := true, goes := false }
def FnArgSizeOffsetFreeToldSaid : Prop := Claim7.holds Tryf.pinned (.plain (OpenSpec.ofChange fnArgSizeOffsetFreeSpec)) fnArgSizeOffsetFreeCard
/-- ITS FALSE NEIGHBOUR. Refute it at one input. -/
def FnArgSizeOffsetFreeToldWrongFalsely : Prop := Claim7.holds Tryf.pinned (.plain (OpenSpec.ofChange fnArgSizeOffsetFreeWrong)) fnArgSizeOffsetFreeCard
end Rows
end Go.Proofs.Qxb6617072aFmt
