/-
  ZZmonthString: the text of a month, fmt's text told.
-/
import Derived.Test.Qxb6616428aFmtFacts
import Derived.Test.Qxb6616428aFmtPlain
import Derived.WalkSmall
namespace Go.Proofs.Qxb6616428aFmt
open Go.ChangeShapes Go.WideShapes Go.ChangeAt Go.RowKit
open Go.Extern.Stop Go.Stop Go.Extern Go.Kit

-- "%04d-%02d"
theorem t_parse : (FmtText.parse [37, 48, 52, 100, 45, 37, 48, 50, 100]).map FmtText.glue = some [.verb { widPresent := true, wid := 4, zero := true } 100, .lit [45], .verb { widPresent := true, wid := 2, zero := true } 100] := by rfl

theorem t_text (y mo : Int) (hy : (Lit.int .i64 y).wf = true) (hmo : (Lit.int .i64 mo).wf = true) : FmtText.text "fmt.Sprintf" (reading y mo) = some (FmtText.zeros 4 y ++ [45] ++ FmtText.zeros 2 mo) := by
  have h1 := FmtText.operand_int_at (sh := shape3) (k := .i64) rfl rfl y hy
  have h2 := FmtText.operand_int_at (sh := shape3) (k := .i64) rfl rfl mo hmo
  rw [reading, FmtText.text_sprintf_glued t_parse (FmtText.operands_cons h1 (FmtText.operands_cons h2 FmtText.operands_nil))]
  simp [FmtText.render, FmtText.printArg_d_zero _ 4 _ hy, FmtText.printArg_d_zero _ 2 _ hmo]

theorem month_text (F : Interp) (m : Nat) (hm : m ≤ 9223372036854775807) (w : World) (hF : F.told.answers w.tape) :
    Calls Tryf.prog 5 #[.int .i64 m] w fun e w' => ∃ S : ByteArray, e = .returned (.string S) ∧ S.data.toList = Pl.txt m ∧ Below w.heap.size w w' := by
  have w1 : (Lit.int .i64 ((m : Int) / 12)).wf = true := WalkArith.wf_i64 (by omega)
  have w2 : (Lit.int .i64 ((m : Int) % 12 + 1)).wf = true := WalkArith.wf_i64 (by omega)
  have l1 := FmtText.zeros_length_le' 4 w1
  have l2 := FmtText.zeros_length_le' 2 w2
  have ht := told_string F (t_text ((m : Int) / 12) ((m : Int) % 12 + 1) w1 w2) (by simp; omega)
  have HT : Hid ((FmtStop.textOf (F.told "fmt.Sprintf" (reading ((m : Int) / 12) ((m : Int) % 12 + 1)) 0)).data.toList = Pl.txt m) := by
    show _ = _
    rw [textOf_list, ht]
    simp [Pl.txt]
  clear ht l1 l2 w1 w2
  go_enter Tryf.func5, Tryf.ntmps5
  go_wp2_with fail
  refine (string9 F.told m w (by omega) (by omega) hF).mono ?_
  rintro e w' ⟨rfl, rfl⟩
  go_wp2_with fail
  go_ret
  exact ⟨_, rfl, HT.out, ((Below.refl _ _).alloc (Nat.le_refl _) _).drew⟩
end Go.Proofs.Qxb6616428aFmt
