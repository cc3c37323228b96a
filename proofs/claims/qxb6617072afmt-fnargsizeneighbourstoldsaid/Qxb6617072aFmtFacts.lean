/-
  THE CLOSED FACTS FOR A WALK OVER fmt.Sprintf IN THIS DUMP (after the guide's Label family), and argSize, ZZargSize by their contracts.
-/
import Derived.Test.Qxb6617072aFmtRows
import Derived.Stop.CallBack
import Derived.Stop.IfaceNil
import GoSem.ClaimData
import Derived.WalkKit
import Derived.WalkSpells
import Derived.ProofKit
import Derived.OpenShut
import Derived.Stop.JoinedAt
import Derived.Stop.Texts
import Derived.Stop.JoinedTold
import Derived.Stop.FmtQuoteTie
import Derived.Stop.FmtTextKit
import Derived.SizedLaws
import Derived.Below
import Derived.Deep.QuietTactic
import Derived.BigQuiet
import Derived.WalkSmall
namespace Go.Proofs.Qxb6617072aFmt
open Go.ChangeShapes Go.WideShapes Go.ChangeAt Go.RowKit
open Go.Extern.Stop Go.Stop Go.Extern

@[go_sem] theorem call7 (args : Array Value) (w : World) : (callFunc 7 args).run Tryf.prog w = ((FmtStop.sprintf #[9, 47] #[9] args).run Tryf.prog w).andThen fun v w' => .ok (.value v) w' :=
  run_callFunc_extern Tryf.func7 (by kernel_rfl) (by kernel_rfl) (by kernel_rfl) (by kernel_rfl) args w
@[go_sem] theorem guard (name : String) (w : World) : (FmtStop.guard name).run Tryf.prog w = .ok () w := by kernel_rfl
-- "additional information %d is reserved", 1 operand
@[go_sem] theorem fmt1 : FmtStop.printed? ⟨#[97, 100, 100, 105, 116, 105, 111, 110, 97, 108, 32, 105, 110, 102, 111, 114, 109, 97, 116, 105, 111, 110, 32, 37, 100, 32, 105, 115, 32, 114, 101, 115, 101, 114, 118, 101, 100]⟩ 1 = some [(0, 100, false)] := by kernel_rfl
@[go_sem] theorem fmt1r (w : World) : (FmtDoors.printed ⟨#[97, 100, 100, 105, 116, 105, 111, 110, 97, 108, 32, 105, 110, 102, 111, 114, 109, 97, 116, 105, 111, 110, 32, 37, 100, 32, 105, 115, 32, 114, 101, 115, 101, 114, 118, 101, 100]⟩ 1).run Tryf.prog w = .ok [(0, 100, false)] w := by kernel_rfl
def shape5 : List UInt8 := [6, 5, 0, 0, 0, 0, 0, 0, 0, 117, 105, 110, 116, 56]
@[go_sem] theorem op5_100 (name : String) (x : Int) (w : World) : (FmtStop.operand name false 100 false (.iface 5 (.int .u8 x))).run Tryf.prog w = .ok (shape5, Go.Extern.Stop.digits 8 (x % 2 ^ 64).toNat) w := by kernel_rfl
@[go_sem] theorem strict5 (name : String) (x : Int) (w : World) : (FmtStop.strict name (.iface 5 (.int .u8 x))).run Tryf.prog w = .ok (shape5, Go.Extern.Stop.digits 8 (x % 2 ^ 64).toNat) w := by kernel_rfl
@[go_sem] theorem isIface23 : Tryf.prog.isIface 23 = true := by kernel_rfl

theorem arg_low (off info : Int) (w : World) (h : info < 24) :
    Calls Tryf.prog 6 #[.int .i64 off, .int .u8 info] w fun e w' => e = .returned (.tuple #[.int .i64 0, .nilIface]) ∧ w' = w := by
  go_enter Tryf.func6, Tryf.ntmps6
  go_wp2
  go_ret2
  exact ⟨rfl, rfl⟩

/-- 1, 2, 4, 8 at 24, 25, 26, 27. -/
def size (info : Int) : Int := if info = 24 then 1 else if info = 25 then 2 else if info = 26 then 4 else 8

theorem arg_mid (off info : Int) (w : World) (h : 24 ≤ info) (h' : info ≤ 27) :
    Calls Tryf.prog 6 #[.int .i64 off, .int .u8 info] w fun e w' => e = .returned (.tuple #[.int .i64 (size info), .nilIface]) ∧ w' = w := by
  rcases (show info = 24 ∨ info = 25 ∨ info = 26 ∨ info = 27 by omega) with rfl | rfl | rfl | rfl
  all_goals
    go_enter Tryf.func6, Tryf.ntmps6
    go_wp2
    go_ret2
    exact ⟨rfl, rfl⟩

set_option maxHeartbeats 400000 in
theorem arg_high (F : Interp) (off info : Int) (w : World) (h : 28 ≤ info) (h' : info ≤ 255) (hF : F.answers w.tape) :
    Calls Tryf.prog 6 #[.int .i64 off, .int .u8 info] w fun e w' => ∃ p, e = .returned (.tuple #[.int .i64 0, .iface 27 (.pointer (some p))]) ∧ Below w.heap.size w w' := by
  have hF' := answers_open hF
  by_cases h31 : info = 31
  · subst h31
    go_enter Tryf.func6, Tryf.ntmps6
    go_wp2
    go_ret2
    exact ⟨_, rfl, (Below.refl _ _).alloc (Nat.le_refl _) _⟩
  · have hne : (info == 31) = false := by simpa using h31
    clear h31
    go_enter Tryf.func6, Tryf.ntmps6
    go_wp2
    go_ret2
    exact ⟨_, rfl, (((Below.refl _ _).alloc (Nat.le_refl _) _).alloc (by simp) _).drew⟩

theorem zz_low (off info : Int) (w : World) (h : info < 24) :
    Calls Tryf.prog 5 #[.int .i64 off, .int .u8 info] w fun e w' => e = .returned (.tuple #[.int .i64 0, .nilIface]) ∧ w' = w := by
  go_enter Tryf.func5, Tryf.ntmps5
  go_wp2_with fail
  refine (arg_low off info w h).mono ?_
  rintro e w' ⟨rfl, rfl⟩
  go_wp2_with fail
  go_ret2
  exact ⟨rfl, rfl⟩

theorem zz_mid (off info : Int) (w : World) (h : 24 ≤ info) (h' : info ≤ 27) :
    Calls Tryf.prog 5 #[.int .i64 off, .int .u8 info] w fun e w' => e = .returned (.tuple #[.int .i64 (size info), .nilIface]) ∧ w' = w := by
  go_enter Tryf.func5, Tryf.ntmps5
  go_wp2_with fail
  refine (arg_mid off info w h h').mono ?_
  rintro e w' ⟨rfl, rfl⟩
  go_wp2_with fail
  go_ret2
  exact ⟨rfl, rfl⟩

theorem zz_high (F : Interp) (off info : Int) (w : World) (h : 28 ≤ info) (h' : info ≤ 255) (hF : F.answers w.tape) :
    Calls Tryf.prog 5 #[.int .i64 off, .int .u8 info] w fun e w' => ∃ p, e = .returned (.tuple #[.int .i64 0, .iface 27 (.pointer (some p))]) ∧ Below w.heap.size w w' := by
  go_enter Tryf.func5, Tryf.ntmps5
  go_wp2_with fail
  refine (arg_high F off info w h h' hF).mono ?_
  rintro e w' ⟨p, rfl, hb⟩
  go_wp2_with fail
  go_ret2
  exact ⟨p, rfl, hb⟩
end Go.Proofs.Qxb6617072aFmt
