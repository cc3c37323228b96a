/-
  THE CLOSED FACTS FOR A WALK OVER fmt.Sprintf IN THIS DUMP (after the guide's Label family), and (month).String by its contract.
-/
import Derived.Test.Qxb6616428aFmtRows
import Derived.Stop.CallBack
import Derived.Stop.IfaceNil
import GoSem.ClaimData
import Derived.WalkKit
import Derived.WalkSpells
import Derived.ProofKit
import Derived.OpenShut
import Derived.Stop.JoinedAt
import Derived.Stop.Texts
import Derived.Stop.JoinedTold
import Derived.Stop.FmtQuoteTie
import Derived.Stop.FmtTextKit
import Derived.SizedLaws
import Derived.Below
namespace Go.Proofs.Qxb6616428aFmt
open Go.ChangeShapes Go.WideShapes Go.ChangeAt Go.RowKit
open Go.Extern.Stop Go.Stop Go.Extern

@[go_sem] theorem call10 (args : Array Value) (w : World) : (callFunc 10 args).run Tryf.prog w = ((FmtStop.sprintf #[9, 48] #[9] args).run Tryf.prog w).andThen fun v w' => .ok (.value v) w' :=
  run_callFunc_extern Tryf.func10 (by kernel_rfl) (by kernel_rfl) (by kernel_rfl) (by kernel_rfl) args w
@[go_sem] theorem guard (name : String) (w : World) : (FmtStop.guard name).run Tryf.prog w = .ok () w := by kernel_rfl
-- "%04d-%02d", 2 operands
@[go_sem] theorem fmt2 : FmtStop.printed? ⟨#[37, 48, 52, 100, 45, 37, 48, 50, 100]⟩ 2 = some [(0, 100, false), (1, 100, false)] := by kernel_rfl
@[go_sem] theorem fmt2r (w : World) : (FmtDoors.printed ⟨#[37, 48, 52, 100, 45, 37, 48, 50, 100]⟩ 2).run Tryf.prog w = .ok [(0, 100, false), (1, 100, false)] w := by kernel_rfl
def shape3 : List UInt8 := [5, 3, 0, 0, 0, 0, 0, 0, 0, 105, 110, 116]
@[go_sem] theorem op3_100 (name : String) (x : Int) (w : World) : (FmtStop.operand name false 100 false (.iface 3 (.int .i64 x))).run Tryf.prog w = .ok (shape3, Go.Extern.Stop.digits 8 (x % 2 ^ 64).toNat) w := by kernel_rfl
@[go_sem] theorem strict3 (name : String) (x : Int) (w : World) : (FmtStop.strict name (.iface 3 (.int .i64 x))).run Tryf.prog w = .ok (shape3, Go.Extern.Stop.digits 8 (x % 2 ^ 64).toNat) w := by kernel_rfl

/-- What fmt is asked. -/
def reading (y mo : Int) : List (List UInt8) :=
  [[37, 48, 52, 100, 45, 37, 48, 50, 100], shape3, digits 8 (y % 18446744073709551616).toNat, shape3, digits 8 (mo % 18446744073709551616).toNat]

set_option maxHeartbeats 400000 in
theorem string9 (F : Interp) (m : Int) (w : World) (h0 : 0 ≤ m) (h1 : m ≤ 9223372036854775807) (hF : F.answers w.tape) :
    Calls Tryf.prog 9 #[.int .i64 m] w fun e w' => e = .returned (.string (FmtStop.textOf (F "fmt.Sprintf" (reading (m / 12) (m % 12 + 1)) 0))) ∧
      w' = (w.alloc (.cells #[.iface 3 (.int .i64 (m / 12)), .iface 3 (.int .i64 (m % 12 + 1))] 20)).drew := by
  have hF' := answers_open hF
  go_enter Tryf.func9, Tryf.ntmps9
  go_wp2
  go_ret
  exact ⟨rfl, rfl⟩
end Go.Proofs.Qxb6616428aFmt
