/-
  THE CALLEES: ZZnewWork, Worked, IsPositive.
-/
import Derived.Test.Qxb6616428aRows
import Derived.WalkKit
import Derived.ProofKit
import Derived.OpenShut
namespace Go.Proofs.Qxb6616428a
open Go.ChangeShapes Go.WideShapes Go.ChangeAt Go.RowKit

theorem grown_trans {a b c : World} (h : Grown a b) (k : Grown b c) : Grown a c :=
  ⟨World.keptBut_trans h.1 k.1, fun x => (k.2.1 x).trans (h.2.1 x), Nat.le_trans h.2.2 k.2.2⟩

theorem ret_true {b : Bool} (h : b = true) : Ending.returned (.bool b) = .returned (.bool true) := by rw [h]

/-- Worked: the weeks or the hours are more than nought. -/
def wkd (k u : Int) : Bool := decide (0 < k ∨ 0 < u)
def pos (u : Int) : Bool := decide (0 < u)

theorem isPos (u p : Int) (w : World) :
    Calls Try.prog 6 #[.agg #[.int .i64 u, .int .i64 p]] w fun e w' => e = .returned (.bool (pos u)) ∧ Grown w w' := by
  go_enter Try.func6, Try.ntmps6
  go_wp2
  go_ret
  exact ⟨rfl, by repeat (first | exact Grown.refl _ | apply Grown.drew | apply Grown.alloc)⟩

theorem newWork (k u p : Int) (w : World) :
    Calls Try.prog 4 #[.int .i64 k, .int .i64 u, .int .i64 p] w fun e w' => e = .returned (.agg #[.int .u64 0, .int .i64 0, .pointer none, .int .i64 k, .int .i64 u, .int .i64 p]) ∧ Grown w w' := by
  go_enter Try.func4, Try.ntmps4
  go_wp2
  exact bodyPost_ret (v := .agg #[.int .u64 0, .int .i64 0, .pointer none, .int .i64 k, .int .i64 u, .int .i64 p]) (by simp [results, Try.results4, go_sem]) rfl ⟨rfl, by repeat (first | exact Grown.refl _ | apply Grown.drew | apply Grown.alloc)⟩

theorem worked (k u p : Int) (w : World) :
    Calls Try.prog 5 #[.agg #[.int .u64 0, .int .i64 0, .pointer none, .int .i64 k, .int .i64 u, .int .i64 p]] w fun e w' => e = .returned (.bool (wkd k u)) ∧ Grown w w' := by
  by_cases hk : 0 < k
  · have e : wkd k u = true := decide_eq_true (.inl hk)
    rw [e]
    clear e
    go_enter Try.func5, Try.ntmps5
    go_wp2
    go_ret
    exact ⟨rfl, by repeat (first | exact Grown.refl _ | apply Grown.drew | apply Grown.alloc)⟩
  · have e : wkd k u = pos u := by unfold wkd pos; simp [hk]
    rw [e]
    clear e
    go_enter Try.func5, Try.ntmps5
    go_wp2_with fail
    refine (isPos u p _).mono ?_
    rintro e w' ⟨rfl, hg⟩
    go_wp2
    go_ret
    exact ⟨rfl, grown_trans (by repeat (first | exact Grown.refl _ | apply Grown.drew | apply Grown.alloc)) hg⟩
end Go.Proofs.Qxb6616428a
