/-
  sameTail, shortlexLess.
-/
import Derived.Test.Qxb6616428aFmtRead
import Derived.Deep.QuietTactic
import Derived.BigQuiet
import Derived.WalkSmall
namespace Go.Proofs.Qxb6616428aFmt
open Go.ChangeShapes Go.WideShapes Go.ChangeAt Go.RowKit

set_option maxHeartbeats 400000 in
theorem tail_any (s t : ByteArray) (f g : Nat → Nat) (w : World) (hs : Bytes s f) (ht : Bytes t g) (n m : Nat) (hn : s.size = n + 3) (hm : t.size = m + 3) (hn2 : n ≤ 100) (hm2 : m ≤ 100)
    (h : ∀ k, 1 ≤ k → k ≤ 3 → f (n + 3 - k) = g (m + 3 - k)) :
    Calls Tryf.prog 7 #[.string s, .string t, .int .i64 3] w fun e w' => e = .returned (.bool true) ∧ ∃ q, w' = w.drewN q := by
  unfold Bytes at hs ht
  have HE : Hid (∀ k, 1 ≤ k → k ≤ 3 → f (n + 3 - k) = g (m + 3 - k)) := h
  clear h
  go_enter Tryf.func7, Tryf.ntmps7
  go_wp2
  go_loopw [7] (fun i wr => ∃ k : Nat, 1 ≤ k ∧ k ≤ 4 ∧ i = .int .i64 k ∧ ∃ q, wr = w.drewN q) (fun i _ => 5 - (intOf i).toNat)
  case atStart => exact ⟨1, by omega, by omega, rfl, 0, rfl⟩
  case round =>
    obtain ⟨k, hk1, hk2, rfl, q, rfl⟩ := hrel
    by_cases hlt : k ≤ 3
    · have he := HE.out k hk1 hlt
      have hl1 : (0 : Int) ≤ (n : Int) + 3 - (k : Int) := by omega
      have hl2 : (0 : Int) ≤ (m : Int) + 3 - (k : Int) := by omega
      go_wp2
      go_quiet (fail)
      go_wp2
      go_roundw
      case rel => exact ⟨k + 1, by omega, by omega, by go_num, _, rfl⟩
      case measure => simp [intOf]; omega
    · go_wp2
      go_ret
      exact ⟨rfl, q, rfl⟩

theorem ret_bool {a b : Bool} (h : b = a) : Ending.returned (.bool a) = .returned (.bool b) := by rw [h]

theorem slx_ne (s t : ByteArray) (w : World) (n m : Nat) (hn : s.size = n) (hm : t.size = m) (hne : n ≠ m) :
    Calls Tryf.prog 8 #[.string s, .string t] w fun e w' => e = .returned (.bool (decide (n < m))) ∧ ∃ q, w' = w.drewN q := by
  have h1 : ((n : Int) != (m : Int)) = true := by simp; omega
  go_enter Tryf.func8, Tryf.ntmps8
  go_wp2
  go_ret
  exact ⟨ret_bool (by simp), 0, rfl⟩

set_option maxHeartbeats 400000 in
theorem slx_eq (s t : ByteArray) (f g : Nat → Nat) (w : World) (hs : Bytes s f) (ht : Bytes t g) (n : Nat) (hn : s.size = n) (hm : t.size = n) (hn2 : n ≤ 100) (R : Bool)
    (h : ∀ k, k ≤ n → (∀ j, j < k → f j = g j) → (k = n → R = false) ∧ (k < n → f k ≠ g k → R = decide (f k < g k))) :
    Calls Tryf.prog 8 #[.string s, .string t] w fun e w' => e = .returned (.bool R) ∧ ∃ q, w' = w.drewN q := by
  unfold Bytes at hs ht
  have HE : Hid (∀ k, k ≤ n → (∀ j, j < k → f j = g j) → (k = n → R = false) ∧ (k < n → f k ≠ g k → R = decide (f k < g k))) := h
  clear h
  go_enter Tryf.func8, Tryf.ntmps8
  go_wp2
  go_loopw [5] (fun i wr => ∃ k : Nat, k ≤ n ∧ i = .int .i64 k ∧ Hid (∀ j, j < k → f j = g j) ∧ ∃ q, wr = w.drewN q) (fun i _ => n - (intOf i).toNat)
  case atStart => exact ⟨0, by omega, rfl, fun j hj => by omega, 0, rfl⟩
  case round =>
    obtain ⟨k, hk1, rfl, HJ, q, rfl⟩ := hrel
    by_cases hlt : k < n
    · have hl1 : (k : Int) < (n : Int) := by omega
      by_cases he : f k = g k
      · have HJ2 : Hid (∀ j, j < k + 1 → f j = g j) := fun j hj => by
          by_cases e : j = k
          · subst e; exact he
          · exact HJ.out j (by omega)
        go_wp2
        go_quiet (fail)
        go_wp2
        go_roundw
        case rel => exact ⟨k + 1, by omega, by go_num, HJ2, _, rfl⟩
        case measure => simp [intOf]; omega
      · have hR := (HE.out k hk1 HJ.out).2 hlt he
        have HR : Hid (R = decide (f k < g k)) := hR
        have hne : ((f k : Int) != (g k : Int)) = true := by simp; omega
        clear hR he HE HJ
        go_wp2
        go_quiet (fail)
        go_wp2
        go_quiet (fail)
        go_wp2
        go_ret
        exact ⟨ret_bool (by rw [HR.out]), _, by rw [World.drewN_drewN, World.drewN_drewN]⟩
    · obtain rfl : k = n := by omega
      have hR := (HE.out k (Nat.le_refl _) HJ.out).1 rfl
      have HR : Hid (R = false) := hR
      clear hR
      go_wp2
      go_ret
      exact ⟨ret_bool (by rw [HR.out]), _, rfl⟩
end Go.Proofs.Qxb6616428aFmt
