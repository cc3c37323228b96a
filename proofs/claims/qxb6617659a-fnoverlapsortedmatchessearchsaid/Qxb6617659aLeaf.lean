/-
  THE CALLEES THAT ONLY READ: zzBytes_.., zzNonDecreasing, zzSearchHas, zzShareBySearch.
-/
import Derived.Test.Qxb6617659aRows
import Derived.WalkKit
import Derived.ProofKit
import Derived.OpenShut
import Derived.Below
import Derived.Deep.QuietTactic
import Derived.BigQuiet
import Derived.WalkSmall
namespace Go.Proofs.Qxb6617659a
open Go.ChangeShapes Go.WideShapes Go.ChangeAt Go.RowKit

/-- The numbers of a slice: wherever there is one, the slice has an address and the cell there holds it. -/
def Dat (w : World) (ad : Option Addr) (n : Nat) (g : Nat → Int) : Prop :=
  ∀ k, k < n → ∃ b off, ad = some ⟨b, off, none⟩ ∧ w.cell? ⟨b, off + k, none⟩ = some (.int .u32 (g k))
theorem Dat.cell {w : World} {b off n : Nat} {g : Nat → Int} (h : Dat w (some ⟨b, off, none⟩) n g) {k : Nat} (hk : k < n) : w.cell? ⟨b, off + k, none⟩ = some (.int .u32 (g k)) := by
  obtain ⟨b', off', e, hc⟩ := h k hk
  simp at e
  obtain ⟨rfl, rfl⟩ := e
  exact hc
theorem Dat.drawn {w : World} {ad : Option Addr} {n : Nat} {g : Nat → Int} (h : Dat w ad n g) (q : Nat) : Dat (w.drewN q) ad n g := h

/-- In order, each against the next. -/
def Up (g : Nat → Int) (n : Nat) : Prop := ∀ j, j + 1 < n → g j ≤ g (j + 1)
theorem Up.le {g : Nat → Int} {n : Nat} (h : Up g n) : ∀ d i, i + d < n → g i ≤ g (i + d) := by
  intro d
  induction d with
  | zero => intro i _; exact Int.le_refl _
  | succ d ih => intro i hi; exact Int.le_trans (ih i (by omega)) (h (i + d) (by omega))
theorem Up.mono {g : Nat → Int} {n i j : Nat} (h : Up g n) (hij : i ≤ j) (hj : j < n) : g i ≤ g j := by
  have := h.le (j - i) i (by omega)
  rwa [show i + (j - i) = j from by omega] at this

theorem ret_bool {a b : Bool} (h : b = a) : Ending.returned (.bool a) = .returned (.bool b) := by rw [h]

theorem bytes_t (a0 : Option Addr) (n c : Nat) (a1 : Option Addr) (m d : Nat) (w : World) (hn : n ≤ 65536) (hm : m ≤ 65536) :
    Calls Try.prog 4 #[.slice a0 n c, .slice a1 m d] w fun e w' => e = .returned (.bool true) ∧ w' = w := by
  go_enter Try.func4, Try.ntmps4
  go_wp2
  go_ret
  exact ⟨rfl, rfl⟩
/-- Whatever the lengths: it answers. -/
theorem bytes_any (a0 : Option Addr) (n c : Nat) (a1 : Option Addr) (m d : Nat) (w : World) (hn : n ≤ 9223372036854775807) (hm : m ≤ 9223372036854775807) :
    Calls Try.prog 4 #[.slice a0 n c, .slice a1 m d] w fun e w' => ∃ r, e = .returned (.bool r) ∧ w' = w := by
  by_cases h1 : 1048576 < n
  · go_enter Try.func4, Try.ntmps4
    go_wp2
    go_ret
    exact ⟨_, rfl, rfl⟩
  · by_cases h2 : 1048576 < m
    · go_enter Try.func4, Try.ntmps4
      go_wp2
      go_ret
      exact ⟨_, rfl, rfl⟩
    · by_cases h3 : 1048576 < n + m
      · go_enter Try.func4, Try.ntmps4
        go_wp2
        go_ret
        exact ⟨_, rfl, rfl⟩
      · go_enter Try.func4, Try.ntmps4
        go_wp2
        go_ret
        exact ⟨_, rfl, rfl⟩

set_option maxHeartbeats 400000 in
theorem nondec_any (ad : Option Addr) (n c : Nat) (g : Nat → Int) (w : World) (hd : Dat w ad n g) (hn : n ≤ 65536) :
    Calls Try.prog 5 #[.slice ad n c] w fun e w' => ∃ r q, e = .returned (.bool r) ∧ Hid (r = true → Up g n) ∧ w' = w.drewN q := by
  go_enter Try.func5, Try.ntmps5
  go_wp2
  go_loopw [3] (fun i wr => ∃ k : Nat, 1 ≤ k ∧ (k ≤ n ∨ k = 1) ∧ i = .int .i64 k ∧ Hid (∀ j, j + 1 < k → g j ≤ g (j + 1)) ∧ ∃ q, wr = w.drewN q) (fun i _ => n - (intOf i).toNat)
  case atStart => exact ⟨1, by omega, .inr rfl, rfl, fun j hj => by omega, 0, rfl⟩
  case round =>
    obtain ⟨k, hk1, hk2, rfl, HK, q, rfl⟩ := hrel
    have hk3 : k ≤ 65536 := by omega
    clear hk2
    by_cases hlt : k < n
    · obtain ⟨b, off, rfl, hc1⟩ := hd k hlt
      have hc0 := hd.cell (k := k - 1) (by omega)
      have hl1 : (k : Int) < (n : Int) := by omega
      have hl2 : (k : Int) - 1 < (n : Int) := by omega
      have hl3 : (0 : Int) ≤ (k : Int) - 1 := by omega
      by_cases hgt : g k < g (k - 1)
      · go_wp2
        go_quiet (fail)
        go_wp2
        go_ret
        exact ⟨false, _, rfl, (fun h => by cases h), by rw [World.drewN_drewN]⟩
      · have HN : Hid (∀ j, j + 1 < k + 1 → g j ≤ g (j + 1)) := fun j hj => by
          by_cases e : j + 1 < k
          · exact HK.out j e
          · obtain rfl : j = k - 1 := by omega
            rw [show k - 1 + 1 = k from by omega]; omega
        go_wp2
        go_quiet (fail)
        go_wp2
        go_roundw
        case rel => exact ⟨k + 1, by omega, .inl (by omega), by go_num, HN, _, rfl⟩
        case measure => simp [intOf]; omega
    · go_wp2
      go_ret
      exact ⟨true, q, rfl, (fun _ j hj => HK.out j (by omega)), rfl⟩
end Go.Proofs.Qxb6617659a
