/-
  THE LEAVES: zzIsSpace, zzSkipSpace, zzNullAt.
-/
import Derived.Test.Qxb6616402aRows
import Derived.Test.Qxb6616402aPlain
import Derived.WalkKit
import Derived.ProofKit
import Derived.OpenShut
import Derived.Below
namespace Go.Proofs.Qxb6616402a
open Go.ChangeShapes Go.WideShapes Go.ChangeAt Go.RowKit

/-- The bytes of a slice: wherever there is one, the slice has an address and the cell there holds it. -/
def Dat (w : World) (ad : Option Addr) (n : Nat) (g : Nat → Int) : Prop :=
  ∀ k, k < n → ∃ b off, ad = some ⟨b, off, none⟩ ∧ w.cell? ⟨b, off + k, none⟩ = some (.int .u8 (g k))

theorem ret_nat {k : IntKind} {a b : Nat} (h : b = a) : Ending.returned (.int k a) = .returned (.int k b) := by rw [h]

theorem isSpace_t (c : Int) (w : World) (h : Pl.isSp c = true) :
    Calls Try.prog 17 #[.int .u8 c] w fun e w' => e = .returned (.bool true) ∧ w' = w := by
  have h4 : c = 32 ∨ c = 9 ∨ c = 10 ∨ c = 13 := by simpa [Pl.isSp, or_assoc] using h
  clear h
  rcases h4 with rfl | rfl | rfl | rfl
  all_goals
    go_enter Try.func17, Try.ntmps17
    go_wp2
    go_ret
    exact ⟨rfl, rfl⟩

theorem isSpace_f (c : Int) (w : World) (h : Pl.isSp c = false) :
    Calls Try.prog 17 #[.int .u8 c] w fun e w' => e = .returned (.bool false) ∧ w' = w := by
  have h4 : (c == 32) = false ∧ (c == 9) = false ∧ (c == 10) = false ∧ (c == 13) = false := by simpa [Pl.isSp, and_assoc] using h
  clear h
  obtain ⟨h1, h2, h3, h4⟩ := h4
  go_enter Try.func17, Try.ntmps17
  go_wp2
  go_ret
  exact ⟨rfl, rfl⟩

theorem skipSpace_any (ad : Option Addr) (n c : Nat) (g : Nat → Int) (i : Nat) (w : World) (hd : Dat w ad n g) (hn : n ≤ 1048576) (hi : i ≤ n) :
    Calls Try.prog 13 #[.slice ad n c, .int .i64 i] w fun e w' => e = .returned (.int .i64 (Pl.skip g n i)) ∧ w' = w := by
  obtain ⟨r, hr⟩ : ∃ r, r = Pl.skip g n i := ⟨_, rfl⟩
  rw [← hr]
  have HR : Hid (r = Pl.skip g n i) := hr
  clear hr
  go_enter Try.func13, Try.ntmps13
  go_wp2
  go_loop [1] (fun t => ∃ k : Nat, k ≤ n ∧ t = .int .i64 k ∧ Hid (r = Pl.skip g n k)) (fun t => n - (intOf t).toNat)
  case atStart => exact ⟨i, hi, rfl, HR⟩
  case round =>
    obtain ⟨k, hk, rfl, HK⟩ := hrel
    clear HR
    by_cases hlt : k < n
    · obtain ⟨b, off, rfl, hcell⟩ := hd k hlt
      rcases hsp : Pl.isSp (g k) with _ | _
      · go_wp2_with (go_at_call 17; refine (isSpace_f _ _ hsp).mono ?_; rintro e w' ⟨rfl, rfl⟩)
        go_ret
        exact ⟨ret_nat (by rw [HK.out, Pl.skip_stop (by simp [hsp])]), rfl⟩
      · go_wp2_with (go_at_call 17; refine (isSpace_t _ _ hsp).mono ?_; rintro e w' ⟨rfl, rfl⟩)
        go_round
        case rel => exact ⟨k + 1, by omega, by go_num, by have := HK.out; rw [Pl.skip_step hlt hsp] at this; exact this⟩
        case measure => simp [intOf]; omega
    · go_wp2
      go_ret
      exact ⟨ret_nat (by rw [HK.out, Pl.skip_stop (by omega)]), rfl⟩

theorem Dat.cell {w : World} {b off n : Nat} {g : Nat → Int} (h : Dat w (some ⟨b, off, none⟩) n g) {k : Nat} (hk : k < n) : w.cell? ⟨b, off + k, none⟩ = some (.int .u8 (g k)) := by
  obtain ⟨b', off', e, hc⟩ := h k hk
  simp at e
  obtain ⟨rfl, rfl⟩ := e
  exact hc

theorem nullAt_any (ad : Option Addr) (n c : Nat) (g : Nat → Int) (i : Nat) (w : World) (hd : Dat w ad n g) (hn : n ≤ 1048576) (hi : i ≤ n) :
    Calls Try.prog 16 #[.slice ad n c, .int .i64 i] w fun e w' => e = .returned (.bool (Pl.nullAt g n i)) ∧ w' = w := by
  by_cases h4 : i + 4 ≤ n
  · obtain ⟨b, off, rfl, c0⟩ := hd i (by omega)
    have c1 := hd.cell (k := i + 1) (by omega)
    have c2 := hd.cell (k := i + 2) (by omega)
    have c3 := hd.cell (k := i + 3) (by omega)
    clear hd
    rcases h0 : (g i == 110) with _ | _
    · have e : Pl.nullAt g n i = false := decide_eq_false (by simp at h0; simp [h0])
      rw [e]
      clear e
      go_enter Try.func16, Try.ntmps16
      go_wp2
      go_ret
      exact ⟨rfl, rfl⟩
    rcases h1 : (g (i + 1) == 117) with _ | _
    · have e : Pl.nullAt g n i = false := decide_eq_false (by simp at h1; simp [h1])
      rw [e]
      clear e
      go_enter Try.func16, Try.ntmps16
      go_wp2
      go_ret
      exact ⟨rfl, rfl⟩
    rcases h2 : (g (i + 2) == 108) with _ | _
    · have e : Pl.nullAt g n i = false := decide_eq_false (by simp at h2; simp [h2])
      rw [e]
      clear e
      go_enter Try.func16, Try.ntmps16
      go_wp2
      go_ret
      exact ⟨rfl, rfl⟩
    rcases h3 : (g (i + 3) == 108) with _ | _
    · have e : Pl.nullAt g n i = false := decide_eq_false (by simp at h3; simp [h3])
      rw [e]
      clear e
      go_enter Try.func16, Try.ntmps16
      go_wp2
      go_ret
      exact ⟨rfl, rfl⟩
    have e : Pl.nullAt g n i = true := decide_eq_true ⟨h4, by simpa using h0, by simpa using h1, by simpa using h2, by simpa using h3⟩
    rw [e]
    clear e
    go_enter Try.func16, Try.ntmps16
    go_wp2
    go_ret
    exact ⟨rfl, rfl⟩
  · have e : Pl.nullAt g n i = false := decide_eq_false (fun h => h4 h.1)
    rw [e]
    clear e
    go_enter Try.func16, Try.ntmps16
    go_wp2
    go_ret
    exact ⟨rfl, rfl⟩
end Go.Proofs.Qxb6616402a
