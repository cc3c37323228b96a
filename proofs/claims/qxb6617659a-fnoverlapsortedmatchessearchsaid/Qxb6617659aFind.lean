/-
  zzSearchHas, zzShareBySearch.
-/
import Derived.Test.Qxb6617659aLeaf
namespace Go.Proofs.Qxb6617659a
open Go.ChangeShapes Go.WideShapes Go.ChangeAt Go.RowKit

/-- The Bool r tells p. -/
def Tells (r : Bool) (p : Prop) : Prop := r = true ↔ p
theorem tells_some (p : Prop) : ∃ r, Tells r p := by
  rcases Classical.em p with h | h
  · exact ⟨true, fun _ => h, fun _ => rfl⟩
  · exact ⟨false, (fun e => by cases e), fun h' => absurd h' h⟩
theorem Tells.yes {r : Bool} {p : Prop} (h : Tells r p) (hp : p) : r = true := h.2 hp
theorem Tells.no {r : Bool} {p : Prop} (h : Tells r p) (hp : ¬ p) : r = false := by
  cases r
  · rfl
  · exact absurd (h.1 rfl) hp

set_option maxHeartbeats 400000 in
theorem has_any (ad : Option Addr) (m c : Nat) (g : Nat → Int) (x : Int) (w : World) (hd : Dat w ad m g) (hm : m ≤ 65536) (hup : Up g m) (r : Bool) (HR : Tells r (∃ j, j < m ∧ g j = x)) :
    Calls Try.prog 8 #[.slice ad m c, .int .u32 x] w fun e w' => e = .returned (.bool r) ∧ w' = w := by
  have HU : Hid (Up g m) := hup
  clear hup
  go_enter Try.func8, Try.ntmps8
  go_wp2
  go_loop [5, 6] (fun lo hi => ∃ l h : Nat, l ≤ h ∧ h ≤ m ∧ lo = .int .i64 l ∧ hi = .int .i64 h ∧ Hid (∀ j, j < l → g j < x) ∧ Hid (∀ j, h ≤ j → j < m → x ≤ g j)) (fun lo hi => (intOf hi - intOf lo).toNat)
  case atStart => exact ⟨0, m, by omega, by omega, rfl, rfl, fun j hj => by omega, fun j h1 h2 => by omega⟩
  case round =>
    obtain ⟨l, h, hlh, hhm, rfl, rfl, HL, HH⟩ := hrel
    by_cases hlt : l < h
    · have hmid : l + (h - l) / 2 < h := by omega
      obtain ⟨b, off, rfl, hcell⟩ := hd (l + (h - l) / 2) (by omega)
      by_cases hg : g (l + (h - l) / 2) < x
      · have HN : Hid (∀ j, j < l + (h - l) / 2 + 1 → g j < x) := fun j hj => by
          have := HU.out.mono (i := j) (j := l + (h - l) / 2) (by omega) (by omega)
          omega
        go_wp2
        go_round
        case rel => exact ⟨l + (h - l) / 2 + 1, h, by omega, hhm, by go_num, rfl, HN, HH⟩
        case measure => simp [intOf]; omega
      · have HN : Hid (∀ j, l + (h - l) / 2 ≤ j → j < m → x ≤ g j) := fun j h1 h2 => by
          have := HU.out.mono (i := l + (h - l) / 2) (j := j) h1 h2
          omega
        go_wp2
        go_round
        case rel => exact ⟨l, l + (h - l) / 2, by omega, by omega, rfl, by go_num, HL, HN⟩
        case measure => simp [intOf]; omega
    · obtain rfl : l = h := by omega
      by_cases hin : l < m
      · obtain ⟨b, off, rfl, hcell⟩ := hd l hin
        rcases he : (g l == x) with _ | _
        · have HN : Hid (r = false) := HR.no (by
            rintro ⟨j, hj, rfl⟩
            rw [beq_eq_false_iff_ne] at he
            rcases Nat.lt_trichotomy j l with h1 | h1 | h1
            · have := HL.out j h1; omega
            · subst h1; exact he rfl
            · have h2 := HU.out.mono (i := l) (j := j) (by omega) hj
              have h3 := HH.out l (Nat.le_refl _) hin
              omega)
          go_wp2
          go_ret
          exact ⟨ret_bool HN.out, rfl⟩
        · have HN : Hid (r = true) := HR.yes ⟨l, hin, eq_of_beq he⟩
          go_wp2
          go_ret
          exact ⟨ret_bool HN.out, rfl⟩
      · have HN : Hid (r = false) := HR.no (by
          rintro ⟨j, hj, rfl⟩
          have := HL.out j (by omega)
          omega)
        go_wp2
        go_ret
        exact ⟨ret_bool HN.out, rfl⟩

set_option maxHeartbeats 400000 in
theorem share_any (ad : Option Addr) (n c : Nat) (f : Nat → Int) (bd : Option Addr) (m d : Nat) (g : Nat → Int) (w : World) (hd : Dat w ad n f) (he : Dat w bd m g) (hn : n ≤ 65536) (hm : m ≤ 65536) (hup : Up g m) (R : Bool) (HR : Tells R (∃ i, i < n ∧ ∃ j, j < m ∧ f i = g j)) :
    Calls Try.prog 6 #[.slice ad n c, .slice bd m d] w fun e w' => e = .returned (.bool R) ∧ w' = w := by
  have HU : Hid (Up g m) := hup
  clear hup
  go_enter Try.func6, Try.ntmps6
  go_wp2
  go_loop [5] (fun t => ∃ k : Nat, k ≤ n ∧ t = .int .i64 k ∧ Hid (∀ i, i < k → ¬ ∃ j, j < m ∧ f i = g j)) (fun t => n - (intOf t).toNat)
  case atStart => exact ⟨0, by omega, rfl, fun i hi => by omega⟩
  case round =>
    obtain ⟨k, hk, rfl, HK⟩ := hrel
    by_cases hlt : k < n
    · obtain ⟨b, off, rfl, hcell⟩ := hd k hlt
      obtain ⟨r, hr⟩ := tells_some (∃ j, j < m ∧ g j = f k)
      go_wp2_with fail
      refine (has_any bd m d g (f k) w he hm HU.out r hr).mono ?_
      rintro e w' ⟨rfl, rfl⟩
      cases r
      · have HN : Hid (∀ i, i < k + 1 → ¬ ∃ j, j < m ∧ f i = g j) := fun i hi => by
          by_cases e : i < k
          · exact HK.out i e
          · obtain rfl : i = k := by omega
            rintro ⟨j, hj, e⟩
            exact absurd (hr.yes ⟨j, hj, e.symm⟩) (by decide)
        go_wp2_with fail
        go_round
        case rel => exact ⟨k + 1, by omega, by go_num, HN⟩
        case measure => simp [intOf]; omega
      · have HN : Hid (R = true) := HR.yes (by obtain ⟨j, hj, e⟩ := hr.1 rfl; exact ⟨k, hlt, j, hj, e.symm⟩)
        go_wp2_with fail
        go_ret
        exact ⟨ret_bool HN.out, rfl⟩
    · have HN : Hid (R = false) := HR.no (fun ⟨i, hi, h⟩ => absurd h (HK.out i (by omega)))
      go_wp2
      go_ret
      exact ⟨ret_bool HN.out, rfl⟩
end Go.Proofs.Qxb6617659a
