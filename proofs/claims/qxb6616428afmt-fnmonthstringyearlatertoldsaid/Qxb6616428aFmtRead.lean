/-
  readMonth reads the text of a month back.
-/
import Derived.Test.Qxb6616428aFmtFacts
import Derived.Test.Qxb6616428aFmtPlain
namespace Go.Proofs.Qxb6616428aFmt
open Go.ChangeShapes Go.WideShapes Go.ChangeAt Go.RowKit

theorem int_eq {k : IntKind} {a b : Int} (h : a = b) : Value.int k a = .int k b := by rw [h]
theorem ret_read {a : Int} {b : Nat} (h : a = (b : Int)) : Ending.returned (.tuple #[.int .u64 a, .bool true]) = .returned (.tuple #[.int .u64 (b : Int), .bool true]) := by rw [h]

set_option maxHeartbeats 1000000 in
theorem read_core (s : ByteArray) (L : Nat) (f v : Nat → Nat) (mo : Nat) (w : World) (hn : s.size = L + 3) (hL : 4 ≤ L) (hL2 : L ≤ 18) (hs : ∀ k (h : k < s.size), (s[k]'h).toNat = f k)
    (hd : ∀ k, k < L → 48 ≤ f k ∧ f k ≤ 57) (h45 : f L = 45) (hz : 4 < L → ((f 0 : Int) == 48) = false) (v0 : v 0 = 0) (vs : ∀ k, k < L → v (k + 1) = v k * 10 + (f k - 48)) (vb : ∀ k, v k ≤ 1000000000000000000)
    (m1 : f (L + 1) = 48 + mo / 10) (m2 : f (L + 2) = 48 + mo % 10) (hm1 : 1 ≤ mo) (hm2 : mo ≤ 12) (hY : v L ≤ 768614336404564650) :
    Calls Tryf.prog 6 #[.string s] w fun e w' => e = .returned (.tuple #[.int .u64 (v L * 12 + mo - 1 : Nat), .bool true]) ∧ w' = w := by
  have HVS : Hid (∀ k, k < L → v (k + 1) = v k * 10 + (f k - 48)) := vs
  have HV0 : Hid (v 0 = 0) := v0
  have HVB : Hid (∀ k, v k ≤ 1000000000000000000) := vb
  have HD : Hid (∀ k, k < L → 48 ≤ f k ∧ f k ≤ 57) := hd
  have HM : Hid (((f (L + 1) : Int) - 48) * 10 + ((f (L + 2) : Int) - 48) = (mo : Int)) := by show _ = _; omega
  have q1 : (48 : Int) ≤ (f (L + 1) : Int) := by omega
  have q2 : (f (L + 1) : Int) ≤ 49 := by omega
  have q3 : (48 : Int) ≤ (f (L + 2) : Int) := by omega
  have q4 : (f (L + 2) : Int) ≤ 57 := by omega
  have q5 : (1 : Int) ≤ ((f (L + 1) : Int) - 48) * 10 + ((f (L + 2) : Int) - 48) := by omega
  have q6 : ((f (L + 1) : Int) - 48) * 10 + ((f (L + 2) : Int) - 48) ≤ 12 := by omega
  clear vs v0 vb hd m1 m2
  by_cases h4 : 4 < L
  · have hz' := hz h4
    clear hz
    go_enter Tryf.func6, Tryf.ntmps6
    go_wp2
    go_loop [6, 7] (fun y t => ∃ k : Nat, k ≤ L ∧ t = .int .i64 k ∧ y = .int .u64 (v k)) (fun _ t => L - (intOf t).toNat)
    case atStart => exact ⟨0, Nat.zero_le _, rfl, int_eq (by rw [HV0.out]; rfl)⟩
    case round =>
      obtain ⟨k, hk, rfl, rfl⟩ := hrel
      by_cases hlt : k < L
      · obtain ⟨d1, d2⟩ := HD.out k hlt
        have b1 := HVB.out k
        go_wp2
        go_round
        case rel => exact ⟨k + 1, by omega, by go_num, int_eq (by rw [HVS.out k hlt]; omega)⟩
        case measure => simp [intOf]; omega
      · obtain rfl : k = L := by omega
        go_wp2
        go_ret2
        exact ⟨ret_read (by have := HM.out; omega), rfl⟩
  · clear hz
    go_enter Tryf.func6, Tryf.ntmps6
    go_wp2
    go_loop [6, 7] (fun y t => ∃ k : Nat, k ≤ L ∧ t = .int .i64 k ∧ y = .int .u64 (v k)) (fun _ t => L - (intOf t).toNat)
    case atStart => exact ⟨0, Nat.zero_le _, rfl, int_eq (by rw [HV0.out]; rfl)⟩
    case round =>
      obtain ⟨k, hk, rfl, rfl⟩ := hrel
      by_cases hlt : k < L
      · obtain ⟨d1, d2⟩ := HD.out k hlt
        have b1 := HVB.out k
        go_wp2
        go_round
        case rel => exact ⟨k + 1, by omega, by go_num, int_eq (by rw [HVS.out k hlt]; omega)⟩
        case measure => simp [intOf]; omega
      · obtain rfl : k = L := by omega
        go_wp2
        go_ret2
        exact ⟨ret_read (by have := HM.out; omega), rfl⟩

/-- The bytes of s. -/
def Bytes (s : ByteArray) (f : Nat → Nat) : Prop := ∀ k (h : k < s.size), (s[k]'h).toNat = f k

theorem read_any (s : ByteArray) (f : Nat → Nat) (L Y mo : Nat) (w : World) (hs : Bytes s f) (h : Pl.IsM s.size f L Y mo) :
    Calls Tryf.prog 6 #[.string s] w fun e w' => e = .returned (.tuple #[.int .u64 (Y * 12 + mo - 1 : Nat), .bool true]) ∧ w' = w := by
  have hY := h.ymax
  have hd : ∀ k, k < L → 48 ≤ f k ∧ f k ≤ 57 := fun k hk => by
    rw [h.dig k hk]
    have := Nat.mod_lt (Y / 10 ^ (L - 1 - k)) (show 0 < 10 by decide)
    omega
  have hz : 4 < L → ((f 0 : Int) == 48) = false := fun h4 => by
    have h1 := h.lead h4
    have h2 := h.lt
    have h3 := h.dig 0 (by omega)
    obtain ⟨q, rfl⟩ : ∃ q, L = q + 1 := ⟨L - 1, by omega⟩
    rw [Pl.pow_succ10] at h2
    simp only [Nat.add_sub_cancel, Nat.sub_zero] at h1 h3
    have h5 : 1 ≤ Y / 10 ^ q := (Nat.le_div_iff_mul_le (Pl.pow_pos10 q)).2 (by omega)
    have h6 : Y / 10 ^ q < 10 := (Nat.div_lt_iff_lt_mul (Pl.pow_pos10 q)).2 (by omega)
    rw [beq_eq_false_iff_ne, h3]
    omega
  have := read_core s L f (Pl.val L Y) mo w h.size h.ge h.le hs hd h.dash hz (Pl.val_zero h.lt) (fun k hk => by rw [Pl.val_step Y hk, h.dig k hk]; omega)
    (fun k => by have := Pl.val_le L Y k; omega) h.m1 h.m2 h.mlo h.mhi (by rw [Pl.val_end]; exact hY)
  rw [Pl.val_end] at this
  exact this
end Go.Proofs.Qxb6616428aFmt
