/-
  zzArrayOfNullsModel computes 'Pl.arr'.
-/
import Derived.Test.Qxb6616402aLeaf
namespace Go.Proofs.Qxb6616402a
open Go.ChangeShapes Go.WideShapes Go.ChangeAt Go.RowKit

theorem ret_three {r : Bool × Nat × Int} {x : Bool} {y : Nat} {y' z : Int} (h : r = (x, y, z)) (hy : y' = (y : Int)) : Ending.returned (.tuple #[.bool x, .int .i64 y', .int .i64 z]) = .returned (.tuple #[.bool r.1, .int .i64 r.2.1, .int .i64 r.2.2]) := by
  subst h hy; rfl

set_option maxRecDepth 100000 in
set_option maxHeartbeats 1000000 in
theorem model_any (ad : Option Addr) (n c : Nat) (g : Nat → Int) (i : Nat) (d : Int) (w : World) (hd : Dat w ad n g) (hn : n ≤ 1048576) (hi : i ≤ n) (h0 : 0 ≤ d) (h1 : d ≤ 1048576) :
    Calls Try.prog 11 #[.slice ad n c, .int .i64 i, .int .i64 d] w fun e w' => e = .returned (.tuple #[.bool (Pl.arr g n i d).1, .int .i64 (Pl.arr g n i d).2.1, .int .i64 (Pl.arr g n i d).2.2]) ∧ w' = w := by
  obtain ⟨r, hr⟩ : ∃ r, r = Pl.arr g n i d := ⟨_, rfl⟩
  rw [← hr]
  have HR : Hid (r = Pl.rest g n 0 i d) := by rw [hr]; rfl
  clear hr
  go_enter Try.func11, Try.ntmps11
  go_wp2
  go_loop [9, 10] (fun s t => ∃ (k : Nat) (q : Int), k ≤ n ∧ (q = 0 ∨ q = 1 ∨ q = 2 ∨ q = 3) ∧ s = .int .i64 q ∧ t = .int .i64 k ∧ Hid (r = Pl.rest g n q k d)) (fun _ t => n - (intOf t).toNat)
  case atStart => exact ⟨i, 0, hi, .inl rfl, rfl, rfl, HR⟩
  case round =>
    obtain ⟨k, q, hk, hq, rfl, rfl, HK⟩ := hrel
    clear HR
    have hj := Pl.skip_le (g := g) hk
    have hkj := Pl.skip_ge g n k
    rcases hq with rfl | rfl | rfl | rfl
    · -- state 0
      by_cases hlt : Pl.skip g n k < n
      · obtain ⟨b, off, rfl, hcell⟩ := hd _ hlt
        rcases he : (g (Pl.skip g n k) == 91) with _ | _
        · have hne : ((g (Pl.skip g n k)) != 91) = true := by simp [bne, he]
          go_wp2_with (go_at_call 13; refine (skipSpace_any _ _ _ _ _ _ hd hn hk).mono ?_; rintro e w' ⟨rfl, rfl⟩)
          go_ret3
          exact ⟨ret_three (HK.out.trans (Pl.rest0_no (by simp at he; simp [he]))) rfl, rfl⟩
        · have hne : ((g (Pl.skip g n k)) != 91) = false := by simp [bne, he]
          have HE : Hid (g (Pl.skip g n k) = 91) := eq_of_beq he
          by_cases h64 : 64 ≤ d
          · go_wp2_with (go_at_call 13; refine (skipSpace_any _ _ _ _ _ _ hd hn hk).mono ?_; rintro e w' ⟨rfl, rfl⟩)
            go_ret3
            exact ⟨ret_three (HK.out.trans (Pl.rest0_deep hlt HE.out h64)) (by omega), rfl⟩
          · go_wp2_with (go_at_call 13; refine (skipSpace_any _ _ _ _ _ _ hd hn hk).mono ?_; rintro e w' ⟨rfl, rfl⟩)
            go_round
            case rel => exact ⟨Pl.skip g n k + 1, 1, by omega, by omega, rfl, by go_num, HK.out.trans (Pl.rest0_in hlt HE.out (by omega))⟩
            case measure => simp [intOf]; omega
      · go_wp2_with (go_at_call 13; refine (skipSpace_any _ _ _ _ _ _ hd hn hk).mono ?_; rintro e w' ⟨rfl, rfl⟩)
        go_ret3
        exact ⟨ret_three (HK.out.trans (Pl.rest0_no (by omega))) rfl, rfl⟩
    · -- state 1
      by_cases hlt : Pl.skip g n k < n
      · obtain ⟨b, off, rfl, hcell⟩ := hd _ hlt
        rcases he : (g (Pl.skip g n k) == 93) with _ | _
        · have HN : Hid (¬ (Pl.skip g n k < n ∧ g (Pl.skip g n k) = 93)) := fun h => by rw [h.2] at he; exact absurd he (by decide)
          rcases hnl : Pl.nullAt g n (Pl.skip g n k) with _ | _
          · go_wp2_with (first | (go_at_call 13; refine (skipSpace_any _ _ _ _ _ _ hd hn hk).mono ?_; rintro e w' ⟨rfl, rfl⟩) | (go_at_call 16; refine (nullAt_any _ _ _ _ _ _ hd hn hj).mono ?_; rintro e w' ⟨rfl, rfl⟩))
            go_ret3
            exact ⟨ret_three (HK.out.trans (Pl.rest1_no HN.out hnl)) (by omega), rfl⟩
          · have h4 := (Pl.null_t hnl).1
            go_wp2_with (first | (go_at_call 13; refine (skipSpace_any _ _ _ _ _ _ hd hn hk).mono ?_; rintro e w' ⟨rfl, rfl⟩) | (go_at_call 16; refine (nullAt_any _ _ _ _ _ _ hd hn hj).mono ?_; rintro e w' ⟨rfl, rfl⟩))
            go_round
            case rel => exact ⟨Pl.skip g n k + 4, 2, by omega, by omega, rfl, by go_num, HK.out.trans (Pl.rest1_on HN.out hnl)⟩
            case measure => simp [intOf]; omega
        · have HE : Hid (g (Pl.skip g n k) = 93) := eq_of_beq he
          go_wp2_with (first | (go_at_call 13; refine (skipSpace_any _ _ _ _ _ _ hd hn hk).mono ?_; rintro e w' ⟨rfl, rfl⟩) | (go_at_call 16; refine (nullAt_any _ _ _ _ _ _ hd hn hj).mono ?_; rintro e w' ⟨rfl, rfl⟩))
          go_ret3
          exact ⟨ret_three (HK.out.trans (Pl.rest1_end hlt HE.out)) (by omega), rfl⟩
      · have HN : Hid (¬ (Pl.skip g n k < n ∧ g (Pl.skip g n k) = 93)) := fun h => hlt h.1
        rcases hnl : Pl.nullAt g n (Pl.skip g n k) with _ | _
        · go_wp2_with (first | (go_at_call 13; refine (skipSpace_any _ _ _ _ _ _ hd hn hk).mono ?_; rintro e w' ⟨rfl, rfl⟩) | (go_at_call 16; refine (nullAt_any _ _ _ _ _ _ hd hn hj).mono ?_; rintro e w' ⟨rfl, rfl⟩))
          go_ret3
          exact ⟨ret_three (HK.out.trans (Pl.rest1_no HN.out hnl)) (by omega), rfl⟩
        · have h4 := (Pl.null_t hnl).1
          go_wp2_with (first | (go_at_call 13; refine (skipSpace_any _ _ _ _ _ _ hd hn hk).mono ?_; rintro e w' ⟨rfl, rfl⟩) | (go_at_call 16; refine (nullAt_any _ _ _ _ _ _ hd hn hj).mono ?_; rintro e w' ⟨rfl, rfl⟩))
          go_round
          case rel => exact ⟨Pl.skip g n k + 4, 2, by omega, by omega, rfl, by go_num, HK.out.trans (Pl.rest1_on HN.out hnl)⟩
          case measure => simp [intOf]; omega
    · -- state 2
      by_cases hlt : Pl.skip g n k < n
      · obtain ⟨b, off, rfl, hcell⟩ := hd _ hlt
        rcases he : (g (Pl.skip g n k) == 93) with _ | _
        · have HN : Hid (¬ (Pl.skip g n k < n ∧ g (Pl.skip g n k) = 93)) := fun h => by rw [h.2] at he; exact absurd he (by decide)
          rcases he2 : (g (Pl.skip g n k) == 44) with _ | _
          · have hne : ((g (Pl.skip g n k)) != 44) = true := by simp [bne, he2]
            have HN2 : Hid (¬ (Pl.skip g n k < n ∧ g (Pl.skip g n k) = 44)) := fun h => by rw [h.2] at he2; exact absurd he2 (by decide)
            go_wp2_with (first | (go_at_call 13; refine (skipSpace_any _ _ _ _ _ _ hd hn hk).mono ?_; rintro e w' ⟨rfl, rfl⟩) | (go_at_call 16; refine (nullAt_any _ _ _ _ _ _ hd hn hj).mono ?_; rintro e w' ⟨rfl, rfl⟩))
            go_ret3
            exact ⟨ret_three (HK.out.trans (Pl.rest2_no HN.out HN2.out)) (by omega), rfl⟩
          · have hne : ((g (Pl.skip g n k)) != 44) = false := by simp [bne, he2]
            have HE : Hid (g (Pl.skip g n k) = 44) := eq_of_beq he2
            go_wp2_with (first | (go_at_call 13; refine (skipSpace_any _ _ _ _ _ _ hd hn hk).mono ?_; rintro e w' ⟨rfl, rfl⟩) | (go_at_call 16; refine (nullAt_any _ _ _ _ _ _ hd hn hj).mono ?_; rintro e w' ⟨rfl, rfl⟩))
            go_round
            case rel => exact ⟨Pl.skip g n k + 1, 3, by omega, by omega, rfl, by go_num, HK.out.trans (Pl.rest2_on hlt HE.out)⟩
            case measure => simp [intOf]; omega
        · have HE : Hid (g (Pl.skip g n k) = 93) := eq_of_beq he
          go_wp2_with (first | (go_at_call 13; refine (skipSpace_any _ _ _ _ _ _ hd hn hk).mono ?_; rintro e w' ⟨rfl, rfl⟩) | (go_at_call 16; refine (nullAt_any _ _ _ _ _ _ hd hn hj).mono ?_; rintro e w' ⟨rfl, rfl⟩))
          go_ret3
          exact ⟨ret_three (HK.out.trans (Pl.rest2_end hlt HE.out)) (by omega), rfl⟩
      · have HN : Hid (¬ (Pl.skip g n k < n ∧ g (Pl.skip g n k) = 93)) := fun h => hlt h.1
        have HN2 : Hid (¬ (Pl.skip g n k < n ∧ g (Pl.skip g n k) = 44)) := fun h => hlt h.1
        go_wp2_with (first | (go_at_call 13; refine (skipSpace_any _ _ _ _ _ _ hd hn hk).mono ?_; rintro e w' ⟨rfl, rfl⟩) | (go_at_call 16; refine (nullAt_any _ _ _ _ _ _ hd hn hj).mono ?_; rintro e w' ⟨rfl, rfl⟩))
        go_ret3
        exact ⟨ret_three (HK.out.trans (Pl.rest2_no HN.out HN2.out)) (by omega), rfl⟩
    · -- state 3
      by_cases hlt : Pl.skip g n k < n
      · obtain ⟨b, off, rfl, hcell⟩ := hd _ hlt
        rcases hnl : Pl.nullAt g n (Pl.skip g n k) with _ | _
        · go_wp2_with (first | (go_at_call 13; refine (skipSpace_any _ _ _ _ _ _ hd hn hk).mono ?_; rintro e w' ⟨rfl, rfl⟩) | (go_at_call 16; refine (nullAt_any _ _ _ _ _ _ hd hn hj).mono ?_; rintro e w' ⟨rfl, rfl⟩))
          go_ret3
          exact ⟨ret_three (HK.out.trans (Pl.rest3_no hnl)) (by omega), rfl⟩
        · have h4 := (Pl.null_t hnl).1
          go_wp2_with (first | (go_at_call 13; refine (skipSpace_any _ _ _ _ _ _ hd hn hk).mono ?_; rintro e w' ⟨rfl, rfl⟩) | (go_at_call 16; refine (nullAt_any _ _ _ _ _ _ hd hn hj).mono ?_; rintro e w' ⟨rfl, rfl⟩))
          go_round
          case rel => exact ⟨Pl.skip g n k + 4, 2, by omega, by omega, rfl, by go_num, HK.out.trans (Pl.rest3_on hnl)⟩
          case measure => simp [intOf]; omega
      · rcases hnl : Pl.nullAt g n (Pl.skip g n k) with _ | _
        · go_wp2_with (first | (go_at_call 13; refine (skipSpace_any _ _ _ _ _ _ hd hn hk).mono ?_; rintro e w' ⟨rfl, rfl⟩) | (go_at_call 16; refine (nullAt_any _ _ _ _ _ _ hd hn hj).mono ?_; rintro e w' ⟨rfl, rfl⟩))
          go_ret3
          exact ⟨ret_three (HK.out.trans (Pl.rest3_no hnl)) (by omega), rfl⟩
        · have h4 := (Pl.null_t hnl).1
          go_wp2_with (first | (go_at_call 13; refine (skipSpace_any _ _ _ _ _ _ hd hn hk).mono ?_; rintro e w' ⟨rfl, rfl⟩) | (go_at_call 16; refine (nullAt_any _ _ _ _ _ _ hd hn hj).mono ?_; rintro e w' ⟨rfl, rfl⟩))
          go_round
          case rel => exact ⟨Pl.skip g n k + 4, 2, by omega, by omega, rfl, by go_num, HK.out.trans (Pl.rest3_on hnl)⟩
          case measure => simp [intOf]; omega
end Go.Proofs.Qxb6616402a
