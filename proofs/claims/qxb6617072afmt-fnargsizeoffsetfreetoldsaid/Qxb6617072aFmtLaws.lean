/-
  THE TWO LAWS' WALKS.
-/
import Derived.Test.Qxb6617072aFmtFacts
namespace Go.Proofs.Qxb6617072aFmt
open Go.ChangeShapes Go.WideShapes Go.ChangeAt Go.RowKit
open Go.Extern.Stop Go.Stop Go.Extern

set_option maxHeartbeats 1000000 in
theorem free_any (F : Interp) (o1 o2 info : Int) (w : World) (h0 : 0 ≤ info) (h1 : info ≤ 255) (hF : F.answers w.tape) :
    Calls Tryf.prog 4 #[.int .i64 o1, .int .i64 o2, .int .u8 info] w fun e w' => e = .returned (.bool true) ∧ Below w.heap.size w w' := by
  have HF : Hid (F.answers w.tape) := hF
  clear hF
  by_cases hl : info < 24
  · have hd : decide (info < 28) = true := decide_eq_true (by omega)
    go_enter Tryf.func4, Tryf.ntmps4
    go_wp2_with fail
    refine (zz_low o1 info w hl).mono ?_
    rintro e w1 ⟨rfl, rfl⟩
    go_wp2_with fail
    refine (zz_low o2 info _ hl).mono ?_
    rintro e w2 ⟨rfl, rfl⟩
    go_wp2
    go_quiet (fail)
    go_wp2
    go_ret
    exact ⟨rfl, below_drewN (Below.refl _ _) _⟩
  by_cases hm : info ≤ 27
  · have hs : 0 ≤ size info ∧ size info ≤ 8 := by unfold size; split <;> (try split) <;> (try split) <;> omega
    obtain ⟨s1, s2⟩ := hs
    have hd : decide (info < 28) = true := decide_eq_true (by omega)
    go_enter Tryf.func4, Tryf.ntmps4
    go_wp2_with fail
    refine (zz_mid o1 info w (by omega) hm).mono ?_
    rintro e w1 ⟨rfl, rfl⟩
    go_wp2_with fail
    refine (zz_mid o2 info _ (by omega) hm).mono ?_
    rintro e w2 ⟨rfl, rfl⟩
    go_wp2
    go_quiet (fail)
    go_wp2
    go_ret
    exact ⟨rfl, below_drewN (Below.refl _ _) _⟩
  · have hd : decide (info < 28) = false := decide_eq_false (by omega)
    go_enter Tryf.func4, Tryf.ntmps4
    go_wp2_with fail
    refine (zz_high F o1 info w (by omega) h1 HF.out).mono ?_
    rintro e w1 ⟨p, rfl, hb1⟩
    go_wp2_with fail
    refine (zz_high F o2 info w1 (by omega) h1 (by rw [hb1.tape]; exact HF.out)).mono ?_
    rintro e w2 ⟨p2, rfl, hb2⟩
    have HB : Hid (Below w.heap.size w w2) := hb1.trans (hb2.mono hb1.size)
    clear hb1 hb2
    go_wp2
    go_quiet (fail)
    go_wp2
    go_ret
    exact ⟨rfl, below_drewN HB.out _⟩

set_option maxHeartbeats 1000000 in
theorem near_any (F : Interp) (o1 o2 a : Int) (w : World) (h0 : 0 ≤ a) (h1 : a ≤ 255) (hF : F.answers w.tape) :
    Calls Tryf.prog 3 #[.int .i64 o1, .int .i64 o2, .int .u8 a] w fun e w' => e = .returned (.bool true) ∧ Below w.heap.size w w' := by
  have HF : Hid (F.answers w.tape) := hF
  clear hF
  by_cases c1 : a ≤ 22
  · have hd : decide (a < 28) = true := decide_eq_true (by omega)
    have hd2 : decide (a + 1 < 28) = true := decide_eq_true (by omega)
    have hq : (a == 255) = false := by simp; omega
    go_enter Tryf.func3, Tryf.ntmps3
    go_wp2_with fail
    refine (zz_low o1 a w (by omega)).mono ?_
    rintro e w1 ⟨rfl, rfl⟩
    go_wp2_with fail
    refine (zz_low o2 (a + 1) _ (by omega)).mono ?_
    rintro e w2 ⟨rfl, rfl⟩
    go_wp2
    go_ret
    exact ⟨rfl, Below.refl _ _⟩
  by_cases c2 : a = 23
  · subst c2
    go_enter Tryf.func3, Tryf.ntmps3
    go_wp2_with fail
    refine (zz_low o1 23 w (by omega)).mono ?_
    rintro e w1 ⟨rfl, rfl⟩
    go_wp2_with fail
    refine (zz_mid o2 24 _ (by omega) (by omega)).mono ?_
    rintro e w2 ⟨rfl, rfl⟩
    simp only [show size 24 = 1 from rfl]
    go_wp2
    go_ret
    exact ⟨rfl, Below.refl _ _⟩
  by_cases c3 : a ≤ 26
  · rcases (show a = 24 ∨ a = 25 ∨ a = 26 by omega) with rfl | rfl | rfl
    · go_enter Tryf.func3, Tryf.ntmps3
      go_wp2_with fail
      refine (zz_mid o1 24 w (by omega) (by omega)).mono ?_
      rintro e w1 ⟨rfl, rfl⟩
      simp only [show size 24 = 1 from rfl]
      go_wp2_with fail
      refine (zz_mid o2 25 _ (by omega) (by omega)).mono ?_
      rintro e w2 ⟨rfl, rfl⟩
      simp only [show size 25 = 2 from rfl]
      go_wp2
      go_ret
      exact ⟨rfl, Below.refl _ _⟩
    · go_enter Tryf.func3, Tryf.ntmps3
      go_wp2_with fail
      refine (zz_mid o1 25 w (by omega) (by omega)).mono ?_
      rintro e w1 ⟨rfl, rfl⟩
      simp only [show size 25 = 2 from rfl]
      go_wp2_with fail
      refine (zz_mid o2 26 _ (by omega) (by omega)).mono ?_
      rintro e w2 ⟨rfl, rfl⟩
      simp only [show size 26 = 4 from rfl]
      go_wp2
      go_ret
      exact ⟨rfl, Below.refl _ _⟩
    · go_enter Tryf.func3, Tryf.ntmps3
      go_wp2_with fail
      refine (zz_mid o1 26 w (by omega) (by omega)).mono ?_
      rintro e w1 ⟨rfl, rfl⟩
      simp only [show size 26 = 4 from rfl]
      go_wp2_with fail
      refine (zz_mid o2 27 _ (by omega) (by omega)).mono ?_
      rintro e w2 ⟨rfl, rfl⟩
      simp only [show size 27 = 8 from rfl]
      go_wp2
      go_ret
      exact ⟨rfl, Below.refl _ _⟩
  by_cases c4 : a = 27
  · subst c4
    go_enter Tryf.func3, Tryf.ntmps3
    go_wp2_with fail
    refine (zz_mid o1 27 w (by omega) (by omega)).mono ?_
    rintro e w1 ⟨rfl, rfl⟩
    simp only [show size 27 = 8 from rfl]
    go_wp2_with fail
    refine (zz_high F o2 28 _ (by omega) (by omega) HF.out).mono ?_
    rintro e w2 ⟨p2, rfl, hb2⟩
    go_wp2
    go_ret
    exact ⟨rfl, hb2⟩
  by_cases c5 : a = 255
  · subst c5
    go_enter Tryf.func3, Tryf.ntmps3
    go_wp2_with fail
    refine (zz_high F o1 255 w (by omega) (by omega) HF.out).mono ?_
    rintro e w1 ⟨p, rfl, hb1⟩
    go_wp2
    go_ret
    exact ⟨rfl, hb1⟩
  · have hd : decide (a < 28) = false := decide_eq_false (by omega)
    have hd2 : decide (a + 1 < 28) = false := decide_eq_false (by omega)
    have hq : (a == 255) = false := by simpa using c5
    clear c5
    go_enter Tryf.func3, Tryf.ntmps3
    go_wp2_with fail
    refine (zz_high F o1 a w (by omega) h1 HF.out).mono ?_
    rintro e w1 ⟨p, rfl, hb1⟩
    have h254 : a ≤ 254 := by simp at hq; omega
    go_wp2_with fail
    refine (zz_high F o2 (a + 1) w1 (by omega) (by omega) (by rw [hb1.tape]; exact HF.out)).mono ?_
    rintro e w2 ⟨p2, rfl, hb2⟩
    have HB : Hid (Below w.heap.size w w2) := hb1.trans (hb2.mono hb1.size)
    clear hb1 hb2
    go_wp2
    go_ret
    exact ⟨rfl, HB.out⟩
end Go.Proofs.Qxb6617072aFmt
