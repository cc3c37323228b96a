/-
  ZZarrayOfNulls computes 'Pl.arr'.
-/
import Derived.Test.Qxb6616402aArr
namespace Go.Proofs.Qxb6616402a
open Go.ChangeShapes Go.WideShapes Go.ChangeAt Go.RowKit

theorem array_any (w : World) (B : Nat) (ad : Option Addr) (n c : Nat) (g : Nat → Int) (i : Nat) (d : Int) (h : Dec w B ad n c g i d) (hg : ∀ k, 0 ≤ g k ∧ g k ≤ 255) (hn : n ≤ 1048576) (hi : i ≤ n) (hc : n ≤ c) (h0 : 0 ≤ d) (h1 : d ≤ 1048576) :
    Calls Try.prog 30 #[.pointer (some ⟨B, 0, none⟩), .func (.func 31) #[.pointer (some ⟨B, 0, none⟩)] #[]] w fun e w' => ∃ r, Hid (r = Pl.arr g n i d) ∧ e = .returned (.bool r.1) ∧ Dec w' B ad n c g r.2.1 r.2.2 ∧ Below B w w' := by
  rcases ha : Pl.at_ g n (Pl.skip g n i) 91 with _ | _
  · -- no '['
    have HE : Hid (Pl.arr g n i d = (false, Pl.skip g n i, d)) := by simp [Hid, Pl.arr, ha]
    go_enter Try.func30, Try.ntmps30
    go_wp2_with fail
    refine (consume_f w B ad n c g i d 91 h hn hi (by decide) ha).mono ?_
    rintro e w1 ⟨rfl, d1, b1⟩
    go_wp2_with fail
    go_ret
    exact ⟨_, HE.out.symm, rfl, d1, b1⟩
  · have hj1 := (Pl.at_t ha).1
    by_cases h64 : 64 ≤ d
    · -- too deep
      have HE : Hid (Pl.arr g n i d = (false, Pl.skip g n i + 1, d + 1)) := by simp [Hid, Pl.arr, ha, h64]
      have HT : Hid (decide (d + 1 ≤ 64) = false) := decide_eq_false (by omega)
      go_enter Try.func30, Try.ntmps30
      go_wp2_with fail
      refine (consume_t w B ad n c g i d 91 h hn hi (by decide) ha).mono ?_
      rintro e w1 ⟨rfl, d1, b1⟩
      go_wp2_with fail
      refine (enter_any w1 B ad n c g _ d d1 h0 (by omega)).mono ?_
      rw [HT.out]
      rintro e w2 ⟨rfl, d2, b2⟩
      go_wp2_with fail
      go_ret
      exact ⟨_, HE.out.symm, rfl, d2, b1.trans b2⟩
    · have hk := Pl.skip_le (g := g) (n := n) (i := Pl.skip g n i + 1) (by omega)
      rcases hb : Pl.at_ g n (Pl.skip g n (Pl.skip g n i + 1)) 93 with _ | _
      · refine (array_in w B ad n c g i d h hg hn hi hc h0 (by omega) ha hb).mono ?_
        rintro e w1 ⟨r, HR, rfl, d1, b1⟩
        refine ⟨(r.1, r.2, Pl.left d r.1), ?_, rfl, d1, b1⟩
        show _ = _
        have e := HR.out
        simp [Pl.arr, ha, h64, Pl.opened, hb, e]
      · have HE : Hid (Pl.arr g n i d = (true, Pl.skip g n (Pl.skip g n i + 1) + 1, d)) := by simp [Hid, Pl.arr, ha, h64, Pl.opened, hb, Pl.left]
        have HT : Hid (decide (d + 1 ≤ 64) = true) := decide_eq_true (by omega)
        go_enter Try.func30, Try.ntmps30
        go_wp2_with fail
        refine (consume_t w B ad n c g i d 91 h hn hi (by decide) ha).mono ?_
        rintro e w1 ⟨rfl, d1, b1⟩
        go_wp2_with fail
        refine (enter_any w1 B ad n c g _ d d1 h0 (by omega)).mono ?_
        rw [HT.out]
        rintro e w2 ⟨rfl, d2, b2⟩
        go_wp2_with fail
        refine (consume_t w2 B ad n c g _ (d + 1) 93 d2 hn (by omega) (by decide) hb).mono ?_
        rintro e w3 ⟨rfl, d3, b3⟩
        have c2 := d3.c2
        have f2 := d3.f2
        go_wp2
        go_ret
        exact ⟨_, HE.out.symm, rfl, (d3.at2 d).1, ((b1.trans b2).trans b3).trans (d3.at2 d).2⟩

theorem zz_any (ad : Option Addr) (n c : Nat) (g : Nat → Int) (i : Nat) (d : Int) (w : World) (hd : Dat w ad n g) (hlow : ∀ a, ad = some a → 0 < n → a.block < w.heap.size) (hg : ∀ k, 0 ≤ g k ∧ g k ≤ 255) (hn : n ≤ 1048576) (hi : i ≤ n) (hc : n ≤ c) (h0 : 0 ≤ d) (h1 : d ≤ 1048576) :
    Calls Try.prog 10 #[.slice ad n c, .int .i64 i, .int .i64 d] w fun e w' => e = .returned (.tuple #[.bool (Pl.arr g n i d).1, .int .i64 (Pl.arr g n i d).2.1, .int .i64 (Pl.arr g n i d).2.2]) ∧ Below w.heap.size w w' := by
  obtain ⟨W1, hW1⟩ : ∃ W1, W1 = w.alloc (.cells #[.slice ad n c, .int .i64 i, .int .i64 d, .slice none 0 0, .string ⟨#[]⟩, .pointer none] 53) := ⟨_, rfl⟩
  have hb0 : Below w.heap.size w W1 := by rw [hW1]; exact (Below.refl _ _).alloc (Nat.le_refl _) _
  have hdec : Dec W1 w.heap.size ad n c g i d := by
    refine ⟨by rw [hW1]; simp, by rw [hW1]; simp, by rw [hW1]; simp, by rw [hW1]; simp, by rw [hW1]; simp, ?_, hlow⟩
    intro k hk
    obtain ⟨b, off, e, hcell⟩ := hd k hk
    exact ⟨b, off, e, by rw [hb0.cell (p := ⟨b, off + k, none⟩) (by exact hlow ⟨b, off, none⟩ e (by omega))]; exact hcell⟩
  have H := array_any W1 w.heap.size ad n c g i d hdec hg hn hi hc h0 h1
  rw [hW1] at H
  have HB : Hid (Below w.heap.size w (w.alloc (.cells #[.slice ad n c, .int .i64 i, .int .i64 d, .slice none 0 0, .string ⟨#[]⟩, .pointer none] 53))) := by rw [← hW1]; exact hb0
  clear hW1 hdec hb0 hd hlow W1
  go_enter Try.func10, Try.ntmps10
  go_wp2_with fail
  refine H.mono ?_
  rintro e w1 ⟨r, HR, rfl, d1, b1⟩
  clear H
  have c1 := d1.c1
  have c2 := d1.c2
  go_wp2
  go_quiet (fail)
  go_wp2
  go_ret3
  refine ⟨?_, below_drewN (HB.out.trans b1) _⟩
  rw [← HR.out]
  rfl
end Go.Proofs.Qxb6616402a
