/-
  FnArrayDepthOnlyBoundsNesting, inside its bounds: one theorem a way.
-/
import Derived.Test.Qxb6616402aBoth
namespace Go.Proofs.Qxb6616402a
open Go.ChangeShapes Go.WideShapes Go.ChangeAt Go.RowKit

theorem Dat.under {w w' : World} {ad : Option Addr} {n : Nat} {g : Nat → Int} (h : Dat w ad n g) (hlow : ∀ a, ad = some a → 0 < n → a.block < w.heap.size) (hb : Below w.heap.size w w') : Dat w' ad n g := by
  intro k hk
  obtain ⟨b, off, e, hcell⟩ := h k hk
  exact ⟨b, off, e, by rw [hb.cell (p := ⟨b, off + k, none⟩) (by exact hlow ⟨b, off, none⟩ e (by omega))]; exact hcell⟩
theorem low_under {w w' : World} {ad : Option Addr} {n : Nat} (hlow : ∀ a, ad = some a → 0 < n → a.block < w.heap.size) (hb : Below w.heap.size w w') : ∀ a, ad = some a → 0 < n → a.block < w'.heap.size :=
  fun a e h => Nat.lt_of_lt_of_le (hlow a e h) hb.size
theorem skipSpace_int (ad : Option Addr) (n c : Nat) (g : Nat → Int) (x : Int) (i : Nat) (w : World) (hx : x = (i : Int)) (hd : Dat w ad n g) (hn : n ≤ 1048576) (hi : i ≤ n) :
    Calls Try.prog 13 #[.slice ad n c, .int .i64 x] w fun e w' => e = .returned (.int .i64 (Pl.skip g n i)) ∧ w' = w := by
  subst hx
  exact skipSpace_any ad n c g i w hd hn hi

/-- No '[' stands there. -/
theorem depth_no (a0 : Option Addr) (n c0 : Nat) (g : Nat → Int) (i : Nat) (d : Int) (w : World)
    (HRow : Hid ((a0 = none ∧ n = 0 ∧ c0 = 0) ∨ ∃ x, a0 = some x ∧ Dat w (some x) n g ∧ (0 < n → x.block < w.heap.size))) (HG : Hid (∀ k, 0 ≤ g k ∧ g k ≤ 255)) (hn : n ≤ 1048576) (hi : i ≤ n) (h0 : 0 ≤ d) (h1 : d ≤ 1048576)
    (ha : Pl.at_ g n (Pl.skip g n i) 91 = false) :
    Calls Try.prog 4 #[.slice a0 n c0, .int .i64 i, .int .i64 d] w fun e w' => e = .returned (.bool true) ∧ Below w.heap.size w w' := by
  have HE0 : Hid (Pl.arr g n i 0 = (false, Pl.skip g n i, 0)) := by simp [Hid, Pl.arr, ha]
  have HE1 : Hid (Pl.arr g n i d = (false, Pl.skip g n i, d)) := by simp [Hid, Pl.arr, ha]
  have hq := Pl.skip_le (g := g) hi
  have HF : Hid (¬ (Pl.skip g n i < n ∧ g (Pl.skip g n i) = 91)) := Pl.at_f ha
  clear ha
  by_cases hlt : Pl.skip g n i < n
  · have he : (g (Pl.skip g n i) == 91) = false := by rw [beq_eq_false_iff_ne]; intro e; exact HF.out ⟨hlt, e⟩
    by_cases h64 : d < 64
    all_goals
      go_enter Try.func4, Try.ntmps4
      go_wp2_with fail
      refine (bytes12_t _ _ _ _ _ _ hn).mono ?_
      rintro e w' ⟨rfl, rfl⟩
      go_wp2_with fail
      refine (clone_all a0 n c0 g _ hn HRow.out).mono ?_
      rintro e w1 ⟨ad, c1, rfl, hc1, hdat, hlow, hb1⟩
      go_wp2_with fail
      have Z0 := zz_any ad n c1 g i 0 w1 hdat hlow HG.out hn hi hc1 (by omega) (by omega)
      rw [HE0.out] at Z0
      refine Z0.mono ?_
      clear Z0
      rintro e w2 ⟨rfl, hb2⟩
      have hdat2 := hdat.under hlow hb2
      have hlow2 := low_under hlow hb2
      go_wp2_with fail
      have Z1 := zz_any ad n c1 g i d w2 hdat2 hlow2 HG.out hn hi hc1 (by omega) (by omega)
      rw [HE1.out] at Z1
      refine Z1.mono ?_
      clear Z1
      rintro e w3 ⟨rfl, hb3⟩
      have hdat3 := hdat2.under hlow2 hb3
      have HB : Hid (Below w'.heap.size w' w3) := (hb1.trans (hb2.mono hb1.size)).trans (hb3.mono (Nat.le_trans hb1.size hb2.size))
      clear hdat hdat2 hlow hlow2 hb1 hb2 hb3
      go_wp2_with fail
      refine (skipSpace_any ad n c1 g i w3 hdat3 hn hi).mono ?_
      rintro e w4 ⟨rfl, rfl⟩
      obtain ⟨b, off, rfl, hcell⟩ := hdat3 _ hlt
      go_wp2
      go_ret
      exact ⟨rfl, HB.out⟩
  · by_cases h64 : d < 64
    all_goals
      go_enter Try.func4, Try.ntmps4
      go_wp2_with fail
      refine (bytes12_t _ _ _ _ _ _ hn).mono ?_
      rintro e w' ⟨rfl, rfl⟩
      go_wp2_with fail
      refine (clone_all a0 n c0 g _ hn HRow.out).mono ?_
      rintro e w1 ⟨ad, c1, rfl, hc1, hdat, hlow, hb1⟩
      go_wp2_with fail
      have Z0 := zz_any ad n c1 g i 0 w1 hdat hlow HG.out hn hi hc1 (by omega) (by omega)
      rw [HE0.out] at Z0
      refine Z0.mono ?_
      clear Z0
      rintro e w2 ⟨rfl, hb2⟩
      have hdat2 := hdat.under hlow hb2
      have hlow2 := low_under hlow hb2
      go_wp2_with fail
      have Z1 := zz_any ad n c1 g i d w2 hdat2 hlow2 HG.out hn hi hc1 (by omega) (by omega)
      rw [HE1.out] at Z1
      refine Z1.mono ?_
      clear Z1
      rintro e w3 ⟨rfl, hb3⟩
      have hdat3 := hdat2.under hlow2 hb3
      have HB : Hid (Below w'.heap.size w' w3) := (hb1.trans (hb2.mono hb1.size)).trans (hb3.mono (Nat.le_trans hb1.size hb2.size))
      clear hdat hdat2 hlow hlow2 hb1 hb2 hb3
      go_wp2_with fail
      refine (skipSpace_any ad n c1 g i w3 hdat3 hn hi).mono ?_
      rintro e w4 ⟨rfl, rfl⟩
      go_wp2
      go_ret
      exact ⟨rfl, HB.out⟩

set_option maxHeartbeats 1000000 in
/-- '[' stands there: what the two readers answer is told by the caller. -/
theorem depth_open (a0 : Option Addr) (n c0 : Nat) (g : Nat → Int) (i : Nat) (d : Int) (w : World)
    (HRow : Hid ((a0 = none ∧ n = 0 ∧ c0 = 0) ∨ ∃ x, a0 = some x ∧ Dat w (some x) n g ∧ (0 < n → x.block < w.heap.size))) (HG : Hid (∀ k, 0 ≤ g k ∧ g k ≤ 255)) (hn : n ≤ 1048576) (hi : i ≤ n) (h0 : 0 ≤ d) (h1 : d ≤ 1048576)
    (ha : Pl.at_ g n (Pl.skip g n i) 91 = true) (o0 o1 : Bool) (e0 e1 : Nat) (d0 d1 : Int) (HE0 : Hid (Pl.arr g n i 0 = (o0, e0, d0))) (HE1 : Hid (Pl.arr g n i d = (o1, e1, d1)))
    (HZ : Hid (Pl.at_ g n (Pl.skip g n (Pl.skip g n i + 1)) 93 = true → o0 = true ∧ e0 = Pl.skip g n (Pl.skip g n i + 1) + 1 ∧ d0 = 0))
    (HL : Hid (d < 64 → o1 = o0 ∧ e1 = e0 ∧ d1 = d + d0)) (HM : Hid (64 ≤ d → o1 = false ∧ e1 = Pl.skip g n i + 1 ∧ d1 = d + 1)) (hd0 : 0 ≤ d0) (hd1 : d0 ≤ 1) :
    Calls Try.prog 4 #[.slice a0 n c0, .int .i64 i, .int .i64 d] w fun e w' => e = .returned (.bool true) ∧ Below w.heap.size w w' := by
  have hq := Pl.skip_le (g := g) hi
  obtain ⟨hlt, hge⟩ := Pl.at_t ha
  have he : (g (Pl.skip g n i) == 91) = true := by simpa using hge
  clear ha hge
  have hq2 := Pl.skip_le (g := g) (n := n) (i := Pl.skip g n i + 1) (by omega)
  by_cases h64 : d < 64
  · obtain ⟨rfl, rfl, rfl⟩ := HL.out h64
    clear HL HM
    rcases h93 : Pl.at_ g n (Pl.skip g n (Pl.skip g n i + 1)) 93 with _ | _
    · have HF2 : Hid (¬ (Pl.skip g n (Pl.skip g n i + 1) < n ∧ g (Pl.skip g n (Pl.skip g n i + 1)) = 93)) := Pl.at_f h93
      clear h93 HZ
      by_cases hlt2 : Pl.skip g n (Pl.skip g n i + 1) < n
      · have he2 : (g (Pl.skip g n (Pl.skip g n i + 1)) == 93) = false := by rw [beq_eq_false_iff_ne]; intro e; exact HF2.out ⟨hlt2, e⟩
        go_enter Try.func4, Try.ntmps4
        go_wp2_with fail
        refine (bytes12_t _ _ _ _ _ _ hn).mono ?_
        rintro e w' ⟨rfl, rfl⟩
        go_wp2_with fail
        refine (clone_all a0 n c0 g _ hn HRow.out).mono ?_
        rintro e w1 ⟨ad, c1, rfl, hc1, hdat, hlow, hb1⟩
        go_wp2_with fail
        have Z0 := zz_any ad n c1 g i 0 w1 hdat hlow HG.out hn hi hc1 (by omega) (by omega)
        rw [HE0.out] at Z0
        refine Z0.mono ?_
        clear Z0
        rintro e w2 ⟨rfl, hb2⟩
        have hdat2 := hdat.under hlow hb2
        have hlow2 := low_under hlow hb2
        go_wp2_with fail
        have Z1 := zz_any ad n c1 g i d w2 hdat2 hlow2 HG.out hn hi hc1 (by omega) (by omega)
        rw [HE1.out] at Z1
        refine Z1.mono ?_
        clear Z1
        rintro e w3 ⟨rfl, hb3⟩
        have hdat3 := hdat2.under hlow2 hb3
        have HB : Hid (Below w'.heap.size w' w3) := (hb1.trans (hb2.mono hb1.size)).trans (hb3.mono (Nat.le_trans hb1.size hb2.size))
        clear hdat hdat2 hlow hlow2 hb1 hb2 hb3
        go_wp2_with fail
        refine (skipSpace_any ad n c1 g i w3 hdat3 hn hi).mono ?_
        rintro e w4 ⟨rfl, rfl⟩
        obtain ⟨b, off, rfl, hcell⟩ := hdat3 _ hlt
        have hcell2 := hdat3.cell hlt2
        go_wp2_with (go_at_call 13; refine (skipSpace_int _ n _ g _ (Pl.skip g n i + 1) _ (by omega) hdat3 hn (by omega)).mono ?_; rintro e w' ⟨rfl, rfl⟩)
        go_ret
        exact ⟨ret_bool (beq_iff_eq.2 (by omega)).symm, HB.out⟩
      · go_enter Try.func4, Try.ntmps4
        go_wp2_with fail
        refine (bytes12_t _ _ _ _ _ _ hn).mono ?_
        rintro e w' ⟨rfl, rfl⟩
        go_wp2_with fail
        refine (clone_all a0 n c0 g _ hn HRow.out).mono ?_
        rintro e w1 ⟨ad, c1, rfl, hc1, hdat, hlow, hb1⟩
        go_wp2_with fail
        have Z0 := zz_any ad n c1 g i 0 w1 hdat hlow HG.out hn hi hc1 (by omega) (by omega)
        rw [HE0.out] at Z0
        refine Z0.mono ?_
        clear Z0
        rintro e w2 ⟨rfl, hb2⟩
        have hdat2 := hdat.under hlow hb2
        have hlow2 := low_under hlow hb2
        go_wp2_with fail
        have Z1 := zz_any ad n c1 g i d w2 hdat2 hlow2 HG.out hn hi hc1 (by omega) (by omega)
        rw [HE1.out] at Z1
        refine Z1.mono ?_
        clear Z1
        rintro e w3 ⟨rfl, hb3⟩
        have hdat3 := hdat2.under hlow2 hb3
        have HB : Hid (Below w'.heap.size w' w3) := (hb1.trans (hb2.mono hb1.size)).trans (hb3.mono (Nat.le_trans hb1.size hb2.size))
        clear hdat hdat2 hlow hlow2 hb1 hb2 hb3
        go_wp2_with fail
        refine (skipSpace_any ad n c1 g i w3 hdat3 hn hi).mono ?_
        rintro e w4 ⟨rfl, rfl⟩
        obtain ⟨b, off, rfl, hcell⟩ := hdat3 _ hlt
        go_wp2_with (go_at_call 13; refine (skipSpace_int _ n _ g _ (Pl.skip g n i + 1) _ (by omega) hdat3 hn (by omega)).mono ?_; rintro e w' ⟨rfl, rfl⟩)
        go_ret
        exact ⟨ret_bool (beq_iff_eq.2 (by omega)).symm, HB.out⟩
    · obtain ⟨rfl, rfl, rfl⟩ := HZ.out h93
      obtain ⟨hlt2, hge2⟩ := Pl.at_t h93
      have he2 : (g (Pl.skip g n (Pl.skip g n i + 1)) == 93) = true := by simpa using hge2
      clear h93 HZ hge2
      go_enter Try.func4, Try.ntmps4
      go_wp2_with fail
      refine (bytes12_t _ _ _ _ _ _ hn).mono ?_
      rintro e w' ⟨rfl, rfl⟩
      go_wp2_with fail
      refine (clone_all a0 n c0 g _ hn HRow.out).mono ?_
      rintro e w1 ⟨ad, c1, rfl, hc1, hdat, hlow, hb1⟩
      go_wp2_with fail
      have Z0 := zz_any ad n c1 g i 0 w1 hdat hlow HG.out hn hi hc1 (by omega) (by omega)
      rw [HE0.out] at Z0
      refine Z0.mono ?_
      clear Z0
      rintro e w2 ⟨rfl, hb2⟩
      have hdat2 := hdat.under hlow hb2
      have hlow2 := low_under hlow hb2
      go_wp2_with fail
      have Z1 := zz_any ad n c1 g i d w2 hdat2 hlow2 HG.out hn hi hc1 (by omega) (by omega)
      rw [HE1.out] at Z1
      refine Z1.mono ?_
      clear Z1
      rintro e w3 ⟨rfl, hb3⟩
      have hdat3 := hdat2.under hlow2 hb3
      have HB : Hid (Below w'.heap.size w' w3) := (hb1.trans (hb2.mono hb1.size)).trans (hb3.mono (Nat.le_trans hb1.size hb2.size))
      clear hdat hdat2 hlow hlow2 hb1 hb2 hb3
      go_wp2_with fail
      refine (skipSpace_any ad n c1 g i w3 hdat3 hn hi).mono ?_
      rintro e w4 ⟨rfl, rfl⟩
      obtain ⟨b, off, rfl, hcell⟩ := hdat3 _ hlt
      have hcell2 := hdat3.cell hlt2
      go_wp2_with (go_at_call 13; refine (skipSpace_int _ n _ g _ (Pl.skip g n i + 1) _ (by omega) hdat3 hn (by omega)).mono ?_; rintro e w' ⟨rfl, rfl⟩)
      go_ret
      exact ⟨rfl, HB.out⟩
  · obtain ⟨rfl, rfl, rfl⟩ := HM.out (by omega)
    clear HL HM
    rcases h93 : Pl.at_ g n (Pl.skip g n (Pl.skip g n i + 1)) 93 with _ | _
    · have HF2 : Hid (¬ (Pl.skip g n (Pl.skip g n i + 1) < n ∧ g (Pl.skip g n (Pl.skip g n i + 1)) = 93)) := Pl.at_f h93
      clear h93 HZ
      by_cases hlt2 : Pl.skip g n (Pl.skip g n i + 1) < n
      · have he2 : (g (Pl.skip g n (Pl.skip g n i + 1)) == 93) = false := by rw [beq_eq_false_iff_ne]; intro e; exact HF2.out ⟨hlt2, e⟩
        go_enter Try.func4, Try.ntmps4
        go_wp2_with fail
        refine (bytes12_t _ _ _ _ _ _ hn).mono ?_
        rintro e w' ⟨rfl, rfl⟩
        go_wp2_with fail
        refine (clone_all a0 n c0 g _ hn HRow.out).mono ?_
        rintro e w1 ⟨ad, c1, rfl, hc1, hdat, hlow, hb1⟩
        go_wp2_with fail
        have Z0 := zz_any ad n c1 g i 0 w1 hdat hlow HG.out hn hi hc1 (by omega) (by omega)
        rw [HE0.out] at Z0
        refine Z0.mono ?_
        clear Z0
        rintro e w2 ⟨rfl, hb2⟩
        have hdat2 := hdat.under hlow hb2
        have hlow2 := low_under hlow hb2
        go_wp2_with fail
        have Z1 := zz_any ad n c1 g i d w2 hdat2 hlow2 HG.out hn hi hc1 (by omega) (by omega)
        rw [HE1.out] at Z1
        refine Z1.mono ?_
        clear Z1
        rintro e w3 ⟨rfl, hb3⟩
        have hdat3 := hdat2.under hlow2 hb3
        have HB : Hid (Below w'.heap.size w' w3) := (hb1.trans (hb2.mono hb1.size)).trans (hb3.mono (Nat.le_trans hb1.size hb2.size))
        clear hdat hdat2 hlow hlow2 hb1 hb2 hb3
        go_wp2_with fail
        refine (skipSpace_any ad n c1 g i w3 hdat3 hn hi).mono ?_
        rintro e w4 ⟨rfl, rfl⟩
        obtain ⟨b, off, rfl, hcell⟩ := hdat3 _ hlt
        have hcell2 := hdat3.cell hlt2
        go_wp2_with (go_at_call 13; refine (skipSpace_int _ n _ g _ (Pl.skip g n i + 1) _ (by omega) hdat3 hn (by omega)).mono ?_; rintro e w' ⟨rfl, rfl⟩)
        go_ret
        exact ⟨rfl, HB.out⟩
      · go_enter Try.func4, Try.ntmps4
        go_wp2_with fail
        refine (bytes12_t _ _ _ _ _ _ hn).mono ?_
        rintro e w' ⟨rfl, rfl⟩
        go_wp2_with fail
        refine (clone_all a0 n c0 g _ hn HRow.out).mono ?_
        rintro e w1 ⟨ad, c1, rfl, hc1, hdat, hlow, hb1⟩
        go_wp2_with fail
        have Z0 := zz_any ad n c1 g i 0 w1 hdat hlow HG.out hn hi hc1 (by omega) (by omega)
        rw [HE0.out] at Z0
        refine Z0.mono ?_
        clear Z0
        rintro e w2 ⟨rfl, hb2⟩
        have hdat2 := hdat.under hlow hb2
        have hlow2 := low_under hlow hb2
        go_wp2_with fail
        have Z1 := zz_any ad n c1 g i d w2 hdat2 hlow2 HG.out hn hi hc1 (by omega) (by omega)
        rw [HE1.out] at Z1
        refine Z1.mono ?_
        clear Z1
        rintro e w3 ⟨rfl, hb3⟩
        have hdat3 := hdat2.under hlow2 hb3
        have HB : Hid (Below w'.heap.size w' w3) := (hb1.trans (hb2.mono hb1.size)).trans (hb3.mono (Nat.le_trans hb1.size hb2.size))
        clear hdat hdat2 hlow hlow2 hb1 hb2 hb3
        go_wp2_with fail
        refine (skipSpace_any ad n c1 g i w3 hdat3 hn hi).mono ?_
        rintro e w4 ⟨rfl, rfl⟩
        obtain ⟨b, off, rfl, hcell⟩ := hdat3 _ hlt
        go_wp2_with (go_at_call 13; refine (skipSpace_int _ n _ g _ (Pl.skip g n i + 1) _ (by omega) hdat3 hn (by omega)).mono ?_; rintro e w' ⟨rfl, rfl⟩)
        go_ret
        exact ⟨rfl, HB.out⟩
    · obtain ⟨rfl, rfl, rfl⟩ := HZ.out h93
      obtain ⟨hlt2, hge2⟩ := Pl.at_t h93
      have he2 : (g (Pl.skip g n (Pl.skip g n i + 1)) == 93) = true := by simpa using hge2
      clear h93 HZ hge2
      go_enter Try.func4, Try.ntmps4
      go_wp2_with fail
      refine (bytes12_t _ _ _ _ _ _ hn).mono ?_
      rintro e w' ⟨rfl, rfl⟩
      go_wp2_with fail
      refine (clone_all a0 n c0 g _ hn HRow.out).mono ?_
      rintro e w1 ⟨ad, c1, rfl, hc1, hdat, hlow, hb1⟩
      go_wp2_with fail
      have Z0 := zz_any ad n c1 g i 0 w1 hdat hlow HG.out hn hi hc1 (by omega) (by omega)
      rw [HE0.out] at Z0
      refine Z0.mono ?_
      clear Z0
      rintro e w2 ⟨rfl, hb2⟩
      have hdat2 := hdat.under hlow hb2
      have hlow2 := low_under hlow hb2
      go_wp2_with fail
      have Z1 := zz_any ad n c1 g i d w2 hdat2 hlow2 HG.out hn hi hc1 (by omega) (by omega)
      rw [HE1.out] at Z1
      refine Z1.mono ?_
      clear Z1
      rintro e w3 ⟨rfl, hb3⟩
      have hdat3 := hdat2.under hlow2 hb3
      have HB : Hid (Below w'.heap.size w' w3) := (hb1.trans (hb2.mono hb1.size)).trans (hb3.mono (Nat.le_trans hb1.size hb2.size))
      clear hdat hdat2 hlow hlow2 hb1 hb2 hb3
      go_wp2_with fail
      refine (skipSpace_any ad n c1 g i w3 hdat3 hn hi).mono ?_
      rintro e w4 ⟨rfl, rfl⟩
      obtain ⟨b, off, rfl, hcell⟩ := hdat3 _ hlt
      have hcell2 := hdat3.cell hlt2
      go_wp2_with (go_at_call 13; refine (skipSpace_int _ n _ g _ (Pl.skip g n i + 1) _ (by omega) hdat3 hn (by omega)).mono ?_; rintro e w' ⟨rfl, rfl⟩)
      go_ret
      exact ⟨rfl, HB.out⟩

theorem depth_main (a0 : Option Addr) (n c0 : Nat) (g : Nat → Int) (i : Nat) (d : Int) (w : World)
    (hrow : (a0 = none ∧ n = 0 ∧ c0 = 0) ∨ ∃ x, a0 = some x ∧ Dat w (some x) n g ∧ (0 < n → x.block < w.heap.size)) (hg : ∀ k, 0 ≤ g k ∧ g k ≤ 255) (hn : n ≤ 1048576) (hi : i ≤ n) (h0 : 0 ≤ d) (h1 : d ≤ 1048576) :
    Calls Try.prog 4 #[.slice a0 n c0, .int .i64 i, .int .i64 d] w fun e w' => e = .returned (.bool true) ∧ Below w.heap.size w w' := by
  rcases ha : Pl.at_ g n (Pl.skip g n i) 91 with _ | _
  · exact depth_no a0 n c0 g i d w hrow hg hn hi h0 h1 ha
  · refine depth_open a0 n c0 g i d w hrow hg hn hi h0 h1 ha (Pl.arr g n i 0).1 (Pl.arr g n i d).1 (Pl.arr g n i 0).2.1 (Pl.arr g n i d).2.1 (Pl.arr g n i 0).2.2 (Pl.arr g n i d).2.2 rfl rfl ?_ ?_ ?_ ?_ ?_
    · intro h93
      simp [Pl.arr, ha, Pl.opened, h93, Pl.left]
    · intro h64
      have h64' : ¬ 64 ≤ d := by omega
      simp only [Pl.arr, ha, if_pos, if_neg h64', show ¬ (64 : Int) ≤ 0 from by decide, if_false]
      refine ⟨trivial, trivial, ?_⟩
      unfold Pl.left
      split <;> omega
    · intro h64
      simp [Pl.arr, ha, h64]
    · simp only [Pl.arr, ha, if_pos, show ¬ (64 : Int) ≤ 0 from by decide, if_false]
      unfold Pl.left
      split <;> omega
    · simp only [Pl.arr, ha, if_pos, show ¬ (64 : Int) ≤ 0 from by decide, if_false]
      unfold Pl.left
      split <;> omega
end Go.Proofs.Qxb6616402a
