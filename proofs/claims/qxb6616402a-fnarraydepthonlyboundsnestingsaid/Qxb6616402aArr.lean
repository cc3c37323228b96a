/-
  THE DECODER's Array over its own Null; ZZarrayOfNulls.
-/
import Derived.Test.Qxb6616402aLit
namespace Go.Proofs.Qxb6616402a
open Go.ChangeShapes Go.WideShapes Go.ChangeAt Go.RowKit

/-- Where the decoder in block B stands. -/
def posOf (B : Nat) (w : World) : Nat := (intOf ((w.cell? ⟨B, 1, none⟩).getD (.bool false))).toNat
theorem Dec.pos {w : World} {B : Nat} {ad : Option Addr} {n c : Nat} {g : Nat → Int} {i : Nat} {d : Int} (h : Dec w B ad n c g i d) : posOf B w = i := by
  simp [posOf, h.c1, intOf]

theorem ret_bool {a b : Bool} (h : b = a) : Ending.returned (.bool a) = .returned (.bool b) := by rw [h]

set_option maxHeartbeats 1000000 in
theorem array_in (w : World) (B : Nat) (ad : Option Addr) (n c : Nat) (g : Nat → Int) (i : Nat) (d : Int) (h : Dec w B ad n c g i d) (hg : ∀ k, 0 ≤ g k ∧ g k ≤ 255) (hn : n ≤ 1048576) (hi : i ≤ n) (hc : n ≤ c) (h0 : 0 ≤ d) (h1 : d < 64)
    (ha : Pl.at_ g n (Pl.skip g n i) 91 = true) (hb : Pl.at_ g n (Pl.skip g n (Pl.skip g n i + 1)) 93 = false) :
    Calls Try.prog 30 #[.pointer (some ⟨B, 0, none⟩), .func (.func 31) #[.pointer (some ⟨B, 0, none⟩)] #[]] w fun e w' => ∃ r, Hid (r = Pl.elems g n (Pl.skip g n i + 1)) ∧ e = .returned (.bool r.1) ∧ Dec w' B ad n c g r.2 (Pl.left d r.1) ∧ Below B w w' := by
  have hj := Pl.skip_le (g := g) hi
  have hj1 := (Pl.at_t ha).1
  have hk := Pl.skip_le (g := g) (n := n) (i := Pl.skip g n i + 1) (by omega)
  obtain ⟨r, hr⟩ : ∃ r, r = Pl.elems g n (Pl.skip g n i + 1) := ⟨_, rfl⟩
  have HR : Hid (r = Pl.elems g n (Pl.skip g n i + 1)) := hr
  have HR2 : Hid (r = Pl.elems g n (Pl.skip g n (Pl.skip g n i + 1))) := by rw [Pl.elems_skip]; exact hr
  have HT : Hid (decide (d + 1 ≤ 64) = true) := decide_eq_true (by omega)
  clear hr
  go_enter Try.func30, Try.ntmps30
  go_wp2_with fail
  refine (consume_t w B ad n c g i d 91 h hn hi (by decide) ha).mono ?_
  rintro e w1 ⟨rfl, d1, b1⟩
  go_wp2_with fail
  refine (enter_any w1 B ad n c g _ d d1 h0 (by omega)).mono ?_
  rw [HT.out]
  rintro e w2 ⟨rfl, d2, b2⟩
  go_wp2_with fail
  refine (consume_f w2 B ad n c g _ (d + 1) 93 d2 hn (by omega) (by decide) hb).mono ?_
  rintro e w3 ⟨rfl, d3, b3⟩
  have bb : Below B w w3 := (b1.trans b2).trans b3
  clear d1 d2 b1 b2 b3 hb HT ha
  go_wp2_with fail
  go_loopw [] (fun wr => ∃ k : Nat, k ≤ n ∧ Dec wr B ad n c g k (d + 1) ∧ Below B w wr ∧ Hid (r = Pl.elems g n k)) (fun wr => n - posOf B wr)
  case atStart => exact ⟨_, hk, d3, bb, HR2⟩
  case round =>
    obtain ⟨k, hkn, dk, bk, HK⟩ := hrel
    have hs := Pl.skip_le (g := g) hkn
    have hs2 := Pl.skip_ge g n k
    rcases hnl : Pl.nullAt g n (Pl.skip g n k) with _ | _
    · go_wp2_with fail
      refine (null_not wr B ad n c g k (d + 1) dk hg hn hkn hc hnl).mono ?_
      rintro e w4 ⟨rfl, d4, b4⟩
      go_wp2_with fail
      go_ret
      have e := HK.out.trans (Pl.elems_no hnl)
      exact ⟨r, HR, ret_bool (by rw [e]), by rw [e]; exact d4, bk.trans b4⟩
    · have h4 := (Pl.null_t hnl).1
      have hq := Pl.skip_le (g := g) (n := n) (i := Pl.skip g n k + 4) h4
      have hq2 := Pl.skip_ge g n (Pl.skip g n k + 4)
      rcases h93 : Pl.at_ g n (Pl.skip g n (Pl.skip g n k + 4)) 93 with _ | _
      · rcases h44 : Pl.at_ g n (Pl.skip g n (Pl.skip g n k + 4)) 44 with _ | _
        · go_wp2_with fail
          refine (null_yes wr B ad n c g k (d + 1) dk hn hkn hc hnl).mono ?_
          rintro e w4 ⟨rfl, d4, b4⟩
          go_wp2_with fail
          refine (consume_f w4 B ad n c g _ (d + 1) 93 d4 hn h4 (by decide) h93).mono ?_
          rintro e w5 ⟨rfl, d5, b5⟩
          go_wp2_with fail
          refine (consume_f w5 B ad n c g _ (d + 1) 44 d5 hn hq (by decide) (by rw [Pl.skip_idem]; exact h44)).mono ?_
          rintro e w6 ⟨rfl, d6, b6⟩
          go_wp2_with fail
          go_ret
          have e := HK.out.trans (Pl.elems_bad hnl h93 h44)
          rw [Pl.skip_idem] at d6
          exact ⟨r, HR, ret_bool (by rw [e]), by rw [e]; exact d6, ((bk.trans b4).trans b5).trans b6⟩
        · have h44n := (Pl.at_t h44).1
          go_wp2_with fail
          refine (null_yes wr B ad n c g k (d + 1) dk hn hkn hc hnl).mono ?_
          rintro e w4 ⟨rfl, d4, b4⟩
          go_wp2_with fail
          refine (consume_f w4 B ad n c g _ (d + 1) 93 d4 hn h4 (by decide) h93).mono ?_
          rintro e w5 ⟨rfl, d5, b5⟩
          go_wp2_with fail
          refine (consume_t w5 B ad n c g _ (d + 1) 44 d5 hn hq (by decide) (by rw [Pl.skip_idem]; exact h44)).mono ?_
          rintro e w6 ⟨rfl, d6, b6⟩
          rw [Pl.skip_idem] at d6
          have hp := d6.pos
          have hp0 := dk.pos
          have e := HK.out.trans (Pl.elems_on hnl h93 h44)
          have HE : Hid (r = Pl.elems g n (Pl.skip g n (Pl.skip g n k + 4) + 1)) := e
          have HP : Hid (posOf B w6 = Pl.skip g n (Pl.skip g n k + 4) + 1 ∧ posOf B wr = k) := ⟨hp, hp0⟩
          clear e hp hp0
          go_wp2_with fail
          go_roundw
          case rel => exact ⟨_, by omega, d6, ((bk.trans b4).trans b5).trans b6, HE⟩
          case measure => rw [HP.out.1, HP.out.2]; omega
      · go_wp2_with fail
        refine (null_yes wr B ad n c g k (d + 1) dk hn hkn hc hnl).mono ?_
        rintro e w4 ⟨rfl, d4, b4⟩
        go_wp2_with fail
        refine (consume_t w4 B ad n c g _ (d + 1) 93 d4 hn h4 (by decide) h93).mono ?_
        rintro e w5 ⟨rfl, d5, b5⟩
        have c2 := d5.c2
        have f2 := d5.f2
        have e := HK.out.trans (Pl.elems_end hnl h93)
        have HE : Hid (r = (true, Pl.skip g n (Pl.skip g n k + 4) + 1)) := e
        clear e
        go_wp2
        go_ret
        exact ⟨r, HR, ret_bool (by rw [HE.out]), by rw [HE.out]; exact (d5.at2 d).1, ((bk.trans b4).trans b5).trans (d5.at2 d).2⟩
end Go.Proofs.Qxb6616402a
