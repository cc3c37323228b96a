/-
  overlap, ZZoverlap.
-/
import Derived.Test.Qxb6617659aFind
namespace Go.Proofs.Qxb6617659a
open Go.ChangeShapes Go.WideShapes Go.ChangeAt Go.RowKit

/-- What is left shares a number. -/
def Left2 (f : Nat → Int) (n i : Nat) (g : Nat → Int) (m j : Nat) : Prop := ∃ p, i ≤ p ∧ p < n ∧ ∃ q, j ≤ q ∧ q < m ∧ f p = g q

theorem left_lt {f g : Nat → Int} {n i m j : Nat} (hv : Up g m) (h : f i < g j) : Left2 f n i g m j ↔ Left2 f n (i + 1) g m j := by
  refine ⟨fun ⟨p, h1, h2, q, h3, h4, e⟩ => ⟨p, ?_, h2, q, h3, h4, e⟩, fun ⟨p, h1, h2, q, h3, h4, e⟩ => ⟨p, by omega, h2, q, h3, h4, e⟩⟩
  by_cases e1 : p = i
  · subst e1
    have := hv.mono h3 h4
    omega
  · omega
theorem left_gt {f g : Nat → Int} {n i m j : Nat} (hu : Up f n) (h : g j < f i) : Left2 f n i g m j ↔ Left2 f n i g m (j + 1) := by
  refine ⟨fun ⟨p, h1, h2, q, h3, h4, e⟩ => ⟨p, h1, h2, q, ?_, h4, e⟩, fun ⟨p, h1, h2, q, h3, h4, e⟩ => ⟨p, h1, h2, q, by omega, h4, e⟩⟩
  by_cases e1 : q = j
  · subst e1
    have := hu.mono h1 h2
    omega
  · omega

/-- How many elements: for the loop's measure. -/
def lenOf : Value → Nat | .slice _ n _ => n | _ => 0

theorem tail_dat {w : World} {b off : Nat} {n i sc : Nat} {f : Nat → Int} (h : Dat w (some ⟨b, off, none⟩) (n - i) (fun k => f (i + k))) (hsc : n - i ≤ sc) :
    Dat w (if sc = 1 then some ⟨b, off, none⟩ else some ⟨b, off + 1, none⟩) (n - (i + 1)) (fun k => f (i + 1 + k)) := by
  intro k hk
  rw [if_neg (by omega)]
  refine ⟨b, off + 1, rfl, ?_⟩
  have := h.cell (k := k + 1) (by omega)
  show w.cell? ⟨b, off + 1 + k, none⟩ = some (.int .u32 (f (i + 1 + k)))
  rw [show off + 1 + k = off + (k + 1) from by omega, show i + 1 + k = i + (k + 1) from by omega]
  exact this

theorem slice_eq {a a' : Option Addr} {n n' c c' : Nat} (h1 : a = a') (h2 : n = n') (h3 : c = c') : Value.slice a n c = .slice a' n' c' := by rw [h1, h2, h3]

set_option maxHeartbeats 1000000 in
theorem over_any (ad : Option Addr) (n c : Nat) (f : Nat → Int) (bd : Option Addr) (m d : Nat) (g : Nat → Int) (w : World) (hda : Dat w ad n f) (hdb : Dat w bd m g) (hn : n ≤ 65536) (hm : m ≤ 65536) (hnc : n ≤ c) (hmd : m ≤ d) (hc : c ≤ 9223372036854775807) (hd : d ≤ 9223372036854775807)
    (hup : Up f n) (hvp : Up g m) (R : Bool) (HR : Tells R (∃ i, i < n ∧ ∃ j, j < m ∧ f i = g j)) :
    Calls Try.prog 9 #[.slice ad n c, .slice bd m d] w fun e w' => e = .returned (.bool R) ∧ ∃ q, w' = w.drewN q := by
  have HU : Hid (Up f n) := hup
  have HV : Hid (Up g m) := hvp
  have H0 : Hid (Tells R (Left2 f n 0 g m 0)) := by
    show _ ↔ _
    rw [show (R = true ↔ _) ↔ _ from Iff.rfl]
    exact HR.trans ⟨fun ⟨i, hi, j, hj, e⟩ => ⟨i, by omega, hi, j, by omega, hj, e⟩, fun ⟨i, _, hi, j, _, hj, e⟩ => ⟨i, hi, j, hj, e⟩⟩
  have HA0 : Hid (Dat w ad (n - 0) (fun k => f (0 + k))) := by simpa [Hid] using hda
  have HB0 : Hid (Dat w bd (m - 0) (fun k => g (0 + k))) := by simpa [Hid] using hdb
  clear hup hvp HR hda hdb
  go_enter Try.func9, Try.ntmps9
  go_wp2
  go_loopw [0, 1] (fun s t wr => ∃ (i j : Nat) (sa ta : Option Addr) (sc tc : Nat), i ≤ n ∧ j ≤ m ∧ s = .slice sa (n - i) sc ∧ t = .slice ta (m - j) tc ∧ n - i ≤ sc ∧ m - j ≤ tc ∧ sc ≤ 9223372036854775807 ∧ tc ≤ 9223372036854775807 ∧
      Hid (Dat w sa (n - i) (fun k => f (i + k))) ∧ Hid (Dat w ta (m - j) (fun k => g (j + k))) ∧ Hid (Tells R (Left2 f n i g m j)) ∧ ∃ q, wr = w.drewN q)
    (fun s t _ => lenOf s + lenOf t)
  case atStart => exact ⟨0, 0, ad, bd, c, d, by omega, by omega, rfl, rfl, hnc, hmd, hc, hd, HA0, HB0, H0, 0, rfl⟩
  case round =>
    obtain ⟨i, j, sa, ta, sc, tc, hi, hj, rfl, rfl, hsc, htc, hsc2, htc2, HA, HB, HL, q, rfl⟩ := hrel
    by_cases hin : i < n
    · by_cases hjm : j < m
      · obtain ⟨b, off, rfl, ca⟩ := HA.out 0 (by omega)
        obtain ⟨b2, off2, rfl, cb⟩ := HB.out 0 (by omega)
        simp only [Nat.add_zero] at ca cb
        have l1 : (0 : Int) < ((n - i : Nat) : Int) := by omega
        have l2 : (0 : Int) < ((m - j : Nat) : Int) := by omega
        rcases he : (f i == g j) with _ | _
        · by_cases hlt : f i < g j
          · have HT : Hid (Dat w (if sc = 1 then some ⟨b, off, none⟩ else some ⟨b, off + 1, none⟩) (n - (i + 1)) (fun k => f (i + 1 + k))) := tail_dat HA.out hsc
            have HN : Hid (Tells R (Left2 f n (i + 1) g m j)) := HL.out.trans (left_lt HV.out hlt)
            go_wp2
            go_quiet (fail)
            go_wp2
            go_quiet (fail)
            go_wp2
            go_roundw
            case rel => exact ⟨i + 1, j, _, _, sc - 1, tc, by omega, hj, slice_eq rfl (by omega) rfl, rfl, by omega, htc, by omega, htc2, HT, HB, HN, _, rfl⟩
            case measure => simp [lenOf]; omega
          · have hgt : g j < f i := by rw [beq_eq_false_iff_ne] at he; omega
            have HT : Hid (Dat w (if tc = 1 then some ⟨b2, off2, none⟩ else some ⟨b2, off2 + 1, none⟩) (m - (j + 1)) (fun k => g (j + 1 + k))) := tail_dat HB.out htc
            have HN : Hid (Tells R (Left2 f n i g m (j + 1))) := HL.out.trans (left_gt HU.out hgt)
            go_wp2
            go_quiet (fail)
            go_wp2
            go_quiet (fail)
            go_wp2
            go_roundw
            case rel => exact ⟨i, j + 1, _, _, sc, tc - 1, hi, by omega, rfl, slice_eq rfl (by omega) rfl, hsc, by omega, hsc2, by omega, HA, HT, HN, _, rfl⟩
            case measure => simp [lenOf]; omega
        · have HN : Hid (R = true) := HL.out.yes ⟨i, Nat.le_refl _, hin, j, Nat.le_refl _, hjm, eq_of_beq he⟩
          go_wp2
          go_quiet (fail)
          go_wp2
          go_ret
          exact ⟨ret_bool HN.out, _, by rw [World.drewN_drewN]⟩
      · have HN : Hid (R = false) := HL.out.no (fun ⟨p, h1, h2, q, h3, h4, e⟩ => by omega)
        have l1 : (0 : Int) < ((n - i : Nat) : Int) := by omega
        have l2 : m - j = 0 := by omega
        clear HA HB HL
        rw [l2]
        clear l2 htc
        go_wp2
        go_ret
        exact ⟨ret_bool HN.out, _, rfl⟩
    · have HN : Hid (R = false) := HL.out.no (fun ⟨p, h1, h2, q, h3, h4, e⟩ => by omega)
      have l1 : n - i = 0 := by omega
      clear HA HB HL
      rw [l1]
      clear l1 hsc
      go_wp2
      go_ret
      exact ⟨ret_bool HN.out, _, rfl⟩

theorem zz_any (ad : Option Addr) (n c : Nat) (f : Nat → Int) (bd : Option Addr) (m d : Nat) (g : Nat → Int) (w : World) (hda : Dat w ad n f) (hdb : Dat w bd m g) (hn : n ≤ 65536) (hm : m ≤ 65536) (hnc : n ≤ c) (hmd : m ≤ d) (hc : c ≤ 9223372036854775807) (hd : d ≤ 9223372036854775807)
    (hup : Up f n) (hvp : Up g m) (R : Bool) (HR : Tells R (∃ i, i < n ∧ ∃ j, j < m ∧ f i = g j)) :
    Calls Try.prog 7 #[.slice ad n c, .slice bd m d] w fun e w' => e = .returned (.bool R) ∧ ∃ q, w' = w.drewN q := by
  go_enter Try.func7, Try.ntmps7
  go_wp2_with fail
  refine (over_any ad n c f bd m d g w hda hdb hn hm hnc hmd hc hd hup hvp R HR).mono ?_
  rintro e w' ⟨rfl, q, rfl⟩
  go_wp2_with fail
  go_ret
  exact ⟨rfl, q, rfl⟩
end Go.Proofs.Qxb6617659a
