/-
  THE DECODER's SMALL METHODS: space, consumeByte, enter.
-/
import Derived.Test.Qxb6616402aLeaf
import Derived.Deep.QuietTactic
import Derived.BigQuiet
import Derived.WalkSmall
namespace Go.Proofs.Qxb6616402a
open Go.ChangeShapes Go.WideShapes Go.ChangeAt Go.RowKit

/-- A decoder in block B: its three fields that are read here; its bytes lie below it. -/
structure Dec (w : World) (B : Nat) (ad : Option Addr) (n c : Nat) (g : Nat → Int) (i : Nat) (d : Int) : Prop where
  c0 : w.cell? ⟨B, 0, none⟩ = some (.slice ad n c)
  c1 : w.cell? ⟨B, 1, none⟩ = some (.int .i64 i)
  c2 : w.cell? ⟨B, 2, none⟩ = some (.int .i64 d)
  f1 : w.frozen? ⟨B, 1, none⟩ = false
  f2 : w.frozen? ⟨B, 2, none⟩ = false
  dat : Dat w ad n g
  low : ∀ a, ad = some a → 0 < n → a.block < B

theorem Dec.at1 {w : World} {B : Nat} {ad : Option Addr} {n c : Nat} {g : Nat → Int} {i : Nat} {d : Int} (h : Dec w B ad n c g i d) (i' : Nat) :
    Dec (w.setCell ⟨B, 1, none⟩ (.int .i64 i')) B ad n c g i' d ∧ Below B w (w.setCell ⟨B, 1, none⟩ (.int .i64 i')) := by
  have hb : Below B w (w.setCell ⟨B, 1, none⟩ (.int .i64 i')) := (Below.refl B w).setCell (Nat.le_refl _) _
  refine ⟨⟨?_, World.cell?_setCell_same _ _ _ h.c1, ?_, by simp [h.f1], by simp [h.f2], ?_, h.low⟩, hb⟩
  · rw [World.cell?_setCell_other _ _ _ _ (by simp)]; exact h.c0
  · rw [World.cell?_setCell_other _ _ _ _ (by simp)]; exact h.c2
  · intro k hk
    obtain ⟨b, off, e, hc⟩ := h.dat k hk
    exact ⟨b, off, e, by rw [hb.cell (p := ⟨b, off + k, none⟩) (by exact h.low ⟨b, off, none⟩ e (by omega))]; exact hc⟩

theorem Dec.at2 {w : World} {B : Nat} {ad : Option Addr} {n c : Nat} {g : Nat → Int} {i : Nat} {d : Int} (h : Dec w B ad n c g i d) (d' : Int) :
    Dec (w.setCell ⟨B, 2, none⟩ (.int .i64 d')) B ad n c g i d' ∧ Below B w (w.setCell ⟨B, 2, none⟩ (.int .i64 d')) := by
  have hb : Below B w (w.setCell ⟨B, 2, none⟩ (.int .i64 d')) := (Below.refl B w).setCell (Nat.le_refl _) _
  refine ⟨⟨?_, ?_, World.cell?_setCell_same _ _ _ h.c2, by simp [h.f1], by simp [h.f2], ?_, h.low⟩, hb⟩
  · rw [World.cell?_setCell_other _ _ _ _ (by simp)]; exact h.c0
  · rw [World.cell?_setCell_other _ _ _ _ (by simp)]; exact h.c1
  · intro k hk
    obtain ⟨b, off, e, hc⟩ := h.dat k hk
    exact ⟨b, off, e, by rw [hb.cell (p := ⟨b, off + k, none⟩) (by exact h.low ⟨b, off, none⟩ e (by omega))]; exact hc⟩

theorem Dec.drawn {w : World} {B : Nat} {ad : Option Addr} {n c : Nat} {g : Nat → Int} {i : Nat} {d : Int} (h : Dec w B ad n c g i d) (m : Nat) : Dec (w.drewN m) B ad n c g i d :=
  ⟨h.c0, h.c1, h.c2, h.f1, h.f2, h.dat, h.low⟩

theorem isSp_cases {c : Int} (h : Pl.isSp c = true) : (c == 32) = true ∨ ((c == 32) = false ∧ (c == 9) = true) ∨ ((c == 32) = false ∧ (c == 9) = false ∧ (c == 10) = true) ∨ ((c == 32) = false ∧ (c == 9) = false ∧ (c == 10) = false ∧ (c == 13) = true) := by
  unfold Pl.isSp at h
  cases h1 : (c == 32) <;> cases h2 : (c == 9) <;> cases h3 : (c == 10) <;> cases h4 : (c == 13) <;> simp_all

theorem enter_any (w : World) (B : Nat) (ad : Option Addr) (n c : Nat) (g : Nat → Int) (i : Nat) (d : Int) (h : Dec w B ad n c g i d) (h0 : 0 ≤ d) (h1 : d ≤ 1048576) :
    Calls Try.prog 34 #[.pointer (some ⟨B, 0, none⟩)] w fun e w' => e = .returned (.bool (decide (d + 1 ≤ 64))) ∧ Dec w' B ad n c g i (d + 1) ∧ Below B w w' := by
  have h2 := h.at2 (d + 1)
  have H2 : Hid (Dec (w.setCell ⟨B, 2, none⟩ (.int .i64 (d + 1))) B ad n c g i (d + 1) ∧ Below B w (w.setCell ⟨B, 2, none⟩ (.int .i64 (d + 1)))) := h2
  have c2 := h.c2
  have f2 := h.f2
  clear h h2
  go_enter Try.func34, Try.ntmps34
  go_wp2
  go_ret
  exact ⟨rfl, H2.out⟩

theorem space_any (w : World) (B : Nat) (ad : Option Addr) (n c : Nat) (g : Nat → Int) (i : Nat) (d : Int) (h : Dec w B ad n c g i d) (hn : n ≤ 1048576) (hi : i ≤ n) :
    Calls Try.prog 35 #[.pointer (some ⟨B, 0, none⟩)] w fun e w' => e = .returned (.tuple #[]) ∧ Dec w' B ad n c g (Pl.skip g n i) d ∧ Below B w w' := by
  obtain ⟨r, hr⟩ : ∃ r, r = Pl.skip g n i := ⟨_, rfl⟩
  rw [← hr]
  have HR : Hid (r = Pl.skip g n i) := hr
  clear hr
  have c0 := h.c0
  have c1 := h.c1
  have f1 := h.f1
  go_enter Try.func35, Try.ntmps35
  go_wp2
  go_quiet (fail)
  go_wp2
  go_loop [3] (fun t => ∃ k : Nat, k ≤ n ∧ t = .int .i64 k ∧ Hid (r = Pl.skip g n k)) (fun t => n - (intOf t).toNat)
  case atStart => exact ⟨i, hi, rfl, HR⟩
  case round =>
    obtain ⟨k, hk, rfl, HK⟩ := hrel
    clear HR
    by_cases hlt : k < n
    · obtain ⟨b, off, rfl, hcell⟩ := h.dat k hlt
      rcases hsp : Pl.isSp (g k) with _ | _
      · have h4 : (g k == 32) = false ∧ (g k == 9) = false ∧ (g k == 10) = false ∧ (g k == 13) = false := by simpa [Pl.isSp, and_assoc] using hsp
        obtain ⟨q1, q2, q3, q4⟩ := h4
        go_wp2
        go_end0
        have e : r = k := by rw [HK.out, Pl.skip_stop (by simp [hsp])]
        subst e
        exact ⟨rfl, (h.at1 r).1.drawn _, below_drewN (h.at1 r).2 _⟩
      · have h4 := isSp_cases hsp
        have HN : Hid (r = Pl.skip g n (k + 1)) := by have := HK.out; rw [Pl.skip_step hlt hsp] at this; exact this
        clear hsp HK
        rcases h4 with q | ⟨q0, q⟩ | ⟨q0, q1, q⟩ | ⟨q0, q1, q2, q⟩
        all_goals
          go_wp2
          go_round
          case rel => exact ⟨k + 1, by omega, by go_num, HN⟩
          case measure => simp [intOf]; omega
    · go_wp2
      go_end0
      have e : r = k := by rw [HK.out, Pl.skip_stop (by omega)]
      subst e
      exact ⟨rfl, (h.at1 r).1.drawn _, below_drewN (h.at1 r).2 _⟩
end Go.Proofs.Qxb6616402a
