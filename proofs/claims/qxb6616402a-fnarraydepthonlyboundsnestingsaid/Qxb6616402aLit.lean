/-
  THE DECODER's literal("null"), Null.
-/
import Derived.Test.Qxb6616402aDec2
import Derived.Laws.BytesArg
namespace Go.Proofs.Qxb6616402a
open Go.ChangeShapes Go.WideShapes Go.ChangeAt Go.RowKit

theorem u8_eq {x : Int} {y : Nat} (h0 : 0 ≤ x) (h1 : x ≤ 255) (hy : y < 256) (h : UInt8.ofNat x.toNat = UInt8.ofNat y) : x = y := by
  have := congrArg UInt8.toNat h
  simp at this
  omega

theorem lit_t (w : World) (B : Nat) (ad : Option Addr) (n c : Nat) (g : Nat → Int) (i : Nat) (d : Int) (h : Dec w B ad n c g i d) (hn : n ≤ 1048576) (hc : n ≤ c) (ha : Pl.nullAt g n i = true) :
    Calls Try.prog 36 #[.pointer (some ⟨B, 0, none⟩), .string ⟨#[110, 117, 108, 108]⟩] w fun e w' => e = .returned (.bool true) ∧ Dec w' B ad n c g (i + 4) d ∧ Below B w w' := by
  obtain ⟨h4, e0, e1, e2, e3⟩ := Pl.null_t ha
  obtain ⟨b, off, rfl, x0⟩ := h.dat i (by omega)
  have x1 := h.dat.cell (k := i + 1) (by omega)
  have x2 := h.dat.cell (k := i + 2) (by omega)
  have x3 := h.dat.cell (k := i + 3) (by omega)
  rw [e0] at x0; rw [e1] at x1; rw [e2] at x2; rw [e3] at x3
  clear ha e0 e1 e2 e3
  have hl : decide ((n : Int) - (i : Int) < 4) = false := decide_eq_false (by omega)
  have hcv : ∀ m, (convert 22 9 (.slice (some ⟨b, off + i, none⟩) 4 (c - i))).run Try.prog (w.drewN m) = .ok (.string ⟨#[110, 117, 108, 108]⟩) (w.drewN m) := fun m =>
    run_convert_bytes_arg (P := Try.prog) (w.drewN m) 22 5 Try.underlying22 Try.underlying5 b (off + i) 4 (c - i) [110, 117, 108, 108] rfl (fun j hj => by
      match j, hj with
      | 0, _ => simpa using x0
      | 1, _ => simpa [Nat.add_assoc] using x1
      | 2, _ => simpa [Nat.add_assoc] using x2
      | 3, _ => simpa [Nat.add_assoc] using x3) 9 Try.underlying9
  have c0 := h.c0
  have c1 := h.c1
  have f1 := h.f1
  go_enter Try.func36, Try.ntmps36
  go_wp2
  go_quiet (fail)
  go_wp2
  go_ret
  exact ⟨rfl, (h.at1 (i + 4)).1.drawn _, below_drewN (h.at1 (i + 4)).2 _⟩

theorem lit_f (w : World) (B : Nat) (ad : Option Addr) (n c : Nat) (g : Nat → Int) (i : Nat) (d : Int) (h : Dec w B ad n c g i d) (hg : ∀ k, 0 ≤ g k ∧ g k ≤ 255) (hn : n ≤ 1048576) (hi : i ≤ n) (hc : n ≤ c) (ha : Pl.nullAt g n i = false) :
    Calls Try.prog 36 #[.pointer (some ⟨B, 0, none⟩), .string ⟨#[110, 117, 108, 108]⟩] w fun e w' => e = .returned (.bool false) ∧ Dec w' B ad n c g i d ∧ Below B w w' := by
  have c0 := h.c0
  have c1 := h.c1
  have f1 := h.f1
  by_cases h4 : i + 4 ≤ n
  · obtain ⟨b, off, rfl, x0⟩ := h.dat i (by omega)
    have x1 := h.dat.cell (k := i + 1) (by omega)
    have x2 := h.dat.cell (k := i + 2) (by omega)
    have x3 := h.dat.cell (k := i + 3) (by omega)
    have hl : decide ((n : Int) - (i : Int) < 4) = false := decide_eq_false (by omega)
    obtain ⟨S, hS⟩ : ∃ S, S = strOfNums [g i, g (i + 1), g (i + 2), g (i + 3)] := ⟨_, rfl⟩
    have hcv : ∀ m, (convert 22 9 (.slice (some ⟨b, off + i, none⟩) 4 (c - i))).run Try.prog (w.drewN m) = .ok (.string S) (w.drewN m) := fun m => by
      rw [hS]
      exact run_convert_bytes_arg (P := Try.prog) (w.drewN m) 22 5 Try.underlying22 Try.underlying5 b (off + i) 4 (c - i) _ rfl (fun j hj => by
        match j, hj with
        | 0, _ => simpa using x0
        | 1, _ => simpa [Nat.add_assoc] using x1
        | 2, _ => simpa [Nat.add_assoc] using x2
        | 3, _ => simpa [Nat.add_assoc] using x3) 9 Try.underlying9
    have hne : (S.toList == [110, 117, 108, 108]) = false := by
      rw [ByteArray.toList_eq, hS, strOfNums_data]
      have hh := of_decide_eq_false ha
      have g0 := hg i
      have g1 := hg (i + 1)
      have g2 := hg (i + 2)
      have g3 := hg (i + 3)
      rw [beq_eq_false_iff_ne]
      intro e
      simp only [List.map_cons, List.map_nil, List.cons.injEq] at e
      exact hh ⟨h4, u8_eq g0.1 g0.2 (by decide) e.1, u8_eq g1.1 g1.2 (by decide) e.2.1, u8_eq g2.1 g2.2 (by decide) e.2.2.1, u8_eq g3.1 g3.2 (by decide) e.2.2.2.1⟩
    clear hS x0 x1 x2 x3 ha hg
    go_enter Try.func36, Try.ntmps36
    go_wp2
    go_quiet (fail)
    go_wp2
    go_ret
    exact ⟨rfl, h.drawn _, below_drewN (Below.refl _ _) _⟩
  · have hl : decide ((n : Int) - (i : Int) < 4) = true := decide_eq_true (by omega)
    clear ha hg
    go_enter Try.func36, Try.ntmps36
    go_wp2
    go_quiet (fail)
    go_wp2
    go_ret
    exact ⟨rfl, h.drawn _, below_drewN (Below.refl _ _) _⟩

theorem null_yes (w : World) (B : Nat) (ad : Option Addr) (n c : Nat) (g : Nat → Int) (i : Nat) (d : Int) (h : Dec w B ad n c g i d) (hn : n ≤ 1048576) (hi : i ≤ n) (hc : n ≤ c) (ha : Pl.nullAt g n (Pl.skip g n i) = true) :
    Calls Try.prog 31 #[.pointer (some ⟨B, 0, none⟩)] w fun e w' => e = .returned (.bool true) ∧ Dec w' B ad n c g (Pl.skip g n i + 4) d ∧ Below B w w' := by
  go_enter Try.func31, Try.ntmps31
  go_wp2_with fail
  refine (space_any w B ad n c g i d h hn hi).mono ?_
  rintro e w1 ⟨rfl, d1, b1⟩
  go_wp2_with fail
  refine (lit_t w1 B ad n c g _ d d1 hn hc ha).mono ?_
  rintro e w2 ⟨rfl, d2, b2⟩
  go_wp2_with fail
  go_ret
  exact ⟨rfl, d2, b1.trans b2⟩

theorem null_not (w : World) (B : Nat) (ad : Option Addr) (n c : Nat) (g : Nat → Int) (i : Nat) (d : Int) (h : Dec w B ad n c g i d) (hg : ∀ k, 0 ≤ g k ∧ g k ≤ 255) (hn : n ≤ 1048576) (hi : i ≤ n) (hc : n ≤ c) (ha : Pl.nullAt g n (Pl.skip g n i) = false) :
    Calls Try.prog 31 #[.pointer (some ⟨B, 0, none⟩)] w fun e w' => e = .returned (.bool false) ∧ Dec w' B ad n c g (Pl.skip g n i) d ∧ Below B w w' := by
  go_enter Try.func31, Try.ntmps31
  go_wp2_with fail
  refine (space_any w B ad n c g i d h hn hi).mono ?_
  rintro e w1 ⟨rfl, d1, b1⟩
  go_wp2_with fail
  refine (lit_f w1 B ad n c g _ d d1 hg hn (Pl.skip_le hi) hc ha).mono ?_
  rintro e w2 ⟨rfl, d2, b2⟩
  go_wp2_with fail
  go_ret
  exact ⟨rfl, d2, b1.trans b2⟩
end Go.Proofs.Qxb6616402a
