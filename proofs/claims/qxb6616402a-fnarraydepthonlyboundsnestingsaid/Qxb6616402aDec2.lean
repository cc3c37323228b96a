/-
  THE DECODER's consumeByte, consume.
-/
import Derived.Test.Qxb6616402aDec
namespace Go.Proofs.Qxb6616402a
open Go.ChangeShapes Go.WideShapes Go.ChangeAt Go.RowKit

theorem byte_t (w : World) (B : Nat) (ad : Option Addr) (n c : Nat) (g : Nat → Int) (i : Nat) (d : Int) (ch : Int) (h : Dec w B ad n c g i d) (hn : n ≤ 1048576) (ha : Pl.at_ g n i ch = true) :
    Calls Try.prog 37 #[.pointer (some ⟨B, 0, none⟩), .int .u8 ch] w fun e w' => e = .returned (.bool true) ∧ Dec w' B ad n c g (i + 1) d ∧ Below B w w' := by
  obtain ⟨hlt, hg⟩ := Pl.at_t ha
  have hl : (i : Int) < (n : Int) := by omega
  obtain ⟨b, off, rfl, hcell⟩ := h.dat i hlt
  have he : (g i == ch) = true := by simpa using hg
  have c0 := h.c0
  have c1 := h.c1
  have f1 := h.f1
  clear ha hg
  go_enter Try.func37, Try.ntmps37
  go_wp2
  go_quiet (fail)
  go_wp2
  go_ret
  exact ⟨rfl, (h.at1 (i + 1)).1.drawn _, below_drewN (h.at1 (i + 1)).2 _⟩

theorem byte_f (w : World) (B : Nat) (ad : Option Addr) (n c : Nat) (g : Nat → Int) (i : Nat) (d : Int) (ch : Int) (h : Dec w B ad n c g i d) (_hn : n ≤ 1048576) (ha : Pl.at_ g n i ch = false) :
    Calls Try.prog 37 #[.pointer (some ⟨B, 0, none⟩), .int .u8 ch] w fun e w' => e = .returned (.bool false) ∧ Dec w' B ad n c g i d ∧ Below B w w' := by
  have c0 := h.c0
  have c1 := h.c1
  by_cases hlt : i < n
  · have hl : (i : Int) < (n : Int) := by omega
    obtain ⟨b, off, rfl, hcell⟩ := h.dat i hlt
    have he : (g i == ch) = false := by have := Pl.at_f ha; simp; omega
    clear ha
    go_enter Try.func37, Try.ntmps37
    go_wp2
    go_quiet (fail)
    go_wp2
    go_ret
    exact ⟨rfl, h.drawn _, below_drewN (Below.refl _ _) _⟩
  · have hl : decide ((i : Int) < (n : Int)) = false := decide_eq_false (by omega)
    clear ha
    go_enter Try.func37, Try.ntmps37
    go_wp2
    go_quiet (fail)
    go_wp2
    go_ret
    exact ⟨rfl, h.drawn _, below_drewN (Below.refl _ _) _⟩

theorem consume_t (w : World) (B : Nat) (ad : Option Addr) (n c : Nat) (g : Nat → Int) (i : Nat) (d : Int) (ch : Int) (h : Dec w B ad n c g i d) (hn : n ≤ 1048576) (hi : i ≤ n) (hc : Pl.isSp ch = false) (ha : Pl.at_ g n (Pl.skip g n i) ch = true) :
    Calls Try.prog 33 #[.pointer (some ⟨B, 0, none⟩), .int .u8 ch] w fun e w' => e = .returned (.bool true) ∧ Dec w' B ad n c g (Pl.skip g n i + 1) d ∧ Below B w w' := by
  rcases h0 : Pl.at_ g n i ch with _ | _
  · go_enter Try.func33, Try.ntmps33
    go_wp2_with fail
    refine (byte_f w B ad n c g i d ch h hn h0).mono ?_
    rintro e w1 ⟨rfl, d1, b1⟩
    go_wp2_with fail
    refine (space_any w1 B ad n c g i d d1 hn hi).mono ?_
    rintro e w2 ⟨rfl, d2, b2⟩
    go_wp2_with fail
    refine (byte_t w2 B ad n c g _ d ch d2 hn ha).mono ?_
    rintro e w3 ⟨rfl, d3, b3⟩
    go_wp2_with fail
    go_ret
    exact ⟨rfl, d3, (b1.trans b2).trans b3⟩
  · have e : Pl.skip g n i = i := Pl.skip_at hc h0
    rw [e]
    clear e ha
    go_enter Try.func33, Try.ntmps33
    go_wp2_with fail
    refine (byte_t w B ad n c g i d ch h hn h0).mono ?_
    rintro e w1 ⟨rfl, d1, b1⟩
    go_wp2_with fail
    go_ret
    exact ⟨rfl, d1, b1⟩

theorem consume_f (w : World) (B : Nat) (ad : Option Addr) (n c : Nat) (g : Nat → Int) (i : Nat) (d : Int) (ch : Int) (h : Dec w B ad n c g i d) (hn : n ≤ 1048576) (hi : i ≤ n) (hc : Pl.isSp ch = false) (ha : Pl.at_ g n (Pl.skip g n i) ch = false) :
    Calls Try.prog 33 #[.pointer (some ⟨B, 0, none⟩), .int .u8 ch] w fun e w' => e = .returned (.bool false) ∧ Dec w' B ad n c g (Pl.skip g n i) d ∧ Below B w w' := by
  have h0 : Pl.at_ g n i ch = false := by
    rcases h0 : Pl.at_ g n i ch with _ | _
    · rfl
    · rw [Pl.skip_at hc h0, h0] at ha; exact ha
  go_enter Try.func33, Try.ntmps33
  go_wp2_with fail
  refine (byte_f w B ad n c g i d ch h hn h0).mono ?_
  rintro e w1 ⟨rfl, d1, b1⟩
  go_wp2_with fail
  refine (space_any w1 B ad n c g i d d1 hn hi).mono ?_
  rintro e w2 ⟨rfl, d2, b2⟩
  go_wp2_with fail
  refine (byte_f w2 B ad n c g _ d ch d2 hn ha).mono ?_
  rintro e w3 ⟨rfl, d3, b3⟩
  go_wp2_with fail
  go_ret
  exact ⟨rfl, d3, (b1.trans b2).trans b3⟩
end Go.Proofs.Qxb6616402a
