/-
  WHAT BOTH LAWS TAKE: the clone in one contract; the bound on the length.
-/
import Derived.Test.Qxb6616402aClone
import Derived.Test.Qxb6616402aModel
import Derived.Test.Qxb6616402aZz
namespace Go.Proofs.Qxb6616402a
open Go.ChangeShapes Go.WideShapes Go.ChangeAt Go.RowKit

theorem clone_all (a0 : Option Addr) (n c : Nat) (g : Nat → Int) (w : World) (hn : n ≤ 1048576)
    (h : (a0 = none ∧ n = 0 ∧ c = 0) ∨ ∃ x, a0 = some x ∧ Dat w (some x) n g ∧ (0 < n → x.block < w.heap.size)) :
    Calls Try.prog 9 #[.slice a0 n c] w fun e w' => ∃ ad c1, e = .returned (.slice ad n c1) ∧ n ≤ c1 ∧ Dat w' ad n g ∧ (∀ a, ad = some a → 0 < n → a.block < w'.heap.size) ∧ Below w.heap.size w w' := by
  rcases h with ⟨rfl, rfl, rfl⟩ | ⟨x, rfl, hd, hlow⟩
  · refine (clone_nil w).mono ?_
    rintro e w' ⟨rfl, rfl⟩
    exact ⟨none, 0, rfl, Nat.le_refl _, fun k hk => by omega, fun a _ h => by omega, Below.refl _ _⟩
  · refine (clone_any x n c g w hd hlow hn).mono ?_
    rintro e w' ⟨rfl, hC⟩
    refine ⟨_, n, rfl, Nat.le_refl _, fun k hk => ⟨w.heap.size, 0, rfl, by rw [Nat.zero_add]; exact hC.cell hk⟩, ?_, hC.1⟩
    intro a e _
    simp at e
    subst e
    exact hC.room

/-- What came in, as the contracts want it. -/
theorem row_dat {w : World} {a0 : Option Addr} {len cap : Nat} {zs : List Int}
    (h : (a0 = none ∧ len = 0 ∧ cap = 0 ∧ zs = []) ∨
      ∃ x, a0 = some x ∧ len ≤ cap ∧ cap ≤ maxLen ∧ zs.length = cap ∧ (∀ i, i < zs.length → w.cell? (x.add i) = some (.int .u8 (zs.getD i 0))) ∧ ∀ n ∈ zs, (Lit.int .u8 n).wf = true) :
    ((a0 = none ∧ len = 0 ∧ cap = 0) ∨ ∃ x, a0 = some x ∧ Dat w (some x) len (fun k => zs.getD k 0) ∧ (0 < len → x.block < w.heap.size)) ∧ (∀ k, 0 ≤ zs.getD k 0 ∧ zs.getD k 0 ≤ 255) := by
  rcases h with ⟨h1, h2, h3, rfl⟩ | ⟨x, rfl, hl, hm, hz, hcell, hwz⟩
  · exact ⟨.inl ⟨h1, h2, h3⟩, fun k => by simp⟩
  · refine ⟨.inr ⟨x, rfl, ?_, ?_⟩, ?_⟩
    · intro k hk
      obtain ⟨b, off, spot⟩ := x
      have hspot : spot = none := by simpa [Addr.add] using World.cell?_spot (hcell 0 (by omega))
      subst hspot
      exact ⟨b, off, rfl, by rw [← add_plain]; exact hcell k (by omega)⟩
    · intro hpos
      have h0 := hcell 0 (by omega)
      rcases Nat.lt_or_ge x.block w.heap.size with h | h
      · exact h
      · exfalso
        have hb : (x.add 0).block = x.block := by unfold Addr.add; split <;> rfl
        unfold World.cell? at h0
        rw [hb, Array.getElem?_eq_none h] at h0
        simp at h0
    · intro k
      by_cases hk : k < zs.length
      · have := bounds_u8 (hwz (zs.getD k 0) (by rw [List.getD_eq_getElem?_getD, List.getElem?_eq_getElem hk]; simp))
        omega
      · rw [List.getD_eq_getElem?_getD, List.getElem?_eq_none (by omega)]; simp

theorem bytes8_t (a0 : Option Addr) (n c : Nat) (a d : Int) (w : World) (hn : n ≤ 1048576) :
    Calls Try.prog 8 #[.slice a0 n c, .int .i64 a, .int .i64 d] w fun e w' => e = .returned (.bool true) ∧ w' = w := by
  go_enter Try.func8, Try.ntmps8
  go_wp2
  go_ret
  exact ⟨rfl, rfl⟩
theorem bytes8_f (a0 : Option Addr) (n c : Nat) (a d : Int) (w : World) (hn : 1048576 < n) :
    Calls Try.prog 8 #[.slice a0 n c, .int .i64 a, .int .i64 d] w fun e w' => e = .returned (.bool false) ∧ w' = w := by
  go_enter Try.func8, Try.ntmps8
  go_wp2
  go_ret
  exact ⟨rfl, rfl⟩
theorem bytes12_t (a0 : Option Addr) (n c : Nat) (a d : Int) (w : World) (hn : n ≤ 1048576) :
    Calls Try.prog 12 #[.slice a0 n c, .int .i64 a, .int .i64 d] w fun e w' => e = .returned (.bool true) ∧ w' = w := by
  go_enter Try.func12, Try.ntmps12
  go_wp2
  go_ret
  exact ⟨rfl, rfl⟩
theorem bytes12_f (a0 : Option Addr) (n c : Nat) (a d : Int) (w : World) (hn : 1048576 < n) :
    Calls Try.prog 12 #[.slice a0 n c, .int .i64 a, .int .i64 d] w fun e w' => e = .returned (.bool false) ∧ w' = w := by
  go_enter Try.func12, Try.ntmps12
  go_wp2
  go_ret
  exact ⟨rfl, rfl⟩
end Go.Proofs.Qxb6616402a
