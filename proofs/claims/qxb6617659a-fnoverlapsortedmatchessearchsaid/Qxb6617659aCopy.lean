/-
  WHAT THE TWO COPIES LEAVE ('make', then 'copy'); what came in, as the contracts want it.
-/
import Derived.Test.Qxb6617659aOver
import Derived.Laws.CopyOwn
import Derived.Lib.SliceRun
import Derived.WalkSpells
namespace Go.Proofs.Qxb6617659a
open Go.ChangeShapes Go.WideShapes Go.ChangeAt Go.RowKit

theorem Try.info25 : (Try.prog.info? 25).map (fun i => (i.zero, i.size, i.bytes)) = some (some (.int .u32 0), 1, 4) := by kernel_rfl
theorem Try.size25 : (Try.prog.info? 25).map (·.size) = some 1 := by kernel_rfl

/-- What lies at a slice's address lies below B. -/
def Low (ad : Option Addr) (n B : Nat) : Prop := ∀ a, ad = some a → 0 < n → a.block < B
theorem Dat.under {w w' : World} {ad : Option Addr} {n B : Nat} {g : Nat → Int} (h : Dat w ad n g) (hlow : Low ad n B) (hb : Below B w w') : Dat w' ad n g := by
  intro k hk
  obtain ⟨b, off, e, hcell⟩ := h k hk
  exact ⟨b, off, e, by rw [hb.cell (p := ⟨b, off + k, none⟩) (by exact hlow ⟨b, off, none⟩ e (by omega))]; exact hcell⟩
theorem Low.mono {ad : Option Addr} {n B B' : Nat} (h : Low ad n B) (hB : B ≤ B') : Low ad n B' := fun a e hn => Nat.lt_of_lt_of_le (h a e hn) hB

theorem made_block {w : World} {B n : Nat} {xs : List Value} (h : w.ownsRow B 25 1 (.slice (some ⟨B, 0, none⟩) n n) n xs) : w.heap[B]? = some (.cells xs.toArray 25 (0, 0)) ∧ xs.length = n := by
  refine ⟨?_, by have := h.1; omega⟩
  rcases h.2 with ⟨h', _⟩ | ⟨g', cap', cur, h', _, hg, _, _, hcs, htake⟩
  · simp at h'
  · simp at h'
    obtain ⟨rfl, rfl⟩ := h'
    have e : cur.toList = xs := by rw [← htake]; exact (List.take_of_length_le (by simp; omega)).symm
    rw [hg, ← e]

/-- The cells of the numbers. -/
def cellsOf (f : Nat → Int) (n : Nat) : List Value := (List.range n).map fun k => .int .u32 (f k)
theorem cellsOf_length (f : Nat → Int) (n : Nat) : (cellsOf f n).length = n := by simp [cellsOf]
theorem cellsOf_get {f : Nat → Int} {n k : Nat} (h : k < n) : (cellsOf f n)[k]? = some (.int .u32 (f k)) := by
  simp [cellsOf, h]
theorem cellsOf_one (f : Nat → Int) (n : Nat) : ∀ v ∈ cellsOf f n, v.oneCell' = true := by
  intro v hv
  simp [cellsOf] at hv
  obtain ⟨k, _, rfl⟩ := hv
  rfl
theorem cellsOf_src {w : World} {ad : Option Addr} {n : Nat} {f : Nat → Int} (h : Dat w ad n f) (B : Nat) :
    0 < (cellsOf f n).length → (some ⟨B, 0, none⟩ : Option Addr) = some ⟨B, 0, none⟩ ∧ ∃ a, ad = some a ∧ ∀ j v, (cellsOf f n)[j]? = some v → w.cell? (a.add j) = some v := by
  rw [cellsOf_length]
  intro hn
  obtain ⟨b, off, e, _⟩ := h 0 hn
  subst e
  refine ⟨rfl, _, rfl, fun j v hj => ?_⟩
  by_cases hjn : j < n
  · rw [cellsOf_get hjn] at hj
    cases hj
    rw [add_plain]
    exact h.cell hjn
  · rw [List.getElem?_eq_none (by rw [cellsOf_length]; omega)] at hj
    cases hj

theorem copied {w : World} {B n : Nat} {f : Nat → Int} {xs : List Value} (hx : xs.length = n) (h : w.heap[B]? = some (.cells (splice xs 0 (cellsOf f n)).toArray 25 (0, 0))) :
    Dat w (some ⟨B, 0, none⟩) n f ∧ B < w.heap.size := by
  have e : splice xs 0 (cellsOf f n) = cellsOf f n := by
    simp only [splice, List.take_zero, List.nil_append, Nat.zero_add, cellsOf_length]
    rw [List.drop_eq_nil_of_le (by omega), List.append_nil]
  rw [e] at h
  refine ⟨fun k hk => ⟨B, 0, rfl, ?_⟩, ?_⟩
  · rw [cell_of_row w B (0 + k) _ 25 (0, 0) h, Nat.zero_add]
    simp [cellsOf_get hk]
  · rcases Nat.lt_or_ge B w.heap.size with h' | h'
    · exact h'
    · rw [Array.getElem?_eq_none h'] at h; cases h

/-- 'copy(zzc, a)': zzc a row of n cells that the call itself made, a of n elements. -/
theorem copy_run {w : World} {x : Addr} {n c B : Nat} {f : Nat → Int} {xs : List Value} (h : Dat w (some x) n f) (hx : xs.length = n) (hb : w.heap[B]? = some (.cells xs.toArray 25 (0, 0))) :
    ∃ w', (Builtin.copy_ #[22, 22] 3 #[.slice (some ⟨B, 0, none⟩) n n, .slice (some x) n c]).run Try.prog w = .ok (goInt n) w' ∧ Dat w' (some ⟨B, 0, none⟩) n f ∧ B < w'.heap.size ∧ Below B w w' := by
  by_cases h0 : n = 0
  · subst h0
    refine ⟨w, run_copy_none (P := Try.prog) w 22 22 3 25 _ _ 0 0 0 c Try.underlying22 Try.size25 rfl, fun k hk => by omega, ?_, Below.refl _ _⟩
    rcases Nat.lt_or_ge B w.heap.size with h' | h'
    · exact h'
    · rw [Array.getElem?_eq_none h'] at hb; cases hb
  · obtain ⟨_, a, e, hsrc⟩ := cellsOf_src h B (by rw [cellsOf_length]; omega)
    cases e
    have hr := run_copy_row (P := Try.prog) w 22 22 3 25 B 0 n n x n c xs.toArray 25 (cellsOf f n) Try.underlying22 Try.size25 hb (by rw [cellsOf_length]; exact (Nat.min_self n).symm) hsrc (by rw [cellsOf_length]; simp; omega) (cellsOf_one f n)
    rw [cellsOf_length] at hr
    refine ⟨_, hr, ?_⟩
    have hs := setRow_heap w B xs.toArray (xs.toArray.toList.take 0 ++ cellsOf f n ++ xs.toArray.toList.drop (0 + n)).toArray 25 (0, 0) hb
    have e : xs.toArray.toList.take 0 ++ cellsOf f n ++ xs.toArray.toList.drop (0 + n) = splice xs 0 (cellsOf f n) := by simp [splice, cellsOf_length]
    rw [e] at hs ⊢
    obtain ⟨c1, c2⟩ := copied hx hs
    exact ⟨c1, c2, below_setRow (Below.refl _ _) (Nat.le_refl _) _⟩

/-- What came in. -/
theorem row_dat {w : World} {a0 : Option Addr} {len cap : Nat} {zs : List Int}
    (h : (a0 = none ∧ len = 0 ∧ cap = 0 ∧ zs = []) ∨
      ∃ x, a0 = some x ∧ len ≤ cap ∧ cap ≤ maxLen ∧ zs.length = cap ∧ (∀ i, i < zs.length → w.cell? (x.add i) = some (.int .u32 (zs.getD i 0))) ∧ ∀ n ∈ zs, (Lit.int .u32 n).wf = true) :
    (a0 = none → len = 0 ∧ cap = 0) ∧ len ≤ 9223372036854775807 ∧ Dat w a0 len (fun k => zs.getD k 0) ∧ Low a0 len w.heap.size := by
  rcases h with ⟨rfl, rfl, rfl, rfl⟩ | ⟨x, rfl, hl, hm, hz, hcell, _⟩
  · exact ⟨fun _ => ⟨rfl, rfl⟩, by omega, fun k hk => by omega, fun a _ h => by omega⟩
  · unfold maxLen at hm
    refine ⟨fun e => by simp at e, by omega, ?_, ?_⟩
    · intro k hk
      obtain ⟨b, off, spot⟩ := x
      have hspot : spot = none := by simpa [Addr.add] using World.cell?_spot (hcell 0 (by omega))
      subst hspot
      exact ⟨b, off, rfl, by rw [← add_plain]; exact hcell k (by omega)⟩
    · intro a e hpos
      simp at e
      subst e
      have h0 := World.block_lt_of_cell? _ _ (hcell 0 (by omega))
      have hb : (x.add 0).block = x.block := by unfold Addr.add; split <;> rfl
      rwa [hb] at h0
end Go.Proofs.Qxb6617659a
