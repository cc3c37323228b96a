/-
  zzCloneBytes; the two zzBytes_..
-/
import Derived.Test.Qxb6616402aLeaf
import Derived.Lib.SliceRun
namespace Go.Proofs.Qxb6616402a
open Go.ChangeShapes Go.WideShapes Go.ChangeAt Go.RowKit

theorem Try.info5 : (Try.prog.info? 5).map (fun i => (i.zero, i.size, i.bytes)) = some (some (.int .u8 0), 1, 1) := by kernel_rfl

theorem clone_nil (w : World) : Calls Try.prog 9 #[.slice none 0 0] w fun e w' => e = .returned (.slice none 0 0) ∧ w' = w := by
  have q22 : ∀ (w : World) (a : Option Addr) (n c n' c' : Nat), (binOp .eql 22 (.slice a n c) (.slice none n' c')).run Try.prog w = .ok (.bool a.isNone) w := fun w a n c n' c' => Lib.run_eql_slice_nil w _ _ a n c n' c' Try.underlying22
  go_enter Try.func9, Try.ntmps9
  go_wp2
  go_ret
  exact ⟨rfl, rfl⟩

/-- The copy so far: the new row holds n cells, the first k as in the source. -/
def Copied (w wr : World) (n k : Nat) (g : Nat → Int) : Prop :=
  Below w.heap.size w wr ∧ ∃ xs, wr.ownsRow w.heap.size 5 1 (.slice (some ⟨w.heap.size, 0, none⟩) n n) n xs ∧ ∀ j, j < k → xs[j]? = some (.int .u8 (g j))

theorem Copied.hole {w wr : World} {n k : Nat} {g : Nat → Int} (h : Copied w wr n k g) (hk : k < n) : ∃ v, wr.cell? ⟨w.heap.size, k, none⟩ = some v := by
  obtain ⟨_, xs, ho, _⟩ := h
  have hl : k < xs.length := by have := ho.1; omega
  exact ⟨xs[k], by rw [ho.cellAt k (by omega), List.getElem?_eq_getElem hl]⟩
theorem Copied.free {w wr : World} {n k : Nat} {g : Nat → Int} (h : Copied w wr n k g) (j : Nat) : wr.frozen? ⟨w.heap.size, j, none⟩ = false := by
  obtain ⟨_, xs, ho, _⟩ := h
  exact ho.frozenAt j
theorem Copied.next {w wr : World} {n k : Nat} {g : Nat → Int} (h : Copied w wr n k g) (hk : k < n) : Copied w (wr.setCell ⟨w.heap.size, k, none⟩ (.int .u8 (g k))) n (k + 1) g := by
  obtain ⟨hb, xs, ho, hx⟩ := h
  refine ⟨hb.setCell (Nat.le_refl _) _, _, (ho.stored k _).1, fun j hj => ?_⟩
  have hl : k < xs.length := by have := ho.1; omega
  by_cases e : j = k
  · subst e; simp [hl]
  · rw [List.getElem?_set_ne (by omega)]; exact hx j (by omega)
theorem Copied.cell {w wr : World} {n : Nat} {g : Nat → Int} (h : Copied w wr n n g) {j : Nat} (hj : j < n) : wr.cell? ⟨w.heap.size, j, none⟩ = some (.int .u8 (g j)) := by
  obtain ⟨_, xs, ho, hx⟩ := h
  rw [ho.cellAt j (by omega), hx j hj]
theorem Copied.room {w wr : World} {n k : Nat} {g : Nat → Int} (h : Copied w wr n k g) : w.heap.size < wr.heap.size := by
  obtain ⟨_, xs, ho, _⟩ := h
  rcases ho.2 with ⟨h, _⟩ | ⟨g, cap, cur, h, _, hh, _⟩
  · simp at h
  · simp at h
    obtain ⟨rfl, _⟩ := h
    rcases Nat.lt_or_ge w.heap.size wr.heap.size with h | h
    · exact h
    · rw [Array.getElem?_eq_none h] at hh; simp at hh

set_option maxHeartbeats 400000 in
theorem clone_any (x : Addr) (n c : Nat) (g : Nat → Int) (w : World) (hd : Dat w (some x) n g) (hlow : 0 < n → x.block < w.heap.size) (hn : n ≤ 1048576) :
    Calls Try.prog 9 #[.slice (some x) n c] w fun e w' => e = .returned (.slice (some ⟨w.heap.size, 0, none⟩) n n) ∧ Copied w w' n n g := by
  have q22 : ∀ (w : World) (a : Option Addr) (n c n' c' : Nat), (binOp .eql 22 (.slice a n c) (.slice none n' c')).run Try.prog w = .ok (.bool a.isNone) w := fun w a n c n' c' => Lib.run_eql_slice_nil w _ _ a n c n' c' Try.underlying22
  obtain ⟨i0, hi, hz0, hz1, hz2⟩ := info_parts Try.info5
  go_enter Try.func9, Try.ntmps9
  go_wp2_with (first | (at_make; refine wpList_make_full _ rfl _ _ 22 rfl w.heap.size 5 i0 (.int .u8 0) 1 Try.underlying22 hi hz0 hz1 .i64 .i64 (n : Int) (n : Int) n rfl rfl rfl rfl (by rw [hz2]; omega) (by unfold maxLen; omega) (Nat.le_refl _) ?_))
  intro w1 hown hgrow
  have C0 : Copied w w1 n 0 g := ⟨(Below.refl _ _).grown hgrow (Nat.le_refl _) (by intro k h; cases h), _, hown, fun j hj => by omega⟩
  have HC0 : Hid (Copied w w1 n 0 g) := C0
  clear hown hgrow C0
  go_wp2
  go_loopw [4] (fun i wr => ∃ k : Nat, k ≤ n ∧ i = .int .i64 k ∧ Copied w wr n k g) (fun i _ => n - (intOf i).toNat)
  case atStart => exact ⟨0, Nat.zero_le _, rfl, HC0.out⟩
  case round =>
    obtain ⟨k, hk, rfl, hC⟩ := hrel
    by_cases hlt : k < n
    · obtain ⟨b, off, e, hcell⟩ := hd k hlt
      simp only [Option.some.injEq] at e
      subst e
      have hcell' : wr.cell? ⟨b, off + k, none⟩ = some (.int .u8 (g k)) := by rw [hC.1.cell (p := ⟨b, off + k, none⟩) (by exact hlow (by omega))]; exact hcell
      obtain ⟨v, hv⟩ := hC.hole hlt
      have hf := hC.free k
      have HN : Hid (Copied w (wr.setCell ⟨w.heap.size, k, none⟩ (.int .u8 (g k))) n (k + 1) g) := hC.next hlt
      clear hC hcell HC0
      go_wp2
      go_roundw
      case rel => exact ⟨k + 1, by omega, by go_num, HN.out⟩
      case measure => simp [intOf]; omega
    · obtain rfl : k = n := by omega
      have HN : Hid (Copied w wr k k g) := hC
      clear hC HC0
      go_wp2
      go_ret
      exact ⟨rfl, HN.out⟩
end Go.Proofs.Qxb6616402a
