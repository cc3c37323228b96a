/-
  FnOverlapSortedMatchesSearch: inside its bounds.
-/
import Derived.Test.Qxb6617659aCopy
namespace Go.Proofs.Qxb6617659a
open Go.ChangeShapes Go.WideShapes Go.ChangeAt Go.RowKit

set_option maxHeartbeats 2000000 in
theorem law_main (a0 : Option Addr) (n c : Nat) (f : Nat → Int) (a1 : Option Addr) (m d : Nat) (g : Nat → Int) (w : World) (hnc : n ≤ c) (hmd : m ≤ d) (hcm : c ≤ 9223372036854775807) (hdm : d ≤ 9223372036854775807)
    (hda : Dat w a0 n f) (hdb : Dat w a1 m g) (hla : Low a0 n w.heap.size) (hlb : Low a1 m w.heap.size) (hn : n ≤ 65536) (hm : m ≤ 65536) :
    Calls Try.prog 3 #[.slice a0 n c, .slice a1 m d] w fun e w' => e = .returned (.bool true) ∧ Below w.heap.size w w' := by
  have q22 : ∀ (w : World) (a : Option Addr) (n c n' c' : Nat), (binOp .neq 22 (.slice a n c) (.slice none n' c')).run Try.prog w = .ok (.bool (!a.isNone)) w := fun w a n c n' c' => run_neq_slice_nil_any w _ _ a n c n' c' Try.underlying22
  obtain ⟨i0, hi, hz0, hz1, hz2⟩ := info_parts Try.info25
  obtain ⟨R, HR⟩ := tells_some (∃ i, i < n ∧ ∃ j, j < m ∧ f i = g j)
  have HR1 : Hid (Tells R (∃ i, i < n ∧ ∃ j, j < m ∧ f i = g j)) := HR
  have HR2 : Hid (Tells R (∃ i, i < m ∧ ∃ j, j < n ∧ g i = f j)) := HR.trans ⟨fun ⟨i, hi, j, hj, e⟩ => ⟨j, hj, i, hi, e.symm⟩, fun ⟨i, hi, j, hj, e⟩ => ⟨j, hj, i, hi, e.symm⟩⟩
  clear HR
  go_enter Try.func3, Try.ntmps3
  go_wp2_with fail
  refine (bytes_t a0 n c a1 m d w hn hm).mono ?_
  rintro e w' ⟨rfl, rfl⟩
  go_wp2_with fail
  refine (nondec_any a0 n c f w' hda hn).mono ?_
  rintro e w1 ⟨r, q, rfl, HU, hw1⟩
  have hb1 : Below w'.heap.size w' w1 := by rw [hw1]; exact below_drewN (Below.refl _ _) _
  have hda1 : Dat w1 a0 n f := by rw [hw1]; exact hda
  have hdb1 : Dat w1 a1 m g := by rw [hw1]; exact hdb
  clear hw1 hda hdb
  cases r
  · go_wp2_with fail
    go_ret
    exact ⟨rfl, hb1⟩
  go_wp2_with fail
  refine (nondec_any a1 m d g w1 hdb1 hm).mono ?_
  rintro e w2 ⟨r, q, rfl, HV, hw2⟩
  have hb2 : Below w'.heap.size w' w2 := by rw [hw2]; exact below_drewN hb1 _
  have hda2 : Dat w2 a0 n f := by rw [hw2]; exact hda1
  have hdb2 : Dat w2 a1 m g := by rw [hw2]; exact hdb1
  clear hw2 hda1 hdb1 hb1
  cases r
  · go_wp2_with fail
    go_ret
    exact ⟨rfl, hb2⟩
  have HU1 : Hid (Up f n) := HU.out (by trivial)
  have HV1 : Hid (Up g m) := HV.out (by trivial)
  clear HU HV
  cases a0 with
  | none =>
    cases a1 with
    | none =>
      go_wp2_with fail
      refine (share_any none n c f none m d g _ hda2 hdb2 hn hm HV1.out R HR1.out).mono ?_
      rintro e w8 ⟨rfl, rfl⟩
      go_wp2_with fail
      refine (zz_any none n c f none m d g _ hda2 hdb2 hn hm (by omega) (by omega) (by omega) (by omega) HU1.out HV1.out R HR1.out).mono ?_
      rintro e w9 ⟨rfl, q1, rfl⟩
      go_wp2_with fail
      refine (zz_any none m d g none n c f _ (hdb2.drawn _) (hda2.drawn _) hm hn (by omega) (by omega) (by omega) (by omega) HV1.out HU1.out R HR2.out).mono ?_
      rintro e w10 ⟨rfl, q2, rfl⟩
      have HB : Hid (Below w'.heap.size w' w8) := hb2
      go_wp2
      go_ret
      exact ⟨rfl, below_drewN HB.out _⟩
    | some y =>
      go_wp2_with (first | (at_make; refine wpList_make_full _ rfl _ _ 22 rfl w2.heap.size 25 i0 (.int .u32 0) 1 Try.underlying22 hi hz0 hz1 .i64 .i64 (m : Int) (m : Int) m rfl rfl rfl rfl (by rw [hz2]; omega) (by unfold maxLen; omega) (Nat.le_refl _) ?_))
      intro w3 hown hgrow
      obtain ⟨xs, hblk, hxl⟩ : ∃ xs : List Value, w3.heap[w2.heap.size]? = some (.cells xs.toArray 25 (0, 0)) ∧ xs.length = m := ⟨_, (made_block hown).1, (made_block hown).2⟩
      have hbw3 : Below w2.heap.size w2 w3 := (Below.refl _ _).grown hgrow (Nat.le_refl _) (by intro k h; cases h)
      obtain ⟨w4, hrun, hdw4, hsw4, hbw4⟩ := copy_run (c := d) (hdb2.under (hlb.mono hb2.size) hbw3) hxl hblk
      have hcw4 : Below w2.heap.size w2 w4 := hbw3.trans hbw4
      clear hown hgrow hblk hxl hbw3 hbw4
      have hda4 : Dat w4 none n f := hda2.under (hla.mono hb2.size) hcw4
      have hbb : Below w'.heap.size w' w4 := hb2.trans (hcw4.mono hb2.size)
      clear hda2 hdb2 hb2
      go_wp2_with fail
      clear hrun
      refine (share_any none n c f (some ⟨w2.heap.size, 0, none⟩) m m g _ hda4 hdw4 hn hm HV1.out R HR1.out).mono ?_
      rintro e w8 ⟨rfl, rfl⟩
      go_wp2_with fail
      refine (zz_any none n c f (some ⟨w2.heap.size, 0, none⟩) m m g _ hda4 hdw4 hn hm (by omega) (by omega) (by omega) (by omega) HU1.out HV1.out R HR1.out).mono ?_
      rintro e w9 ⟨rfl, q1, rfl⟩
      go_wp2_with fail
      refine (zz_any (some ⟨w2.heap.size, 0, none⟩) m m g none n c f _ (hdw4.drawn _) (hda4.drawn _) hm hn (by omega) (by omega) (by omega) (by omega) HV1.out HU1.out R HR2.out).mono ?_
      rintro e w10 ⟨rfl, q2, rfl⟩
      have HB : Hid (Below w'.heap.size w' w8) := hbb
      go_wp2
      go_ret
      exact ⟨rfl, below_drewN HB.out _⟩
  | some x =>
    go_wp2_with (first | (at_make; refine wpList_make_full _ rfl _ _ 22 rfl w2.heap.size 25 i0 (.int .u32 0) 1 Try.underlying22 hi hz0 hz1 .i64 .i64 (n : Int) (n : Int) n rfl rfl rfl rfl (by rw [hz2]; omega) (by unfold maxLen; omega) (Nat.le_refl _) ?_))
    intro w3 hown hgrow
    obtain ⟨xs, hblk, hxl⟩ : ∃ xs : List Value, w3.heap[w2.heap.size]? = some (.cells xs.toArray 25 (0, 0)) ∧ xs.length = n := ⟨_, (made_block hown).1, (made_block hown).2⟩
    have hbw3 : Below w2.heap.size w2 w3 := (Below.refl _ _).grown hgrow (Nat.le_refl _) (by intro k h; cases h)
    obtain ⟨w4, hrun, hdw4, hsw4, hbw4⟩ := copy_run (c := c) (hda2.under (hla.mono hb2.size) hbw3) hxl hblk
    have hcw4 : Below w2.heap.size w2 w4 := hbw3.trans hbw4
    clear hown hgrow hblk hxl hbw3 hbw4
    have hdb4 : Dat w4 a1 m g := hdb2.under (hlb.mono hb2.size) hcw4
    have hbb : Below w'.heap.size w' w4 := hb2.trans (hcw4.mono hb2.size)
    cases a1 with
    | none =>
      go_wp2_with fail
      clear hrun
      refine (share_any (some ⟨w2.heap.size, 0, none⟩) n n f none m d g _ hdw4 hdb4 hn hm HV1.out R HR1.out).mono ?_
      rintro e w8 ⟨rfl, rfl⟩
      go_wp2_with fail
      refine (zz_any (some ⟨w2.heap.size, 0, none⟩) n n f none m d g _ hdw4 hdb4 hn hm (by omega) (by omega) (by omega) (by omega) HU1.out HV1.out R HR1.out).mono ?_
      rintro e w9 ⟨rfl, q1, rfl⟩
      go_wp2_with fail
      refine (zz_any none m d g (some ⟨w2.heap.size, 0, none⟩) n n f _ (hdb4.drawn _) (hdw4.drawn _) hm hn (by omega) (by omega) (by omega) (by omega) HV1.out HU1.out R HR2.out).mono ?_
      rintro e w10 ⟨rfl, q2, rfl⟩
      have HB : Hid (Below w'.heap.size w' w8) := hbb
      go_wp2
      go_ret
      exact ⟨rfl, below_drewN HB.out _⟩
    | some y =>
      go_wp2_with (first | (at_make; refine wpList_make_full _ rfl _ _ 22 rfl w4.heap.size 25 i0 (.int .u32 0) 1 Try.underlying22 hi hz0 hz1 .i64 .i64 (m : Int) (m : Int) m rfl rfl rfl rfl (by rw [hz2]; omega) (by unfold maxLen; omega) (Nat.le_refl _) ?_))
      intro w5 hown hgrow
      obtain ⟨xs, hblk, hxl⟩ : ∃ xs : List Value, w5.heap[w4.heap.size]? = some (.cells xs.toArray 25 (0, 0)) ∧ xs.length = m := ⟨_, (made_block hown).1, (made_block hown).2⟩
      have hbw5 : Below w4.heap.size w4 w5 := (Below.refl _ _).grown hgrow (Nat.le_refl _) (by intro k h; cases h)
      obtain ⟨w6, hrun2, hdw6, hsw6, hbw6⟩ := copy_run (c := d) (hdb4.under (hlb.mono hbb.size) hbw5) hxl hblk
      have hcw6 : Below w4.heap.size w4 w6 := hbw5.trans hbw6
      clear hown hgrow hblk hxl hbw5 hbw6
      have hda6 : Dat w6 (some ⟨w2.heap.size, 0, none⟩) n f := hdw4.under (B := w4.heap.size) (fun a e _ => by cases e; exact hsw4) hcw6
      have hbb6 : Below w'.heap.size w' w6 := hbb.trans (hcw6.mono hbb.size)
      go_wp2_with fail
      clear hrun hrun2
      refine (share_any (some ⟨w2.heap.size, 0, none⟩) n n f (some ⟨w4.heap.size, 0, none⟩) m m g _ hda6 hdw6 hn hm HV1.out R HR1.out).mono ?_
      rintro e w8 ⟨rfl, rfl⟩
      go_wp2_with fail
      refine (zz_any (some ⟨w2.heap.size, 0, none⟩) n n f (some ⟨w4.heap.size, 0, none⟩) m m g _ hda6 hdw6 hn hm (by omega) (by omega) (by omega) (by omega) HU1.out HV1.out R HR1.out).mono ?_
      rintro e w9 ⟨rfl, q1, rfl⟩
      go_wp2_with fail
      refine (zz_any (some ⟨w4.heap.size, 0, none⟩) m m g (some ⟨w2.heap.size, 0, none⟩) n n f _ (hdw6.drawn _) (hda6.drawn _) hm hn (by omega) (by omega) (by omega) (by omega) HV1.out HU1.out R HR2.out).mono ?_
      rintro e w10 ⟨rfl, q2, rfl⟩
      have HB : Hid (Below w'.heap.size w' w8) := hbb6
      go_wp2
      go_ret
      exact ⟨rfl, below_drewN HB.out _⟩

/-- Where the first bound says no, or a slice is longer than 65536: true. -/
theorem law_long (a0 : Option Addr) (n c : Nat) (a1 : Option Addr) (m d : Nat) (w : World) (hn : n ≤ 9223372036854775807) (hm : m ≤ 9223372036854775807) (h : 65536 < n ∨ 65536 < m) :
    Calls Try.prog 3 #[.slice a0 n c, .slice a1 m d] w fun e w' => e = .returned (.bool true) ∧ Below w.heap.size w w' := by
  by_cases h1 : 65536 < n
  · go_enter Try.func3, Try.ntmps3
    go_wp2_with fail
    refine (bytes_any a0 n c a1 m d w hn hm).mono ?_
    rintro e w' ⟨r, rfl, rfl⟩
    cases r
    · go_wp2_with fail
      go_ret
      exact ⟨rfl, Below.refl _ _⟩
    · go_wp2_with fail
      go_ret
      exact ⟨rfl, Below.refl _ _⟩
  · have h2 : 65536 < m := by omega
    clear h
    go_enter Try.func3, Try.ntmps3
    go_wp2_with fail
    refine (bytes_any a0 n c a1 m d w hn hm).mono ?_
    rintro e w' ⟨r, rfl, rfl⟩
    cases r
    · go_wp2_with fail
      go_ret
      exact ⟨rfl, Below.refl _ _⟩
    · go_wp2_with fail
      go_ret
      exact ⟨rfl, Below.refl _ _⟩
end Go.Proofs.Qxb6617659a
