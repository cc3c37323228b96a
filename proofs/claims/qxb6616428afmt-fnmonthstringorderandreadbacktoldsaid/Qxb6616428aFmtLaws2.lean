/-
  THE SECOND LAW's WALK: the order of the texts.
-/
import Derived.Test.Qxb6616428aFmtLaws
namespace Go.Proofs.Qxb6616428aFmt
open Go.ChangeShapes Go.WideShapes Go.ChangeAt Go.RowKit
open Go.Extern.Stop Go.Stop Go.Extern

theorem slx_month (S T : ByteArray) (a b : Nat) (w : World) (h : S.data.toList = Pl.txt a) (h' : T.data.toList = Pl.txt b) (ha : a ≤ 9223372036854775807) (hb : b ≤ 9223372036854775807) :
    Calls Tryf.prog 8 #[.string S, .string T] w fun e w' => e = .returned (.bool (decide (a < b))) ∧ ∃ q, w' = w.drewN q := by
  have A := isM_of h ha
  have B := isM_of h' hb
  have a1 := A.le
  have a2 := A.size
  by_cases hne : S.size = T.size
  · rw [← hne] at B
    have eL := Pl.len_eq A B
    rw [← eL] at B
    refine slx_eq S T (mb a) (mb b) w (bytes_of h) (bytes_of h') S.size rfl hne.symm (by omega) _ ?_
    intro k hk hj
    refine ⟨fun e => ?_, fun hlt hd => ?_⟩
    · subst e
      have := Pl.order_same A B hj
      exact decide_eq_false (by omega)
    · rcases Nat.lt_or_gt_of_ne hd with hl | hl
      · rw [decide_eq_true hl]
        have := Pl.order_at A B k (by omega) hj hl
        exact decide_eq_true (by omega)
      · rw [decide_eq_false (show ¬ mb a k < mb b k by omega)]
        have := Pl.order_at B A k (by omega) (fun j hj' => (hj j hj').symm) hl
        exact decide_eq_false (by omega)
  · have := slx_ne S T w S.size T.size rfl rfl hne
    have e : decide (S.size < T.size) = decide (a < b) := by
      rcases Nat.lt_or_gt_of_ne hne with hl | hl
      · rw [decide_eq_true hl]
        have := Pl.order_len A B hl
        exact (decide_eq_true (by omega)).symm
      · rw [decide_eq_false (show ¬ S.size < T.size by omega)]
        have := Pl.order_len B A hl
        exact (decide_eq_false (by omega)).symm
    rw [e] at this
    exact this

theorem same_month {S T : ByteArray} {a : Nat} (h : S.data.toList = Pl.txt a) (h' : T.data.toList = Pl.txt a) : (S.toList == T.toList) = true := by
  rw [ByteArray.toList_eq, ByteArray.toList_eq, h, h']; simp
theorem other_month {S T : ByteArray} {a b : Nat} (h : S.data.toList = Pl.txt a) (h' : T.data.toList = Pl.txt b) (ha : a ≤ 9223372036854775807) (hb : b ≤ 9223372036854775807) (hne : a ≠ b) : (S.toList == T.toList) = false := by
  rw [ByteArray.toList_eq, ByteArray.toList_eq, h, h', beq_eq_false_iff_ne]
  intro e
  have A := isM_of h ha
  have B := isM_of h' hb
  have es : T.size = S.size := by
    have e1 : S.size = (Pl.txt a).length := by rw [← h]; simp
    have e2 : T.size = (Pl.txt b).length := by rw [← h']; simp
    rw [e1, e2, e]
  rw [es] at B
  have := Pl.order_same A B (fun j _ => by unfold mb; rw [e])
  omega

set_option maxHeartbeats 1000000 in
theorem order_any (F : Interp) (x y : Int) (w : World) (h0 : -9223372036854775808 ≤ x) (h1 : x ≤ 9223372036854775807) (h2 : -9223372036854775808 ≤ y) (h3 : y ≤ 9223372036854775807) (hF : F.told.answers w.tape) :
    Calls Tryf.prog 4 #[.int .i64 x, .int .i64 y] w fun e w' => e = .returned (.bool true) ∧ Below w.heap.size w w' := by
  by_cases hA : x < 0
  · go_enter Tryf.func4, Tryf.ntmps4
    go_wp2
    go_ret
    exact ⟨rfl, Below.refl _ _⟩
  by_cases hB : y < 0
  · go_enter Tryf.func4, Tryf.ntmps4
    go_wp2
    go_ret
    exact ⟨rfl, Below.refl _ _⟩
  obtain ⟨a, rfl⟩ : ∃ n : Nat, x = (n : Int) := ⟨x.toNat, by omega⟩
  obtain ⟨b, rfl⟩ : ∃ n : Nat, y = (n : Int) := ⟨y.toNat, by omega⟩
  have HF : Hid (F.told.answers w.tape) := hF
  clear hF
  rcases Nat.lt_trichotomy a b with hab | hab | hab
  · go_enter Tryf.func4, Tryf.ntmps4
    go_wp2_with fail
    refine (month_text F a (by omega) w HF.out).mono ?_
    rintro e w1 ⟨S, rfl, hS, hb1⟩
    have HS : Hid (S.data.toList = Pl.txt a) := hS
    clear hS
    go_wp2_with fail
    refine (month_text F b (by omega) w1 (by rw [hb1.tape]; exact HF.out)).mono ?_
    rintro e w2 ⟨T, rfl, hT, hb2⟩
    have HT : Hid (T.data.toList = Pl.txt b) := hT
    have HB : Hid (Below w.heap.size w w2) := hb1.trans (hb2.mono hb1.size)
    clear hT hb1 hb2
    go_wp2_with fail
    refine (read_month S a w2 HS.out (by omega)).mono ?_
    rintro e w3 ⟨rfl, rfl⟩
    go_wp2_with fail
    refine (read_month T b _ HT.out (by omega)).mono ?_
    rintro e w4 ⟨rfl, rfl⟩
    go_wp2_with fail
    have Z := slx_month S T a b w4 HS.out HT.out (by omega) (by omega)
    rw [decide_eq_true hab] at Z
    refine Z.mono ?_
    clear Z
    rintro e w5 ⟨rfl, q, rfl⟩
    have hEq := other_month HS.out HT.out (by omega) (by omega) (by omega)
    go_wp2
    go_ret
    exact ⟨ret_true (by simp; omega), below_drewN HB.out _⟩
  · subst hab
    go_enter Tryf.func4, Tryf.ntmps4
    go_wp2_with fail
    refine (month_text F a (by omega) w HF.out).mono ?_
    rintro e w1 ⟨S, rfl, hS, hb1⟩
    have HS : Hid (S.data.toList = Pl.txt a) := hS
    clear hS
    go_wp2_with fail
    refine (month_text F a (by omega) w1 (by rw [hb1.tape]; exact HF.out)).mono ?_
    rintro e w2 ⟨T, rfl, hT, hb2⟩
    have HT : Hid (T.data.toList = Pl.txt a) := hT
    have HB : Hid (Below w.heap.size w w2) := hb1.trans (hb2.mono hb1.size)
    clear hT hb1 hb2
    go_wp2_with fail
    refine (read_month S a w2 HS.out (by omega)).mono ?_
    rintro e w3 ⟨rfl, rfl⟩
    go_wp2_with fail
    refine (read_month T a _ HT.out (by omega)).mono ?_
    rintro e w4 ⟨rfl, rfl⟩
    go_wp2_with fail
    have Z := slx_month S T a a w4 HS.out HT.out (by omega) (by omega)
    rw [decide_eq_false (Nat.lt_irrefl a)] at Z
    refine Z.mono ?_
    clear Z
    rintro e w5 ⟨rfl, q, rfl⟩
    have hEq := same_month HS.out HT.out
    go_wp2
    go_ret
    exact ⟨rfl, below_drewN HB.out _⟩
  · go_enter Tryf.func4, Tryf.ntmps4
    go_wp2_with fail
    refine (month_text F a (by omega) w HF.out).mono ?_
    rintro e w1 ⟨S, rfl, hS, hb1⟩
    have HS : Hid (S.data.toList = Pl.txt a) := hS
    clear hS
    go_wp2_with fail
    refine (month_text F b (by omega) w1 (by rw [hb1.tape]; exact HF.out)).mono ?_
    rintro e w2 ⟨T, rfl, hT, hb2⟩
    have HT : Hid (T.data.toList = Pl.txt b) := hT
    have HB : Hid (Below w.heap.size w w2) := hb1.trans (hb2.mono hb1.size)
    clear hT hb1 hb2
    go_wp2_with fail
    refine (read_month S a w2 HS.out (by omega)).mono ?_
    rintro e w3 ⟨rfl, rfl⟩
    go_wp2_with fail
    refine (read_month T b _ HT.out (by omega)).mono ?_
    rintro e w4 ⟨rfl, rfl⟩
    go_wp2_with fail
    have Z := slx_month S T a b w4 HS.out HT.out (by omega) (by omega)
    rw [decide_eq_false (show ¬ a < b by omega)] at Z
    refine Z.mono ?_
    clear Z
    rintro e w5 ⟨rfl, q, rfl⟩
    have hEq := other_month HS.out HT.out (by omega) (by omega) (by omega)
    go_wp2
    go_ret
    exact ⟨ret_true (by simp; omega), below_drewN HB.out _⟩
end Go.Proofs.Qxb6616428aFmt
