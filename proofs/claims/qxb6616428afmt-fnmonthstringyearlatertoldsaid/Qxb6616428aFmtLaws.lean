/-
  THE TWO LAWS' WALKS, fmt's text told.
-/
import Derived.Test.Qxb6616428aFmtText
import Derived.Test.Qxb6616428aFmtCmp
namespace Go.Proofs.Qxb6616428aFmt
open Go.ChangeShapes Go.WideShapes Go.ChangeAt Go.RowKit
open Go.Extern.Stop Go.Stop Go.Extern

/-- The bytes of month m's text. -/
def mb (m k : Nat) : Nat := ((Pl.txt m).getD k 0).toNat

theorem bytes_of {S : ByteArray} {m : Nat} (h : S.data.toList = Pl.txt m) : Bytes S (mb m) := by
  intro k hk
  unfold mb
  rw [← h, List.getD_eq_getElem?_getD, List.getElem?_eq_getElem (by simpa using hk)]
  rfl
theorem isM_of {S : ByteArray} {m : Nat} (h : S.data.toList = Pl.txt m) (hm : m ≤ 9223372036854775807) : Pl.IsM S.size (mb m) (Pl.wide 4 (m / 12)) (m / 12) (m % 12 + 1) := by
  have e : S.size = (Pl.txt m).length := by rw [← h]; simp
  rw [e]
  exact Pl.isM_txt m hm

/-- What a month's text reads back as. -/
theorem read_month (S : ByteArray) (m : Nat) (w : World) (h : S.data.toList = Pl.txt m) (hm : m ≤ 9223372036854775807) :
    Calls Tryf.prog 6 #[.string S] w fun e w' => e = .returned (.tuple #[.int .u64 m, .bool true]) ∧ w' = w := by
  have := read_any S (mb m) _ _ _ w (bytes_of h) (isM_of h hm)
  rw [show m / 12 * 12 + (m % 12 + 1) - 1 = m from by omega] at this
  exact this

theorem tail_month (S T : ByteArray) (m : Nat) (w : World) (h : S.data.toList = Pl.txt m) (h' : T.data.toList = Pl.txt (m + 12)) (hm : m + 12 ≤ 9223372036854775807) :
    Calls Tryf.prog 7 #[.string S, .string T, .int .i64 3] w fun e w' => e = .returned (.bool true) ∧ ∃ q, w' = w.drewN q := by
  have A := isM_of h (by omega)
  have B := isM_of h' hm
  have a1 := A.le
  have b1 := B.le
  refine tail_any S T (mb m) (mb (m + 12)) w (bytes_of h) (bytes_of h') _ _ A.size B.size (by omega) (by omega) ?_
  intro k hk1 hk2
  have e1 := A.dash
  have e2 := A.m1
  have e3 := A.m2
  have f1 := B.dash
  have f2 := B.m1
  have f3 := B.m2
  have hmod : (m + 12) % 12 = m % 12 := by omega
  rw [hmod] at f2 f3
  match k, hk1, hk2 with
  | 1, _, _ => simp only [show ∀ x : Nat, x + 3 - 1 = x + 2 from fun x => by omega]; rw [e3, f3]
  | 2, _, _ => simp only [show ∀ x : Nat, x + 3 - 2 = x + 1 from fun x => by omega]; rw [e2, f2]
  | 3, _, _ => simp only [show ∀ x : Nat, x + 3 - 3 = x from fun x => by omega]; rw [e1, f1]

theorem month_int (F : Interp) (m : Nat) (x : Int) (hx : x = (m : Int)) (hm : m ≤ 9223372036854775807) (w : World) (hF : F.told.answers w.tape) :
    Calls Tryf.prog 5 #[.int .i64 x] w fun e w' => ∃ S : ByteArray, e = .returned (.string S) ∧ S.data.toList = Pl.txt m ∧ Below w.heap.size w w' := by
  subst hx
  exact month_text F m hm w hF

theorem ret_true {b : Bool} (h : b = true) : Ending.returned (.bool b) = .returned (.bool true) := by rw [h]

set_option maxHeartbeats 400000 in
theorem year_any (F : Interp) (m : Int) (w : World) (h0 : -9223372036854775808 ≤ m) (h1 : m ≤ 9223372036854775807) (hF : F.told.answers w.tape) :
    Calls Tryf.prog 3 #[.int .i64 m] w fun e w' => e = .returned (.bool true) ∧ Below w.heap.size w w' := by
  by_cases hA : m < 0
  · go_enter Tryf.func3, Tryf.ntmps3
    go_wp2
    go_ret
    exact ⟨rfl, Below.refl _ _⟩
  by_cases hB : (9223372036854775795 : Int) < m
  · go_enter Tryf.func3, Tryf.ntmps3
    go_wp2
    go_ret
    exact ⟨rfl, Below.refl _ _⟩
  obtain ⟨n, rfl⟩ : ∃ n : Nat, m = (n : Int) := ⟨m.toNat, by omega⟩
  have HF : Hid (F.told.answers w.tape) := hF
  clear hF
  go_enter Tryf.func3, Tryf.ntmps3
  go_wp2_with fail
  refine (month_text F n (by omega) w HF.out).mono ?_
  rintro e w1 ⟨S, rfl, hS, hb1⟩
  have HS : Hid (S.data.toList = Pl.txt n) := hS
  clear hS
  go_wp2_with fail
  refine (month_int F (n + 12) _ (by omega) (by omega) w1 (by rw [hb1.tape]; exact HF.out)).mono ?_
  rintro e w2 ⟨T, rfl, hT, hb2⟩
  have HT : Hid (T.data.toList = Pl.txt (n + 12)) := hT
  have HB : Hid (Below w.heap.size w w2) := hb1.trans (hb2.mono hb1.size)
  clear hT hb1 hb2
  go_wp2_with fail
  refine (read_month S n w2 HS.out (by omega)).mono ?_
  rintro e w3 ⟨rfl, rfl⟩
  go_wp2_with fail
  refine (read_month T (n + 12) _ HT.out (by omega)).mono ?_
  rintro e w4 ⟨rfl, rfl⟩
  go_wp2_with fail
  refine (tail_month S T n w4 HS.out HT.out (by omega)).mono ?_
  rintro e w5 ⟨rfl, q, rfl⟩
  go_wp2
  go_ret
  exact ⟨rfl, below_drewN HB.out _⟩
end Go.Proofs.Qxb6616428aFmt
