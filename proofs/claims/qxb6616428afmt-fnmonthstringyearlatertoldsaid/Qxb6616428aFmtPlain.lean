/-
  THE PLAIN PART (no Go in sight): the text of a month, byte by byte; what it reads back as; its order.
-/
import Derived.Stop.FmtTextKit
namespace Go.Proofs.Qxb6616428aFmt.Pl
open Go.Extern

theorem pow_pos10 (k : Nat) : 1 ≤ 10 ^ k := Nat.one_le_pow _ _ (by decide)
theorem pow_succ10 (k : Nat) : 10 ^ (k + 1) = 10 ^ k * 10 := Nat.pow_succ ..
theorem pow_mono10 {a b : Nat} (h : a ≤ b) : 10 ^ a ≤ 10 ^ b := Nat.pow_le_pow_right (by decide) h

theorem pow_le_of_digits (u : Nat) : 1 < Lib.nDigits u → 10 ^ (Lib.nDigits u - 1) ≤ u := by
  induction u using Nat.strongRecOn with
  | _ u ih =>
    intro h
    by_cases hs : u < 10
    · rw [Lib.nDigits_small hs] at h; omega
    · rw [Lib.nDigits_big hs] at h ⊢
      by_cases h1 : 1 < Lib.nDigits (u / 10)
      · have := ih (u / 10) (by omega) h1
        obtain ⟨q, hq⟩ : ∃ q, Lib.nDigits (u / 10) = q + 1 := ⟨_, (Nat.succ_pred_eq_of_pos (by omega)).symm⟩
        rw [hq] at this ⊢
        simp only [Nat.add_sub_cancel] at this ⊢
        rw [pow_succ10]
        omega
      · have e : Lib.nDigits (u / 10) = 1 := by have := Lib.nDigits_pos (u / 10); omega
        rw [e]
        simp
        omega

/-- The width of a number that is written in N digits at least. -/
def wide (N u : Nat) : Nat := max N (Lib.nDigits u)

theorem zeros_at (N u : Nat) : (FmtText.zeros N (u : Int)).length = wide N u ∧ ∀ k, k < wide N u → (FmtText.zeros N (u : Int)).getD k 0 = UInt8.ofNat (48 + u / 10 ^ (wide N u - 1 - k) % 10) := by
  have e : FmtText.zeros N (u : Int) = List.replicate (N - Lib.nDigits u) 48 ++ (List.range (Lib.nDigits u)).map fun t => Lib.dg u (Lib.nDigits u - 1 - t) := by
    rw [FmtText.zeros, if_neg (by omega), Int.toNat_natCast, Lib.decDigits_length, Lib.decDigits_eq]
  have hp := Lib.nDigits_pos u
  have hl := Lib.lt_pow_nDigits u
  refine ⟨?_, ?_⟩
  · rw [e]; simp [wide]; omega
  · intro k hk
    unfold wide at hk ⊢
    rw [e, List.getD_eq_getElem?_getD]
    by_cases h1 : k < N - Lib.nDigits u
    · rw [List.getElem?_append_left (by simpa using h1), List.getElem?_replicate, if_pos h1]
      have h2 : u < 10 ^ (max N (Lib.nDigits u) - 1 - k) := Nat.lt_of_lt_of_le hl (pow_mono10 (by omega))
      rw [Nat.div_eq_of_lt h2]
      rfl
    · have h3 : k - (N - Lib.nDigits u) < Lib.nDigits u := by omega
      rw [List.getElem?_append_right (by simp; omega), List.length_replicate, List.getElem?_map, List.getElem?_range h3]
      simp only [Option.map_some, Option.getD_some, Lib.dg]
      rw [show Lib.nDigits u - 1 - (k - (N - Lib.nDigits u)) = max N (Lib.nDigits u) - 1 - k from by omega]

/-- The text of month m. -/
def txt (m : Nat) : List UInt8 := FmtText.zeros 4 ((m / 12 : Nat) : Int) ++ [45] ++ FmtText.zeros 2 ((m % 12 + 1 : Nat) : Int)

/-- n bytes, f: the year Y in L digits, a '-', the month mo in two. -/
structure IsM (n : Nat) (f : Nat → Nat) (L Y mo : Nat) : Prop where
  size : n = L + 3
  ge : 4 ≤ L
  le : L ≤ 18
  lt : Y < 10 ^ L
  lead : 4 < L → 10 ^ (L - 1) ≤ Y
  dig : ∀ k, k < L → f k = 48 + Y / 10 ^ (L - 1 - k) % 10
  dash : f L = 45
  m1 : f (L + 1) = 48 + mo / 10
  m2 : f (L + 2) = 48 + mo % 10
  mlo : 1 ≤ mo
  mhi : mo ≤ 12
  ymax : Y ≤ 768614336404564650

theorem u8_dig {d : Nat} (h : d < 10) : (UInt8.ofNat (48 + d)).toNat = 48 + d := by
  simp
  omega

theorem isM_txt (m : Nat) (hm : m ≤ 9223372036854775807) : IsM (txt m).length (fun k => ((txt m).getD k 0).toNat) (wide 4 (m / 12)) (m / 12) (m % 12 + 1) := by
  obtain ⟨l1, g1⟩ := zeros_at 4 (m / 12)
  obtain ⟨l2, g2⟩ := zeros_at 2 (m % 12 + 1)
  have hd := Lib.lt_pow_nDigits (m / 12)
  have hd2 := pow_le_of_digits (m / 12)
  have w2 : wide 2 (m % 12 + 1) = 2 := by
    unfold wide
    have h2 := pow_le_of_digits (m % 12 + 1)
    by_cases h : Lib.nDigits (m % 12 + 1) ≤ 2
    · omega
    · have := h2 (by omega)
      have h3 : 10 ^ 2 ≤ 10 ^ (Lib.nDigits (m % 12 + 1) - 1) := pow_mono10 (by omega)
      omega
  have hL : wide 4 (m / 12) ≤ 18 := by
    unfold wide
    by_cases h : Lib.nDigits (m / 12) ≤ 18
    · omega
    · have := hd2 (by omega)
      have h3 : 10 ^ 18 ≤ 10 ^ (Lib.nDigits (m / 12) - 1) := pow_mono10 (by omega)
      omega
  rw [w2] at l2 g2
  have et : txt m = FmtText.zeros 4 ((m / 12 : Nat) : Int) ++ [45] ++ FmtText.zeros 2 ((m % 12 + 1 : Nat) : Int) := rfl
  rw [et]
  generalize FmtText.zeros 4 ((m / 12 : Nat) : Int) = P at l1 g1
  generalize FmtText.zeros 2 ((m % 12 + 1 : Nat) : Int) = Q at l2 g2
  refine ⟨?_, ?_, hL, ?_, ?_, ?_, ?_, ?_, ?_, by omega, by omega, by omega⟩
  · simp [l1, l2]
  · unfold wide; omega
  · exact Nat.lt_of_lt_of_le hd (pow_mono10 (by unfold wide; omega))
  · intro h
    have e : wide 4 (m / 12) = Lib.nDigits (m / 12) := by unfold wide at h ⊢; omega
    rw [e] at h ⊢
    exact hd2 (by omega)
  · intro k hk
    show ((P ++ [45] ++ Q).getD k 0).toNat = _
    have e : (P ++ [45] ++ Q).getD k 0 = P.getD k 0 := by
      simp only [List.getD_eq_getElem?_getD]
      rw [List.append_assoc, List.getElem?_append_left (by omega)]
    rw [e, g1 k hk, u8_dig (Nat.mod_lt _ (by decide))]
  · show ((P ++ [45] ++ Q).getD (wide 4 (m / 12)) 0).toNat = _
    have e : (P ++ [45] ++ Q).getD (wide 4 (m / 12)) 0 = 45 := by
      simp only [List.getD_eq_getElem?_getD]
      rw [List.append_assoc, List.getElem?_append_right (by omega), l1]
      simp
    rw [e]; rfl
  · show ((P ++ [45] ++ Q).getD (wide 4 (m / 12) + 1) 0).toNat = _
    have e : (P ++ [45] ++ Q).getD (wide 4 (m / 12) + 1) 0 = Q.getD 0 0 := by
      simp only [List.getD_eq_getElem?_getD]
      rw [List.getElem?_append_right (by simp; omega)]
      simp [l1]
    rw [e, g2 0 (by decide), u8_dig (Nat.mod_lt _ (by decide))]
    simp
    omega
  · show ((P ++ [45] ++ Q).getD (wide 4 (m / 12) + 2) 0).toNat = _
    have e : (P ++ [45] ++ Q).getD (wide 4 (m / 12) + 2) 0 = Q.getD 1 0 := by
      simp only [List.getD_eq_getElem?_getD]
      rw [List.getElem?_append_right (by simp; omega)]
      simp [l1]
    rw [e, g2 1 (by decide), u8_dig (Nat.mod_lt _ (by decide))]
    simp

/-! ### What is read so far -/
def val (L Y k : Nat) : Nat := Y / 10 ^ (L - k)
theorem val_zero {L Y : Nat} (h : Y < 10 ^ L) : val L Y 0 = 0 := Nat.div_eq_of_lt h
theorem val_end (L Y : Nat) : val L Y L = Y := by simp [val]
theorem val_step {L k : Nat} (Y : Nat) (h : k < L) : val L Y (k + 1) = val L Y k * 10 + Y / 10 ^ (L - 1 - k) % 10 := by
  unfold val
  rw [show L - (k + 1) = L - 1 - k from by omega, show L - k = (L - 1 - k) + 1 from by omega, pow_succ10, ← Nat.div_div_eq_div_mul]
  omega
theorem val_le (L Y k : Nat) : val L Y k ≤ Y := Nat.div_le_self _ _

/-! ### The order -/
theorem same_pre {n f L Y mo n' f' Y' mo'} (A : IsM n f L Y mo) (B : IsM n' f' L Y' mo') : ∀ k, k ≤ L → (∀ j, j < k → f j = f' j) → val L Y k = val L Y' k := by
  intro k
  induction k with
  | zero => intro _ _; rw [val_zero A.lt, val_zero B.lt]
  | succ k ih =>
    intro hk hj
    have h1 := ih (by omega) (fun j h => hj j (by omega))
    have h2 := hj k (by omega)
    rw [A.dig k (by omega), B.dig k (by omega)] at h2
    rw [val_step Y (by omega), val_step Y' (by omega)]
    omega

theorem lt_of_div {a b p : Nat} (h : a / p < b / p) : a < b := by
  rcases Nat.lt_or_ge a b with h' | h'
  · exact h'
  · exact absurd (Nat.div_le_div_right (c := p) h') (by omega)

/-- The first byte that differs tells the order. -/
theorem order_at {n f L Y mo n' f' Y' mo'} (A : IsM n f L Y mo) (B : IsM n' f' L Y' mo') (k : Nat) (hk : k < L + 3) (hj : ∀ j, j < k → f j = f' j) (hlt : f k < f' k) : Y * 12 + mo < Y' * 12 + mo' := by
  have a1 := A.mlo; have a2 := A.mhi; have b1 := B.mlo; have b2 := B.mhi
  by_cases h1 : k < L
  · have h := same_pre A B k (by omega) hj
    rw [A.dig k h1, B.dig k h1] at hlt
    have hs := val_step Y h1
    have hs' := val_step Y' h1
    have : val L Y (k + 1) < val L Y' (k + 1) := by omega
    have := lt_of_div this
    omega
  · have h := same_pre A B L (Nat.le_refl _) (fun j h => hj j (by omega))
    rw [val_end, val_end] at h
    subst h
    by_cases h2 : k = L
    · subst h2; rw [A.dash, B.dash] at hlt; omega
    · by_cases h3 : k = L + 1
      · subst h3; rw [A.m1, B.m1] at hlt; omega
      · obtain rfl : k = L + 2 := by omega
        have h4 := hj (L + 1) (by omega)
        rw [A.m1, B.m1] at h4
        rw [A.m2, B.m2] at hlt
        omega

theorem order_len {n f L Y mo n' f' L' Y' mo'} (A : IsM n f L Y mo) (B : IsM n' f' L' Y' mo') (h : n < n') : Y * 12 + mo < Y' * 12 + mo' := by
  have a1 := A.size; have a2 := B.size; have a3 := A.ge; have a4 := A.mhi; have a5 := B.mlo
  have h1 := B.lead (by omega)
  have h2 := A.lt
  have h3 : 10 ^ L ≤ 10 ^ (L' - 1) := pow_mono10 (by omega)
  have : Y < Y' := by omega
  omega

theorem len_eq {n f L Y mo f' L' Y' mo'} (A : IsM n f L Y mo) (B : IsM n f' L' Y' mo') : L = L' := by
  have a1 := A.size; have a2 := B.size; omega

theorem order_same {n f L Y mo f' L' Y' mo'} (A : IsM n f L Y mo) (B : IsM n f' L' Y' mo') (hj : ∀ j, j < n → f j = f' j) : Y = Y' ∧ mo = mo' := by
  obtain rfl := len_eq A B
  have a1 := A.size
  have h := same_pre A B L (Nat.le_refl _) (fun j h => hj j (by omega))
  rw [val_end, val_end] at h
  have h1 := hj (L + 1) (by omega)
  have h2 := hj (L + 2) (by omega)
  rw [A.m1, B.m1] at h1
  rw [A.m2, B.m2] at h2
  omega

end Go.Proofs.Qxb6616428aFmt.Pl
