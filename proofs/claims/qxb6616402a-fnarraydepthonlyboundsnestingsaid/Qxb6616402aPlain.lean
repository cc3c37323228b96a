/-
  THE PLAIN PART (no Go in sight): what the reader of an array of nulls, and the grammar automaton, both compute. 'g': the bytes, 'n': how many.
-/
namespace Go.Proofs.Qxb6616402a.Pl

def isSp (c : Int) : Bool := c == 32 || c == 9 || c == 10 || c == 13

def skipF (g : Nat → Int) (n : Nat) : Nat → Nat → Nat
  | 0, i => i
  | f + 1, i => if i < n ∧ isSp (g i) = true then skipF g n f (i + 1) else i

def skip (g : Nat → Int) (n i : Nat) : Nat := skipF g n (n - i) i

theorem skip_step {g : Nat → Int} {n i : Nat} (h : i < n) (hs : isSp (g i) = true) : skip g n i = skip g n (i + 1) := by
  unfold skip
  obtain ⟨m, hm⟩ : ∃ m, n - i = m + 1 := ⟨n - i - 1, by omega⟩
  rw [hm, show n - (i + 1) = m from by omega]
  show (if i < n ∧ isSp (g i) = true then skipF g n m (i + 1) else i) = _
  rw [if_pos ⟨h, hs⟩]

theorem skip_stop {g : Nat → Int} {n i : Nat} (h : ¬ (i < n ∧ isSp (g i) = true)) : skip g n i = i := by
  unfold skip
  generalize n - i = m
  cases m with
  | zero => rfl
  | succ m =>
    show (if i < n ∧ isSp (g i) = true then skipF g n m (i + 1) else i) = _
    rw [if_neg h]

theorem skip_past {g : Nat → Int} {n i : Nat} (h : n ≤ i) : skip g n i = i := skip_stop (by omega)

theorem skipF_ge (g : Nat → Int) (n : Nat) : ∀ f i, i ≤ skipF g n f i := by
  intro f
  induction f with
  | zero => intro i; exact Nat.le_refl _
  | succ f ih =>
    intro i
    show i ≤ (if i < n ∧ isSp (g i) = true then skipF g n f (i + 1) else i)
    split
    · have := ih (i + 1); omega
    · exact Nat.le_refl _

theorem skip_ge (g : Nat → Int) (n i : Nat) : i ≤ skip g n i := skipF_ge g n _ i

theorem skipF_le (g : Nat → Int) (n : Nat) : ∀ f i, i ≤ n → skipF g n f i ≤ n := by
  intro f
  induction f with
  | zero => intro i h; exact h
  | succ f ih =>
    intro i h
    show (if i < n ∧ isSp (g i) = true then skipF g n f (i + 1) else i) ≤ n
    split
    · rename_i hh; exact ih (i + 1) (by omega)
    · exact h

theorem skip_le {g : Nat → Int} {n i : Nat} (h : i ≤ n) : skip g n i ≤ n := skipF_le g n _ i h

theorem skipF_end (g : Nat → Int) (n : Nat) : ∀ f i, n - i ≤ f → ¬ (skipF g n f i < n ∧ isSp (g (skipF g n f i)) = true) := by
  intro f
  induction f with
  | zero => intro i h; show ¬ (i < n ∧ isSp (g i) = true); omega
  | succ f ih =>
    intro i h
    show ¬ ((if i < n ∧ isSp (g i) = true then skipF g n f (i + 1) else i) < n ∧ isSp (g (if i < n ∧ isSp (g i) = true then skipF g n f (i + 1) else i)) = true)
    split
    · exact ih (i + 1) (by omega)
    · assumption

theorem skip_end (g : Nat → Int) (n i : Nat) : ¬ (skip g n i < n ∧ isSp (g (skip g n i)) = true) := skipF_end g n _ i (Nat.le_refl _)

theorem skip_idem (g : Nat → Int) (n i : Nat) : skip g n (skip g n i) = skip g n i := skip_stop (skip_end g n i)

/-- 'c stands at j'. -/
def at_ (g : Nat → Int) (n j : Nat) (c : Int) : Bool := decide (j < n ∧ g j = c)
def nullAt (g : Nat → Int) (n j : Nat) : Bool := decide (j + 4 ≤ n ∧ g j = 110 ∧ g (j + 1) = 117 ∧ g (j + 2) = 108 ∧ g (j + 3) = 108)

theorem at_t {g : Nat → Int} {n j : Nat} {c : Int} (h : at_ g n j c = true) : j < n ∧ g j = c := of_decide_eq_true h
theorem at_f {g : Nat → Int} {n j : Nat} {c : Int} (h : at_ g n j c = false) : ¬ (j < n ∧ g j = c) := of_decide_eq_false h
theorem at_mk {g : Nat → Int} {n j : Nat} {c : Int} (h : j < n) (e : g j = c) : at_ g n j c = true := decide_eq_true ⟨h, e⟩
theorem at_no {g : Nat → Int} {n j : Nat} {c : Int} (h : ¬ (j < n ∧ g j = c)) : at_ g n j c = false := decide_eq_false h
theorem null_t {g : Nat → Int} {n j : Nat} (h : nullAt g n j = true) : j + 4 ≤ n ∧ g j = 110 ∧ g (j + 1) = 117 ∧ g (j + 2) = 108 ∧ g (j + 3) = 108 := of_decide_eq_true h

/-- Where no white space stands, skipping stays: c no white space, c stands at i. -/
theorem skip_at {g : Nat → Int} {n i : Nat} {c : Int} (hc : isSp c = false) (h : at_ g n i c = true) : skip g n i = i := by
  obtain ⟨_, e⟩ := at_t h
  exact skip_stop (fun hh => by rw [e, hc] at hh; exact absurd hh.2 (by decide))

/-- The elements behind '[' (or behind ','): fuel f. -/
def elemsF (g : Nat → Int) (n : Nat) : Nat → Nat → Bool × Nat
  | 0, i => (false, i)
  | f + 1, i =>
    if nullAt g n (skip g n i) = true then
      if at_ g n (skip g n (skip g n i + 4)) 93 = true then (true, skip g n (skip g n i + 4) + 1)
      else if at_ g n (skip g n (skip g n i + 4)) 44 = true then elemsF g n f (skip g n (skip g n i + 4) + 1)
      else (false, skip g n (skip g n i + 4))
    else (false, skip g n i)

theorem elemsF_enough (g : Nat → Int) (n : Nat) : ∀ f f' i, n < i + f → n < i + f' → elemsF g n f i = elemsF g n f' i := by
  intro f
  induction f with
  | zero =>
    intro f' i h h'
    cases f' with
    | zero => rfl
    | succ f' =>
      have h1 : skip g n i = i := skip_past (by omega)
      show (false, i) = (if nullAt g n (skip g n i) = true then _ else _)
      rw [if_neg (by rw [h1]; intro hh; have := null_t hh; omega), h1]
  | succ f ih =>
    intro f' i h h'
    cases f' with
    | zero =>
      have h1 : skip g n i = i := skip_past (by omega)
      show (if nullAt g n (skip g n i) = true then _ else _) = (false, i)
      rw [if_neg (by rw [h1]; intro hh; have := null_t hh; omega), h1]
    | succ f' =>
      show (if nullAt g n (skip g n i) = true then _ else _) = (if nullAt g n (skip g n i) = true then _ else _)
      have h1 := skip_ge g n i
      have h2 := skip_ge g n (skip g n i + 4)
      rw [ih f' (skip g n (skip g n i + 4) + 1) (by omega) (by omega)]

/-- The elements at i; and what stands behind an element (state 2). -/
def elems (g : Nat → Int) (n i : Nat) : Bool × Nat := elemsF g n (n + 1 - i) i
def after (g : Nat → Int) (n i : Nat) : Bool × Nat :=
  if at_ g n (skip g n i) 93 = true then (true, skip g n i + 1)
  else if at_ g n (skip g n i) 44 = true then elems g n (skip g n i + 1)
  else (false, skip g n i)

theorem elems_eq (g : Nat → Int) (n i : Nat) : elems g n i = if nullAt g n (skip g n i) = true then after g n (skip g n i + 4) else (false, skip g n i) := by
  have e : elems g n i = elemsF g n (n + 1 - i + 1) i := elemsF_enough g n _ _ _ (by omega) (by omega)
  rw [e]
  show (if nullAt g n (skip g n i) = true then _ else _) = _
  unfold after elems
  have h1 := skip_ge g n i
  have h2 := skip_ge g n (skip g n i + 4)
  rw [elemsF_enough g n (n + 1 - i) (n + 1 - (skip g n (skip g n i + 4) + 1)) (skip g n (skip g n i + 4) + 1) (by omega) (by omega)]

theorem elems_no {g : Nat → Int} {n i : Nat} (h : nullAt g n (skip g n i) = false) : elems g n i = (false, skip g n i) := by
  rw [elems_eq, h]; rfl
theorem elems_end {g : Nat → Int} {n i : Nat} (h : nullAt g n (skip g n i) = true) (h2 : at_ g n (skip g n (skip g n i + 4)) 93 = true) : elems g n i = (true, skip g n (skip g n i + 4) + 1) := by
  rw [elems_eq, h, if_pos rfl]; unfold after; rw [if_pos h2]
theorem elems_on {g : Nat → Int} {n i : Nat} (h : nullAt g n (skip g n i) = true) (h2 : at_ g n (skip g n (skip g n i + 4)) 93 = false) (h3 : at_ g n (skip g n (skip g n i + 4)) 44 = true) : elems g n i = elems g n (skip g n (skip g n i + 4) + 1) := by
  rw [elems_eq, h, if_pos rfl]; unfold after; rw [h2, if_neg (by decide), if_pos h3]
theorem elems_bad {g : Nat → Int} {n i : Nat} (h : nullAt g n (skip g n i) = true) (h2 : at_ g n (skip g n (skip g n i + 4)) 93 = false) (h3 : at_ g n (skip g n (skip g n i + 4)) 44 = false) : elems g n i = (false, skip g n (skip g n i + 4)) := by
  rw [elems_eq, h, if_pos rfl]; unfold after; rw [h2, h3, if_neg (by decide), if_neg (by decide)]

theorem elems_skip (g : Nat → Int) (n i : Nat) : elems g n (skip g n i) = elems g n i := by
  rw [elems_eq g n (skip g n i), elems_eq g n i, skip_idem]
theorem after_skip (g : Nat → Int) (n i : Nat) : after g n (skip g n i) = after g n i := by
  unfold after; rw [skip_idem]

/-- Behind '[' (state 1). -/
def opened (g : Nat → Int) (n i : Nat) : Bool × Nat :=
  if at_ g n (skip g n i) 93 = true then (true, skip g n i + 1) else elems g n i
theorem opened_skip (g : Nat → Int) (n i : Nat) : opened g n (skip g n i) = opened g n i := by
  unfold opened; rw [skip_idem, elems_skip]

/-- The depth that is left: as it was where the array was read, one more where it was refused behind '['. -/
def left (depth : Int) (ok : Bool) : Int := if ok = true then depth else depth + 1

/-- The whole: answered, stopped at, depth left. -/
def arr (g : Nat → Int) (n i : Nat) (depth : Int) : Bool × Nat × Int :=
  if at_ g n (skip g n i) 91 = true then
    if 64 ≤ depth then (false, skip g n i + 1, depth + 1)
    else ((opened g n (skip g n i + 1)).1, (opened g n (skip g n i + 1)).2, left depth (opened g n (skip g n i + 1)).1)
  else (false, skip g n i, depth)

/-- The automaton's state s at place i: what it will answer. -/
def rest (g : Nat → Int) (n : Nat) (s : Int) (i : Nat) (depth : Int) : Bool × Nat × Int :=
  if s = 0 then arr g n i depth
  else if s = 1 then ((opened g n i).1, (opened g n i).2, left depth (opened g n i).1)
  else if s = 2 then ((after g n i).1, (after g n i).2, left depth (after g n i).1)
  else ((elems g n i).1, (elems g n i).2, left depth (elems g n i).1)


theorem rest0_no {g : Nat → Int} {n k : Nat} {d : Int} (h : ¬ (skip g n k < n ∧ g (skip g n k) = 91)) : rest g n 0 k d = (false, skip g n k, d) := by
  simp [rest, arr, at_no h]
theorem rest0_deep {g : Nat → Int} {n k : Nat} {d : Int} (h : skip g n k < n) (e : g (skip g n k) = 91) (hd : 64 ≤ d) : rest g n 0 k d = (false, skip g n k + 1, d + 1) := by
  simp [rest, arr, at_mk h e, hd]
theorem rest0_in {g : Nat → Int} {n k : Nat} {d : Int} (h : skip g n k < n) (e : g (skip g n k) = 91) (hd : ¬ 64 ≤ d) : rest g n 0 k d = rest g n 1 (skip g n k + 1) d := by
  simp [rest, arr, at_mk h e, hd]
theorem rest1_end {g : Nat → Int} {n k : Nat} {d : Int} (h : skip g n k < n) (e : g (skip g n k) = 93) : rest g n 1 k d = (true, skip g n k + 1, d) := by
  simp [rest, opened, at_mk h e, left]
theorem rest1_no {g : Nat → Int} {n k : Nat} {d : Int} (h : ¬ (skip g n k < n ∧ g (skip g n k) = 93)) (hn : nullAt g n (skip g n k) = false) : rest g n 1 k d = (false, skip g n k, d + 1) := by
  simp [rest, opened, at_no h, elems_eq g n k, hn, left]
theorem rest1_on {g : Nat → Int} {n k : Nat} {d : Int} (h : ¬ (skip g n k < n ∧ g (skip g n k) = 93)) (hn : nullAt g n (skip g n k) = true) : rest g n 1 k d = rest g n 2 (skip g n k + 4) d := by
  simp [rest, opened, at_no h, elems_eq g n k, hn]
theorem rest2_end {g : Nat → Int} {n k : Nat} {d : Int} (h : skip g n k < n) (e : g (skip g n k) = 93) : rest g n 2 k d = (true, skip g n k + 1, d) := by
  simp [rest, after, at_mk h e, left]
theorem rest2_no {g : Nat → Int} {n k : Nat} {d : Int} (h : ¬ (skip g n k < n ∧ g (skip g n k) = 93)) (h' : ¬ (skip g n k < n ∧ g (skip g n k) = 44)) : rest g n 2 k d = (false, skip g n k, d + 1) := by
  simp [rest, after, at_no h, at_no h', left]
theorem rest2_on {g : Nat → Int} {n k : Nat} {d : Int} (h : skip g n k < n) (e : g (skip g n k) = 44) : rest g n 2 k d = rest g n 3 (skip g n k + 1) d := by
  have h93 : ¬ (skip g n k < n ∧ g (skip g n k) = 93) := by omega
  simp [rest, after, at_no h93, at_mk h e]
theorem rest3_no {g : Nat → Int} {n k : Nat} {d : Int} (hn : nullAt g n (skip g n k) = false) : rest g n 3 k d = (false, skip g n k, d + 1) := by
  simp [rest, elems_eq g n k, hn, left]
theorem rest3_on {g : Nat → Int} {n k : Nat} {d : Int} (hn : nullAt g n (skip g n k) = true) : rest g n 3 k d = rest g n 2 (skip g n k + 4) d := by
  simp [rest, elems_eq g n k, hn]

end Go.Proofs.Qxb6616402a.Pl
