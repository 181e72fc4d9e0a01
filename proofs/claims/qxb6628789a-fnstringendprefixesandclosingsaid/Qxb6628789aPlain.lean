/-
  The plain side of seat b6628789a: the scan for a string's end, and the second road to it, over a row of bytes 'f' of length 'n'. No Go here.
-/
import Derived.Test.Qxb6628789aRows
namespace Go.Proofs.Qxb6628789a.Plain

/-- The scan, with fuel. -/
def se (f : Nat → Int) (n : Nat) : Nat → Nat → Int
  | 0, _ => -1
  | d + 1, j => if j < n then (if f j = 92 then se f n d (j + 2) else if f j = 34 then (j : Int) + 1 else se f n d (j + 1)) else -1

theorem se_fuel (f : Nat → Int) (n : Nat) : ∀ d e j, n - j ≤ d → n - j ≤ e → se f n d j = se f n e j := by
  intro d
  induction d with
  | zero =>
    intro e j h1 _
    cases e with
    | zero => rfl
    | succ e => simp only [se]; rw [if_neg (by omega)]
  | succ d ih =>
    intro e j h1 h2
    cases e with
    | zero => simp only [se]; rw [if_neg (by omega)]
    | succ e =>
      simp only [se]
      by_cases hj : j < n
      · rw [if_pos hj, if_pos hj, ih e (j + 2) (by omega) (by omega), ih e (j + 1) (by omega) (by omega)]
      · rw [if_neg hj, if_neg hj]

def SE (f : Nat → Int) (n j : Nat) : Int := se f n (n - j) j

theorem SE_end {f : Nat → Int} {n j : Nat} (h : n ≤ j) : SE f n j = -1 := by
  unfold SE
  rw [Nat.sub_eq_zero_of_le h]
  rfl
theorem SE_step (f : Nat → Int) {n j : Nat} (h : j < n) : SE f n j = if f j = 92 then SE f n (j + 2) else if f j = 34 then (j : Int) + 1 else SE f n (j + 1) := by
  unfold SE
  obtain ⟨d, hd⟩ : ∃ d, n - j = d + 1 := ⟨n - j - 1, by omega⟩
  rw [hd]
  simp only [se]
  rw [if_pos h, se_fuel f n d (n - (j + 2)) (j + 2) (by omega) (by omega), se_fuel f n d (n - (j + 1)) (j + 1) (by omega) (by omega)]
theorem SE_back {f : Nat → Int} {n j : Nat} (h : j < n) (h1 : f j = 92) : SE f n j = SE f n (j + 2) := by rw [SE_step f h, if_pos h1]
theorem SE_quote {f : Nat → Int} {n j : Nat} (h : j < n) (h1 : f j = 34) : SE f n j = (j : Int) + 1 := by rw [SE_step f h, if_neg (by omega), if_pos h1]
theorem SE_other {f : Nat → Int} {n j : Nat} (h : j < n) (h1 : f j ≠ 92) (h2 : f j ≠ 34) : SE f n j = SE f n (j + 1) := by rw [SE_step f h, if_neg h1, if_neg h2]

/-- What an answer is: none, or one past a quote. -/
theorem SE_answer (f : Nat → Int) (n : Nat) : ∀ m j, n - j ≤ m → SE f n j = -1 ∨ ∃ r : Nat, SE f n j = (r : Int) ∧ j + 1 ≤ r ∧ r ≤ n ∧ f (r - 1) = 34 := by
  intro m
  induction m with
  | zero => intro j h; exact .inl (SE_end (by omega))
  | succ m ih =>
    intro j h
    by_cases hj : j < n
    · by_cases h1 : f j = 92
      · rw [SE_back hj h1]
        rcases ih (j + 2) (by omega) with h | ⟨r, a, b, c, d⟩
        · exact .inl h
        · exact .inr ⟨r, a, by omega, c, d⟩
      · by_cases h2 : f j = 34
        · rw [SE_quote hj h2]
          exact .inr ⟨j + 1, by omega, by omega, by omega, by simpa using h2⟩
        · rw [SE_other hj h1 h2]
          rcases ih (j + 1) (by omega) with h | ⟨r, a, b, c, d⟩
          · exact .inl h
          · exact .inr ⟨r, a, by omega, c, d⟩
    · exact .inl (SE_end (by omega))

/-- A front part that holds the answer answers so. -/
theorem SE_front_in (f : Nat → Int) (n k r : Nat) (hkn : k ≤ n) (hr : r ≤ k) : ∀ m j, n - j ≤ m → SE f n j = (r : Int) → SE f k j = (r : Int) := by
  intro m
  induction m with
  | zero => intro j h e; rw [SE_end (by omega)] at e; omega
  | succ m ih =>
    intro j h e
    have ha := SE_answer f n _ j (Nat.le_refl _)
    have hjr : j + 1 ≤ r := by
      rcases ha with h | ⟨r', a, b, c, d⟩
      · omega
      · have : (r' : Int) = r := by rw [← a, e]
        omega
    clear ha
    have hj : j < n := by omega
    have hjk : j < k := by omega
    by_cases h1 : f j = 92
    · rw [SE_back hj h1] at e; rw [SE_back hjk h1]; exact ih _ (by omega) e
    · by_cases h2 : f j = 34
      · rw [SE_quote hj h2] at e; rw [SE_quote hjk h2]; exact e
      · rw [SE_other hj h1 h2] at e; rw [SE_other hjk h1 h2]; exact ih _ (by omega) e

/-- A front part that does not hold it has no answer. -/
theorem SE_front_out (f : Nat → Int) (n k : Nat) (hkn : k ≤ n) : ∀ m j, n - j ≤ m → (SE f n j = -1 ∨ (k : Int) < SE f n j) → SE f k j = -1 := by
  intro m
  induction m with
  | zero => intro j h _; exact SE_end (by omega)
  | succ m ih =>
    intro j h e
    by_cases hjk : j < k
    · have hj : j < n := by omega
      by_cases h1 : f j = 92
      · rw [SE_back hj h1] at e; rw [SE_back hjk h1]; exact ih _ (by omega) e
      · by_cases h2 : f j = 34
        · rw [SE_quote hj h2] at e; omega
        · rw [SE_other hj h1 h2] at e; rw [SE_other hjk h1 h2]; exact ih _ (by omega) e
    · exact SE_end (by omega)

/-- An open string is closed by 'x' and a quote. -/
theorem SE_close (f g : Nat → Int) (n : Nat) (hg : ∀ j, j < n → g j = f j) (hx : g n = 120) (hq : g (n + 1) = 34) :
    ∀ m j, n + 1 - j ≤ m → j ≤ n + 1 → SE f n j = -1 → SE g (n + 2) j = (n : Int) + 2 := by
  intro m
  induction m with
  | zero =>
    intro j h h' e
    obtain rfl : j = n + 1 := by omega
    rw [SE_quote (by omega) hq]; omega
  | succ m ih =>
    intro j h h' e
    by_cases hj : j < n
    · by_cases h1 : f j = 92
      · rw [SE_back hj h1] at e; rw [SE_back (by omega) (by rw [hg j hj]; exact h1)]; exact ih _ (by omega) (by omega) e
      · by_cases h2 : f j = 34
        · rw [SE_quote hj h2] at e; omega
        · rw [SE_other hj h1 h2] at e; rw [SE_other (by omega) (by rw [hg j hj]; exact h1) (by rw [hg j hj]; exact h2)]; exact ih _ (by omega) (by omega) e
    · by_cases hn : j = n
      · subst hn
        rw [SE_other (by omega) (by omega) (by omega), SE_quote (by omega) hq]; omega
      · obtain rfl : j = n + 1 := by omega
        rw [SE_quote (by omega) hq]; omega

/-- The backslashes right at and before p, back to i. -/
def back (f : Nat → Int) (i : Nat) : Nat → Nat
  | 0 => 0
  | p + 1 => if i < p + 1 ∧ f (p + 1) = 92 then back f i p + 1 else 0

theorem back_yes {f : Nat → Int} {i p : Nat} (h : i < p) (h1 : f p = 92) : back f i p = back f i (p - 1) + 1 := by
  obtain ⟨q, rfl⟩ : ∃ q, p = q + 1 := ⟨p - 1, by omega⟩
  simp only [back, Nat.add_sub_cancel]
  rw [if_pos ⟨h, h1⟩]
theorem back_no {f : Nat → Int} {i p : Nat} (h : ¬ (i < p ∧ f p = 92)) : back f i p = 0 := by
  cases p with
  | zero => rfl
  | succ q => simp only [back]; rw [if_neg h]
theorem back_le (f : Nat → Int) (i p : Nat) : back f i p ≤ p := by
  induction p with
  | zero => exact Nat.le_refl _
  | succ p ih => simp only [back]; split <;> omega

/-- The second road, with fuel. -/
def me (f : Nat → Int) (n i : Nat) : Nat → Nat → Int
  | 0, _ => -1
  | d + 1, q => if q < n then (if f q = 34 ∧ back f i (q - 1) % 2 = 0 then (q : Int) + 1 else me f n i d (q + 1)) else -1
def ME (f : Nat → Int) (n i q : Nat) : Int := me f n i (n - q) q
theorem ME_end {f : Nat → Int} {n i q : Nat} (h : n ≤ q) : ME f n i q = -1 := by
  unfold ME
  rw [Nat.sub_eq_zero_of_le h]
  rfl
theorem ME_step (f : Nat → Int) (i : Nat) {n q : Nat} (h : q < n) : ME f n i q = if f q = 34 ∧ back f i (q - 1) % 2 = 0 then (q : Int) + 1 else ME f n i (q + 1) := by
  unfold ME
  obtain ⟨d, hd⟩ : ∃ d, n - q = d + 1 := ⟨n - q - 1, by omega⟩
  obtain rfl : d = n - (q + 1) := by omega
  rw [hd]
  simp only [me]
  rw [if_pos h]
theorem ME_yes {f : Nat → Int} {n i q : Nat} (h : q < n) (h1 : f q = 34) (h2 : back f i (q - 1) % 2 = 0) : ME f n i q = (q : Int) + 1 := by rw [ME_step f i h, if_pos ⟨h1, h2⟩]
theorem ME_no {f : Nat → Int} {n i q : Nat} (h : q < n) (h1 : ¬ (f q = 34 ∧ back f i (q - 1) % 2 = 0)) : ME f n i q = ME f n i (q + 1) := by rw [ME_step f i h, if_neg h1]

/-- The two roads meet. -/
theorem SE_eq_ME (f : Nat → Int) (n i : Nat) : ∀ m j, n - j ≤ m → i < j → back f i (j - 1) % 2 = 0 → SE f n j = ME f n i j := by
  intro m
  induction m with
  | zero => intro j h _ _; rw [SE_end (by omega), ME_end (by omega)]
  | succ m ih =>
    intro j h hij he
    by_cases hj : j < n
    · by_cases h1 : f j = 92
      · rw [SE_back hj h1, ME_no hj (by omega)]
        have hb := back_yes hij h1
        by_cases hj1 : j + 1 < n
        · rw [ME_no hj1 (by simp only [Nat.add_sub_cancel]; omega)]
          refine ih _ (by omega) (by omega) ?_
          show back f i (j + 1) % 2 = 0
          by_cases h2 : f (j + 1) = 92
          · have hb2 := back_yes (f := f) (i := i) (p := j + 1) (by omega) h2
            simp only [Nat.add_sub_cancel] at hb2
            omega
          · rw [back_no (by omega)]
        · rw [SE_end (by omega), ME_end (by omega)]
      · by_cases h2 : f j = 34
        · rw [SE_quote hj h2, ME_yes hj h2 he]
        · rw [SE_other hj h1 h2, ME_no hj (by omega)]
          refine ih _ (by omega) (by omega) ?_
          show back f i j % 2 = 0
          rw [back_no (by omega)]
    · rw [SE_end (by omega), ME_end (by omega)]

theorem roads (f : Nat → Int) (n i : Nat) : SE f n (i + 1) = ME f n i (i + 1) :=
  SE_eq_ME f n i _ _ (Nat.le_refl _) (by omega) (by simp only [Nat.add_sub_cancel]; rw [back_no (by omega)])

end Go.Proofs.Qxb6628789a.Plain
