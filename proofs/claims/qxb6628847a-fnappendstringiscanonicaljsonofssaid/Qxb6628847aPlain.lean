/-
  The plain side of seat b6628847a: the text that AppendString writes, over a row of bytes 'f'. No Go here.
-/
import Derived.Test.Qxb6628847aRows
namespace Go.Proofs.Qxb6628847a.Plain

def hexd (d : Int) : Int := if d < 10 then 48 + d else 87 + d

/-- What one byte is written as. -/
def esc (b : Int) : List Int :=
  if b = 34 ∨ b = 92 then [92, b] else if b = 8 then [92, 98] else if b = 9 then [92, 116] else if b = 10 then [92, 110] else if b = 12 then [92, 102] else if b = 13 then [92, 114]
  else if b < 32 then [92, 117, 48, 48, hexd (b / 16), hexd (b % 16)] else [b]

theorem esc_self {b : Int} (h : b = 34 ∨ b = 92) : esc b = [92, b] := by unfold esc; rw [if_pos h]
theorem esc_8 : esc 8 = [92, 98] := by decide
theorem esc_9 : esc 9 = [92, 116] := by decide
theorem esc_10 : esc 10 = [92, 110] := by decide
theorem esc_12 : esc 12 = [92, 102] := by decide
theorem esc_13 : esc 13 = [92, 114] := by decide
theorem esc_low {b : Int} (h : b < 32) (h8 : b ≠ 8) (h9 : b ≠ 9) (h10 : b ≠ 10) (h12 : b ≠ 12) (h13 : b ≠ 13) : esc b = [92, 117, 48, 48, hexd (b / 16), hexd (b % 16)] := by
  unfold esc
  rw [if_neg (by omega), if_neg h8, if_neg h9, if_neg h10, if_neg h12, if_neg h13, if_pos h]
theorem esc_plain {b : Int} (h : 32 ≤ b) (h1 : b ≠ 34) (h2 : b ≠ 92) : esc b = [b] := by
  unfold esc
  rw [if_neg (by omega), if_neg (by omega), if_neg (by omega), if_neg (by omega), if_neg (by omega), if_neg (by omega), if_neg (by omega)]

theorem esc_len (b : Int) : 1 ≤ (esc b).length ∧ (esc b).length ≤ 6 := by
  unfold esc
  split
  · exact ⟨by simp, by simp⟩
  · split
    · exact ⟨by simp, by simp⟩
    · split
      · exact ⟨by simp, by simp⟩
      · split
        · exact ⟨by simp, by simp⟩
        · split
          · exact ⟨by simp, by simp⟩
          · split
            · exact ⟨by simp, by simp⟩
            · split
              · exact ⟨by simp, by simp⟩
              · exact ⟨by simp, by simp⟩

/-- What the first k bytes are written as. -/
def enc (f : Nat → Int) : Nat → List Int
  | 0 => []
  | k + 1 => enc f k ++ esc (f k)

theorem enc_len (f : Nat → Int) (k : Nat) : k ≤ (enc f k).length ∧ (enc f k).length ≤ 6 * k := by
  induction k with
  | zero => simp [enc]
  | succ k ih =>
    have h := esc_len (f k)
    simp only [enc, List.length_append]
    omega

theorem enc_add (f g h : Nat → Int) (n m : Nat) (hf : ∀ j, j < n → h j = f j) (hg : ∀ j, j < m → h (n + j) = g j) : enc h (n + m) = enc f n ++ enc g m := by
  induction m with
  | zero =>
    simp only [Nat.add_zero, enc, List.append_nil]
    clear hg
    induction n with
    | zero => rfl
    | succ n ih => simp only [enc]; rw [ih (fun j hj => hf j (by omega)), hf n (by omega)]
  | succ m ih =>
    rw [show n + (m + 1) = (n + m) + 1 from by omega]
    simp only [enc]
    rw [ih (fun j hj => hg j (by omega)), hg m (by omega), List.append_assoc]

/-- Where no byte is escaped. -/
theorem enc_plain (f : Nat → Int) (k : Nat) (h : ∀ j, j < k → 32 ≤ f j ∧ f j ≠ 34 ∧ f j ≠ 92) : (enc f k).length = k ∧ ∀ j, j < k → (enc f k)[j]? = some (f j) := by
  induction k with
  | zero => exact ⟨rfl, fun j hj => absurd hj (by omega)⟩
  | succ k ih =>
    obtain ⟨h1, h2⟩ := ih (fun j hj => h j (by omega))
    obtain ⟨a, b, c⟩ := h k (by omega)
    simp only [enc, esc_plain a b c]
    refine ⟨by simp [h1], fun j hj => ?_⟩
    by_cases e : j = k
    · subst e
      rw [List.getElem?_append_right (by omega), h1]; simp
    · rw [List.getElem?_append_left (by omega), h2 j (by omega)]

/-- The whole literal. -/
def lit (f : Nat → Int) (k : Nat) : List Int := 34 :: (enc f k ++ [34])
theorem lit_len (f : Nat → Int) (k : Nat) : (lit f k).length = (enc f k).length + 2 := by simp [lit]

theorem enc_split (f : Nat → Int) {k n : Nat} (h : k < n) : ∃ r, enc f n = enc f k ++ (esc (f k) ++ r) := by
  induction n with
  | zero => omega
  | succ n ih =>
    by_cases e : k = n
    · subst e; exact ⟨[], by simp [enc]⟩
    · obtain ⟨r, hr⟩ := ih (by omega)
      exact ⟨r ++ esc (f n), by simp [enc, hr]⟩

/-- The bytes of one escape, where they stand in the literal behind 'xs'. -/
theorem lit_at (xs : List Int) (f : Nat → Int) {k n : Nat} (h : k < n) (t : Nat) (ht : t < (esc (f k)).length) :
    (xs ++ lit f n)[xs.length + 1 + (enc f k).length + t]? = (esc (f k))[t]? := by
  obtain ⟨r, hr⟩ := enc_split f h
  rw [List.getElem?_append_right (by omega), lit, hr]
  rw [show xs.length + 1 + (enc f k).length + t - xs.length = ((enc f k).length + t) + 1 from by omega, List.getElem?_cons_succ]
  rw [List.append_assoc, List.getElem?_append_right (by omega), show (enc f k).length + t - (enc f k).length = t from by omega]
  rw [List.append_assoc, List.getElem?_append_left ht]
theorem lit_room (f : Nat → Int) {k n : Nat} (h : k < n) : (enc f k).length + (esc (f k)).length ≤ (enc f n).length := by
  obtain ⟨r, hr⟩ := enc_split f h
  rw [hr]; simp
theorem lit_end (xs : List Int) (f : Nat → Int) (n : Nat) : (xs ++ lit f n)[xs.length + 1 + (enc f n).length]? = some 34 := by
  rw [List.getElem?_append_right (by omega), lit]
  rw [show xs.length + 1 + (enc f n).length - xs.length = (enc f n).length + 1 from by omega, List.getElem?_cons_succ]
  simp
theorem lit_head (xs : List Int) (f : Nat → Int) (n : Nat) : (xs ++ lit f n)[xs.length]? = some 34 := by
  rw [List.getElem?_append_right (by omega), lit]; simp

end Go.Proofs.Qxb6628847a.Plain
