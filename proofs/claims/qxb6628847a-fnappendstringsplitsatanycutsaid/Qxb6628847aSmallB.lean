/-
  Seat b6628847a: contracts of the bound, quotedB1 and plainB1, for the second law; plain facts on the parts of a literal.
-/
import Derived.Test.Qxb6628847aSmall
namespace Go.Proofs.Qxb6628847a
open Go.RowKit Plain PlainAid

theorem fits10 (a : Option Addr) (n c : Nat) (s t : ByteArray) (w : World) (h : n + s.size + t.size ≤ 1048576) :
    Calls Try.prog 10 #[.slice a n c, .string s, .string t] w fun e w' => e = .returned (.bool true) ∧ w' = w := by
  go_enter Try.func10, Try.ntmps10
  go_wp2
  go_ret
  exact ⟨rfl, rfl⟩
theorem wide10 (a : Option Addr) (n c : Nat) (s t : ByteArray) (w : World) (h : 1048576 < n + s.size + t.size) :
    Calls Try.prog 10 #[.slice a n c, .string s, .string t] w fun e w' => e = .returned (.bool false) ∧ w' = w := by
  by_cases h1 : 1048576 < n
  · go_enter Try.func10, Try.ntmps10
    go_wp2
    go_ret
    exact ⟨rfl, rfl⟩
  by_cases h2 : 1048576 < s.size
  · go_enter Try.func10, Try.ntmps10
    go_wp2
    go_ret
    exact ⟨rfl, rfl⟩
  by_cases h3 : 1048576 < n + s.size
  · go_enter Try.func10, Try.ntmps10
    go_wp2
    go_ret
    exact ⟨rfl, rfl⟩
  by_cases h4 : 1048576 < t.size
  · go_enter Try.func10, Try.ntmps10
    go_wp2
    go_ret
    exact ⟨rfl, rfl⟩
  go_enter Try.func10, Try.ntmps10
  go_wp2
  go_ret
  exact ⟨rfl, rfl⟩

theorem quoted_yes (g N c : Nat) (w : World) (hN : 2 ≤ N) (hb : N ≤ 100000000) (h0 : w.cell? ⟨g, 0, none⟩ = some (.int .u8 34)) (h1 : w.cell? ⟨g, N - 1, none⟩ = some (.int .u8 34)) :
    Calls Try.prog 11 #[.slice (some ⟨g, 0, none⟩) N c] w fun e w' => e = .returned (.bool true) ∧ w' = w := by
  have i1 : (2 : Int) ≤ (N : Int) := by omega
  go_enter Try.func11, Try.ntmps11
  go_wp2
  go_ret
  exact ⟨rfl, rfl⟩

def Plainly (f : Nat → Int) (j : Nat) : Prop := 32 ≤ f j ∧ f j ≠ 34 ∧ f j ≠ 92
theorem plain_yes (s : ByteArray) (w : World) (hs : s.size ≤ 1048576) (h : ∀ j, j < s.size → Plainly (bt s) j) :
    Calls Try.prog 12 #[.string s] w fun e w' => e = .returned (.bool true) ∧ w' = w := by
  have hbt := get_bt s
  have H : Hid (∀ j, j < s.size → Plainly (bt s) j) := h
  clear h
  go_enter Try.func12, Try.ntmps12
  go_wp2
  go_loop [3] (fun v => ∃ k : Nat, v = .int .i64 k ∧ k ≤ s.size) (fun v => s.size - (intOf v).toNat)
  case atStart => exact ⟨0, rfl, Nat.zero_le _⟩
  case round =>
    obtain ⟨k, rfl, hk⟩ := hrel
    by_cases hlt : k < s.size
    · obtain ⟨p1, p2, p3⟩ := H.out k hlt
      have e1 : decide (bt s k < 32) = false := decide_eq_false (by omega)
      have e2 : (bt s k == 34) = false := by simpa using p2
      have e3 : (bt s k == 92) = false := by simpa using p3
      go_wp2
      go_round
      case rel => exact ⟨k + 1, by go_num, by omega⟩
      case measure => simp [intOf]; omega
    · go_wp2
      go_ret
      exact ⟨rfl, rfl⟩
theorem plain_no (s : ByteArray) (w : World) (hs : s.size ≤ 1048576) (z : Nat) (hz : z < s.size) (h : ¬ Plainly (bt s) z) :
    Calls Try.prog 12 #[.string s] w fun e w' => e = .returned (.bool false) ∧ w' = w := by
  have hbt := get_bt s
  have H : Hid (¬ Plainly (bt s) z) := h
  clear h
  go_enter Try.func12, Try.ntmps12
  go_wp2
  go_loop [3] (fun v => ∃ k : Nat, v = .int .i64 k ∧ k ≤ z) (fun v => s.size - (intOf v).toNat)
  case atStart => exact ⟨0, rfl, Nat.zero_le _⟩
  case round =>
    obtain ⟨k, rfl, hk⟩ := hrel
    have hlt : k < s.size := by omega
    by_cases p : Plainly (bt s) k
    · obtain ⟨p1, p2, p3⟩ := p
      have hne : k ≠ z := fun e => H.out (by rw [← e]; exact ⟨p1, p2, p3⟩)
      have e1 : decide (bt s k < 32) = false := decide_eq_false (by omega)
      have e2 : (bt s k == 34) = false := by simpa using p2
      have e3 : (bt s k == 92) = false := by simpa using p3
      go_wp2
      go_round
      case rel => exact ⟨k + 1, by go_num, by omega⟩
      case measure => simp [intOf]; omega
    · by_cases q1 : bt s k < 32
      · go_wp2
        go_ret
        exact ⟨rfl, rfl⟩
      · by_cases q2 : bt s k = 34
        · go_wp2
          go_ret
          exact ⟨rfl, rfl⟩
        · by_cases q3 : bt s k = 92
          · go_wp2
            go_ret
            exact ⟨rfl, rfl⟩
          · exact absurd ⟨by omega, q2, q3⟩ p

/-! The bytes of a string made of two. -/
theorem bt_left (s t : ByteArray) {j : Nat} (h : j < s.size) : bt (s ++ t) j = bt s j := by
  unfold bt
  rw [dif_pos h, dif_pos (by rw [ByteArray.size_append]; omega), ByteArray.getElem_append_left h]
theorem bt_right (s t : ByteArray) {j : Nat} (h : j < t.size) : bt (s ++ t) (s.size + j) = bt t j := by
  unfold bt
  rw [dif_pos h, dif_pos (by rw [ByteArray.size_append]; omega), ByteArray.getElem_append_right (by omega)]
  simp
theorem enc_two (s t : ByteArray) : enc (bt (s ++ t)) (s ++ t).size = enc (bt s) s.size ++ enc (bt t) t.size := by
  rw [ByteArray.size_append]
  exact enc_add _ _ _ _ _ (fun j hj => bt_left s t hj) (fun j hj => bt_right s t hj)
theorem lit_two (s t : ByteArray) : lit (bt (s ++ t)) (s ++ t).size = 34 :: (enc (bt s) s.size ++ (enc (bt t) t.size ++ [34])) := by
  unfold lit
  rw [enc_two, List.append_assoc]

/-- The first part's bytes in the whole. -/
theorem whole_left (zs A B : List Int) {i : Nat} (h : i < A.length + 1) : (zs ++ (34 :: (A ++ (B ++ [34]))))[zs.length + i]? = (34 :: (A ++ [34]))[i]? := by
  rw [List.getElem?_append_right (by omega), show zs.length + i - zs.length = i from by omega]
  cases i with
  | zero => rfl
  | succ i => rw [List.getElem?_cons_succ, List.getElem?_cons_succ, List.getElem?_append_left (by omega), List.getElem?_append_left (by omega)]
/-- The second part's. -/
theorem whole_right (zs A B : List Int) {i : Nat} (h : 1 ≤ i) : (zs ++ (34 :: (A ++ (B ++ [34]))))[zs.length + A.length + i]? = (34 :: (B ++ [34]))[i]? := by
  obtain ⟨i, rfl⟩ : ∃ k, i = k + 1 := ⟨i - 1, by omega⟩
  rw [List.getElem?_append_right (by omega), show zs.length + A.length + (i + 1) - zs.length = (A.length + i) + 1 from by omega]
  rw [List.getElem?_cons_succ, List.getElem?_cons_succ, List.getElem?_append_right (by omega), show A.length + i - A.length = i from by omega]

end Go.Proofs.Qxb6628847a
