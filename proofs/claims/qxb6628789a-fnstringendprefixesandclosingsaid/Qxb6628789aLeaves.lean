/-
  Seat b6628789a: contracts of the callees: the two bounds on length, StringEnd, modelStringEnd.
-/
import Derived.Test.Qxb6628789aPlain
import Derived.WalkKit
import Derived.Below
namespace Go.Proofs.Qxb6628789a
open Go.RowKit Plain

theorem ret_int {k : IntKind} {a b : Int} (h : a = b) : Ending.returned (.int k a) = .returned (.int k b) := by rw [h]

/-! The two bounds. -/
theorem fits5 (a : Option Addr) (n c : Nat) (x : Value) (w : World) (h : n ≤ 1048576) :
    Calls Try.prog 5 #[.slice a n c, x] w fun e w' => e = .returned (.bool true) ∧ w' = w := by
  go_enter Try.func5, Try.ntmps5
  go_wp2
  go_ret
  exact ⟨rfl, rfl⟩
theorem wide5 (a : Option Addr) (n c : Nat) (x : Value) (w : World) (h : 1048576 < n) :
    Calls Try.prog 5 #[.slice a n c, x] w fun e w' => e = .returned (.bool false) ∧ w' = w := by
  go_enter Try.func5, Try.ntmps5
  go_wp2
  go_ret
  exact ⟨rfl, rfl⟩
theorem fits8 (a : Option Addr) (n c : Nat) (x y : Value) (w : World) (h : n ≤ 1048576) :
    Calls Try.prog 8 #[.slice a n c, x, y] w fun e w' => e = .returned (.bool true) ∧ w' = w := by
  go_enter Try.func8, Try.ntmps8
  go_wp2
  go_ret
  exact ⟨rfl, rfl⟩
theorem wide8 (a : Option Addr) (n c : Nat) (x y : Value) (w : World) (h : 1048576 < n) :
    Calls Try.prog 8 #[.slice a n c, x, y] w fun e w' => e = .returned (.bool false) ∧ w' = w := by
  go_enter Try.func8, Try.ntmps8
  go_wp2
  go_ret
  exact ⟨rfl, rfl⟩

/-! StringEnd. -/
theorem end_any (b off n c : Nat) (f : Nat → Int) (i : Nat) (w : World) (hn : n ≤ 1048578) (hi : i ≤ 1048578) (hc : ∀ j, j < n → w.cell? ⟨b, off + j, none⟩ = some (.int .u8 (f j))) :
    Calls Try.prog 6 #[.slice (some ⟨b, off, none⟩) n c, .int .i64 i] w fun e w' => e = .returned (.int .i64 (SE f n (i + 1))) ∧ w' = w := by
  go_enter Try.func6, Try.ntmps6
  go_wp2
  go_loop [1] (fun v => ∃ j : Nat, v = .int .i64 j ∧ j ≤ 1048582 ∧ Hid (SE f n j = SE f n (i + 1))) (fun v => 1048585 - (intOf v).toNat)
  case atStart => exact ⟨i + 1, by go_num, by omega, rfl⟩
  case round =>
    obtain ⟨j, rfl, hj, hs⟩ := hrel
    by_cases hlt : j < n
    · have hcj := hc j hlt
      by_cases h1 : f j = 92
      · go_wp2
        go_round
        case rel => exact ⟨j + 2, by go_num, by omega, by rw [Hid, ← hs.out, SE_back hlt h1]⟩
        case measure => simp [intOf]; omega
      · by_cases h2 : f j = 34
        · go_wp2
          go_ret
          exact ⟨ret_int (by rw [← hs.out, SE_quote hlt h2]), rfl⟩
        · go_wp2
          go_round
          case rel => exact ⟨j + 1, by go_num, by omega, by rw [Hid, ← hs.out, SE_other hlt h1 h2]⟩
          case measure => simp [intOf]; omega
    · go_wp2
      go_ret
      exact ⟨ret_int (by rw [← hs.out, SE_end (by omega)]), rfl⟩

/-! modelStringEnd. -/
set_option maxHeartbeats 400000 in
theorem model_any (b off n c : Nat) (f : Nat → Int) (i : Nat) (w : World) (hn : n ≤ 1048578) (hi : i ≤ 1048578) (hc : ∀ j, j < n → w.cell? ⟨b, off + j, none⟩ = some (.int .u8 (f j))) :
    Calls Try.prog 7 #[.slice (some ⟨b, off, none⟩) n c, .int .i64 i] w fun e w' => e = .returned (.int .i64 (ME f n i (i + 1))) ∧ w' = w := by
  go_enter Try.func7, Try.ntmps7
  go_wp2
  go_loop [5] (fun v => ∃ q : Nat, v = .int .i64 q ∧ i + 1 ≤ q ∧ q ≤ 1048582 ∧ Hid (ME f n i q = ME f n i (i + 1))) (fun v => 1048585 - (intOf v).toNat)
  case atStart => exact ⟨i + 1, by go_num, by omega, by omega, rfl⟩
  case round =>
    obtain ⟨q, rfl, hiq, hq, hs⟩ := hrel
    by_cases hlt : q < n
    · have hcq := hc q hlt
      by_cases h1 : f q = 34
      · go_wp2
        go_loop [6, 7] (fun u v => ∃ m p : Nat, u = .int .i64 m ∧ v = .int .i64 p ∧ i ≤ p ∧ p + 1 ≤ q ∧ m ≤ 1048582 ∧ m + p + 1 ≤ q ∧ Hid (m + back f i p = back f i (q - 1))) (fun _ v => (intOf v).toNat)
        case atStart => exact ⟨0, q - 1, by go_num, by go_num, by omega, by omega, by omega, by omega, by rw [Hid]; omega⟩
        case round =>
          obtain ⟨m, p, rfl, rfl, hip, hpq, hm, hmp, hb⟩ := hrel
          by_cases hp : i < p
          · have hcp := hc p (by omega)
            by_cases h2 : f p = 92
            · go_wp2
              go_round
              case rel => exact ⟨m + 1, p - 1, by go_num, by go_num, by omega, by omega, by omega, by omega, by have := back_yes hp h2; have := hb.out; rw [Hid]; omega⟩
              case measure => simp [intOf]; omega
            · have hz := hb.out
              rw [back_no (by omega)] at hz
              by_cases h3 : m % 2 = 0
              · go_wp2
                go_ret
                exact ⟨ret_int (by rw [← hs.out, ME_yes hlt h1 (by omega)]), rfl⟩
              · go_wp2
                go_round
                case rel => exact ⟨q + 1, by go_num, by omega, by omega, by rw [Hid, ← hs.out, ME_no hlt (by omega)]⟩
                case measure => simp [intOf]; omega
          · have hz := hb.out
            rw [back_no (by omega)] at hz
            by_cases h3 : m % 2 = 0
            · go_wp2
              go_ret
              exact ⟨ret_int (by rw [← hs.out, ME_yes hlt h1 (by omega)]), rfl⟩
            · go_wp2
              go_round
              case rel => exact ⟨q + 1, by go_num, by omega, by omega, by rw [Hid, ← hs.out, ME_no hlt (by omega)]⟩
              case measure => simp [intOf]; omega
      · go_wp2
        go_round
        case rel => exact ⟨q + 1, by go_num, by omega, by omega, by rw [Hid, ← hs.out, ME_no hlt (by omega)]⟩
        case measure => simp [intOf]; omega
    · go_wp2
      go_ret
      exact ⟨ret_int (by rw [← hs.out, ME_end (by omega)]), rfl⟩

end Go.Proofs.Qxb6628789a
