/-
  Seat b6628924a: contracts of the bounds on sizes.
-/
import Derived.Test.Qxb6628924aLook
namespace Go.Proofs.Qxb6628924a
open Go.RowKit

/-- A slice of strings that can be read: its elements are K. -/
def Keys (w : World) (a : Option Addr) (n : Nat) (K : Nat → ByteArray) : Prop := ∀ j, j < n → ∃ b off, a = some ⟨b, off, none⟩ ∧ w.cell? ⟨b, off + j, none⟩ = some (.string (K j))

/-- A bound has answered r; where it said yes, Y holds; the world stands. -/
def Said (e : Ending) (w w' : World) (Y : Prop) : Prop := ∃ r, e = .returned (.bool r) ∧ w' = w ∧ (r = true → Y)
theorem said_no {e : Ending} {w : World} {Y : Prop} (h : e = .returned (.bool false)) : Said e w w Y := ⟨false, h, rfl, fun h => by cases h⟩
theorem said_yes {e : Ending} {w : World} {Y : Prop} (h : e = .returned (.bool true)) (y : Y) : Said e w w Y := ⟨true, h, rfl, fun _ => y⟩

theorem bytes5 (a : Option Addr) (n c : Nat) (K : Nat → ByteArray) (x : Value) (key : ByteArray) (w : World) (hk : Keys w a n K) :
    Calls Try.prog 5 #[.slice a n c, x, .string key] w fun e w' => Said e w w' (n ≤ 1048576 ∧ key.size ≤ 1048576 ∧ ∀ j, j < n → (K j).size ≤ 1048576) := by
  by_cases hn : 1048576 < n
  · go_enter Try.func5, Try.ntmps5
    go_wp2
    go_ret
    exact said_no rfl
  go_enter Try.func5, Try.ntmps5
  go_wp2
  go_loop [7, 8] (fun t v => ∃ k T : Nat, t = .int .i64 T ∧ v = .int .i64 k ∧ k ≤ n ∧ T ≤ 1048576 ∧ Hid (∀ j, j < k → (K j).size ≤ 1048576)) (fun _ v => n - (intOf v).toNat)
  case atStart => exact ⟨0, n, by go_num, rfl, Nat.zero_le _, by omega, fun j hj => absurd hj (by omega)⟩
  case round =>
    obtain ⟨k, T, rfl, rfl, hkn, hT, HS⟩ := hrel
    by_cases hlt : k < n
    · obtain ⟨b, off, rfl, hc⟩ := hk k hlt
      by_cases h1 : 1048576 < (K k).size
      · go_wp2
        go_ret
        exact said_no rfl
      by_cases h2 : 1048576 < T + (K k).size
      · go_wp2
        go_ret
        exact said_no rfl
      have HS' : Hid (∀ j, j < k + 1 → (K j).size ≤ 1048576) := by
        intro j hj
        by_cases e : j = k
        · subst e; omega
        · exact HS.out j (by omega)
      go_wp2
      go_round
      case rel => exact ⟨k + 1, T + (K k).size, by go_num, by go_num, by omega, by omega, HS'⟩
      case measure => simp [intOf]; omega
    · obtain rfl : k = n := by omega
      by_cases h1 : 1048576 < key.size
      · go_wp2
        go_ret
        exact said_no rfl
      by_cases h2 : 1048576 < T + key.size
      · go_wp2
        go_ret
        exact said_no rfl
      go_wp2
      go_ret
      exact said_yes rfl ⟨by omega, by omega, HS.out⟩

theorem bytes9 (a : Option Addr) (n c : Nat) (K : Nat → ByteArray) (x : Value) (key other : ByteArray) (w : World) (hk : Keys w a n K) :
    Calls Try.prog 9 #[.slice a n c, x, .string key, .string other] w fun e w' => Said e w w' (n ≤ 1048576 ∧ key.size ≤ 1048576 ∧ other.size ≤ 1048576 ∧ ∀ j, j < n → (K j).size ≤ 1048576) := by
  by_cases hn : 1048576 < n
  · go_enter Try.func9, Try.ntmps9
    go_wp2
    go_ret
    exact said_no rfl
  go_enter Try.func9, Try.ntmps9
  go_wp2
  go_loop [9, 10] (fun t v => ∃ k T : Nat, t = .int .i64 T ∧ v = .int .i64 k ∧ k ≤ n ∧ T ≤ 1048576 ∧ Hid (∀ j, j < k → (K j).size ≤ 1048576)) (fun _ v => n - (intOf v).toNat)
  case atStart => exact ⟨0, n, by go_num, rfl, Nat.zero_le _, by omega, fun j hj => absurd hj (by omega)⟩
  case round =>
    obtain ⟨k, T, rfl, rfl, hkn, hT, HS⟩ := hrel
    by_cases hlt : k < n
    · obtain ⟨b, off, rfl, hc⟩ := hk k hlt
      by_cases h1 : 1048576 < (K k).size
      · go_wp2
        go_ret
        exact said_no rfl
      by_cases h2 : 1048576 < T + (K k).size
      · go_wp2
        go_ret
        exact said_no rfl
      have HS' : Hid (∀ j, j < k + 1 → (K j).size ≤ 1048576) := by
        intro j hj
        by_cases e : j = k
        · subst e; omega
        · exact HS.out j (by omega)
      go_wp2
      go_round
      case rel => exact ⟨k + 1, T + (K k).size, by go_num, by go_num, by omega, by omega, HS'⟩
      case measure => simp [intOf]; omega
    · obtain rfl : k = n := by omega
      by_cases h1 : 1048576 < key.size
      · go_wp2
        go_ret
        exact said_no rfl
      by_cases h2 : 1048576 < T + key.size
      · go_wp2
        go_ret
        exact said_no rfl
      by_cases h3 : 1048576 < other.size
      · go_wp2
        go_ret
        exact said_no rfl
      by_cases h4 : 1048576 < T + key.size + other.size
      · go_wp2
        go_ret
        exact said_no rfl
      go_wp2
      go_ret
      exact said_yes rfl ⟨by omega, by omega, by omega, HS.out⟩

theorem fits6 (a : Option Addr) (n c : Nat) (K : Nat → ByteArray) (s t : ByteArray) (w : World) (hk : Keys w a n K) (hn : n ≤ 1048576) (hs : s.size ≤ 1048576) (ht : t.size ≤ 1048576) (hK : ∀ j, j < n → (K j).size ≤ 1048576) :
    Calls Try.prog 6 #[.slice a n c, .string s, .string t] w fun e w' => Said e w w' (n ≤ 65536) := by
  have HK : Hid (∀ j, j < n → (K j).size ≤ 1048576) := hK
  clear hK
  by_cases hn2 : 65536 < n
  · go_enter Try.func6, Try.ntmps6
    go_wp2
    go_ret
    exact said_no rfl
  have e1 : decide ((65536 : Int) < (n : Int)) = false := decide_eq_false (by omega)
  have e2 : decide ((1048576 : Int) < (s.size : Int)) = false := decide_eq_false (by omega)
  have e3 : decide ((1048576 : Int) < (t.size : Int)) = false := decide_eq_false (by omega)
  by_cases hst : 1048576 < s.size + t.size
  · go_enter Try.func6, Try.ntmps6
    go_wp2
    go_ret
    exact said_no rfl
  go_enter Try.func6, Try.ntmps6
  go_wp2
  go_loop [7, 8] (fun t v => ∃ k T : Nat, t = .int .i64 T ∧ v = .int .i64 k ∧ k ≤ n ∧ T ≤ 1048576) (fun _ v => n - (intOf v).toNat)
  case atStart => exact ⟨0, s.size + t.size, by go_num, rfl, Nat.zero_le _, by omega⟩
  case round =>
    obtain ⟨k, T, rfl, rfl, hkn, hT⟩ := hrel
    by_cases hlt : k < n
    · obtain ⟨b, off, rfl, hc⟩ := hk k hlt
      have hks := HK.out k hlt
      by_cases h2 : 1048576 < T + (16 + (K k).size)
      · go_wp2
        go_ret
        exact said_no rfl
      go_wp2
      go_round
      case rel => exact ⟨k + 1, T + (16 + (K k).size), by go_num, by go_num, by omega, by omega⟩
      case measure => simp [intOf]; omega
    · go_wp2
      go_ret
      exact said_yes rfl (by omega)

end Go.Proofs.Qxb6628924a
