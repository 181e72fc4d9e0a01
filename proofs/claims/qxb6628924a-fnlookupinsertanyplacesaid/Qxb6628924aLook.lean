/-
  Seat b6628924a: the contract of (*content.Value).Lookup.
-/
import Derived.Test.Qxb6628924aRows
import Derived.WalkKit
import Derived.Below
namespace Go.Proofs.Qxb6628924a
open Go.RowKit

/-- A mapping's members in memory: the value at ⟨gv, 0⟩ holds, as its fifth field, a slice of m members, the keys K, the values P. -/
structure Holds (w : World) (gv : Nat) (am : Option Addr) (m cm : Nat) (K : Nat → ByteArray) (P : Nat → Option Addr) : Prop where
  members : w.cell? ⟨gv, 4, none⟩ = some (.slice am m cm)
  cells : ∀ j, j < m → ∃ gm off, am = some ⟨gm, off, none⟩ ∧ w.cell? ⟨gm, off + j * 2, none⟩ = some (.string (K j)) ∧ w.cell? ⟨gm, off + j * 2 + 1, none⟩ = some (.pointer (P j))

theorem look_yes (gv : Nat) (am : Option Addr) (m cm : Nat) (K : Nat → ByteArray) (P : Nat → Option Addr) (key : ByteArray) (i : Nat) (w : World) (hm : m ≤ 100000) (h : Holds w gv am m cm K P) (hi : i < m)
    (hK : (K i).toList = key.toList) (hno : ∀ j, j < i → (K j).toList ≠ key.toList) :
    Calls Try.prog 8 #[.pointer (some ⟨gv, 0, none⟩), .string key] w fun e w' => e = .returned (.tuple #[.pointer (P i), .bool true]) ∧ Below w.heap.size w w' := by
  have hmem := h.members
  have HK : Hid ((K i).toList = key.toList) := hK
  have HN : Hid (∀ j, j < i → (K j).toList ≠ key.toList) := hno
  clear hK hno
  go_enter Try.func8, Try.ntmps8
  go_wp2
  go_loopw [13] (fun v wr => ∃ k : Nat, v = .int .i64 k ∧ k ≤ i ∧ Below w.heap.size w wr) (fun v _ => m - (intOf v).toNat)
  case atStart => exact ⟨0, rfl, Nat.zero_le _, Below.refl _ _⟩
  case round =>
    obtain ⟨k, rfl, hk, hbr⟩ := hrel
    obtain ⟨gm, off, rfl, hc0, hc1⟩ := h.cells k (by omega)
    have hc0' : wr.cell? ⟨gm, off + k * 2, none⟩ = some (.string (K k)) := by rw [hbr.cell (World.block_lt_of_cell? _ _ hc0)]; exact hc0
    have hc1' : wr.cell? ⟨gm, off + k * 2 + 1, none⟩ = some (.pointer (P k)) := by rw [hbr.cell (World.block_lt_of_cell? _ _ hc1)]; exact hc1
    have hlt : k < m := by omega
    clear hc0 hc1 hmem
    by_cases hki : k = i
    · subst hki
      have hB : ((K k).toList == key.toList) = true := by rw [HK.out]; exact beq_self_eq_true _
      go_wp2
      go_ret2
      exact ⟨rfl, hbr.alloc hbr.size _⟩
    · have hB : ((K k).toList == key.toList) = false := by rw [beq_eq_false_iff_ne]; exact HN.out k (by omega)
      go_wp2
      go_roundw
      case rel => exact ⟨k + 1, by go_num, by omega, hbr.alloc hbr.size _⟩
      case measure => simp [intOf]; omega

theorem look_no (gv : Nat) (am : Option Addr) (m cm : Nat) (K : Nat → ByteArray) (P : Nat → Option Addr) (key : ByteArray) (w : World) (hm : m ≤ 100000) (h : Holds w gv am m cm K P)
    (hno : ∀ j, j < m → (K j).toList ≠ key.toList) :
    Calls Try.prog 8 #[.pointer (some ⟨gv, 0, none⟩), .string key] w fun e w' => e = .returned (.tuple #[.pointer none, .bool false]) ∧ Below w.heap.size w w' := by
  have hmem := h.members
  have HN : Hid (∀ j, j < m → (K j).toList ≠ key.toList) := hno
  clear hno
  go_enter Try.func8, Try.ntmps8
  go_wp2
  go_loopw [13] (fun v wr => ∃ k : Nat, v = .int .i64 k ∧ k ≤ m ∧ Below w.heap.size w wr) (fun v _ => m - (intOf v).toNat)
  case atStart => exact ⟨0, rfl, Nat.zero_le _, Below.refl _ _⟩
  case round =>
    obtain ⟨k, rfl, hk, hbr⟩ := hrel
    clear hmem
    by_cases hlt : k < m
    · obtain ⟨gm, off, rfl, hc0, hc1⟩ := h.cells k (by omega)
      have hc0' : wr.cell? ⟨gm, off + k * 2, none⟩ = some (.string (K k)) := by rw [hbr.cell (World.block_lt_of_cell? _ _ hc0)]; exact hc0
      have hc1' : wr.cell? ⟨gm, off + k * 2 + 1, none⟩ = some (.pointer (P k)) := by rw [hbr.cell (World.block_lt_of_cell? _ _ hc1)]; exact hc1
      clear hc0 hc1
      have hB : ((K k).toList == key.toList) = false := by rw [beq_eq_false_iff_ne]; exact HN.out k (by omega)
      go_wp2
      go_roundw
      case rel => exact ⟨k + 1, by go_num, by omega, hbr.alloc hbr.size _⟩
      case measure => simp [intOf]; omega
    · go_wp2
      go_ret2
      exact ⟨rfl, hbr⟩

/-- The first place below m at which the key stands. -/
theorem first_or_none (K : Nat → ByteArray) (key : ByteArray) (m : Nat) : (∀ j, j < m → (K j).toList ≠ key.toList) ∨ ∃ i, i < m ∧ (K i).toList = key.toList ∧ ∀ j, j < i → (K j).toList ≠ key.toList := by
  induction m with
  | zero => exact .inl fun j hj => absurd hj (by omega)
  | succ m ih =>
    rcases ih with ih | ⟨i, h1, h2, h3⟩
    · by_cases h : (K m).toList = key.toList
      · exact .inr ⟨m, by omega, h, ih⟩
      · left
        intro j hj
        by_cases e : j = m
        · subst e; exact h
        · exact ih j (by omega)
    · exact .inr ⟨i, by omega, h2, h3⟩

end Go.Proofs.Qxb6628924a
