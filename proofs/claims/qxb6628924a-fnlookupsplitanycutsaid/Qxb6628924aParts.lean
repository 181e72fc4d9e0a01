/-
  Seat b6628924a: what both walks use: keys, mappings and pointers that stay; Lookup by what it finds; the parts of a mapping.
-/
import Derived.Test.Qxb6628924aBuild
namespace Go.Proofs.Qxb6628924a
open Go.RowKit

theorem Keys.below {w w' : World} {a : Option Addr} {n : Nat} {K : Nat → ByteArray} (h : Keys w a n K) (hb : Below w.heap.size w w') : Keys w' a n K := by
  intro j hj
  obtain ⟨b, off, e, hc⟩ := h j hj
  exact ⟨b, off, e, by rw [hb.cell (World.block_lt_of_cell? _ _ hc)]; exact hc⟩
theorem Holds.below {w w' : World} {gv : Nat} {am : Option Addr} {m cm : Nat} {K : Nat → ByteArray} {P : Nat → Option Addr} (h : Holds w gv am m cm K P) (hb : Below w.heap.size w w') : Holds w' gv am m cm K P := by
  refine ⟨by rw [hb.cell (World.block_lt_of_cell? _ _ h.members)]; exact h.members, fun j hj => ?_⟩
  obtain ⟨gm, off, e, h0, h1⟩ := h.cells j hj
  exact ⟨gm, off, e, by rw [hb.cell (World.block_lt_of_cell? _ _ h0)]; exact h0, by rw [hb.cell (World.block_lt_of_cell? _ _ h1)]; exact h1⟩

/-- Lookup, whatever it finds. -/
theorem look_some (gv : Nat) (am : Option Addr) (m cm : Nat) (K : Nat → ByteArray) (P : Nat → Option Addr) (key : ByteArray) (w : World) (hm : m ≤ 100000) (h : Holds w gv am m cm K P) :
    Calls Try.prog 8 #[.pointer (some ⟨gv, 0, none⟩), .string key] w fun e w' => ∃ (q : Option Addr) (r : Bool), e = .returned (.tuple #[.pointer q, .bool r]) ∧ Below w.heap.size w w' := by
  rcases first_or_none K key m with hno | ⟨i, hi, hK, hno⟩
  · refine (look_no gv am m cm K P key w hm h hno).mono ?_
    rintro e w' ⟨rfl, hb⟩
    exact ⟨_, _, rfl, hb⟩
  · refine (look_yes gv am m cm K P key i w hm h hi hK hno).mono ?_
    rintro e w' ⟨rfl, hb⟩
    exact ⟨_, _, rfl, hb⟩

theorem look_is (gv : Nat) (am : Option Addr) (m cm : Nat) (K : Nat → ByteArray) (P : Nat → Option Addr) (key : ByteArray) (i : Nat) (q : Option Addr) (w : World) (hm : m ≤ 100000) (h : Holds w gv am m cm K P) (hi : i < m)
    (hK : (K i).toList = key.toList) (hno : ∀ j, j < i → (K j).toList ≠ key.toList) (hq : P i = q) :
    Calls Try.prog 8 #[.pointer (some ⟨gv, 0, none⟩), .string key] w fun e w' => e = .returned (.tuple #[.pointer q, .bool true]) ∧ Below w.heap.size w w' := by
  subst hq
  exact look_yes gv am m cm K P key i w hm h hi hK hno

/-- A mapping's node in memory. -/
abbrev boxOf (v : Value) : Obj := .cells #[.int .u8 0, .string ⟨#[]⟩, .slice none 0 0, .int .u8 0, v] 33
theorem two_boxes (w : World) (v1 v2 : Value) : Below w.heap.size w ((w.alloc (boxOf v1)).alloc (boxOf v2)) ∧ ((w.alloc (boxOf v1)).alloc (boxOf v2)).cell? ⟨w.heap.size, 4, none⟩ = some v1 ∧
    ((w.alloc (boxOf v1)).alloc (boxOf v2)).cell? ⟨w.heap.size + 1, 4, none⟩ = some v2 := by
  have hs : (w.alloc (boxOf v1)).heap.size = w.heap.size + 1 := by simp
  refine ⟨((Below.refl _ _).alloc (Nat.le_refl _) _).alloc (by omega) _, ?_, ?_⟩
  · have h1 : ((w.alloc (boxOf v1)).alloc (boxOf v2)).heap[w.heap.size]? = some (boxOf v1) := (Below.heap_alloc _ _ _ (by omega)).trans (heap_alloc_new w _)
    rw [cell_of_row _ _ _ _ 33 (0, 0) h1]
    rfl
  · have h1 : ((w.alloc (boxOf v1)).alloc (boxOf v2)).heap[w.heap.size + 1]? = some (boxOf v2) := by rw [← hs]; exact heap_alloc_new _ _
    rw [cell_of_row _ _ _ _ 33 (0, 0) h1]
    rfl
/-- The left part, and the right part. -/
theorem left_holds {w : World} {gw gl : Nat} {am : Option Addr} {n c d cl : Nat} {K : Nat → ByteArray} {P : Nat → Option Addr} (h : Holds w gw am n c K P) (hd : d ≤ n) (hc : w.cell? ⟨gl, 4, none⟩ = some (.slice am d cl)) : Holds w gl am d cl K P :=
  ⟨hc, fun j hj => h.cells j (by omega)⟩
theorem right_holds {w : World} {gw gr gm : Nat} {n c d cr : Nat} {K : Nat → ByteArray} {P : Nat → Option Addr} (h : Holds w gw (some ⟨gm, 0, none⟩) n c K P) (hd : d ≤ n) (hc : w.cell? ⟨gr, 4, none⟩ = some (.slice (some ⟨gm, d * 2, none⟩) (n - d) cr)) :
    Holds w gr (some ⟨gm, d * 2, none⟩) (n - d) cr (fun j => K (d + j)) (fun j => P (d + j)) := by
  refine ⟨hc, fun j hj => ?_⟩
  obtain ⟨gm', off, e, h0, h1⟩ := h.cells (d + j) (by omega)
  simp only [Option.some.injEq, Addr.mk.injEq, and_true] at e
  obtain ⟨rfl, rfl⟩ := e
  refine ⟨gm, d * 2, rfl, ?_, ?_⟩
  · rw [show d * 2 + j * 2 = 0 + (d + j) * 2 from by omega]; exact h0
  · rw [show d * 2 + j * 2 + 1 = 0 + (d + j) * 2 + 1 from by omega]; exact h1
theorem empty_holds {w : World} {gr : Nat} {am : Option Addr} {cr : Nat} {K : Nat → ByteArray} {P : Nat → Option Addr} (hc : w.cell? ⟨gr, 4, none⟩ = some (.slice am 0 cr)) : Holds w gr am 0 cr K P :=
  ⟨hc, fun j hj => absurd hj (by omega)⟩

theorem goods_stay {w w' : World} {n : Nat} {P : Nat → Option Addr} (hb : Below w.heap.size w w') (h : ∀ j, j < n → Good w (P j)) : ∀ j, j < n → Good w' (P j) := fun j hj => (h j hj).below hb
theorem vals_stay {w w' : World} {g n : Nat} {P : Nat → Option Addr} (hb : Below w.heap.size w w') (h : ∀ j, j < n → w.cell? ⟨g, j, none⟩ = some (.pointer (P j))) : ∀ j, j < n → w'.cell? ⟨g, j, none⟩ = some (.pointer (P j)) := by
  intro j hj
  have := h j hj
  rw [hb.cell (World.block_lt_of_cell? _ _ this)]
  exact this

end Go.Proofs.Qxb6628924a
