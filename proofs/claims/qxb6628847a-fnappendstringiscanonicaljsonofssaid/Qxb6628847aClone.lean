/-
  Seat b6628847a: contracts of the small callees: the bounds on length, cloneB1, hexValB1, hasShortB1, quotedB1, plainB1.
-/
import Derived.Test.Qxb6628847aRowLaw
import Derived.WalkSpells
import Derived.Lib.SliceRun
namespace Go.Proofs.Qxb6628847a
open Go.RowKit Plain PlainAid

theorem addp (b o j : Nat) : (⟨b, o, none⟩ : Addr).add j = ⟨b, o + j, none⟩ := by unfold Addr.add; split <;> simp_all
theorem ret_int {k : IntKind} {a b : Int} (h : a = b) : Ending.returned (.int k a) = .returned (.int k b) := by rw [h]

/-! The two bounds: whatever they answer, the world stands. -/
theorem fits5 (a : Option Addr) (n c : Nat) (s : ByteArray) (w : World) (hn : n ≤ 1048576) (hs : s.size ≤ 1048576) (h : n + s.size ≤ 1048576) :
    Calls Try.prog 5 #[.slice a n c, .string s] w fun e w' => e = .returned (.bool true) ∧ w' = w := by
  go_enter Try.func5, Try.ntmps5
  go_wp2
  go_ret
  exact ⟨rfl, rfl⟩
theorem wide5 (a : Option Addr) (n c : Nat) (s : ByteArray) (w : World) (h : 1048576 < n + s.size) :
    Calls Try.prog 5 #[.slice a n c, .string s] w fun e w' => e = .returned (.bool false) ∧ w' = w := by
  by_cases h1 : 1048576 < n
  · go_enter Try.func5, Try.ntmps5
    go_wp2
    go_ret
    exact ⟨rfl, rfl⟩
  · by_cases h2 : 1048576 < s.size
    · go_enter Try.func5, Try.ntmps5
      go_wp2
      go_ret
      exact ⟨rfl, rfl⟩
    · go_enter Try.func5, Try.ntmps5
      go_wp2
      go_ret
      exact ⟨rfl, rfl⟩

/-! cloneB1. -/
theorem clone_nil (w : World) : Calls Try.prog 6 #[.slice none 0 0] w fun e w' => e = .returned (.slice none 0 0) ∧ w' = w := by
  have q22 : ∀ (w : World) (a : Option Addr) (n c n' c' : Nat), (binOp .eql 22 (.slice a n c) (.slice none n' c')).run Try.prog w = .ok (.bool a.isNone) w := fun w a n c n' c' => Lib.run_eql_slice_nil w _ _ a n c n' c' Try.underlying22
  go_enter Try.func6, Try.ntmps6
  go_wp2
  go_ret
  exact ⟨rfl, rfl⟩

theorem heap_of_owns {w : World} {base : Nat} {e : TypeId} {g n : Nat} {xs : List Value} (h : w.ownsRow base e 1 (.slice (some ⟨g, 0, none⟩) n n) n xs) :
    w.heap[g]? = some (.cells xs.toArray e (0, 0)) ∧ xs.length = n := by
  refine ⟨?_, by simpa using h.1⟩
  rcases h.2 with ⟨h', _⟩ | ⟨g', cap', cur, h', _, hg, _, _, hs, ht⟩
  · simp at h'
  · simp only [Value.slice.injEq, Option.some.injEq, Addr.mk.injEq, and_true, true_and] at h'
    obtain ⟨rfl, rfl⟩ := h'
    rw [hg, ← ht, List.take_of_length_le (by simp; omega)]
theorem owns_of_heap {w : World} {base g n : Nat} {xs : List Value} (hb : base ≤ g) (hn : n ≤ 1048576) (hl : xs.length = n) (h : w.heap[g]? = some (.cells xs.toArray 5 (0, 0))) :
    w.ownsRow base 5 1 (.slice (some ⟨g, 0, none⟩) n n) n xs :=
  ⟨by omega, .inr ⟨g, n, xs.toArray, rfl, hb, h, Nat.le_refl _, by unfold maxLen; omega, by simpa using hl, by rw [List.take_of_length_le (by simp; omega)]⟩⟩
theorem row_set {w : World} {h j : Nat} {M : List Value} (u : Value) (hh : w.heap[h]? = some (.cells M.toArray 5 (0, 0))) :
    (w.setCell ⟨h, j, none⟩ u).heap[h]? = some (.cells (M.set j u).toArray 5 (0, 0)) := by
  rw [heap_setCell_same w h j M.toArray 5 u hh]
  simp
theorem row_at {w : World} {h j : Nat} {M : List Value} (hh : w.heap[h]? = some (.cells M.toArray 5 (0, 0))) : w.cell? ⟨h, j, none⟩ = M[j]? := by
  rw [cell_of_row w h j M.toArray 5 (0, 0) hh]
  simp
theorem row_step {M : List Value} {j n : Nat} {zs : List Int} (hM : M.length = n) (hj : j < n) (hf : ∀ t, t < j → M[t]? = some (.int .u8 (zs.getD t 0))) :
    ∀ t, t < j + 1 → (M.set j (.int .u8 (zs.getD j 0)))[t]? = some (.int .u8 (zs.getD t 0)) := by
  intro t ht
  by_cases h : t = j
  · subst h
    rw [List.getElem?_set_self (by omega)]
  · rw [List.getElem?_set_ne (by omega), hf t (by omega)]
theorem row_done {M : List Value} {n : Nat} {zs : List Int} (hM : M.length = n) (hz : zs.length = n) (hf : ∀ t, t < n → M[t]? = some (.int .u8 (zs.getD t 0))) : M = cells zs := by
  apply List.ext_getElem?
  intro t
  by_cases h : t < n
  · rw [hf t h]
    have hz' : t < zs.length := by omega
    simp [cells, hz']
  · rw [List.getElem?_eq_none (by omega), List.getElem?_eq_none (by rw [cells_len]; omega)]

theorem clone_empty (x : Addr) (c : Nat) (w : World) :
    Calls Try.prog 6 #[.slice (some x) 0 c] w fun e w' => e = .returned (.slice (some ⟨w.heap.size, 0, none⟩) 0 0) ∧ w'.heap[w.heap.size]? = some (.cells (cells []).toArray 5 (0, 0)) ∧ Below w.heap.size w w' := by
  obtain ⟨i0, hi, hz0, hz1, hz2⟩ := info_parts Try.info5
  have q22 : ∀ (w : World) (a : Option Addr) (n c n' c' : Nat), (binOp .eql 22 (.slice a n c) (.slice none n' c')).run Try.prog w = .ok (.bool a.isNone) w := fun w a n c n' c' => Lib.run_eql_slice_nil w _ _ a n c n' c' Try.underlying22
  go_enter Try.func6, Try.ntmps6
  go_wp2_with (at_make; refine wpList_make_full _ rfl (.tmp 8) (.tmp 8) 22 rfl w.heap.size 5 i0 (.int .u8 0) 1 Try.underlying22 hi hz0 hz1 _ _ _ _ 0 rfl rfl (by omega) (by omega) (by rw [hz2]; omega) (by unfold maxLen; omega) (Nat.le_refl _) ?_)
  intro w1 hown hgrow
  obtain ⟨hg1, hl1⟩ := heap_of_owns hown
  have hb1 : Below w.heap.size w w1 := (Below.refl _ _).grown hgrow (Nat.le_refl _) (by simp)
  have e0 : (madeCells #[Value.int IntKind.u8 0] 0).toList = cells [] := by simp [madeCells, cells]
  have HG : Hid (w1.heap[w.heap.size]? = some (.cells (cells []).toArray 5 (0, 0))) := by rw [Hid, ← e0]; exact hg1
  clear hown hgrow hg1 hl1 e0
  go_wp2_with fail
  go_loop [4] (fun v => v = .int .i64 0) (fun _ => 0)
  case atStart => rfl
  case round =>
    subst hrel
    go_wp2
    go_ret
    exact ⟨rfl, HG.out, hb1⟩

theorem clone_some (b off n c : Nat) (zs : List Int) (w : World) (hn0 : 0 < n) (hn : n ≤ 1048576) (hz : zs.length = n) (hc : ∀ j, j < n → w.cell? ⟨b, off + j, none⟩ = some (.int .u8 (zs.getD j 0))) :
    Calls Try.prog 6 #[.slice (some ⟨b, off, none⟩) n c] w fun e w' => e = .returned (.slice (some ⟨w.heap.size, 0, none⟩) n n) ∧ w'.heap[w.heap.size]? = some (.cells (cells zs).toArray 5 (0, 0)) ∧ Below w.heap.size w w' := by
  obtain ⟨i0, hi, hz0, hz1, hz2⟩ := info_parts Try.info5
  have q22 : ∀ (w : World) (a : Option Addr) (n c n' c' : Nat), (binOp .eql 22 (.slice a n c) (.slice none n' c')).run Try.prog w = .ok (.bool a.isNone) w := fun w a n c n' c' => Lib.run_eql_slice_nil w _ _ a n c n' c' Try.underlying22
  have hblk : b < w.heap.size := World.block_lt_of_cell? _ _ (hc 0 hn0)
  go_enter Try.func6, Try.ntmps6
  go_wp2_with (at_make; refine wpList_make_full _ rfl (.tmp 8) (.tmp 8) 22 rfl w.heap.size 5 i0 (.int .u8 0) 1 Try.underlying22 hi hz0 hz1 _ _ _ _ n rfl rfl (by omega) (by omega) (by rw [hz2]; omega) (by unfold maxLen; omega) (Nat.le_refl _) ?_)
  intro w1 hown hgrow
  obtain ⟨hg1, hl1⟩ := heap_of_owns hown
  have hb1 : Below w.heap.size w w1 := (Below.refl _ _).grown hgrow (Nat.le_refl _) (by simp)
  obtain ⟨L, hL⟩ : ∃ L, L = (madeCells #[Value.int IntKind.u8 0] n).toList := ⟨_, rfl⟩
  rw [← hL] at hg1 hl1
  obtain ⟨g, hg⟩ : ∃ g, g = w.heap.size := ⟨_, rfl⟩
  rw [← hg] at hg1 hb1 hblk
  simp only [← hg]
  have HG : Hid (g = w.heap.size) := hg
  clear hown hgrow hL hg
  go_wp2_with fail
  go_loopw [4] (fun v wr => ∃ (j : Nat) (M : List Value), v = .int .i64 j ∧ j ≤ n ∧ M.length = n ∧ Hid (∀ t, t < j → M[t]? = some (.int .u8 (zs.getD t 0))) ∧ Hid (wr.heap[g]? = some (.cells M.toArray 5 (0, 0))) ∧ Below g w wr) (fun v _ => n - (intOf v).toNat)
  case atStart => exact ⟨0, L, rfl, Nat.zero_le _, hl1, fun t ht => absurd ht (by omega), hg1, hb1⟩
  case round =>
    obtain ⟨j, M, rfl, hj, hM, hMf, hMh, hbr⟩ := hrel
    by_cases hlt : j < n
    · obtain ⟨z, hzj⟩ : ∃ z, z = zs.getD j 0 := ⟨_, rfl⟩
      have hcj : wr.cell? ⟨b, off + j, none⟩ = some (.int .u8 z) := by rw [hbr.cell hblk, hzj]; exact hc j hlt
      obtain ⟨u, hu⟩ : ∃ u, M[j]? = some u := ⟨_, List.getElem?_eq_getElem (by omega)⟩
      have hco : wr.cell? ⟨g, j, none⟩ = some u := by rw [row_at hMh.out]; exact hu
      have hfo : wr.frozen? ⟨g, j, none⟩ = false := frozen_of_row wr g j _ 5 hMh.out
      have HZ : Hid (z = zs.getD j 0) := hzj
      clear hzj hu
      go_wp2
      go_roundw
      case rel => exact ⟨j + 1, M.set j (.int .u8 z), by go_num, by omega, by simpa using hM, by rw [HZ.out]; exact row_step hM hlt hMf.out, row_set _ hMh.out, hbr.setCell (Nat.le_refl _) _⟩
      case measure => simp [intOf]; omega
    · obtain rfl : j = n := by omega
      have e := row_done hM hz hMf.out
      have HE : Hid (M = cells zs) := e
      clear e
      go_wp2
      go_ret
      have hg := HG.out
      subst hg
      exact ⟨rfl, by rw [← HE.out]; exact hMh.out, hbr⟩

end Go.Proofs.Qxb6628847a
