/-
  Seat b6628924a: the contract of zzB1Build.
-/
import Derived.Test.Qxb6628924aFits
import Derived.RegionTactic
import Derived.LaidEqlPtr
namespace Go.Proofs.Qxb6628924a
open Go.RowKit

theorem Try.info25 : (Try.prog.info? 25).map (fun i => (i.zero, i.size, i.bytes)) = some (some (.pointer none), 1, 8) := by kernel_rfl
theorem Try.info38 : (Try.prog.info? 38).map (fun i => (i.zero, i.size, i.bytes)) = some (some (.agg #[.string ByteArray.empty, .pointer none]), 2, 24) := by kernel_rfl

/-- A row that was made full: the block. -/
theorem heap_of_owns {w : World} {base : Nat} {e : TypeId} {g n size : Nat} {xs : List Value} (h : w.ownsRow base e size (.slice (some ⟨g, 0, none⟩) n n) n xs) :
    w.heap[g]? = some (.cells xs.toArray e (0, 0)) ∧ xs.length = n * size := by
  refine ⟨?_, h.1⟩
  rcases h.2 with ⟨h', _⟩ | ⟨g', cap', cur, h', _, hg, _, _, hs, ht⟩
  · simp at h'
  · simp only [Value.slice.injEq, Option.some.injEq, Addr.mk.injEq, and_true, true_and] at h'
    obtain ⟨rfl, rfl⟩ := h'
    rw [hg, ← ht, List.take_of_length_le (by simp; omega)]
theorem row_set {w : World} {h j : Nat} {e : TypeId} {M : List Value} (u : Value) (hh : w.heap[h]? = some (.cells M.toArray e (0, 0))) :
    (w.setCell ⟨h, j, none⟩ u).heap[h]? = some (.cells (M.set j u).toArray e (0, 0)) := by
  rw [heap_setCell_same w h j M.toArray e u hh]
  simp
theorem row_at {w : World} {h j : Nat} {e : TypeId} {M : List Value} (hh : w.heap[h]? = some (.cells M.toArray e (0, 0))) : w.cell? ⟨h, j, none⟩ = M[j]? := by
  rw [cell_of_row w h j M.toArray e (0, 0) hh]
  simp

/-- A pointer to a node of the call's own, apart from the two rows. -/
def Fresh (w : World) (gv gm : Nat) (q : Addr) : Prop := q.block ≠ gv ∧ q.block ≠ gm ∧ ∃ cs, w.heap[q.block]? = some (.cells cs 33 (0, 0))
/-- A pointer that can be compared. -/
def Good (w : World) (p : Option Addr) : Prop := ∃ q cs, p = some q ∧ w.heap[q.block]? = some (.cells cs 33 (0, 0))
theorem Good.below {w w' : World} {p : Option Addr} (h : Good w p) (hb : Below w.heap.size w w') : Good w' p := by
  obtain ⟨q, cs, e, hq⟩ := h
  exact ⟨q, cs, e, (hb.block q.block (Array.getElem?_eq_some_iff.1 hq).1).trans hq⟩
/-- The two rows after k rounds. -/
def Built (w wr : World) (gv gm n k : Nat) (K : Nat → ByteArray) : Prop :=
  ∃ V M : List Value, V.length = n ∧ M.length = n * 2 ∧ wr.heap[gv]? = some (.cells V.toArray 25 (0, 0)) ∧ wr.heap[gm]? = some (.cells M.toArray 38 (0, 0)) ∧
    (∀ j, j < k → ∃ q, V[j]? = some (.pointer (some q)) ∧ M[j * 2]? = some (.string (K j)) ∧ M[j * 2 + 1]? = some (.pointer (some q)) ∧ Fresh wr gv gm q) ∧ Below w.heap.size w wr

theorem built_step {w wr : World} {gv gm n k : Nat} {K : Nat → ByteArray} {V M : List Value} (cs : Array Value) (hVl : V.length = n) (hMl : M.length = n * 2) (hV : wr.heap[gv]? = some (.cells V.toArray 25 (0, 0))) (hM : wr.heap[gm]? = some (.cells M.toArray 38 (0, 0)))
    (hall : ∀ j, j < k → ∃ q, V[j]? = some (.pointer (some q)) ∧ M[j * 2]? = some (.string (K j)) ∧ M[j * 2 + 1]? = some (.pointer (some q)) ∧ Fresh wr gv gm q) (hb : Below w.heap.size w wr) (hk : k < n) (hne : gv ≠ gm) (hgv : w.heap.size ≤ gv) (hgm : w.heap.size ≤ gm) :
    Built w ((((wr.setCell ⟨gv, k, none⟩ (.pointer (some ⟨wr.heap.size, 0, none⟩))).setCell ⟨gm, k * 2, none⟩ (.string (K k))).setCell ⟨gm, k * 2 + 1, none⟩ (.pointer (some ⟨wr.heap.size, 0, none⟩))).alloc (.cells cs 33)).drew gv gm n (k + 1) K := by
  obtain ⟨q, hq⟩ : ∃ q : Addr, q = ⟨wr.heap.size, 0, none⟩ := ⟨_, rfl⟩
  have hqb : q.block = wr.heap.size := by rw [hq]
  rw [← hq]
  have hVs := row_set (j := k) (.pointer (some q)) hV
  have hM1 : (wr.setCell ⟨gv, k, none⟩ (.pointer (some q))).heap[gm]? = some (.cells M.toArray 38 (0, 0)) := (Below.heap_setCell wr ⟨gv, k, none⟩ _ gm (fun e => hne e.symm)).trans hM
  have hM2 := row_set (j := k * 2 + 1) (.pointer (some q)) (row_set (j := k * 2) (.string (K k)) hM1)
  have hV2 : (((wr.setCell ⟨gv, k, none⟩ (.pointer (some q))).setCell ⟨gm, k * 2, none⟩ (.string (K k))).setCell ⟨gm, k * 2 + 1, none⟩ (.pointer (some q))).heap[gv]? = some (.cells (V.set k (.pointer (some q))).toArray 25 (0, 0)) :=
    (Below.heap_setCell _ ⟨gm, k * 2 + 1, none⟩ _ gv hne).trans ((Below.heap_setCell _ ⟨gm, k * 2, none⟩ _ gv hne).trans hVs)
  have lt {W : World} {g : Nat} {x : Obj} (h : W.heap[g]? = some x) : g < W.heap.size := (Array.getElem?_eq_some_iff.1 h).1
  have hsz : (((wr.setCell ⟨gv, k, none⟩ (.pointer (some q))).setCell ⟨gm, k * 2, none⟩ (.string (K k))).setCell ⟨gm, k * 2 + 1, none⟩ (.pointer (some q))).heap.size = wr.heap.size := by simp
  have hgvl := lt hV
  have hgml := lt hM
  refine ⟨V.set k (.pointer (some q)), (M.set (k * 2) (.string (K k))).set (k * 2 + 1) (.pointer (some q)), by simpa using hVl, by simpa using hMl, ?_, ?_, ?_, ?_⟩
  · exact (Below.heap_alloc _ _ gv (lt hV2)).trans hV2
  · exact (Below.heap_alloc _ _ gm (lt hM2)).trans hM2
  · intro j hj
    by_cases e : j = k
    · subst e
      refine ⟨q, List.getElem?_set_self (by omega), ?_, List.getElem?_set_self (by simp; omega), by omega, by omega, cs, ?_⟩
      · rw [List.getElem?_set_ne (by omega), List.getElem?_set_self (by omega)]
      · rw [hqb, ← hsz]; exact heap_alloc_new _ _
    · obtain ⟨q', h1, h2, h3, h4, h5, cs', h6⟩ := hall j (by omega)
      refine ⟨q', ?_, ?_, ?_, h4, h5, cs', ?_⟩
      · rw [List.getElem?_set_ne (by omega)]; exact h1
      · rw [List.getElem?_set_ne (by omega), List.getElem?_set_ne (by omega)]; exact h2
      · rw [List.getElem?_set_ne (by omega), List.getElem?_set_ne (by omega)]; exact h3
      · have h7 := (Below.heap_setCell _ ⟨gm, k * 2 + 1, none⟩ (.pointer (some q)) q'.block h5).trans ((Below.heap_setCell _ ⟨gm, k * 2, none⟩ (.string (K k)) q'.block h5).trans ((Below.heap_setCell wr ⟨gv, k, none⟩ (.pointer (some q)) q'.block h4).trans h6))
        exact (Below.heap_alloc _ _ _ (lt h7)).trans h7
  · have hb1 : Below w.heap.size w (((wr.setCell ⟨gv, k, none⟩ (.pointer (some q))).setCell ⟨gm, k * 2, none⟩ (.string (K k))).setCell ⟨gm, k * 2 + 1, none⟩ (.pointer (some q))) := ((hb.setCell hgv _).setCell hgm _).setCell hgm _
    exact (hb1.alloc hb1.size _).drew

def ptrAt (V : List Value) (j : Nat) : Option Addr := match V[j]? with
  | some (.pointer q) => q
  | _ => none
/-- The mapping that is handed back. -/
theorem built_done {w wr : World} {gv gm n : Nat} {K : Nat → ByteArray} (h : Built w wr gv gm n n K) (t : ByteArray) :
    ∃ P : Nat → Option Addr, Holds (wr.alloc (.cells #[.int .u8 0, .string t, .slice none 0 0, .int .u8 0, .slice (some ⟨gm, 0, none⟩) n n] 33)) wr.heap.size (some ⟨gm, 0, none⟩) n n K P ∧
      (∀ j, j < n → (wr.alloc (.cells #[.int .u8 0, .string t, .slice none 0 0, .int .u8 0, .slice (some ⟨gm, 0, none⟩) n n] 33)).cell? ⟨gv, j, none⟩ = some (.pointer (P j))) ∧
      (∀ j, j < n → Good (wr.alloc (.cells #[.int .u8 0, .string t, .slice none 0 0, .int .u8 0, .slice (some ⟨gm, 0, none⟩) n n] 33)) (P j)) ∧
      Below w.heap.size w (wr.alloc (.cells #[.int .u8 0, .string t, .slice none 0 0, .int .u8 0, .slice (some ⟨gm, 0, none⟩) n n] 33)) := by
  obtain ⟨V, M, hVl, hMl, hV, hM, hall, hb⟩ := h
  have lt {g : Nat} {x : Obj} (h : wr.heap[g]? = some x) : g < wr.heap.size := (Array.getElem?_eq_some_iff.1 h).1
  have hV' := (Below.heap_alloc wr (.cells #[.int .u8 0, .string t, .slice none 0 0, .int .u8 0, .slice (some ⟨gm, 0, none⟩) n n] 33) gv (lt hV)).trans hV
  have hM' := (Below.heap_alloc wr (.cells #[.int .u8 0, .string t, .slice none 0 0, .int .u8 0, .slice (some ⟨gm, 0, none⟩) n n] 33) gm (lt hM)).trans hM
  refine ⟨ptrAt V, ⟨?_, ?_⟩, ?_, ?_, hb.alloc hb.size _⟩
  · rw [cell_of_row _ _ _ _ 33 (0, 0) (heap_alloc_new wr _)]
    rfl
  · intro j hj
    obtain ⟨q, h1, h2, h3, h4⟩ := hall j hj
    have hp : ptrAt V j = some q := by unfold ptrAt; rw [h1]
    refine ⟨gm, 0, rfl, ?_, ?_⟩
    · rw [Nat.zero_add, row_at hM']; exact h2
    · rw [Nat.zero_add, row_at hM', hp]; exact h3
  · intro j hj
    obtain ⟨q, h1, h2, h3, h4⟩ := hall j hj
    have hp : ptrAt V j = some q := by unfold ptrAt; rw [h1]
    rw [row_at hV', hp]; exact h1
  · intro j hj
    obtain ⟨q, h1, h2, h3, h4, h5, cs, h6⟩ := hall j hj
    exact ⟨q, cs, by unfold ptrAt; rw [h1], (Below.heap_alloc wr _ _ (lt h6)).trans h6⟩

set_option maxHeartbeats 1000000 in
theorem build_any (a : Option Addr) (n c : Nat) (K : Nat → ByteArray) (w : World) (hk : Keys w a n K) (hn : n ≤ 65536) :
    Calls Try.prog 7 #[.slice a n c] w fun e w' => ∃ gw gv gm, ∃ P : Nat → Option Addr, e = .returned (.tuple #[.pointer (some ⟨gw, 0, none⟩), .slice (some ⟨gv, 0, none⟩) n n]) ∧
      Holds w' gw (some ⟨gm, 0, none⟩) n n K P ∧ (∀ j, j < n → w'.cell? ⟨gv, j, none⟩ = some (.pointer (P j))) ∧ (∀ j, j < n → Good w' (P j)) ∧ Below w.heap.size w w' := by
  obtain ⟨i1, hi1, hz10, hz11, hz12⟩ := info_parts Try.info25
  obtain ⟨i2, hi2, hz20, hz21, hz22⟩ := info_parts Try.info38
  go_enter Try.func7, Try.ntmps7
  go_wp2_with (at_make; refine wpList_make_full _ rfl (.tmp 8) (.tmp 8) 26 rfl w.heap.size 25 i1 (.pointer none) 1 Try.underlying26 hi1 hz10 hz11 _ _ _ _ n rfl rfl (by omega) (by omega) (by rw [hz12]; omega) (by unfold maxLen; omega) (Nat.le_refl _) ?_)
  intro w1 hown1 hgrow1
  obtain ⟨hg1, hl1⟩ := heap_of_owns hown1
  have hb1 : Below w.heap.size w w1 := (Below.refl _ _).grown hgrow1 (Nat.le_refl _) (by simp)
  obtain ⟨V0, hV0⟩ : ∃ L, L = (madeCells #[Value.pointer none] n).toList := ⟨_, rfl⟩
  rw [← hV0] at hg1 hl1
  go_wp2_with (at_make; refine wpList_make_full _ rfl (.tmp 11) (.tmp 11) 29 rfl w1.heap.size 38 i2 (.agg #[.string ByteArray.empty, .pointer none]) 2 Try.underlying29 hi2 hz20 hz21 _ _ _ _ n rfl rfl (by omega) (by omega) (by rw [hz22]; omega) (by unfold maxLen; omega) (Nat.le_refl _) ?_)
  intro w2 hown2 hgrow2
  obtain ⟨hg2, hl2⟩ := heap_of_owns hown2
  obtain ⟨M0, hM0⟩ : ∃ L, L = (madeCells #[Value.string ByteArray.empty, Value.pointer none] (n * 2)).toList := ⟨_, rfl⟩
  rw [← hM0] at hg2 hl2
  have hlt1 : w.heap.size < w1.heap.size := by
    rcases Nat.lt_or_ge w.heap.size w1.heap.size with h | h
    · exact h
    · rw [Array.getElem?_eq_none h] at hg1; cases hg1
  have hlt2 : w1.heap.size < w2.heap.size := by
    rcases Nat.lt_or_ge w1.heap.size w2.heap.size with h | h
    · exact h
    · rw [Array.getElem?_eq_none h] at hg2; cases hg2
  have hg1' : w2.heap[w.heap.size]? = some (.cells V0.toArray 25 (0, 0)) := (hgrow2.block w.heap.size hlt1 (by simp)).trans hg1
  have hb2 : Below w.heap.size w w2 := hb1.grown hgrow2 (by omega) (by simp)
  have hB0 : Built w w2 w.heap.size w1.heap.size n 0 K := ⟨V0, M0, by omega, hl2, hg1', hg2, fun j hj => absurd hj (by omega), hb2⟩
  obtain ⟨gv, hgv⟩ : ∃ g, g = w.heap.size := ⟨_, rfl⟩
  obtain ⟨gm, hgm⟩ : ∃ g, g = w1.heap.size := ⟨_, rfl⟩
  have hvm : gv < gm := by omega
  have hm2 : gm < w2.heap.size := by omega
  rw [← hgv, ← hgm] at hB0
  simp only [← hgv, ← hgm]
  have HGV : Hid (gv = w.heap.size) := hgv
  clear hown1 hgrow1 hown2 hgrow2 hV0 hM0 hg1 hg2 hl1 hl2 hg1' hlt1 hlt2 hb1 hb2 hgm hgv
  go_wp2_with fail
  go_loopw [6] (fun v wr => ∃ k : Nat, v = .int .i64 k ∧ k ≤ n ∧ Hid (Built w wr gv gm n k K) ∧ gm < wr.heap.size) (fun v _ => n - (intOf v).toNat)
  case atStart => exact ⟨0, rfl, Nat.zero_le _, hB0, hm2⟩
  case round =>
    obtain ⟨k, rfl, hkn, HB, hms⟩ := hrel
    by_cases hlt : k < n
    · obtain ⟨V, M, hVl, hMl, hV, hM, hall, hbr⟩ := HB.out
      obtain ⟨b, off, rfl, hc⟩ := hk k hlt
      have hbb : b < gv := by rw [HGV.out]; exact World.block_lt_of_cell? _ _ hc
      have hcK : wr.cell? ⟨b, off + k, none⟩ = some (.string (K k)) := by rw [hbr.cell (World.block_lt_of_cell? _ _ hc)]; exact hc
      obtain ⟨u, hu⟩ : ∃ u, V[k]? = some u := ⟨_, List.getElem?_eq_getElem (by omega)⟩
      obtain ⟨u0, hu0⟩ : ∃ u, M[k * 2]? = some u := ⟨_, List.getElem?_eq_getElem (by omega)⟩
      obtain ⟨u1, hu1⟩ : ∃ u, M[k * 2 + 1]? = some u := ⟨_, List.getElem?_eq_getElem (by omega)⟩
      have hcV : wr.cell? ⟨gv, k, none⟩ = some u := by rw [row_at hV]; exact hu
      have hfV : wr.frozen? ⟨gv, k, none⟩ = false := frozen_of_row wr gv k _ 25 hV
      have hc0 : wr.cell? ⟨gm, k * 2, none⟩ = some u0 := by rw [row_at hM]; exact hu0
      have hf0 : wr.frozen? ⟨gm, k * 2, none⟩ = false := frozen_of_row wr gm _ _ 38 hM
      have hc1 : wr.cell? ⟨gm, k * 2 + 1, none⟩ = some u1 := by rw [row_at hM]; exact hu1
      have hf1 : wr.frozen? ⟨gm, k * 2 + 1, none⟩ = false := frozen_of_row wr gm _ _ 38 hM
      have HV : Hid (wr.heap[gv]? = some (.cells V.toArray 25 (0, 0))) := hV
      have HM : Hid (wr.heap[gm]? = some (.cells M.toArray 38 (0, 0))) := hM
      have HALL : Hid (∀ j, j < k → ∃ q, V[j]? = some (.pointer (some q)) ∧ M[j * 2]? = some (.string (K j)) ∧ M[j * 2 + 1]? = some (.pointer (some q)) ∧ Fresh wr gv gm q) := hall
      clear hV hM hall hu hu0 hu1 hc
      have i0 : (0 : Int) ≤ (k : Int) := by omega
      have i1 : (k : Int) < (n : Int) := by omega
      have s1 : gv < wr.heap.size := by omega
      have s2 : b < wr.heap.size := by omega
      have n1 : wr.heap.size ≠ gv := by omega
      have n2 : wr.heap.size ≠ gm := by omega
      have n3 : wr.heap.size ≠ b := by omega
      have n4 : gv ≠ gm := by omega
      have n5 : gm ≠ gv := by omega
      have n6 : b ≠ gv := by omega
      have n7 : b ≠ gm := by omega
      have n8 : gv ≠ b := by omega
      have n9 : gm ≠ b := by omega
      go_wp2
      go_region
      all_goals
        go_wp2
        go_roundw
        case rel => exact ⟨k + 1, by go_num, by omega, built_step _ hVl hMl HV.out HM.out HALL.out hbr hlt n4 (by rw [HGV.out]; exact Nat.le_refl _) (by rw [← HGV.out]; omega), by simp; omega⟩
        case measure => simp [intOf]; omega
    · obtain rfl : k = n := by omega
      obtain ⟨P, hH, hv, hgd, hbl⟩ := built_done HB.out ByteArray.empty
      go_wp2
      go_ret2
      exact ⟨wr.heap.size, gv, gm, P, rfl, hH, hv, hgd, hbl⟩

/-! Pointers compared. -/
theorem Try.size33 : (Try.prog.info? 33).map (·.size) = some 5 := by kernel_rfl
theorem equal_self (p : Option Addr) (w : World) (d : Nat) : (Op.equalIn (d + 1) 25 (.pointer p) (.pointer p)).run Try.prog w = .ok true w := by
  obtain ⟨j, hj, hjs⟩ := Option.map_eq_some_iff.1 Try.size33
  cases p with
  | none => simp [Op.equalIn, run_underlying Try.underlying25]
  | some a => simp [Op.equalIn, run_underlying Try.underlying25, sizeOf, typeInfo, hj, run_sameAddr_same]
theorem eql_self (p : Option Addr) (w : World) : (binOp .eql 25 (.pointer p) (.pointer p)).run Try.prog w = .ok (.bool true) w := by
  simp only [binOp]
  simp [Op.equal, Op.maxDepth, equal_self p w 9999]
theorem neq_self (p : Option Addr) (w : World) : (binOp .neq 25 (.pointer p) (.pointer p)).run Try.prog w = .ok (.bool false) w := by
  simp only [binOp]
  simp [Op.equal, Op.maxDepth, equal_self p w 9999]
theorem eql_good {w : World} {p q : Option Addr} (hp : Good w p) (hq : Good w q) : (binOp .eql 25 (.pointer p) (.pointer q)).run Try.prog w = .ok (.bool (decide (p = q))) w := by
  obtain ⟨j, hj, hjs⟩ := Option.map_eq_some_iff.1 Try.size33
  by_cases h : p = q
  · subst h
    rw [decide_eq_true rfl]
    exact eql_self p w
  · rw [decide_eq_false h]
    obtain ⟨a, cs, rfl, ha⟩ := hp
    obtain ⟨b, cs', rfl, hb⟩ := hq
    exact run_eql_ptr_other w Try.underlying25 hj (by rw [hjs]; decide) (fun e => h (by rw [e])) ha hb

end Go.Proofs.Qxb6628924a
