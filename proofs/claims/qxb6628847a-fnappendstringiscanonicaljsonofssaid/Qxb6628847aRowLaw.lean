/-
  Seat b6628847a: append of whatever bytes onto a row that the call owns, once and again; what became of the world.
-/
import Derived.Test.Qxb6628847aPlain
import Derived.WalkKit
import Derived.Below
import Derived.Deep.AppendSrc
import Derived.Maps.AppendAt
import Derived.PlainAid
namespace Go.Proofs.Qxb6628847a
open Go.RowKit Plain

theorem Try.info5 : (Try.prog.info? 5).map (fun i => (i.zero, i.size, i.bytes)) = some (some (.int .u8 0), 1, 1) := by kernel_rfl

/-- Numbers as cells. -/
def cells (l : List Int) : List Value := l.map (Value.int .u8)
theorem cells_len (l : List Int) : (cells l).length = l.length := by simp [cells]
theorem cells_append (l m : List Int) : cells (l ++ m) = cells l ++ cells m := by simp [cells]

/-- append onto an owned row, from whatever source that yields something. -/
theorem run_app {w : World} (tx ty : TypeId) (base : Nat) (v : Value) (n : Nat) (xs : List Value) (hown : w.ownsRow base 5 1 v n xs) (x : Value) (m : Nat) (news : List Value)
    (hs : Src Try.prog 1 tx x m news w) (hm : 0 < m) (hle : n + m ≤ 100000000) (hbase : base ≤ w.heap.size) :
    ∃ g cap w', (Builtin.append_ #[22, tx] ty #[v, x]).run Try.prog w = .ok (.slice (some ⟨g, 0, none⟩) (n + m) cap) w' ∧
      w'.ownsRow base 5 1 (.slice (some ⟨g, 0, none⟩) (n + m) cap) (n + m) (xs ++ news) ∧ w.grownBy w' v.ownBlock ∧ (v.ownBlock = some g ∨ g = w.heap.size) := by
  obtain ⟨i, hi, hz0, hz1, hz2⟩ := info_parts Try.info5
  have hlen : (xs ++ news).length = (n + m) * 1 := by rw [List.length_append, hown.1, hs.newsLen, Nat.add_mul]
  have hxl : xs.length = n := by simpa using hown.1
  have hnl : news.length = m := by simpa using hs.newsLen
  have hs' : Src Try.prog i.size tx x m news w := by rw [hz1]; exact hs
  have hcapm : ∀ old, grownCap w (n + m) old 5 ≤ maxLen := fun old => grownCap_le_maxLen w (n + m) old 5 (by unfold maxLen; omega)
  have grown : ∀ (old : Nat) (row : Option Nat),
      (w.drew.alloc (.cells ((xs ++ news).toArray ++ Builtin.zeroCells (Value.int .u8 0).cells (grownCap w (n + m) old 5 - (n + m))) 5)).ownsRow base 5 1
        (.slice (some ⟨w.heap.size, 0, none⟩) (n + m) (grownCap w (n + m) old 5)) (n + m) (xs ++ news) ∧
      w.grownBy (w.drew.alloc (.cells ((xs ++ news).toArray ++ Builtin.zeroCells (Value.int .u8 0).cells (grownCap w (n + m) old 5 - (n + m))) 5)) row := by
    intro old row
    have hge := grownCap_ge w (n + m) old 5
    refine ⟨⟨hlen, .inr ⟨w.heap.size, _, _, rfl, hbase, heap_alloc_new w.drew _, hge, hcapm old, ?_, ?_⟩⟩, ⟨rfl, rfl, rfl, by simp, fun k hk _ => Below.heap_alloc w.drew _ k hk⟩⟩
    · simp only [Array.size_append, List.size_toArray, size_zeroCells, hlen]
      simp [Value.cells]
      omega
    · simp only [Array.toList_append]
      rw [← hlen]
      exact List.take_left
  have hfit : ∀ old, n + m ≤ 100000000 → old < n + m → Builtin.nextslicecap (n + m) old * i.bytes ≤ 281474976710656 := fun old h1 h2 => growslice_fits (by omega) (by rw [hz2]; omega)
  rcases hown.2 with ⟨rfl, rfl⟩ | ⟨g, cap, cur, rfl, hbg, hg, hnc, hcm, hcs, htake⟩
  · have hx : xs = [] := List.eq_nil_of_length_eq_zero (by simpa using hown.1)
    subst hx
    have hr := run_append_grow_src (P := Try.prog) w 22 tx ty 5 i (.int .u8 0) Try.underlying22 hi hz0 none 0 0 [] (by rw [hz1]; exact run_firstCells_none w.drew 1 0 0 0) x m news hs' (by omega) (by omega) (hfit 0 hle (by omega))
    have hgr := grown 0 (Value.ownBlock (.slice none 0 0))
    exact ⟨_, _, _, hr, hgr.1, hgr.2, .inr rfl⟩
  · by_cases hroom : n + m ≤ cap
    · have hcell : ∀ j, j < news.length → (w.cell? ⟨g, 0 + n * i.size + j, none⟩).isSome = true := by
        intro j hj
        rw [cell_of_row w g _ cur 5 (0, 0) hg]
        rw [Array.getElem?_eq_getElem (by rw [hz1]; omega)]
        rfl
      have hfr : ∀ j, j < news.length → w.frozen? ⟨g, 0 + n * i.size + j, none⟩ = false := fun j _ => frozen_of_row w g _ cur 5 hg
      have hr := run_append_room_src (P := Try.prog) w 22 tx ty 5 i Try.underlying22 hi g 0 n cap x m news hs' hroom hcell hfr
      have hst := run_storeCells_at Try.prog g (n * 1) 5 news 0 cur w hg (by omega) hs.one
      have hst2 := run_storeCells_cells (P := Try.prog) g (n * 1) news 0 w (by simpa [hz1] using hcell) (by simpa [hz1] using hfr) hs.one
      have heq : w.setCells g (0 + n * i.size) news = w.setRow g (cur.toList.take (n * 1) ++ news ++ cur.toList.drop (n * 1 + news.length)).toArray := by
        rw [hst2] at hst
        simp only [Nat.add_zero, Result.ok.injEq] at hst
        rw [hz1, Nat.zero_add]
        exact hst.2
      rw [heq] at hr
      refine ⟨g, cap, _, hr, ⟨hlen, .inr ⟨g, cap, _, rfl, hbg, setRow_heap w g cur _ 5 _ hg, hroom, hcm, ?_, ?_⟩⟩, ⟨rfl, rfl, rfl, by simp, fun k _ hk => setRow_other w g k _ (fun e => hk (by simp [Value.ownBlock, e]))⟩, .inl rfl⟩
      · simp only [List.size_toArray, List.length_append, List.length_take, List.length_drop, Array.length_toList]
        omega
      · rw [htake, ← hlen]
        exact List.take_left
    · have holds : ∀ j u, xs[j]? = some u → w.cell? ((⟨g, 0, none⟩ : Addr).add j) = some u := hown.cells (g := g) rfl
      have hr := run_append_grow_src (P := Try.prog) w 22 tx ty 5 i (.int .u8 0) Try.underlying22 hi hz0 (some ⟨g, 0, none⟩) n cap xs (by rw [hz1]; exact run_firstCells_some w.drew 1 n ⟨g, 0, none⟩ n cap xs (by omega) (by simpa using holds)) x m news hs' (by omega) (by omega) (hfit cap hle (by omega))
      have hgr := grown cap (Value.ownBlock (.slice (some ⟨g, 0, none⟩) n cap))
      exact ⟨_, _, _, hr, hgr.1, hgr.2, .inr rfl⟩

/-- WHAT AN APPENDING CALL HAS MADE SO FAR of the value v0 in the world w: the value v in w'. -/
structure Grew (w w' : World) (v0 : Value) (base : Nat) (v : Value) (n : Nat) (xs : List Value) : Prop where
  own : w'.ownsRow base 5 1 v n xs
  grown : w.grownBy w' v0.ownBlock
  at_ : v.ownBlock = v0.ownBlock ∨ ∀ g, v.ownBlock = some g → w.heap.size ≤ g

theorem Grew.start {w : World} {base : Nat} {v0 : Value} {n : Nat} {xs : List Value} (h : w.ownsRow base 5 1 v0 n xs) : Grew w w v0 base v0 n xs :=
  ⟨h, World.grownBy.refl _ _, .inl rfl⟩

/-- One append more: the world first moved on by whatever leaves all old blocks (a new block, a draw). -/
theorem Grew.more {w w1 w1' : World} {v0 : Value} {base : Nat} {v : Value} {n : Nat} {xs : List Value} (h : Grew w w1 v0 base v n xs) (hb : base ≤ w.heap.size) (hg : w1.grownBy w1' none)
    {tx : TypeId} (ty : TypeId) {x : Value} {m : Nat} {news : List Value} (hs : Src Try.prog 1 tx x m news w1') (hm : 0 < m) (hle : n + m ≤ 100000000) :
    ∃ g cap w2, (Builtin.append_ #[22, tx] ty #[v, x]).run Try.prog w1' = .ok (.slice (some ⟨g, 0, none⟩) (n + m) cap) w2 ∧ Grew w w2 v0 base (.slice (some ⟨g, 0, none⟩) (n + m) cap) (n + m) (xs ++ news) := by
  have hown : w1'.ownsRow base 5 1 v n xs := h.own.kept hg (by cases v.ownBlock <;> simp)
  have hsz : w.heap.size ≤ w1'.heap.size := Nat.le_trans h.grown.size hg.size
  obtain ⟨g, cap, w2, hr, ho, hgr, hat⟩ := run_app tx ty base v n xs hown x m news hs hm hle (by omega)
  refine ⟨g, cap, w2, hr, ho, ⟨?_, ?_, ?_, ?_, ?_⟩, ?_⟩
  · exact hgr.os.trans (hg.os.trans h.grown.os)
  · exact hgr.tape.trans (hg.tape.trans h.grown.tape)
  · exact hgr.output.trans (hg.output.trans h.grown.output)
  · exact Nat.le_trans hsz hgr.size
  · intro k hk hne
    have h1 := h.grown.block k hk hne
    have h2 := hg.block k (Nat.lt_of_lt_of_le hk h.grown.size) (by simp)
    have h3 := hgr.block k (Nat.lt_of_lt_of_le hk hsz) (fun e => by
      rcases h.at_ with h4 | h4
      · exact hne (e.trans h4)
      · have := h4 k e.symm; omega)
    exact h3.trans (h2.trans h1)
  · rcases hat with h4 | h4
    · rcases h.at_ with h5 | h5
      · left
        show some g = _
        rw [← h4, h5]
      · right
        intro g' hg'
        have e : g = g' := by simpa [Value.ownBlock] using hg'
        subst e
        exact h5 g h4
    · right
      intro g' hg'
      have e : g = g' := by simpa [Value.ownBlock] using hg'
      omega

end Go.Proofs.Qxb6628847a
