/-
  Seat b6628789a: a slice of bytes that came in, copied into a row of the call's own: what lies there.
-/
import Derived.Test.Qxb6628789aLeaves
import Derived.Laws.CopyOwn
namespace Go.Proofs.Qxb6628789a
open Go.RowKit Plain

theorem Try.info5 : (Try.prog.info? 5).map (fun i => (i.zero, i.size, i.bytes)) = some (some (.int .u8 0), 1, 1) := by kernel_rfl
theorem Try.size5 : (Try.prog.info? 5).map (·.size) = some 1 := by kernel_rfl

/-- WHAT THE WALK IS TOLD OF A SLICE OF INTEGERS THAT CAME IN: it is nil; or it leads to a row of 'cap' cells, the numbers 'zs' (the first 'len' are its elements, the rest its spare room), each fitting its kind. -/
def IsRow (k : IntKind) (w : World) (a : Option Addr) (len cap : Nat) (zs : List Int) : Prop :=
  (a = none ∧ len = 0 ∧ cap = 0 ∧ zs = []) ∨
  ∃ x, a = some x ∧ len ≤ cap ∧ cap ≤ maxLen ∧ zs.length = cap ∧ (∀ i, i < zs.length → w.cell? (x.add i) = some (.int k (zs.getD i 0))) ∧ ∀ n ∈ zs, (Lit.int k n).wf = true

theorem addp (b o j : Nat) : (⟨b, o, none⟩ : Addr).add j = ⟨b, o + j, none⟩ := by unfold Addr.add; split <;> simp_all
theorem heap_of_owns {w : World} {base : Nat} {e : TypeId} {g n : Nat} {xs : List Value} (h : w.ownsRow base e 1 (.slice (some ⟨g, 0, none⟩) n n) n xs) :
    w.heap[g]? = some (.cells xs.toArray e (0, 0)) ∧ xs.length = n := by
  refine ⟨?_, by simpa using h.1⟩
  rcases h.2 with ⟨h', _⟩ | ⟨g', cap', cur, h', _, hg, _, _, hs, ht⟩
  · simp at h'
  · simp only [Value.slice.injEq, Option.some.injEq, Addr.mk.injEq, and_true, true_and] at h'
    obtain ⟨rfl, rfl⟩ := h'
    rw [hg, ← ht, List.take_of_length_le (by simp; omega)]

theorem splice_whole {α : Type} (L X : List α) (h : L.length = X.length) : splice L 0 X = X := by
  unfold splice
  rw [List.take_zero, List.nil_append, List.drop_eq_nil_of_le (by omega), List.append_nil]

/-- The bytes of a list of integers as a function. -/
def at0 (zs : List Int) (j : Nat) : Int := zs.getD j 0

theorem row_cells {w : World} {g n : Nat} {t : TypeId} {L : List Value} (zs : List Int) (hn : n ≤ zs.length) (hl : L.length = n) (hg : w.heap[g]? = some (.cells (splice L 0 ((zs.take n).map (Value.int .u8))).toArray t (0, 0))) :
    ∀ j, j < n → w.cell? ⟨g, 0 + j, none⟩ = some (.int .u8 (at0 zs j)) := by
  intro j hj
  rw [splice_whole _ _ (by simp; omega)] at hg
  rw [Nat.zero_add, cell_of_row w g j _ t (0, 0) hg]
  have hz : j < zs.length := by omega
  simp [at0, hj, hz]

/-- 'zzc := make([]byte, len(b)); copy(zzc, b)', the second part: the whole row goes over. -/
theorem copy_run {w w1 : World} {n cap g b off : Nat} {L : List Value} (zs : List Int) (hn : n ≤ zs.length) (hl : L.length = n) (hg : w1.heap[g]? = some (.cells L.toArray 5 (0, 0)))
    (hcell : ∀ j, j < zs.length → w.cell? ⟨b, off + j, none⟩ = some (.int .u8 (zs.getD j 0))) (hb : Below w.heap.size w w1) (hbg : w.heap.size ≤ g) :
    ∃ w2, (Builtin.copy_ #[22, 22] 3 #[.slice (some ⟨g, 0, none⟩) n n, .slice (some ⟨b, off, none⟩) n cap]).run Try.prog w1 = .ok (.int .i64 n) w2 ∧
      (∀ j, j < n → w2.cell? ⟨g, 0 + j, none⟩ = some (.int .u8 (at0 zs j))) ∧ Below w.heap.size w w2 := by
  have hl' : ((zs.take n).map (Value.int .u8)).length = n := by simp; omega
  have hsrc : ∀ j v, ((zs.take n).map (Value.int .u8))[j]? = some v → w1.cell? ((⟨b, off, none⟩ : Addr).add j) = some v := by
    intro j v hj
    have hjl : j < n := by have := (List.getElem?_eq_some_iff.1 hj).1; omega
    have hjz : j < zs.length := by omega
    have hc := hcell j hjz
    rw [addp, hb.cell (World.block_lt_of_cell? _ _ hc), hc]
    simp [hjl, hjz] at hj
    simp [hjz, hj]
  have hrun := run_copy_row Try.prog w1 22 22 3 5 g 0 n n ⟨b, off, none⟩ n cap L.toArray 5 ((zs.take n).map (Value.int .u8)) Try.underlying22 Try.size5 hg (by rw [hl']; exact (Nat.min_self n).symm) hsrc (by simp only [List.size_toArray]; omega) (ints_oneCell _ _)
  refine ⟨_, hrun.trans (by rw [hl']; rfl), ?_, below_setRow hb hbg _⟩
  refine row_cells (t := 5) (L := L) zs hn hl ?_
  have := setRow_heap w1 g L.toArray (splice L 0 ((zs.take n).map (Value.int .u8))).toArray 5 _ hg
  have e : min n zs.length = n := Nat.min_eq_left hn
  simpa [splice, e] using this

end Go.Proofs.Qxb6628789a
