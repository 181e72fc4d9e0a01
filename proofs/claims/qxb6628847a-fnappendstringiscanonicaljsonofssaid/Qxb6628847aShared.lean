/-
  Seat b6628847a: what both walks are told of the slice that came in; the bytes of what AppendString handed back and of the kept copy.
-/
import Derived.Test.Qxb6628847aSmall
namespace Go.Proofs.Qxb6628847a
open Go.RowKit Plain PlainAid

/-- WHAT THE WALK IS TOLD OF A SLICE OF INTEGERS THAT CAME IN: it is nil; or it leads to a row of 'cap' cells, the numbers 'zs' (the first 'len' are its elements, the rest its spare room), each fitting its kind. -/
def IsRow (k : IntKind) (w : World) (a : Option Addr) (len cap : Nat) (zs : List Int) : Prop :=
  (a = none ∧ len = 0 ∧ cap = 0 ∧ zs = []) ∨
  ∃ x, a = some x ∧ len ≤ cap ∧ cap ≤ maxLen ∧ zs.length = cap ∧ (∀ i, i < zs.length → w.cell? (x.add i) = some (.int k (zs.getD i 0))) ∧ ∀ n ∈ zs, (Lit.int k n).wf = true

theorem rd_of_row {w : World} {a : Option Addr} {n c : Nat} {zs : List Int} (h : IsRow .u8 w a n c zs) : Rd w a n c (zs.take n) := by
  rcases h with ⟨rfl, rfl, rfl, rfl⟩ | ⟨x, rfl, hlc, hcm, hzl, hcell, _⟩
  · exact ⟨rfl, .inl ⟨rfl, rfl, rfl⟩⟩
  · refine ⟨by simp; omega, .inr ⟨x, rfl, ?_⟩⟩
    by_cases h0 : n = 0
    · exact .inl h0
    · right
      have hx : x.spot = none := by simpa [Addr.add] using World.cell?_spot (hcell 0 (by omega))
      obtain ⟨b, off, sp⟩ := x
      obtain rfl : sp = none := hx
      refine ⟨b, off, rfl, fun j hj => ?_⟩
      rw [← addp, hcell j (by omega)]
      simp [hj]

/-- The bytes of what AppendString handed back. -/
theorem out_cells {w w' : World} {v0 : Value} {base g N cap : Nat} {l : List Int} (h : Grew w w' v0 base (.slice (some ⟨g, 0, none⟩) N cap) N (cells l)) : ∀ j x, l[j]? = some x → w'.cell? ⟨g, j, none⟩ = some (.int .u8 x) := by
  intro j x hj
  have hl := h.own.1
  rw [cells_len] at hl
  have hjl := (List.getElem?_eq_some_iff.1 hj).1
  rw [h.own.cellAt j (by omega)]
  simp [cells, hj]
/-- The bytes of the copy that was kept. -/
theorem keep_cells {w : World} {base n : Nat} {a : Option Addr} {zs : List Int} (h : w.ownsRow base 5 1 (.slice a n n) n (cells zs)) : 0 < n → ∃ g, a = some ⟨g, 0, none⟩ ∧ ∀ j x, zs[j]? = some x → w.cell? ⟨g, j, none⟩ = some (.int .u8 x) := by
  intro h0
  have h' := h
  rcases h.2 with ⟨_, e⟩ | ⟨g, cap, cur, e, _, _⟩
  · omega
  · simp only [Value.slice.injEq, true_and] at e
    obtain ⟨rfl, rfl⟩ := e
    refine ⟨g, rfl, fun j x hj => ?_⟩
    have hl := h'.1
    rw [cells_len] at hl
    have hjl := (List.getElem?_eq_some_iff.1 hj).1
    rw [h'.cellAt j (by omega)]
    simp [cells, hj]

end Go.Proofs.Qxb6628847a
