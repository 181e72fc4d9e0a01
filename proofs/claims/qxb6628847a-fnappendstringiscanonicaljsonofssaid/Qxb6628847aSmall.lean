/-
  Seat b6628847a: contracts of hexValB1, hasShortB1, and cloneB1 for whatever slice of bytes.
-/
import Derived.Test.Qxb6628847aAppend
namespace Go.Proofs.Qxb6628847a
open Go.RowKit Plain PlainAid

theorem hex_any (c d : Int) (w : World) (h : (48 ≤ c ∧ c ≤ 57 ∧ d = c - 48) ∨ (97 ≤ c ∧ c ≤ 102 ∧ d = c - 87)) :
    Calls Try.prog 8 #[.int .u8 c] w fun e w' => e = .returned (.tuple #[.int .i64 d, .bool true]) ∧ w' = w := by
  rcases h with ⟨h1, h2, h3⟩ | ⟨h1, h2, h3⟩
  · have H : Hid (d = c - 48) := h3
    clear h3
    go_enter Try.func8, Try.ntmps8
    go_wp2
    go_ret2
    exact ⟨by rw [H.out]; rfl, rfl⟩
  · have H : Hid (d = c - 87) := h3
    clear h3
    have e1 : decide (c ≤ 57) = false := decide_eq_false (by omega)
    go_enter Try.func8, Try.ntmps8
    go_wp2
    go_ret2
    exact ⟨by rw [H.out, show c - 97 + 10 = c - 87 from by omega]; rfl, rfl⟩

theorem short_no (v : Int) (w : World) (h1 : v ≠ 34) (h2 : v ≠ 92) (h3 : v ≠ 47) (h4 : v ≠ 8) (h5 : v ≠ 9) (h6 : v ≠ 10) (h7 : v ≠ 12) (h8 : v ≠ 13) :
    Calls Try.prog 9 #[.int .i64 v] w fun e w' => e = .returned (.bool false) ∧ w' = w := by
  have e1 : (v == 34) = false := by simpa using h1
  have e2 : (v == 92) = false := by simpa using h2
  have e3 : (v == 47) = false := by simpa using h3
  have e4 : (v == 8) = false := by simpa using h4
  have e5 : (v == 9) = false := by simpa using h5
  have e6 : (v == 10) = false := by simpa using h6
  have e7 : (v == 12) = false := by simpa using h7
  have e8 : (v == 13) = false := by simpa using h8
  go_enter Try.func9, Try.ntmps9
  go_wp2
  go_ret
  exact ⟨rfl, rfl⟩

/-- A slice whose bytes can be read: zs. -/
def Rd (w : World) (a : Option Addr) (n c : Nat) (zs : List Int) : Prop :=
  zs.length = n ∧ ((a = none ∧ n = 0 ∧ c = 0) ∨ ∃ x, a = some x ∧ (n = 0 ∨ ∃ b off, x = ⟨b, off, none⟩ ∧ ∀ j, j < n → w.cell? ⟨b, off + j, none⟩ = some (.int .u8 (zs.getD j 0))))

theorem clone_any (a : Option Addr) (n c : Nat) (zs : List Int) (w : World) (hn : n ≤ 1048576) (h : Rd w a n c zs) :
    Calls Try.prog 6 #[.slice a n c] w fun e w' => ∃ a', e = .returned (.slice a' n n) ∧ w'.ownsRow w.heap.size 5 1 (.slice a' n n) n (cells zs) ∧ Below w.heap.size w w' := by
  obtain ⟨hz, ⟨rfl, rfl, rfl⟩ | ⟨x, rfl, hx⟩⟩ := h
  · refine (clone_nil w).mono ?_
    rintro e w' ⟨rfl, hw⟩
    obtain rfl := hw.symm
    obtain rfl : zs = [] := List.eq_nil_of_length_eq_zero hz
    exact ⟨none, rfl, World.ownsRow_nil _ _ _ _, Below.refl _ _⟩
  · by_cases h0 : n = 0
    · subst h0
      obtain rfl : zs = [] := List.eq_nil_of_length_eq_zero hz
      refine (clone_empty x c w).mono ?_
      rintro e w' ⟨rfl, hh, hb⟩
      exact ⟨_, rfl, owns_of_heap (Nat.le_refl _) (by omega) (by simp [cells]) hh, hb⟩
    · rcases hx with hx | ⟨b, off, rfl, hc⟩
      · exact absurd hx h0
      · refine (clone_some b off n c zs w (by omega) hn hz hc).mono ?_
        rintro e w' ⟨rfl, hh, hb⟩
        exact ⟨_, rfl, owns_of_heap (Nat.le_refl _) hn (by rw [cells_len]; exact hz) hh, hb⟩

/-- What the call owns can be read. -/
theorem rd_of_owns {w : World} {base : Nat} {a : Option Addr} {n : Nat} {zs : List Int} (h : w.ownsRow base 5 1 (.slice a n n) n (cells zs)) : Rd w a n n zs := by
  have hl : zs.length = n := by have := h.1; rw [cells_len] at this; omega
  refine ⟨hl, ?_⟩
  have h' := h
  rcases h.2 with ⟨e, _⟩ | ⟨g, cap, cur, e, _, hg, _⟩
  · simp only [Value.slice.injEq] at e
    obtain ⟨rfl, rfl, _⟩ := e
    exact .inl ⟨rfl, rfl, rfl⟩
  · simp only [Value.slice.injEq, true_and] at e
    obtain ⟨rfl, rfl⟩ := e
    refine .inr ⟨_, rfl, .inr ⟨g, 0, rfl, fun j hj => ?_⟩⟩
    rw [Nat.zero_add, h'.cellAt j (by omega)]
    have : j < zs.length := by omega
    simp [cells, this]

/-- Two clones: the first, the second, and the second apart from the first. -/
theorem two_apart {w w1 w2 : World} {a1 a2 : Option Addr} {n : Nat} {xs ys : List Value} (h1 : w1.ownsRow w.heap.size 5 1 (.slice a1 n n) n xs) (h2 : w2.ownsRow w1.heap.size 5 1 (.slice a2 n n) n ys) :
    Value.ownBlock (.slice a2 n n) = none ∨ Value.ownBlock (.slice a2 n n) ≠ Value.ownBlock (.slice a1 n n) := by
  cases e2 : Value.ownBlock (.slice a2 n n) with
  | none => exact .inl rfl
  | some k2 =>
    right
    intro e
    have := (h2.lt k2 e2).1
    have := (h1.lt k2 e.symm).2
    omega
theorem owns_below {w1 w2 : World} {base : Nat} {v : Value} {n : Nat} {xs : List Value} (h1 : w1.ownsRow base 5 1 v n xs) (hb : Below w1.heap.size w1 w2) : w2.ownsRow base 5 1 v n xs := by
  have hg : w1.grownBy w2 none := ⟨hb.os, hb.tape, hb.output, hb.size, fun k hk _ => hb.block k hk⟩
  exact h1.kept hg (by cases v.ownBlock <;> simp)

end Go.Proofs.Qxb6628847a
