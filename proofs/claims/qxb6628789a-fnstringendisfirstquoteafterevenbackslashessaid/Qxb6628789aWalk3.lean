/-
  Seat b6628789a: the walk of FnStringEndIsFirstQuoteAfterEvenBackslashes.
-/
import Derived.Test.Qxb6628789aCopied
import Derived.WalkSpells
namespace Go.Proofs.Qxb6628789a
open Go.RowKit Plain

/-! ### STEP 1: THE WALK: the Go text returns true, AND WRITES NOTHING THAT WAS THERE: 'Below w.heap.size w w'' (Derived/Below.lean: '.refl', '.alloc', '.drew', '.setCell' at a new block, '.trans'). Open each 'IsRow' by 'rcases' AHEAD of 'go_enter'; part every test ahead of the walk. -/
theorem walk3 (a0 : Option Addr) (len0 cap0 : Nat) (z0 : List Int) (a1 : Int) (w : World) (w0 : IsRow .u8 w a0 len0 cap0 z0) (w1 : (Lit.int .i64 a1).wf = true) :
    Calls Try.prog 3 #[.slice a0 len0 cap0, .int .i64 a1] w fun e w' => e = .returned (.bool true) ∧ Below w.heap.size w w' := by
  by_cases hbig : 1048576 < len0
  · go_enter Try.func3, Try.ntmps3
    go_wp2_with (go_at_call 5; refine (wide5 _ _ _ _ _ hbig).mono ?_; rintro e w' ⟨rfl, rfl⟩)
    go_ret
    exact ⟨rfl, Below.refl _ _⟩
  have hsm : len0 ≤ 1048576 := by omega
  by_cases hlow : a1 < 0
  · go_enter Try.func3, Try.ntmps3
    go_wp2_with (go_at_call 5; refine (fits5 _ _ _ _ _ hsm).mono ?_; rintro e w' ⟨rfl, rfl⟩)
    go_ret
    exact ⟨rfl, Below.refl _ _⟩
  obtain ⟨i, rfl⟩ : ∃ i : Nat, a1 = i := ⟨a1.toNat, by omega⟩
  by_cases hhigh : len0 ≤ i
  · go_enter Try.func3, Try.ntmps3
    go_wp2_with (go_at_call 5; refine (fits5 _ _ _ _ _ hsm).mono ?_; rintro e w' ⟨rfl, rfl⟩)
    go_ret
    exact ⟨rfl, Below.refl _ _⟩
  rcases w0 with ⟨rfl, rfl, rfl, rfl⟩ | ⟨x, rfl, hlc, hcm, hzl, hcell, hwf⟩
  · omega
  have hx : x.spot = none := by simpa [Addr.add] using World.cell?_spot (hcell 0 (by omega))
  obtain ⟨b, off, sp⟩ := x
  obtain rfl : sp = none := hx
  obtain ⟨i0, hi, hz0, hz1, hz2⟩ := info_parts Try.info5
  have hcell' : ∀ j, j < z0.length → w.cell? ⟨b, off + j, none⟩ = some (.int .u8 (z0.getD j 0)) := fun j hj => by rw [← addp]; exact hcell j hj
  clear hcell w1 hwf
  unfold maxLen at hcm
  have q22 : ∀ (w : World) (a : Option Addr) (n c n' c' : Nat), (binOp .neq 22 (.slice a n c) (.slice none n' c')).run Try.prog w = .ok (.bool (!a.isNone)) w := fun w a n c n' c' => run_neq_slice_nil_any w _ _ a n c n' c' Try.underlying22
  go_enter Try.func3, Try.ntmps3
  go_wp2_with (first
    | (go_at_call 5; refine (fits5 _ _ _ _ _ hsm).mono ?_; rintro e w' ⟨rfl, hw'⟩; obtain rfl := hw'.symm)
    | (at_make; refine wpList_make_full _ rfl (.tmp 24) (.tmp 24) 22 rfl w.heap.size 5 i0 (.int .u8 0) 1 Try.underlying22 hi hz0 hz1 _ _ _ _ len0 rfl rfl (by omega) (by omega) (by rw [hz2]; omega) (by unfold maxLen; omega) (Nat.le_refl _) ?_))
  intro w1 hown hgrow
  obtain ⟨hg1, hl1⟩ := heap_of_owns hown
  have hb1 : Below w.heap.size w w1 := (Below.refl _ _).grown hgrow (Nat.le_refl _) (by simp)
  obtain ⟨L, hL⟩ : ∃ L, L = (madeCells #[Value.int IntKind.u8 0] len0).toList := ⟨_, rfl⟩
  rw [← hL] at hg1 hl1
  obtain ⟨w2, hrun, hc2, hb2⟩ := copy_run (cap := cap0) z0 (by omega) hl1 hg1 hcell' hb1 (Nat.le_refl _)
  clear hown hgrow hL hg1 hl1 hb1 hcell'
  have hr := roads (at0 z0) len0 i
  have HR : Hid (SE (at0 z0) len0 (i + 1) = ME (at0 z0) len0 i (i + 1)) := hr
  clear hr
  go_wp2_with (first
    | (go_at_call 6; refine (end_any w.heap.size 0 len0 len0 (at0 z0) i w2 (by omega) (by omega) hc2).mono ?_; rintro e w' ⟨rfl, hw'⟩; obtain rfl := hw'.symm)
    | (go_at_call 7; refine (model_any w.heap.size 0 len0 len0 (at0 z0) i w2 (by omega) (by omega) hc2).mono ?_; rintro e w' ⟨rfl, hw'⟩; obtain rfl := hw'.symm))
  go_ret
  exact ⟨by rw [HR.out]; simp, hb2⟩

end Go.Proofs.Qxb6628789a
