/-
  Seat b6628789a: the walk of FnStringEndPrefixesAndClosing.
-/
import Derived.Test.Qxb6628789aCopied
import Derived.WalkSpells
namespace Go.Proofs.Qxb6628789a
open Go.RowKit Plain

theorem row_set {w : World} {h j : Nat} {M : List Value} (u : Value) (hh : w.heap[h]? = some (.cells M.toArray 5 (0, 0))) :
    (w.setCell ⟨h, j, none⟩ u).heap[h]? = some (.cells (M.set j u).toArray 5 (0, 0)) := by
  rw [heap_setCell_same w h j M.toArray 5 u hh]
  simp
theorem row_at {w : World} {h j : Nat} {M : List Value} (hh : w.heap[h]? = some (.cells M.toArray 5 (0, 0))) : w.cell? ⟨h, j, none⟩ = M[j]? := by
  rw [cell_of_row w h j M.toArray 5 (0, 0) hh]
  simp
def closed (f : Nat → Int) (n j : Nat) : Int := if j < n then f j else if j = n then 120 else 34
theorem closed_in {f : Nat → Int} {n j : Nat} (h : j < n) : closed f n j = f j := by unfold closed; rw [if_pos h]
theorem closed_x (f : Nat → Int) (n : Nat) : closed f n n = 120 := by unfold closed; rw [if_neg (by omega), if_pos rfl]
theorem closed_q (f : Nat → Int) (n : Nat) : closed f n (n + 1) = 34 := by unfold closed; rw [if_neg (by omega), if_neg (by omega)]
theorem row_closed {w : World} {h n : Nat} {M : List Value} {f : Nat → Int} (hM : M.length = n + 2) (hf : ∀ t, t < n → M[t]? = some (.int .u8 (f t)))
    (hh : w.heap[h]? = some (.cells ((M.set n (.int .u8 120)).set (n + 1) (.int .u8 34)).toArray 5 (0, 0))) : ∀ j, j < n + 2 → w.cell? ⟨h, 0 + j, none⟩ = some (.int .u8 (closed f n j)) := by
  intro j hj
  rw [Nat.zero_add, row_at hh]
  by_cases h1 : j < n
  · rw [closed_in h1, List.getElem?_set_ne (by omega), List.getElem?_set_ne (by omega), hf j h1]
  · by_cases h2 : j = n
    · subst h2
      rw [closed_x, List.getElem?_set_ne (by omega), List.getElem?_set_self (by omega)]
    · obtain rfl : j = n + 1 := by omega
      rw [closed_q, List.getElem?_set_self (by simp; omega)]
theorem row_step {M : List Value} {j n : Nat} {f : Nat → Int} (hM : M.length = n + 2) (hj : j < n) (hf : ∀ t, t < j → M[t]? = some (.int .u8 (f t))) :
    ∀ t, t < j + 1 → (M.set j (.int .u8 (f j)))[t]? = some (.int .u8 (f t)) := by
  intro t ht
  by_cases h : t = j
  · subst h
    rw [List.getElem?_set_self (by omega)]
  · rw [List.getElem?_set_ne (by omega), hf t (by omega)]

theorem end_is {b off n c : Nat} {f : Nat → Int} {i : Nat} {v : Int} (w : World) (hn : n ≤ 1048578) (hi : i ≤ 1048578) (hc : ∀ j, j < n → w.cell? ⟨b, off + j, none⟩ = some (.int .u8 (f j))) (hv : SE f n (i + 1) = v) :
    Calls Try.prog 6 #[.slice (some ⟨b, off, none⟩) n c, .int .i64 i] w fun e w' => e = .returned (.int .i64 v) ∧ w' = w := by
  subst hv
  exact end_any b off n c f i w hn hi hc

set_option maxHeartbeats 2000000 in
theorem walk4 (a0 : Option Addr) (len0 cap0 : Nat) (z0 : List Int) (a1 : Int) (a2 : Int) (w : World) (w0 : IsRow .u8 w a0 len0 cap0 z0) (w1 : (Lit.int .i64 a1).wf = true) (w2 : (Lit.int .i64 a2).wf = true) :
    Calls Try.prog 4 #[.slice a0 len0 cap0, .int .i64 a1, .int .i64 a2] w fun e w' => e = .returned (.bool true) ∧ Below w.heap.size w w' := by
  by_cases hbig : 1048576 < len0
  · go_enter Try.func4, Try.ntmps4
    go_wp2_with (go_at_call 8; refine (wide8 _ _ _ _ _ _ hbig).mono ?_; rintro e w' ⟨rfl, rfl⟩)
    go_ret
    exact ⟨rfl, Below.refl _ _⟩
  have hsm : len0 ≤ 1048576 := by omega
  by_cases hlow : a1 < 0
  · go_enter Try.func4, Try.ntmps4
    go_wp2_with (go_at_call 8; refine (fits8 _ _ _ _ _ _ hsm).mono ?_; rintro e w' ⟨rfl, rfl⟩)
    go_ret
    exact ⟨rfl, Below.refl _ _⟩
  obtain ⟨i, rfl⟩ : ∃ i : Nat, a1 = i := ⟨a1.toNat, by omega⟩
  by_cases hhigh : len0 ≤ i
  · go_enter Try.func4, Try.ntmps4
    go_wp2_with (go_at_call 8; refine (fits8 _ _ _ _ _ _ hsm).mono ?_; rintro e w' ⟨rfl, rfl⟩)
    go_ret
    exact ⟨rfl, Below.refl _ _⟩
  by_cases hlow2 : a2 < 0
  · go_enter Try.func4, Try.ntmps4
    go_wp2_with (go_at_call 8; refine (fits8 _ _ _ _ _ _ hsm).mono ?_; rintro e w' ⟨rfl, rfl⟩)
    go_ret
    exact ⟨rfl, Below.refl _ _⟩
  obtain ⟨k, rfl⟩ : ∃ k : Nat, a2 = k := ⟨a2.toNat, by omega⟩
  by_cases hhigh2 : len0 < k
  · go_enter Try.func4, Try.ntmps4
    go_wp2_with (go_at_call 8; refine (fits8 _ _ _ _ _ _ hsm).mono ?_; rintro e w' ⟨rfl, rfl⟩)
    go_ret
    exact ⟨rfl, Below.refl _ _⟩
  rcases w0 with ⟨rfl, rfl, rfl, rfl⟩ | ⟨x, rfl, hlc, hcm, hzl, hcell, hwf⟩
  · omega
  have hx : x.spot = none := by simpa [Addr.add] using World.cell?_spot (hcell 0 (by omega))
  obtain ⟨b, off, sp⟩ := x
  obtain rfl : sp = none := hx
  obtain ⟨i0, hi, hz0, hz1, hz2⟩ := info_parts Try.info5
  have hcell' : ∀ j, j < z0.length → w.cell? ⟨b, off + j, none⟩ = some (.int .u8 (z0.getD j 0)) := fun j hj => by rw [← addp]; exact hcell j hj
  clear hcell w1 w2 hwf
  unfold maxLen at hcm
  have q22 : ∀ (w : World) (a : Option Addr) (n c n' c' : Nat), (binOp .neq 22 (.slice a n c) (.slice none n' c')).run Try.prog w = .ok (.bool (!a.isNone)) w := fun w a n c n' c' => run_neq_slice_nil_any w _ _ a n c n' c' Try.underlying22
  go_enter Try.func4, Try.ntmps4
  go_wp2_with (first
    | (go_at_call 8; refine (fits8 _ _ _ _ _ _ hsm).mono ?_; rintro e w' ⟨rfl, hw'⟩; obtain rfl := hw'.symm)
    | (at_make; refine wpList_make_full _ rfl (.tmp 40) (.tmp 40) 22 rfl w.heap.size 5 i0 (.int .u8 0) 1 Try.underlying22 hi hz0 hz1 _ _ _ _ len0 rfl rfl (by omega) (by omega) (by rw [hz2]; omega) (by unfold maxLen; omega) (Nat.le_refl _) ?_))
  intro w1 hown hgrow
  obtain ⟨hg1, hl1⟩ := heap_of_owns hown
  have hb1 : Below w.heap.size w w1 := (Below.refl _ _).grown hgrow (Nat.le_refl _) (by simp)
  obtain ⟨L, hL⟩ : ∃ L, L = (madeCells #[Value.int IntKind.u8 0] len0).toList := ⟨_, rfl⟩
  rw [← hL] at hg1 hl1
  obtain ⟨w2, hrun, hc2, hb2⟩ := copy_run (cap := cap0) z0 (by omega) hl1 hg1 hcell' hb1 (Nat.le_refl _)
  clear hown hgrow hL hg1 hl1 hb1 hcell'
  obtain ⟨f, hf⟩ : ∃ f, f = at0 z0 := ⟨_, rfl⟩
  rw [← hf] at hc2
  obtain ⟨g, hg⟩ : ∃ g, g = w.heap.size := ⟨_, rfl⟩
  rw [← hg] at hrun hc2
  simp only [← hg]
  have HG : Hid (g = w.heap.size) := hg
  clear hf hg
  rcases SE_answer f len0 _ (i + 1) (Nat.le_refl _) with hr | ⟨r, hr, hr1, hr2, hr3⟩
  · have hcut := SE_front_out f len0 k (by omega) _ (i + 1) (Nat.le_refl _) (.inl hr)
    go_wp2_with fail
    refine (end_is w2 (by omega) (by omega) hc2 hr).mono ?_
    rintro e w' ⟨rfl, hw'⟩; obtain rfl := hw'.symm
    go_wp2_with fail
    refine (end_is w2 (by omega) (by omega) (fun j hj => hc2 j (by omega)) hcut).mono ?_
    rintro e w' ⟨rfl, hw'⟩; obtain rfl := hw'.symm
    go_wp2_with (at_make; refine wpList_make_full _ rfl (.tmp 83) (.tmp 83) 22 rfl w2.heap.size 5 i0 (.int .u8 0) 1 Try.underlying22 hi hz0 hz1 _ _ _ _ (len0 + 2) rfl rfl (by omega) (by omega) (by rw [hz2]; omega) (by unfold maxLen; omega) (Nat.le_refl _) ?_)
    intro w3 hown hgrow
    obtain ⟨hg3, hl3⟩ := heap_of_owns hown
    have hb3 : Below w2.heap.size w2 w3 := (Below.refl _ _).grown hgrow (Nat.le_refl _) (by simp)
    obtain ⟨L3, hL3⟩ : ∃ L, L = (madeCells #[Value.int IntKind.u8 0] (len0 + 2)).toList := ⟨_, rfl⟩
    rw [← hL3] at hg3 hl3
    obtain ⟨h, hh⟩ : ∃ h, h = w2.heap.size := ⟨_, rfl⟩
    have hgh : g < h := by have := World.block_lt_of_cell? _ _ (hc2 0 (by omega)); rw [hh]; exact this
    rw [← hh] at hg3 hb3
    simp only [← hh]
    have HH : Hid (h = w2.heap.size) := hh
    clear hown hgrow hL3 hh
    go_wp2_with fail
    go_loopw [12] (fun v wr => ∃ (j : Nat) (M : List Value), v = .int .i64 j ∧ j ≤ len0 ∧ M.length = len0 + 2 ∧ Hid (∀ t, t < j → M[t]? = some (.int .u8 (f t))) ∧ Hid (wr.heap[h]? = some (.cells M.toArray 5 (0, 0))) ∧ Below h w2 wr) (fun v _ => len0 - (intOf v).toNat)
    case atStart => exact ⟨0, L3, rfl, Nat.zero_le _, hl3, fun t ht => absurd ht (by omega), hg3, hb3⟩
    case round =>
      obtain ⟨j, M, rfl, hj, hM, hMf, hMh, hbr⟩ := hrel
      by_cases hlt : j < len0
      · have hcj : wr.cell? ⟨g, j, none⟩ = some (.int .u8 (f j)) := by have := hc2 j hlt; rw [Nat.zero_add] at this; rw [hbr.cell hgh]; exact this
        obtain ⟨u, hu⟩ : ∃ u, M[j]? = some u := ⟨_, List.getElem?_eq_getElem (by omega)⟩
        have hco : wr.cell? ⟨h, j, none⟩ = some u := by rw [row_at hMh.out]; exact hu
        have hfo : wr.frozen? ⟨h, j, none⟩ = false := frozen_of_row wr h j _ 5 hMh.out
        go_wp2
        go_roundw
        case rel => exact ⟨j + 1, M.set j (.int .u8 (f j)), by go_num, by omega, by simpa using hM, row_step hM hlt hMf.out, row_set _ hMh.out, hbr.setCell (Nat.le_refl _) _⟩
        case measure => simp [intOf]; omega
      · obtain rfl : j = len0 := by omega
        obtain ⟨u1, hu1⟩ : ∃ u, M[j]? = some u := ⟨_, List.getElem?_eq_getElem (by omega)⟩
        obtain ⟨u2, hu2⟩ : ∃ u, M[j + 1]? = some u := ⟨_, List.getElem?_eq_getElem (by omega)⟩
        have hco1 : wr.cell? ⟨h, j, none⟩ = some u1 := by rw [row_at hMh.out]; exact hu1
        have hfo1 : wr.frozen? ⟨h, j, none⟩ = false := frozen_of_row wr h j _ 5 hMh.out
        have hco2 : wr.cell? ⟨h, j + 1, none⟩ = some u2 := by rw [row_at hMh.out]; exact hu2
        have hfo2 : wr.frozen? ⟨h, j + 1, none⟩ = false := frozen_of_row wr h (j + 1) _ 5 hMh.out
        have hce := row_closed hM hMf.out (row_set (j := j + 1) (.int .u8 34) (row_set (j := j) (.int .u8 120) hMh.out))
        have HCE : Hid (∀ t, t < j + 2 → ((wr.setCell ⟨h, j, none⟩ (.int .u8 120)).setCell ⟨h, j + 1, none⟩ (.int .u8 34)).cell? ⟨h, 0 + t, none⟩ = some (.int .u8 (closed f j t))) := hce
        have hse := SE_close f (closed f j) j (fun t ht => closed_in ht) (closed_x f j) (closed_q f j) _ (i + 1) (Nat.le_refl _) (by omega) hr
        have HSE : Hid (SE (closed f j) (j + 2) (i + 1) = (j : Int) + 2) := hse
        clear hce hse hc2 hu1 hu2
        go_wp2_with fail
        refine (end_is _ (by omega) (by omega) HCE.out HSE.out).mono ?_
        rintro e w' ⟨rfl, hw'⟩; obtain rfl := hw'.symm
        go_wp2
        go_ret
        have hb4 : Below h w2 ((wr.setCell ⟨h, j, none⟩ (.int .u8 120)).setCell ⟨h, j + 1, none⟩ (.int .u8 34)) := (hbr.setCell (Nat.le_refl _) _).setCell (Nat.le_refl _) _
        exact ⟨by simp, hb2.trans (hb4.mono (by have := hb2.size; rw [HH.out]; exact this))⟩
  · go_wp2_with fail
    refine (end_is w2 (by omega) (by omega) hc2 hr).mono ?_
    rintro e w' ⟨rfl, hw'⟩; obtain rfl := hw'.symm
    go_wp2_with fail
    have hq : w2.cell? ⟨g, r - 1, none⟩ = some (.int .u8 34) := by have := hc2 (r - 1) (by omega); rw [Nat.zero_add, hr3] at this; exact this
    by_cases hk : r ≤ k
    · refine (end_is w2 (by omega) (by omega) (fun j hj => hc2 j (by omega)) (SE_front_in f len0 k r (by omega) hk _ _ (Nat.le_refl _) hr)).mono ?_
      rintro e w' ⟨rfl, hw'⟩; obtain rfl := hw'.symm
      go_wp2
      go_ret
      exact ⟨rfl, hb2⟩
    · refine (end_is w2 (by omega) (by omega) (fun j hj => hc2 j (by omega)) (SE_front_out f len0 k (by omega) _ _ (Nat.le_refl _) (.inr (by rw [hr]; omega)))).mono ?_
      rintro e w' ⟨rfl, hw'⟩; obtain rfl := hw'.symm
      go_wp2
      go_ret
      exact ⟨rfl, hb2⟩

end Go.Proofs.Qxb6628789a
