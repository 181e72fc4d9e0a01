/-
  Seat b6628847a: the walk of FnAppendStringSplitsAtAnyCut.
-/
import Derived.Test.Qxb6628847aShared
import Derived.Test.Qxb6628847aSmallB
import Derived.Deep.QuietTactic
import Derived.BigQuiet
import Derived.WalkSmall
namespace Go.Proofs.Qxb6628847a
open Go.RowKit Plain PlainAid

/-- What a call of AppendString on nil leaves: a row of its own, all old rows as they were. -/
theorem part_cells {w w' : World} {base g N cap : Nat} {l : List Int} (h : Grew w w' (.slice none 0 0) base (.slice (some ⟨g, 0, none⟩) N cap) N ([] ++ cells l)) :
    (∀ j x, l[j]? = some x → w'.cell? ⟨g, j, none⟩ = some (.int .u8 x)) ∧ Below w.heap.size w w' := by
  rw [List.nil_append] at h
  exact ⟨out_cells h, ⟨h.grown.os, h.grown.tape, h.grown.output, h.grown.size, fun k hk => h.grown.block k hk (by simp [Value.ownBlock])⟩⟩
/-- Cells that were there stay. -/
theorem cells_stay {w w' : World} {g : Nat} {l : List Int} (hb : Below w.heap.size w w') (h : ∀ j x, l[j]? = some x → w.cell? ⟨g, j, none⟩ = some (.int .u8 x)) :
    ∀ j x, l[j]? = some x → w'.cell? ⟨g, j, none⟩ = some (.int .u8 x) := by
  intro j x hj
  have := h j x hj
  rw [hb.cell (World.block_lt_of_cell? _ _ this)]
  exact this

set_option maxRecDepth 100000 in
set_option maxHeartbeats 4000000 in
theorem walk4 (a0 : Option Addr) (len0 cap0 : Nat) (z0 : List Int) (a1 : ByteArray) (a2 : ByteArray) (w : World) (w0 : IsRow .u8 w a0 len0 cap0 z0) (w1 : a1.size ≤ maxLen) (w2 : a2.size ≤ maxLen) :
    Calls Try.prog 4 #[.slice a0 len0 cap0, .string a1, .string a2] w fun e w' => e = .returned (.bool true) ∧ Below w.heap.size w w' := by
  unfold maxLen at w1 w2
  by_cases hbig : 1048576 < len0 + a1.size + a2.size
  · go_enter Try.func4, Try.ntmps4
    go_wp2_with (go_at_call 10; refine (wide10 _ _ _ _ _ _ hbig).mono ?_; rintro e w' ⟨rfl, rfl⟩)
    go_ret
    exact ⟨rfl, Below.refl _ _⟩
  by_cases hb1 : 262144 < len0
  · go_enter Try.func4, Try.ntmps4
    go_wp2_with (go_at_call 10; refine (fits10 _ _ _ _ _ _ (by omega)).mono ?_; rintro e w' ⟨rfl, rfl⟩)
    go_ret
    exact ⟨rfl, Below.refl _ _⟩
  by_cases hb2 : 262144 < a1.size
  · go_enter Try.func4, Try.ntmps4
    go_wp2_with (go_at_call 10; refine (fits10 _ _ _ _ _ _ (by omega)).mono ?_; rintro e w' ⟨rfl, rfl⟩)
    go_ret
    exact ⟨rfl, Below.refl _ _⟩
  by_cases hb3 : 262144 < a2.size
  · go_enter Try.func4, Try.ntmps4
    go_wp2_with (go_at_call 10; refine (fits10 _ _ _ _ _ _ (by omega)).mono ?_; rintro e w' ⟨rfl, rfl⟩)
    go_ret
    exact ⟨rfl, Below.refl _ _⟩
  have hrd := rd_of_row w0
  obtain ⟨zs, hzs⟩ : ∃ zs, zs = z0.take len0 := ⟨_, rfl⟩
  rw [← hzs] at hrd
  clear hzs w0 w1 w2
  have hzl : zs.length = len0 := hrd.1
  have HZL : Hid (zs.length = len0) := hzl
  clear hzl
  have hadd : ∀ w, (Op.stringOp .add a1 a2).run Try.prog w = .ok (.string (a1 ++ a2)) w := fun w => run_string_add w a1 a2 (by omega) (by omega)
  go_enter Try.func4, Try.ntmps4
  go_wp2_with (go_at_call 10; refine (fits10 _ _ _ _ _ _ (by omega)).mono ?_; rintro e w' ⟨rfl, hw'⟩; obtain rfl := hw'.symm)
  refine (clone_any a0 len0 cap0 zs w (by omega) hrd).mono ?_
  rintro e w1 ⟨b1, rfl, ho1, hbl1⟩
  go_wp2_with fail
  refine (clone_any b1 len0 len0 zs w1 (by omega) (rd_of_owns ho1)).mono ?_
  rintro e w2 ⟨b2, rfl, ho2, hbl2⟩
  go_wp2_with fail
  have ho12 := owns_below ho1 hbl2
  have hap := two_apart ho1 ho2
  have hs12 := hbl1.size
  have hs22 := hbl2.size
  refine (append_any w.heap.size (.slice b1 len0 len0) len0 (cells zs) (a1 ++ a2) w2 (by rw [ByteArray.size_append]; omega) (by omega) ho12 (by omega)).mono ?_
  rintro e w3 ⟨g, cap, rfl, hG⟩
  have hk3 := ho2.kept hG.grown hap
  have hB3 : Below w.heap.size w w3 := ((hbl1.trans (hbl2.mono hs12))).grown hG.grown (by omega) (fun k hk => (ho12.lt k hk).1)
  rw [← cells_append] at hG
  have hout := out_cells hG
  have hkeep := keep_cells hk3
  rw [lit_two] at hout
  obtain ⟨A, hA⟩ : ∃ A, A = enc (bt a1) a1.size := ⟨_, rfl⟩
  obtain ⟨B, hB⟩ : ∃ B, B = enc (bt a2) a2.size := ⟨_, rfl⟩
  have hN : len0 + (lit (bt (a1 ++ a2)) (a1 ++ a2).size).length = len0 + A.length + B.length + 2 := by rw [lit_two, hA, hB]; simp; omega
  rw [hN]
  rw [← hA, ← hB] at hout
  have hAl : a1.size ≤ A.length ∧ A.length ≤ 6 * a1.size := by rw [hA]; exact enc_len _ _
  have hBl : a2.size ≤ B.length ∧ B.length ≤ 6 * a2.size := by rw [hB]; exact enc_len _ _
  have HA : Hid (A = enc (bt a1) a1.size) := hA
  have HB : Hid (B = enc (bt a2) a2.size) := hB
  clear hA hB hN hk3 hG ho12 hap ho1 ho2 hbl1 hbl2 hs12 hs22 hrd
  go_wp2_with fail
  refine (append_any w3.heap.size (.slice none 0 0) 0 [] a1 w3 (by omega) (by omega) (World.ownsRow_nil _ _ _ _) (Nat.le_refl _)).mono ?_
  rintro e w4 ⟨ga, capa, rfl, hGa⟩
  obtain ⟨hpa, hB4⟩ := part_cells hGa
  have eA : 0 + (lit (bt a1) a1.size).length = A.length + 2 := by rw [lit_len, ← HA.out]; omega
  rw [eA]
  rw [lit, ← HA.out] at hpa
  clear hGa eA
  have hW4 := cells_stay hB4 hout
  have hs3 := hB3.size
  have hB4' := hB3.trans (hB4.mono hs3)
  go_wp2_with fail
  refine (append_any w4.heap.size (.slice none 0 0) 0 [] a2 w4 (by omega) (by omega) (World.ownsRow_nil _ _ _ _) (Nat.le_refl _)).mono ?_
  rintro e w5 ⟨gb, capb, rfl, hGb⟩
  obtain ⟨hpb, hB5⟩ := part_cells hGb
  have eB : 0 + (lit (bt a2) a2.size).length = B.length + 2 := by rw [lit_len, ← HB.out]; omega
  rw [eB]
  rw [lit, ← HB.out] at hpb
  clear hGb eB
  have hW5 := cells_stay hB5 hW4
  have hpa5 := cells_stay hB5 hpa
  have HB5 := hB4'.trans (hB5.mono hB4'.size)
  have HK : Hid (0 < len0 → ∃ g, b2 = some ⟨g, 0, none⟩ ∧ ∀ j x, zs[j]? = some x → w5.cell? ⟨g, j, none⟩ = some (.int .u8 x)) := by
    intro h
    obtain ⟨gk, e, h1⟩ := hkeep h
    exact ⟨gk, e, cells_stay hB5 (cells_stay hB4 h1)⟩
  have HW : Hid (∀ j x, (zs ++ 34 :: (A ++ (B ++ [34])))[j]? = some x → w5.cell? ⟨g, j, none⟩ = some (.int .u8 x)) := hW5
  have HPA : Hid (∀ j x, (34 :: (A ++ [34]))[j]? = some x → w5.cell? ⟨ga, j, none⟩ = some (.int .u8 x)) := hpa5
  have HPB : Hid (∀ j x, (34 :: (B ++ [34]))[j]? = some x → w5.cell? ⟨gb, j, none⟩ = some (.int .u8 x)) := hpb
  clear hW5 hpa5 hpb hkeep hB4' hs3 hW4 hpa hout hB4 hB5 hB3 hadd
  obtain ⟨hAl1, hAl2⟩ := hAl
  obtain ⟨hBl1, hBl2⟩ := hBl
  go_wp2_with fail
  refine (quoted_yes ga (A.length + 2) capa w5 (by omega) (by omega) (HPA.out 0 34 rfl) (HPA.out (A.length + 1) 34 (by simp))).mono ?_
  rintro e w' ⟨rfl, hw'⟩; obtain rfl := hw'.symm
  go_wp2_with fail
  refine (quoted_yes gb (B.length + 2) capb w5 (by omega) (by omega) (HPB.out 0 34 rfl) (HPB.out (B.length + 1) 34 (by simp))).mono ?_
  rintro e w' ⟨rfl, hw'⟩; obtain rfl := hw'.symm
  by_cases hpl : ∀ j, j < a1.size → Plainly (bt a1) j
  · obtain ⟨el, ec⟩ := enc_plain (bt a1) a1.size hpl
    rw [← HA.out] at el ec
    have hAs : A.length ≤ a1.size := by omega
    have HEC : Hid (∀ j, j < a1.size → A[j]? = some (bt a1 j)) := ec
    have HPL : Hid (∀ j, j < a1.size → Plainly (bt a1) j) := hpl
    have hbt := get_bt a1
    clear el ec hpl
    go_wp2_with (go_at_call 12; refine (plain_yes a1 _ (by omega) HPL.out).mono ?_; rintro e w' ⟨rfl, hw'⟩; obtain rfl := hw'.symm)
    go_loopw [11] (fun v wr => ∃ k q : Nat, v = .int .i64 k ∧ k ≤ a1.size ∧ wr = w5.drewN q) (fun v _ => a1.size - (intOf v).toNat)
    case atStart => exact ⟨0, 0, rfl, Nat.zero_le _, rfl⟩
    case round =>
      obtain ⟨k, q, rfl, hk, rfl⟩ := hrel
      by_cases hlt : k < a1.size
      · have c1 : w5.cell? ⟨ga, k + 1, none⟩ = some (.int .u8 (bt a1 k)) := HPA.out (k + 1) (bt a1 k) (by rw [List.getElem?_cons_succ, List.getElem?_append_left (by omega)]; exact HEC.out k hlt)
        have i0 : (0 : Int) ≤ (k : Int) := by omega
        have i1 : (k : Int) + 1 < (A.length : Int) + 2 := by omega
        have i2 : (k : Int) < (a1.size : Int) := by omega
        go_wp2
        go_quiet (fail)
        go_wp2
        go_roundw
        case rel => exact ⟨k + 1, _, by go_num, by omega, rfl⟩
        case measure => simp [intOf]; omega
      · clear hbt
        go_wp2_with fail
        go_loopw [13, 14] (fun u v wr => ∃ k q : Nat, u = .int .i64 k ∧ v = .int .i64 k ∧ k ≤ len0 ∧ wr = w5.drewN q) (fun _ v _ => len0 - (intOf v).toNat)
        case atStart => exact ⟨0, q, rfl, rfl, Nat.zero_le _, rfl⟩
        case round =>
          obtain ⟨k, q, rfl, rfl, hk, rfl⟩ := hrel
          by_cases hlt : k < len0
          · obtain ⟨gk, rfl, hck⟩ := HK.out (by omega)
            obtain ⟨x, hx⟩ : ∃ x, zs[k]? = some x := ⟨_, List.getElem?_eq_getElem (by rw [HZL.out]; exact hlt)⟩
            have c1 : w5.cell? ⟨gk, k, none⟩ = some (.int .u8 x) := hck k x hx
            have c2 : w5.cell? ⟨g, k, none⟩ = some (.int .u8 x) := HW.out k x (by rw [List.getElem?_append_left (by rw [HZL.out]; exact hlt)]; exact hx)
            have i0 : (0 : Int) ≤ (k : Int) := by omega
            have i1 : (k : Int) < (len0 : Int) := by omega
            have i2 : (k : Int) < (len0 : Int) + (A.length : Int) + (B.length : Int) + 2 := by omega
            clear hck hx
            go_wp2
            go_quiet (fail)
            go_wp2
            go_roundw
            case rel => exact ⟨k + 1, _, by go_num, by go_num, by omega, rfl⟩
            case measure => simp [intOf]; omega
          · obtain rfl : k = len0 := by omega
            obtain ⟨n, hn⟩ : ∃ n, n = k := ⟨_, rfl⟩
            subst hn
            go_wp2_with fail
            go_loopw [13, 15] (fun u v wr => ∃ k q : Nat, u = .int .i64 (n + k : Nat) ∧ v = .int .i64 k ∧ k ≤ A.length + 1 ∧ wr = w5.drewN q) (fun _ v _ => A.length + 1 - (intOf v).toNat)
            case atStart => exact ⟨0, q, rfl, rfl, Nat.zero_le _, rfl⟩
            case round =>
              obtain ⟨k, q, rfl, rfl, hk, rfl⟩ := hrel
              by_cases hlt : k < A.length + 1
              · obtain ⟨x, hx⟩ : ∃ x, (34 :: (A ++ [34]))[k]? = some x := ⟨_, List.getElem?_eq_getElem (by simp; omega)⟩
                have c1 : w5.cell? ⟨ga, k, none⟩ = some (.int .u8 x) := HPA.out k x hx
                have c2 : w5.cell? ⟨g, n + k, none⟩ = some (.int .u8 x) := HW.out (n + k) x (by have := whole_left zs A B hlt; rw [HZL.out] at this; rw [this]; exact hx)
                have i0 : (0 : Int) ≤ (k : Int) := by omega
                have i1 : (k : Int) < (A.length : Int) + 2 := by omega
                have i2 : (n : Int) + (k : Int) < (n : Int) + (A.length : Int) + (B.length : Int) + 2 := by omega
                have i3 : (0 : Int) ≤ (n : Int) + (k : Int) := by omega
                clear hx
                go_wp2
                go_quiet (fail)
                go_wp2
                go_roundw
                case rel => exact ⟨k + 1, _, by go_num, by go_num, by omega, rfl⟩
                case measure => simp [intOf]; omega
              · obtain rfl : k = A.length + 1 := by omega
                go_wp2_with fail
                go_loopw [13, 16] (fun u v wr => ∃ k q : Nat, u = .int .i64 (n + A.length + k : Nat) ∧ v = .int .i64 k ∧ 1 ≤ k ∧ k ≤ B.length + 2 ∧ wr = w5.drewN q) (fun _ v _ => B.length + 2 - (intOf v).toNat)
                case atStart => exact ⟨1, q, by go_num, rfl, by omega, by omega, rfl⟩
                case round =>
                  obtain ⟨k, q, rfl, rfl, hk1, hk, rfl⟩ := hrel
                  by_cases hlt : k < B.length + 2
                  · obtain ⟨x, hx⟩ : ∃ x, (34 :: (B ++ [34]))[k]? = some x := ⟨_, List.getElem?_eq_getElem (by simp; omega)⟩
                    have c1 : w5.cell? ⟨gb, k, none⟩ = some (.int .u8 x) := HPB.out k x hx
                    have c2 : w5.cell? ⟨g, n + A.length + k, none⟩ = some (.int .u8 x) := HW.out (n + A.length + k) x (by have := whole_right zs A B hk1; rw [HZL.out] at this; rw [this]; exact hx)
                    have i0 : (0 : Int) ≤ (k : Int) := by omega
                    have i1 : (k : Int) < (B.length : Int) + 2 := by omega
                    have i2 : (n : Int) + (A.length : Int) + (k : Int) < (n : Int) + (A.length : Int) + (B.length : Int) + 2 := by omega
                    have i3 : (0 : Int) ≤ (n : Int) + (A.length : Int) + (k : Int) := by omega
                    clear hx
                    go_wp2
                    go_quiet (fail)
                    go_wp2
                    go_roundw
                    case rel => exact ⟨k + 1, _, by go_num, by go_num, by omega, by omega, rfl⟩
                    case measure => simp [intOf]; omega
                  · go_wp2
                    go_ret
                    exact ⟨rfl, below_drewN HB5 _⟩
  · obtain ⟨z, hz, hpz⟩ : ∃ z, z < a1.size ∧ ¬ Plainly (bt a1) z := by
      by_cases h : ∃ z, z < a1.size ∧ ¬ Plainly (bt a1) z
      · exact h
      · exact absurd (fun j hj => Classical.byContradiction fun hp => h ⟨j, hj, hp⟩) hpl
    clear hpl
    have HPZ : Hid (¬ Plainly (bt a1) z) := hpz
    clear hpz
    go_wp2_with (go_at_call 12; refine (plain_no a1 _ (by omega) z hz HPZ.out).mono ?_; rintro e w' ⟨rfl, hw'⟩; obtain rfl := hw'.symm)
    go_loopw [13, 14] (fun u v wr => ∃ k q : Nat, u = .int .i64 k ∧ v = .int .i64 k ∧ k ≤ len0 ∧ wr = w5.drewN q) (fun _ v _ => len0 - (intOf v).toNat)
    case atStart => exact ⟨0, 0, rfl, rfl, Nat.zero_le _, rfl⟩
    case round =>
      obtain ⟨k, q, rfl, rfl, hk, rfl⟩ := hrel
      by_cases hlt : k < len0
      · obtain ⟨gk, rfl, hck⟩ := HK.out (by omega)
        obtain ⟨x, hx⟩ : ∃ x, zs[k]? = some x := ⟨_, List.getElem?_eq_getElem (by rw [HZL.out]; exact hlt)⟩
        have c1 : w5.cell? ⟨gk, k, none⟩ = some (.int .u8 x) := hck k x hx
        have c2 : w5.cell? ⟨g, k, none⟩ = some (.int .u8 x) := HW.out k x (by rw [List.getElem?_append_left (by rw [HZL.out]; exact hlt)]; exact hx)
        have i0 : (0 : Int) ≤ (k : Int) := by omega
        have i1 : (k : Int) < (len0 : Int) := by omega
        have i2 : (k : Int) < (len0 : Int) + (A.length : Int) + (B.length : Int) + 2 := by omega
        clear hck hx
        go_wp2
        go_quiet (fail)
        go_wp2
        go_roundw
        case rel => exact ⟨k + 1, _, by go_num, by go_num, by omega, rfl⟩
        case measure => simp [intOf]; omega
      · obtain rfl : k = len0 := by omega
        obtain ⟨n, hn⟩ : ∃ n, n = k := ⟨_, rfl⟩
        subst hn
        go_wp2_with fail
        go_loopw [13, 15] (fun u v wr => ∃ k q : Nat, u = .int .i64 (n + k : Nat) ∧ v = .int .i64 k ∧ k ≤ A.length + 1 ∧ wr = w5.drewN q) (fun _ v _ => A.length + 1 - (intOf v).toNat)
        case atStart => exact ⟨0, q, rfl, rfl, Nat.zero_le _, rfl⟩
        case round =>
          obtain ⟨k, q, rfl, rfl, hk, rfl⟩ := hrel
          by_cases hlt : k < A.length + 1
          · obtain ⟨x, hx⟩ : ∃ x, (34 :: (A ++ [34]))[k]? = some x := ⟨_, List.getElem?_eq_getElem (by simp; omega)⟩
            have c1 : w5.cell? ⟨ga, k, none⟩ = some (.int .u8 x) := HPA.out k x hx
            have c2 : w5.cell? ⟨g, n + k, none⟩ = some (.int .u8 x) := HW.out (n + k) x (by have := whole_left zs A B hlt; rw [HZL.out] at this; rw [this]; exact hx)
            have i0 : (0 : Int) ≤ (k : Int) := by omega
            have i1 : (k : Int) < (A.length : Int) + 2 := by omega
            have i2 : (n : Int) + (k : Int) < (n : Int) + (A.length : Int) + (B.length : Int) + 2 := by omega
            have i3 : (0 : Int) ≤ (n : Int) + (k : Int) := by omega
            clear hx
            go_wp2
            go_quiet (fail)
            go_wp2
            go_roundw
            case rel => exact ⟨k + 1, _, by go_num, by go_num, by omega, rfl⟩
            case measure => simp [intOf]; omega
          · obtain rfl : k = A.length + 1 := by omega
            go_wp2_with fail
            go_loopw [13, 16] (fun u v wr => ∃ k q : Nat, u = .int .i64 (n + A.length + k : Nat) ∧ v = .int .i64 k ∧ 1 ≤ k ∧ k ≤ B.length + 2 ∧ wr = w5.drewN q) (fun _ v _ => B.length + 2 - (intOf v).toNat)
            case atStart => exact ⟨1, q, by go_num, rfl, by omega, by omega, rfl⟩
            case round =>
              obtain ⟨k, q, rfl, rfl, hk1, hk, rfl⟩ := hrel
              by_cases hlt : k < B.length + 2
              · obtain ⟨x, hx⟩ : ∃ x, (34 :: (B ++ [34]))[k]? = some x := ⟨_, List.getElem?_eq_getElem (by simp; omega)⟩
                have c1 : w5.cell? ⟨gb, k, none⟩ = some (.int .u8 x) := HPB.out k x hx
                have c2 : w5.cell? ⟨g, n + A.length + k, none⟩ = some (.int .u8 x) := HW.out (n + A.length + k) x (by have := whole_right zs A B hk1; rw [HZL.out] at this; rw [this]; exact hx)
                have i0 : (0 : Int) ≤ (k : Int) := by omega
                have i1 : (k : Int) < (B.length : Int) + 2 := by omega
                have i2 : (n : Int) + (A.length : Int) + (k : Int) < (n : Int) + (A.length : Int) + (B.length : Int) + 2 := by omega
                have i3 : (0 : Int) ≤ (n : Int) + (A.length : Int) + (k : Int) := by omega
                clear hx
                go_wp2
                go_quiet (fail)
                go_wp2
                go_roundw
                case rel => exact ⟨k + 1, _, by go_num, by go_num, by omega, by omega, rfl⟩
                case measure => simp [intOf]; omega
              · go_wp2
                go_ret
                exact ⟨rfl, below_drewN HB5 _⟩

end Go.Proofs.Qxb6628847a
