/-
  Seat b6628847a: the walk of FnAppendStringIsCanonicalJSONOfS.
-/
import Derived.Test.Qxb6628847aShared
import Derived.Deep.QuietTactic
import Derived.BigQuiet
import Derived.WalkSmall
namespace Go.Proofs.Qxb6628847a
open Go.RowKit Plain PlainAid

/-- The bytes of one escape, where the decoder stands. -/
theorem esc_at {w : World} {g : Nat} {zs : List Int} {f : Nat → Int} {m k P n : Nat} (hz : zs.length = n) (hout : ∀ j x, (zs ++ lit f m)[j]? = some x → w.cell? ⟨g, j, none⟩ = some (.int .u8 x)) (hk : k < m) (hP : P = n + 1 + (enc f k).length) :
    ∀ t x, (esc (f k))[t]? = some x → w.cell? ⟨g, P + t, none⟩ = some (.int .u8 x) := by
  intro t x ht
  refine hout _ _ ?_
  subst hP hz
  rw [lit_at zs f hk t (List.getElem?_eq_some_iff.1 ht).1, ht]
theorem esc_room {f : Nat → Int} {m k P n E N : Nat} (hk : k < m) (hP : P = n + 1 + (enc f k).length) (hE : E = (enc f m).length) (hN : n + E + 2 ≤ N) : P + (esc (f k)).length + 1 ≤ N := by
  have := lit_room f hk
  omega
theorem esc_next {f : Nat → Int} {k P n : Nat} {l : List Int} (hP : P = n + 1 + (enc f k).length) (e : esc (f k) = l) : P + l.length = n + 1 + (enc f (k + 1)).length := by
  subst e
  simp only [enc, List.length_append]
  omega

theorem two_ways {c d : Int} (h : (48 ≤ c ∧ c ≤ 57 ∧ d = c - 48) ∨ (97 ≤ c ∧ c ≤ 102 ∧ d = c - 87)) : (48 ≤ c ∧ c ≤ 57) ∨ (97 ≤ c ∧ c ≤ 102) := by omega
def vAt (b : Int) (t : Nat) : Int := if t ≤ 4 then 0 else if t = 5 then b / 16 else b
theorem hexd_is (d : Int) (h0 : 0 ≤ d) (h1 : d < 16) : (48 ≤ hexd d ∧ hexd d ≤ 57 ∧ d = hexd d - 48) ∨ (97 ≤ hexd d ∧ hexd d ≤ 102 ∧ d = hexd d - 87) := by
  unfold hexd
  by_cases h : d < 10
  · rw [if_pos h]; omega
  · rw [if_neg h]; omega

set_option maxRecDepth 100000 in
set_option maxHeartbeats 4000000 in
theorem walk3 (a0 : Option Addr) (len0 cap0 : Nat) (z0 : List Int) (a1 : ByteArray) (w : World) (w0 : IsRow .u8 w a0 len0 cap0 z0) (w1 : a1.size ≤ maxLen) :
    Calls Try.prog 3 #[.slice a0 len0 cap0, .string a1] w fun e w' => e = .returned (.bool true) ∧ Below w.heap.size w w' := by
  unfold maxLen at w1
  by_cases hbig : 1048576 < len0 + a1.size
  · go_enter Try.func3, Try.ntmps3
    go_wp2_with (go_at_call 5; refine (wide5 _ _ _ _ _ hbig).mono ?_; rintro e w' ⟨rfl, rfl⟩)
    go_ret
    exact ⟨rfl, Below.refl _ _⟩
  by_cases hb1 : 524288 < len0
  · go_enter Try.func3, Try.ntmps3
    go_wp2_with (go_at_call 5; refine (fits5 _ _ _ _ _ (by omega) (by omega) (by omega)).mono ?_; rintro e w' ⟨rfl, rfl⟩)
    go_ret
    exact ⟨rfl, Below.refl _ _⟩
  by_cases hb2 : 524288 < a1.size
  · go_enter Try.func3, Try.ntmps3
    go_wp2_with (go_at_call 5; refine (fits5 _ _ _ _ _ (by omega) (by omega) (by omega)).mono ?_; rintro e w' ⟨rfl, rfl⟩)
    go_ret
    exact ⟨rfl, Below.refl _ _⟩
  have hrd := rd_of_row w0
  obtain ⟨zs, hzs⟩ : ∃ zs, zs = z0.take len0 := ⟨_, rfl⟩
  rw [← hzs] at hrd
  clear hzs w0 w1
  have hzl : zs.length = len0 := hrd.1
  have HZL : Hid (zs.length = len0) := hzl
  clear hzl
  go_enter Try.func3, Try.ntmps3
  go_wp2_with (go_at_call 5; refine (fits5 _ _ _ _ _ (by omega) (by omega) (by omega)).mono ?_; rintro e w' ⟨rfl, hw'⟩; obtain rfl := hw'.symm)
  refine (clone_any a0 len0 cap0 zs w (by omega) hrd).mono ?_
  rintro e w1 ⟨a1', rfl, ho1, hbl1⟩
  go_wp2_with fail
  refine (clone_any a1' len0 len0 zs w1 (by omega) (rd_of_owns ho1)).mono ?_
  rintro e w2 ⟨a2', rfl, ho2, hbl2⟩
  go_wp2_with fail
  have ho12 := owns_below ho1 hbl2
  have hap := two_apart ho1 ho2
  have hs12 := hbl1.size
  have hs22 := hbl2.size
  refine (append_any w.heap.size (.slice a1' len0 len0) len0 (cells zs) a1 w2 (by omega) (by omega) ho12 (by omega)).mono ?_
  rintro e w3 ⟨g, cap, rfl, hG⟩
  have hk3 := ho2.kept hG.grown hap
  have hb3 : Below w.heap.size w w3 := ((hbl1.trans (hbl2.mono hs12))).grown hG.grown (by omega) (fun k hk => (ho12.lt k hk).1)
  rw [← cells_append] at hG
  have hout := out_cells hG
  have hkeep := keep_cells hk3
  have hNl : (lit (bt a1) a1.size).length = (enc (bt a1) a1.size).length + 2 := lit_len _ _
  have hEl := enc_len (bt a1) a1.size
  obtain ⟨N, hN⟩ : ∃ N, N = len0 + (lit (bt a1) a1.size).length := ⟨_, rfl⟩
  rw [← hN]
  obtain ⟨E, hE⟩ : ∃ E, E = (enc (bt a1) a1.size).length := ⟨_, rfl⟩
  have hNE : N ≤ len0 + E + 2 := by omega
  have hNE' : len0 + E + 2 ≤ N := by omega
  have hEb : E ≤ 6 * a1.size := by omega
  have HE : Hid (E = (enc (bt a1) a1.size).length) := hE
  have HOUT : Hid (∀ j x, (zs ++ lit (bt a1) a1.size)[j]? = some x → w3.cell? ⟨g, j, none⟩ = some (.int .u8 x)) := hout
  have HKEEP : Hid (0 < len0 → ∃ g, a2' = some ⟨g, 0, none⟩ ∧ ∀ j x, zs[j]? = some x → w3.cell? ⟨g, j, none⟩ = some (.int .u8 x)) := hkeep
  clear hout hkeep hN hE hNl hEl hk3 hG ho12 hap ho1 ho2 hbl1 hbl2 hs12 hs22 hrd
  go_wp2_with fail
  go_loopw [8] (fun v wr => ∃ k q : Nat, v = .int .i64 k ∧ k ≤ len0 ∧ wr = w3.drewN q) (fun v _ => len0 - (intOf v).toNat)
  case atStart => exact ⟨0, 0, rfl, Nat.zero_le _, rfl⟩
  case round =>
    obtain ⟨k, q, rfl, hk, rfl⟩ := hrel
    by_cases hlt : k < len0
    · obtain ⟨gk, rfl, hck⟩ := HKEEP.out (by omega)
      obtain ⟨x, hx⟩ : ∃ x, zs[k]? = some x := ⟨_, List.getElem?_eq_getElem (by rw [HZL.out]; exact hlt)⟩
      have c1 : w3.cell? ⟨gk, k, none⟩ = some (.int .u8 x) := hck k x hx
      have c2 : w3.cell? ⟨g, k, none⟩ = some (.int .u8 x) := HOUT.out k x (by rw [List.getElem?_append_left (by rw [HZL.out]; exact hlt)]; exact hx)
      have i0 : (0 : Int) ≤ (k : Int) := by omega
      have i1 : (k : Int) < (len0 : Int) := by omega
      have i2 : (k : Int) < (N : Int) := by omega
      clear hck hx
      go_wp2
      go_quiet (fail)
      go_wp2
      go_roundw
      case rel => exact ⟨k + 1, _, by go_num, by omega, rfl⟩
      case measure => simp [intOf]; omega
    · obtain rfl : k = len0 := by omega
      have c3 : w3.cell? ⟨g, k, none⟩ = some (.int .u8 34) := HOUT.out k 34 (by have := lit_head zs (bt a1) a1.size; rw [HZL.out] at this; exact this)
      go_wp2_with fail
      obtain ⟨n, hn⟩ : ∃ n, n = k := ⟨_, rfl⟩
      subst hn
      clear c3 HKEEP
      go_loop [9, 10] (fun u v => ∃ k P : Nat, u = .int .i64 k ∧ v = .int .i64 P ∧ k ≤ a1.size ∧ P + 1 ≤ N ∧ Hid (P = n + 1 + (enc (bt a1) k).length)) (fun u _ => a1.size + 1 - (intOf u).toNat)
      case atStart => exact ⟨0, n + 1, rfl, by go_num, Nat.zero_le _, by omega, rfl⟩
      case round =>
        obtain ⟨k, P, rfl, rfl, hk, hPN, HP⟩ := hrel
        by_cases hlt : k < a1.size
        · have hat := esc_at HZL.out HOUT.out hlt HP.out
          have hroom := esc_room hlt HP.out HE.out hNE'
          have hbt := get_bt a1
          have hb0 := bt_nonneg a1 k
          have hb9 := bt_le a1 k
          by_cases h34 : bt a1 k = 34
          · have e0 : esc (bt a1 k) = [92, 34] := by rw [h34]; exact esc_self (.inl rfl)
            rw [e0] at hat hroom
            have nx := esc_next HP.out e0
            have d0 : w3.cell? ⟨g, P, none⟩ = some (.int .u8 92) := hat 0 92 rfl
            have d1 := hat 1 34 rfl
            have HNX : Hid (P + 2 = n + 1 + (enc (bt a1) (k + 1)).length) := nx
            simp only [List.length_cons, List.length_nil] at hroom
            clear nx hat e0
            go_wp2
            go_round
            case rel => exact ⟨k + 1, P + 2, by go_num, by go_num, by omega, by omega, HNX.out⟩
            case measure => simp [intOf]; omega
          by_cases h92 : bt a1 k = 92
          · have e0 : esc (bt a1 k) = [92, 92] := by rw [h92]; exact esc_self (.inr rfl)
            rw [e0] at hat hroom
            have nx := esc_next HP.out e0
            have d0 : w3.cell? ⟨g, P, none⟩ = some (.int .u8 92) := hat 0 92 rfl
            have d1 := hat 1 92 rfl
            have HNX : Hid (P + 2 = n + 1 + (enc (bt a1) (k + 1)).length) := nx
            simp only [List.length_cons, List.length_nil] at hroom
            clear nx hat e0
            go_wp2
            go_round
            case rel => exact ⟨k + 1, P + 2, by go_num, by go_num, by omega, by omega, HNX.out⟩
            case measure => simp [intOf]; omega
          by_cases h8 : bt a1 k = 8
          · have e0 : esc (bt a1 k) = [92, 98] := by rw [h8]; exact esc_8
            rw [e0] at hat hroom
            have nx := esc_next HP.out e0
            have d0 : w3.cell? ⟨g, P, none⟩ = some (.int .u8 92) := hat 0 92 rfl
            have d1 := hat 1 98 rfl
            have HNX : Hid (P + 2 = n + 1 + (enc (bt a1) (k + 1)).length) := nx
            simp only [List.length_cons, List.length_nil] at hroom
            clear nx hat e0
            go_wp2
            go_round
            case rel => exact ⟨k + 1, P + 2, by go_num, by go_num, by omega, by omega, HNX.out⟩
            case measure => simp [intOf]; omega
          by_cases h9 : bt a1 k = 9
          · have e0 : esc (bt a1 k) = [92, 116] := by rw [h9]; exact esc_9
            rw [e0] at hat hroom
            have nx := esc_next HP.out e0
            have d0 : w3.cell? ⟨g, P, none⟩ = some (.int .u8 92) := hat 0 92 rfl
            have d1 := hat 1 116 rfl
            have HNX : Hid (P + 2 = n + 1 + (enc (bt a1) (k + 1)).length) := nx
            simp only [List.length_cons, List.length_nil] at hroom
            clear nx hat e0
            go_wp2
            go_round
            case rel => exact ⟨k + 1, P + 2, by go_num, by go_num, by omega, by omega, HNX.out⟩
            case measure => simp [intOf]; omega
          by_cases h10 : bt a1 k = 10
          · have e0 : esc (bt a1 k) = [92, 110] := by rw [h10]; exact esc_10
            rw [e0] at hat hroom
            have nx := esc_next HP.out e0
            have d0 : w3.cell? ⟨g, P, none⟩ = some (.int .u8 92) := hat 0 92 rfl
            have d1 := hat 1 110 rfl
            have HNX : Hid (P + 2 = n + 1 + (enc (bt a1) (k + 1)).length) := nx
            simp only [List.length_cons, List.length_nil] at hroom
            clear nx hat e0
            go_wp2
            go_round
            case rel => exact ⟨k + 1, P + 2, by go_num, by go_num, by omega, by omega, HNX.out⟩
            case measure => simp [intOf]; omega
          by_cases h12 : bt a1 k = 12
          · have e0 : esc (bt a1 k) = [92, 102] := by rw [h12]; exact esc_12
            rw [e0] at hat hroom
            have nx := esc_next HP.out e0
            have d0 : w3.cell? ⟨g, P, none⟩ = some (.int .u8 92) := hat 0 92 rfl
            have d1 := hat 1 102 rfl
            have HNX : Hid (P + 2 = n + 1 + (enc (bt a1) (k + 1)).length) := nx
            simp only [List.length_cons, List.length_nil] at hroom
            clear nx hat e0
            go_wp2
            go_round
            case rel => exact ⟨k + 1, P + 2, by go_num, by go_num, by omega, by omega, HNX.out⟩
            case measure => simp [intOf]; omega
          by_cases h13 : bt a1 k = 13
          · have e0 : esc (bt a1 k) = [92, 114] := by rw [h13]; exact esc_13
            rw [e0] at hat hroom
            have nx := esc_next HP.out e0
            have d0 : w3.cell? ⟨g, P, none⟩ = some (.int .u8 92) := hat 0 92 rfl
            have d1 := hat 1 114 rfl
            have HNX : Hid (P + 2 = n + 1 + (enc (bt a1) (k + 1)).length) := nx
            simp only [List.length_cons, List.length_nil] at hroom
            clear nx hat e0
            go_wp2
            go_round
            case rel => exact ⟨k + 1, P + 2, by go_num, by go_num, by omega, by omega, HNX.out⟩
            case measure => simp [intOf]; omega
          by_cases h32 : bt a1 k < 32
          · have e0 : esc (bt a1 k) = [92, 117, 48, 48, hexd (bt a1 k / 16), hexd (bt a1 k % 16)] := esc_low h32 h8 h9 h10 h12 h13
            rw [e0] at hat hroom
            have nx := esc_next HP.out e0
            have d0 : w3.cell? ⟨g, P, none⟩ = some (.int .u8 92) := hat 0 92 rfl
            have d1 := hat 1 117 rfl
            have d2 := hat 2 48 rfl
            have d3 := hat 3 48 rfl
            have d4 := hat 4 (hexd (bt a1 k / 16)) rfl
            have d5 := hat 5 (hexd (bt a1 k % 16)) rfl
            have HNX : Hid (P + 6 = n + 1 + (enc (bt a1) (k + 1)).length) := nx
            simp only [List.length_cons, List.length_nil] at hroom
            have q4 := hexd_is (bt a1 k / 16) (by omega) (by omega)
            have q5 := hexd_is (bt a1 k % 16) (by omega) (by omega)
            obtain ⟨c4, hc4⟩ : ∃ c, c = hexd (bt a1 k / 16) := ⟨_, rfl⟩
            obtain ⟨c5, hc5⟩ : ∃ c, c = hexd (bt a1 k % 16) := ⟨_, rfl⟩
            rw [← hc4] at d4 q4
            rw [← hc5] at d5 q5
            have Q4 : Hid ((48 ≤ c4 ∧ c4 ≤ 57 ∧ bt a1 k / 16 = c4 - 48) ∨ (97 ≤ c4 ∧ c4 ≤ 102 ∧ bt a1 k / 16 = c4 - 87)) := q4
            have Q5 : Hid ((48 ≤ c5 ∧ c5 ≤ 57 ∧ bt a1 k % 16 = c5 - 48) ∨ (97 ≤ c5 ∧ c5 ≤ 102 ∧ bt a1 k % 16 = c5 - 87)) := q5
            have R4 : Hid ((48 ≤ c4 ∧ c4 ≤ 57) ∨ (97 ≤ c4 ∧ c4 ≤ 102)) := two_ways q4
            have R5 : Hid ((48 ≤ c5 ∧ c5 ≤ 57) ∨ (97 ≤ c5 ∧ c5 ≤ 102)) := two_ways q5
            have e34 : (bt a1 k == 34) = false := by simpa using h34
            have e92 : (bt a1 k == 92) = false := by simpa using h92
            clear nx hat e0 hc4 hc5 q4 q5
            go_wp2
            go_loop [13, 16] (fun v t => ∃ (T : Nat) (V : Int), t = .int .i64 T ∧ v = .int .i64 V ∧ 2 ≤ T ∧ T ≤ 6 ∧ 0 ≤ V ∧ V ≤ 255 ∧ Hid (V = vAt (bt a1 k) T)) (fun _ t => 6 - (intOf t).toNat)
            case atStart => exact ⟨2, 0, rfl, rfl, by omega, by omega, by omega, by omega, rfl⟩
            case round =>
              obtain ⟨T, V, rfl, rfl, hT2, hT6, hV0, hV9, HV⟩ := hrel
              rcases (by omega : T = 2 ∨ T = 3 ∨ T = 4 ∨ T = 5 ∨ T = 6) with rfl | rfl | rfl | rfl | rfl
              · obtain rfl : V = 0 := HV.out
                go_wp2_with (go_at_call 8; refine (hex_any 48 0 _ (.inl (by omega))).mono ?_; rintro e w' ⟨rfl, rfl⟩)
                go_round
                case rel => exact ⟨3, 0, rfl, rfl, by omega, by omega, by omega, by omega, rfl⟩
                case measure => simp [intOf]
              · obtain rfl : V = 0 := HV.out
                go_wp2_with (go_at_call 8; refine (hex_any 48 0 _ (.inl (by omega))).mono ?_; rintro e w' ⟨rfl, rfl⟩)
                go_round
                case rel => exact ⟨4, 0, rfl, rfl, by omega, by omega, by omega, by omega, rfl⟩
                case measure => simp [intOf]
              · obtain rfl : V = 0 := HV.out
                rcases R4.out with ⟨r4, r4'⟩ | ⟨r4, r4'⟩
                all_goals
                  go_wp2_with (go_at_call 8; refine (hex_any c4 (bt a1 k / 16) _ Q4.out).mono ?_; rintro e w' ⟨rfl, rfl⟩)
                  go_round
                  case rel => exact ⟨5, bt a1 k / 16, rfl, by go_num, by omega, by omega, by omega, by omega, rfl⟩
                  case measure => simp [intOf]
              · have hV5 : V = bt a1 k / 16 := HV.out
                have HV5 : Hid (V = bt a1 k / 16) := hV5
                clear hV5
                rcases R5.out with ⟨r5, r5'⟩ | ⟨r5, r5'⟩
                all_goals
                  go_wp2_with (go_at_call 8; refine (hex_any c5 (bt a1 k % 16) _ Q5.out).mono ?_; rintro e w' ⟨rfl, rfl⟩)
                  go_round
                  case rel => exact ⟨6, bt a1 k, rfl, by have := HV5.out; go_num, by omega, by omega, by omega, by omega, rfl⟩
                  case measure => simp [intOf]
              · obtain rfl : V = bt a1 k := HV.out
                go_wp2_with (go_at_call 9; refine (short_no _ _ h34 h92 (by omega) h8 h9 h10 h12 h13).mono ?_; rintro e w' ⟨rfl, rfl⟩)
                go_round
                case rel => exact ⟨k + 1, P + 6, by go_num, by go_num, by omega, by omega, HNX.out⟩
                case measure => simp [intOf]; omega
          · have e0 : esc (bt a1 k) = [bt a1 k] := esc_plain (by omega) h34 h92
            rw [e0] at hat hroom
            have nx := esc_next HP.out e0
            have d0 : w3.cell? ⟨g, P, none⟩ = some (.int .u8 (bt a1 k)) := hat 0 (bt a1 k) rfl
            have HNX : Hid (P + 1 = n + 1 + (enc (bt a1) (k + 1)).length) := nx
            simp only [List.length_cons, List.length_nil] at hroom
            clear nx hat e0
            go_wp2
            go_round
            case rel => exact ⟨k + 1, P + 1, by go_num, by go_num, by omega, by omega, HNX.out⟩
            case measure => simp [intOf]; omega
        · obtain rfl : k = a1.size := by omega
          have d0 : w3.cell? ⟨g, P, none⟩ = some (.int .u8 34) := HOUT.out P 34 (by have := lit_end zs (bt a1) a1.size; rw [HZL.out, ← HP.out] at this; exact this)
          have hPE : P + 1 = N := by have := HP.out; have := HE.out; omega
          have eB : ((P : Int) == (N : Int) - 1) = true := by simp only [beq_iff_eq]; omega
          have HPE : Hid (P + 1 = N) := hPE
          clear hPE
          go_wp2
          go_ret
          exact ⟨rfl, below_drewN hb3 _⟩

end Go.Proofs.Qxb6628847a
