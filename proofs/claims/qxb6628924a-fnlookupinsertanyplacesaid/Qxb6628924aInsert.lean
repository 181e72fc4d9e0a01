/-
  Seat b6628924a: the walk of FnLookupInsertAnyPlace.
-/
import Derived.Test.Qxb6628924aParts
namespace Go.Proofs.Qxb6628924a
open Go.RowKit

/-- The keys and the values behind the insertion. -/
def insK (K : Nat → ByteArray) (key : ByteArray) (d j : Nat) : ByteArray := if j < d then K j else if j = d then key else K (j - 1)
def insP (P : Nat → Option Addr) (q : Option Addr) (d j : Nat) : Option Addr := if j < d then P j else if j = d then q else P (j - 1)
theorem insK_lt {K : Nat → ByteArray} {key : ByteArray} {d j : Nat} (h : j < d) : insK K key d j = K j := by unfold insK; rw [if_pos h]
theorem insK_at (K : Nat → ByteArray) (key : ByteArray) (d : Nat) : insK K key d d = key := by unfold insK; rw [if_neg (by omega), if_pos rfl]
theorem insK_gt {K : Nat → ByteArray} {key : ByteArray} {d j : Nat} (h : d ≤ j) : insK K key d (j + 1) = K j := by unfold insK; rw [if_neg (by omega), if_neg (by omega)]; rfl
theorem insP_lt {P : Nat → Option Addr} {q : Option Addr} {d j : Nat} (h : j < d) : insP P q d j = P j := by unfold insP; rw [if_pos h]
theorem insP_at (P : Nat → Option Addr) (q : Option Addr) (d : Nat) : insP P q d d = q := by unfold insP; rw [if_neg (by omega), if_pos rfl]
theorem insP_gt {P : Nat → Option Addr} {q : Option Addr} {d j : Nat} (h : d ≤ j) : insP P q d (j + 1) = P j := by unfold insP; rw [if_neg (by omega), if_neg (by omega)]; rfl

/-- A row of members of which the first m are written. -/
def Rows2 (w : World) (g N m : Nat) (K : Nat → ByteArray) (P : Nat → Option Addr) : Prop :=
  ∃ M : List Value, M.length = N * 2 ∧ w.heap[g]? = some (.cells M.toArray 38 (0, 0)) ∧ ∀ j, j < m → M[j * 2]? = some (.string (K j)) ∧ M[j * 2 + 1]? = some (.pointer (P j))
theorem rows_step {w : World} {g N m : Nat} {K : Nat → ByteArray} {P : Nat → Option Addr} {s : ByteArray} {q : Option Addr} (h : Rows2 w g N m K P) (hm : m < N) (hs : K m = s) (hq : P m = q) :
    Rows2 ((w.setCell ⟨g, m * 2, none⟩ (.string s)).setCell ⟨g, m * 2 + 1, none⟩ (.pointer q)) g N (m + 1) K P := by
  obtain ⟨M, hl, hM, hall⟩ := h
  subst hs hq
  refine ⟨_, by simpa using hl, row_set (j := m * 2 + 1) _ (row_set (j := m * 2) _ hM), fun j hj => ?_⟩
  by_cases e : j = m
  · subst e
    refine ⟨?_, List.getElem?_set_self (by simp; omega)⟩
    rw [List.getElem?_set_ne (by omega), List.getElem?_set_self (by omega)]
  · obtain ⟨h1, h2⟩ := hall j (by omega)
    refine ⟨?_, ?_⟩
    · rw [List.getElem?_set_ne (by omega), List.getElem?_set_ne (by omega)]; exact h1
    · rw [List.getElem?_set_ne (by omega), List.getElem?_set_ne (by omega)]; exact h2
theorem rows_cell {w : World} {g N m : Nat} {K : Nat → ByteArray} {P : Nat → Option Addr} (h : Rows2 w g N m K P) (j : Nat) (hj : j < N * 2) : (∃ u, w.cell? ⟨g, j, none⟩ = some u) ∧ w.frozen? ⟨g, j, none⟩ = false := by
  obtain ⟨M, hl, hM, hall⟩ := h
  exact ⟨⟨_, by rw [row_at hM]; exact List.getElem?_eq_getElem (by omega)⟩, frozen_of_row w g j _ 38 hM⟩
theorem rows_holds {w : World} {g N : Nat} {K : Nat → ByteArray} {P : Nat → Option Addr} (h : Rows2 w g N N K P) (v : Value) (e : v = .slice (some ⟨g, 0, none⟩) N N) :
    Holds (w.alloc (boxOf v)) w.heap.size (some ⟨g, 0, none⟩) N N K P := by
  obtain ⟨M, hl, hM, hall⟩ := h
  subst e
  have hM' := (Below.heap_alloc w (boxOf (.slice (some ⟨g, 0, none⟩) N N)) g (Array.getElem?_eq_some_iff.1 hM).1).trans hM
  refine ⟨?_, fun j hj => ⟨g, 0, rfl, ?_, ?_⟩⟩
  · rw [cell_of_row _ _ _ _ 33 (0, 0) (heap_alloc_new w _)]
    rfl
  · rw [Nat.zero_add, row_at hM']; exact (hall j hj).1
  · rw [Nat.zero_add, row_at hM']; exact (hall j hj).2

/-- Another key that no member had: none has it behind the insertion. -/
theorem ins_none {K K' : Nat → ByteArray} {key other : ByteArray} {d n : Nat} (hK : K' = insK K key d) (hdn : d ≤ n) (hno : ∀ j, j < n → (K j).toList ≠ other.toList) (hne : ¬ other.toList = key.toList) :
    ∀ j, j < n + 1 → (K' j).toList ≠ other.toList := by
  intro j hj
  subst hK
  rcases Nat.lt_trichotomy j d with h | h | h
  · rw [insK_lt h]; exact hno j (by omega)
  · subst h; rw [insK_at]; exact fun e => hne e.symm
  · obtain ⟨t, rfl⟩ : ∃ t, j = t + 1 := ⟨j - 1, by omega⟩
    rw [insK_gt (by omega)]; exact hno t (by omega)
/-- Another key that a member had: its first place behind the insertion, and the same value there. -/
theorem ins_found {K K' : Nat → ByteArray} {P P' : Nat → Option Addr} {q : Option Addr} {key other : ByteArray} {d n i : Nat} (hK : K' = insK K key d) (hP : P' = insP P q d) (hdn : d ≤ n) (hi : i < n) (hKi : (K i).toList = other.toList) (hno : ∀ j, j < i → (K j).toList ≠ other.toList)
    (hne : ¬ other.toList = key.toList) : ∃ i', i' < n + 1 ∧ (K' i').toList = other.toList ∧ (∀ j, j < i' → (K' j).toList ≠ other.toList) ∧ P' i' = P i := by
  subst hK hP
  by_cases h : i < d
  · refine ⟨i, by omega, by rw [insK_lt h]; exact hKi, fun j hj => ?_, insP_lt h⟩
    rw [insK_lt (by omega)]; exact hno j hj
  · refine ⟨i + 1, by omega, by rw [insK_gt (by omega)]; exact hKi, fun j hj => ?_, insP_gt (by omega)⟩
    rcases Nat.lt_trichotomy j d with h1 | h1 | h1
    · rw [insK_lt h1]; exact hno j (by omega)
    · subst h1; rw [insK_at]; exact fun e => hne e.symm
    · obtain ⟨t, rfl⟩ : ∃ t, j = t + 1 := ⟨j - 1, by omega⟩
      rw [insK_gt (by omega)]; exact hno t (by omega)

set_option maxRecDepth 100000 in
set_option maxHeartbeats 4000000 in
theorem walk4 (a : Option Addr) (n c : Nat) (K : Nat → ByteArray) (place : Int) (key other : ByteArray) (w : World) (hk : Keys w a n K) :
    Calls Try.prog 4 #[.slice a n c, .int .i64 place, .string key, .string other] w fun e w' => e = .returned (.bool true) ∧ Below w.heap.size w w' := by
  go_enter Try.func4, Try.ntmps4
  go_wp2_with fail
  refine (bytes9 a n c K _ key other w hk).mono ?_
  rintro e w' ⟨r, rfl, hw', hyes⟩
  obtain rfl := hw'.symm
  cases r with
  | false =>
    clear hyes
    go_wp2
    go_ret
    exact ⟨rfl, Below.refl _ _⟩
  | true =>
    obtain ⟨hn1, hk1, ho1, hK1⟩ := hyes rfl
    have HK1 : Hid (∀ j, j < n → (K j).size ≤ 1048576) := hK1
    clear hyes hK1
    go_wp2_with fail
    refine (fits6 a n c K key other w hk hn1 hk1 ho1 HK1.out).mono ?_
    rintro e w' ⟨r, rfl, hw', hyes⟩
    obtain rfl := hw'.symm
    cases r with
    | false =>
      clear hyes
      go_wp2
      go_ret
      exact ⟨rfl, Below.refl _ _⟩
    | true =>
      have hn : n ≤ 65536 := hyes rfl
      clear hyes HK1
      by_cases hlow : place < 0
      · go_wp2
        go_ret
        exact ⟨rfl, Below.refl _ _⟩
      obtain ⟨d, rfl⟩ : ∃ d : Nat, place = d := ⟨place.toNat, by omega⟩
      by_cases hhigh : n < d
      · go_wp2
        go_ret
        exact ⟨rfl, Below.refl _ _⟩
      go_wp2_with fail
      refine (build_any a n c K w hk hn).mono ?_
      rintro e w3 ⟨gw, gv, gm, P, rfl, hH, hv, hgd, hb3⟩
      clear hgd
      obtain ⟨i2, hi2, hz20, hz21, hz22⟩ := info_parts Try.info38
      go_wp2_with (at_make; refine wpList_make_full _ rfl (.tmp 55) (.tmp 55) 29 rfl (w3.heap.size + 1) 38 i2 (.agg #[.string ByteArray.empty, .pointer none]) 2 Try.underlying29 hi2 hz20 hz21 _ _ _ _ (n + 1) rfl rfl (by omega) (by omega) (by rw [hz22]; omega) (by unfold maxLen; omega) (by simp) ?_)
      intro w5 hown hgrow
      obtain ⟨hg5, hl5⟩ := heap_of_owns hown
      obtain ⟨M0, hM0⟩ : ∃ L, L = (madeCells #[Value.string ByteArray.empty, Value.pointer none] ((n + 1) * 2)).toList := ⟨_, rfl⟩
      obtain ⟨w4, hw4⟩ : ∃ w4, w4 = w3.alloc (Obj.cells #[.int .u8 0, .string key, .slice none 0 0, .int .u8 0, .slice none 0 0] 33) := ⟨_, rfl⟩
      have hs4 : w4.heap.size = w3.heap.size + 1 := by rw [hw4]; simp
      rw [← hw4] at hgrow
      have hb45 : Below w4.heap.size w4 w5 := (Below.refl _ _).grown hgrow (Nat.le_refl _) (by simp)
      have hb34 : Below w3.heap.size w3 w4 := by rw [hw4]; exact (Below.refl _ _).alloc (Nat.le_refl _) _
      have hH4 := hH.below hb34
      have hv4 := vals_stay hb34 hv
      have hb04 : Below w.heap.size w w4 := hb3.trans (hb34.mono hb3.size)
      have hk4 := hk.below hb04
      obtain ⟨gq, hgq⟩ : ∃ g, g = w3.heap.size := ⟨_, rfl⟩
      rw [← hM0, ← hgq] at hg5
      rw [← hM0] at hl5
      rw [← hgq] at hs4
      rw [hs4] at hb45
      simp only [← hgq]
      obtain ⟨K', hK'⟩ : ∃ K', K' = insK K key d := ⟨_, rfl⟩
      obtain ⟨P', hP'⟩ : ∃ P', P' = insP P (some ⟨gq, 0, none⟩) d := ⟨_, rfl⟩
      have hR5 : Rows2 w5 (gq + 1) (n + 1) 0 K' P' := ⟨M0, hl5, hg5, fun j hj => absurd hj (by omega)⟩
      have HK : Hid (K' = insK K key d) := hK'
      have HP : Hid (P' = insP P (some ⟨gq, 0, none⟩) d) := hP'
      have HS4 : Hid (w4.heap.size = gq + 1) := hs4
      have HV : Hid (∀ j, j < n → w4.cell? ⟨gv, j, none⟩ = some (.pointer (P j))) := hv4
      have HKEY : Hid (Keys w4 a n K) := hk4
      clear hown hgrow hM0 hw4 hg5 hl5 hb34 hH hv hb3 hk hgq hK' hP' hs4 hv4 hk4 hi2 hz20 hz21 hz22
      go_wp2_with fail
      go_loopw [13] (fun v wr => ∃ k : Nat, v = .int .i64 k ∧ k ≤ d ∧ Hid (Rows2 wr (gq + 1) (n + 1) k K' P') ∧ Below (gq + 1) w4 wr) (fun v _ => d - (intOf v).toNat)
      case atStart => exact ⟨0, rfl, Nat.zero_le _, hR5, hb45⟩
      case round =>
        obtain ⟨k, rfl, hkd, HR, hbr⟩ := hrel
        by_cases hlt : k < d
        · obtain ⟨b, off, rfl, hc⟩ := HKEY.out k (by omega)
          have hcv := HV.out k (by omega)
          have hbl : b < gq + 1 := by rw [← HS4.out]; exact World.block_lt_of_cell? _ _ hc
          have hvl : gv < gq + 1 := by rw [← HS4.out]; exact World.block_lt_of_cell? _ _ hcv
          have hc' : wr.cell? ⟨b, off + k, none⟩ = some (.string (K k)) := by rw [hbr.cell hbl]; exact hc
          have hcv' : wr.cell? ⟨gv, k, none⟩ = some (.pointer (P k)) := by rw [hbr.cell hvl]; exact hcv
          obtain ⟨⟨u0, hu0⟩, hf0⟩ := rows_cell HR.out (k * 2) (by omega)
          obtain ⟨⟨u1, hu1⟩, hf1⟩ := rows_cell HR.out (k * 2 + 1) (by omega)
          have n1 : b ≠ gq + 1 := by omega
          have n2 : gv ≠ gq + 1 := by omega
          have n3 : gq + 1 ≠ b := by omega
          have n4 : gq + 1 ≠ gv := by omega
          have i0 : (0 : Int) ≤ (k : Int) := by omega
          have i1 : (k : Int) < (n : Int) := by omega
          have i2 : (k : Int) < (n : Int) + 1 := by omega
          have HR' := rows_step HR.out (s := K k) (q := P k) (by omega) (by rw [HK.out]; exact insK_lt hlt) (by rw [HP.out]; exact insP_lt hlt)
          have HRR : Hid (Rows2 ((wr.setCell ⟨gq + 1, k * 2, none⟩ (.string (K k))).setCell ⟨gq + 1, k * 2 + 1, none⟩ (.pointer (P k))) (gq + 1) (n + 1) (k + 1) K' P') := HR'
          clear hc hcv HR'
          go_wp2
          go_region
          all_goals
            go_wp2
            go_roundw
            case rel => exact ⟨k + 1, by go_num, by omega, HRR.out, ((hbr.setCell (Nat.le_refl _) _).setCell (Nat.le_refl _) _).drew⟩
            case measure => simp [intOf]; omega
        · obtain rfl : k = d := by omega
          obtain ⟨⟨u0, hu0⟩, hf0⟩ := rows_cell HR.out (k * 2) (by omega)
          obtain ⟨⟨u1, hu1⟩, hf1⟩ := rows_cell HR.out (k * 2 + 1) (by omega)
          have i1 : (k : Int) < (n : Int) + 1 := by omega
          have HR' := rows_step HR.out (s := key) (q := some ⟨gq, 0, none⟩) (by omega) (by rw [HK.out]; exact insK_at _ _ _) (by rw [HP.out]; exact insP_at _ _ _)
          have HRR : Hid (Rows2 ((wr.setCell ⟨gq + 1, k * 2, none⟩ (.string key)).setCell ⟨gq + 1, k * 2 + 1, none⟩ (.pointer (some ⟨gq, 0, none⟩))) (gq + 1) (n + 1) (k + 1) K' P') := HR'
          clear HR'
          go_wp2_with fail
          obtain ⟨d, hd⟩ : ∃ d, d = k := ⟨_, rfl⟩
          subst hd
          have hbr1 : Below (gq + 1) w4 ((wr.setCell ⟨gq + 1, d * 2, none⟩ (.string key)).setCell ⟨gq + 1, d * 2 + 1, none⟩ (.pointer (some ⟨gq, 0, none⟩))) := (hbr.setCell (Nat.le_refl _) _).setCell (Nat.le_refl _) _
          have hdn : d ≤ n := by omega
          go_loopw [14] (fun v wx => ∃ m : Nat, v = .int .i64 m ∧ d ≤ m ∧ m ≤ n ∧ Hid (Rows2 wx (gq + 1) (n + 1) (m + 1) K' P') ∧ Below (gq + 1) w4 wx) (fun v _ => n - (intOf v).toNat)
          case atStart => exact ⟨d, rfl, Nat.le_refl _, hdn, HRR.out, hbr1⟩
          case round =>
            obtain ⟨m, rfl, hdm, hmn, HX, hbx⟩ := hrel
            clear hu0 hf0 hu1 hf1 HRR hbr1 hbr HR
            by_cases hlt2 : m < n
            · obtain ⟨b, off, rfl, hc⟩ := HKEY.out m hlt2
              have hcv := HV.out m hlt2
              have hbl : b < gq + 1 := by rw [← HS4.out]; exact World.block_lt_of_cell? _ _ hc
              have hvl : gv < gq + 1 := by rw [← HS4.out]; exact World.block_lt_of_cell? _ _ hcv
              have hc' : wr.cell? ⟨b, off + m, none⟩ = some (.string (K m)) := by rw [hbx.cell hbl]; exact hc
              have hcv' : wr.cell? ⟨gv, m, none⟩ = some (.pointer (P m)) := by rw [hbx.cell hvl]; exact hcv
              obtain ⟨⟨u0', hu0'⟩, hf0'⟩ := rows_cell HX.out ((m + 1) * 2) (by omega)
              obtain ⟨⟨u1', hu1'⟩, hf1'⟩ := rows_cell HX.out ((m + 1) * 2 + 1) (by omega)
              have n1 : b ≠ gq + 1 := by omega
              have n2 : gv ≠ gq + 1 := by omega
              have n3 : gq + 1 ≠ b := by omega
              have n4 : gq + 1 ≠ gv := by omega
              have i0 : (0 : Int) ≤ (m : Int) := by omega
              have i2 : (m : Int) < (n : Int) := by omega
              have i3 : (m : Int) + 1 < (n : Int) + 1 := by omega
              have HX' := rows_step HX.out (s := K m) (q := P m) (by omega) (by rw [HK.out]; exact insK_gt hdm) (by rw [HP.out]; exact insP_gt hdm)
              have HXX : Hid (Rows2 ((wr.setCell ⟨gq + 1, (m + 1) * 2, none⟩ (.string (K m))).setCell ⟨gq + 1, (m + 1) * 2 + 1, none⟩ (.pointer (P m))) (gq + 1) (n + 1) (m + 1 + 1) K' P') := HX'
              clear hc hcv HX'
              go_wp2
              go_region
              all_goals
                go_wp2
                go_roundw
                case rel => exact ⟨m + 1, by go_num, by omega, by omega, HXX.out, ((hbx.setCell (Nat.le_refl _) _).setCell (Nat.le_refl _) _).drew⟩
                case measure => simp [intOf]; omega
            · obtain rfl : n = m := by omega
              have hbx6 : Below w4.heap.size w4 (wr.alloc (boxOf (.slice (some ⟨gq + 1, 0, none⟩) (n + 1) (n + 1)))) := by rw [HS4.out]; exact hbx.alloc (by have := hbx.size; rw [HS4.out] at this; exact this) _
              have hHa := rows_holds HX.out _ rfl
              have hHb := hH4.below hbx6
              have hk6 := HKEY.out.below hbx6
              have hbb6 := hb04.trans (hbx6.mono hb04.size)
              obtain ⟨ga, hga⟩ : ∃ g, g = wr.heap.size := ⟨_, rfl⟩
              rw [← hga] at hHa
              have HGA : Hid (ga = wr.heap.size) := hga
              clear hga HX hbx hbx6 HKEY HV hH4 hb04 hR5 hb45
              rcases first_or_none K key d with hno | ⟨i, hi, hKi, hno⟩
              · have HNO : Hid (∀ j, j < d → (K j).toList ≠ key.toList) := hno
                have HPD : Hid (P' d = some ⟨gq, 0, none⟩) := by rw [Hid, HP.out]; exact insP_at _ _ _
                have HKD : Hid ((K' d).toList = key.toList) := by rw [Hid, HK.out, insK_at]
                have HND : Hid (∀ j, j < d → (K' j).toList ≠ key.toList) := fun j hj => by rw [HK.out, insK_lt hj]; exact HNO.out j hj
                clear hno
                go_wp2_with fail
                refine (look_some gw _ n n K P key _ (by omega) hHb).mono ?_
                rintro e w7 ⟨bq, bok, rfl, hb7⟩
                have hHa7 := hHa.below hb7
                have hHb7 := hHb.below hb7
                have hk7 := hk6.below hb7
                have hbb7 := hbb6.trans (hb7.mono hbb6.size)
                simp only [← HGA.out]
                clear hHa hHb hb7 hk6 hbb6
                go_wp2_with fail
                refine (look_is ga _ (n + 1) (n + 1) K' P' key d (some ⟨gq, 0, none⟩) w7 (by omega) hHa7 (by omega) HKD.out HND.out HPD.out).mono ?_
                rintro e w8 ⟨rfl, hb8⟩
                have hHa8 := hHa7.below hb8
                have hHb8 := hHb7.below hb8
                have hk8 := hk7.below hb8
                have hbb8 := hbb7.trans (hb8.mono hbb7.size)
                have hse0 := neq_self (some ⟨gq, 0, none⟩) w8
                have HK8 : Hid (Keys w8 a n K) := hk8
                clear hHa7 hHb7 hb8 hk7 hbb7 hk8
                go_wp2_with fail
                go_loop [20, 21] (fun u v => u = .bool false ∧ ∃ t : Nat, v = .int .i64 t ∧ t ≤ d) (fun _ v => d - (intOf v).toNat)
                case atStart => exact ⟨rfl, 0, rfl, Nat.zero_le _⟩
                case round =>
                  obtain ⟨rfl, t, rfl, htd⟩ := hrel
                  by_cases hlt3 : t < d
                  · obtain ⟨b, off, rfl, hc⟩ := HK8.out t (by omega)
                    have hB : ((K t).toList == key.toList) = false := by rw [beq_eq_false_iff_ne]; exact HNO.out t hlt3
                    go_wp2
                    go_round
                    case rel => exact ⟨rfl, t + 1, by go_num, by omega⟩
                    case measure => simp [intOf]; omega
                  · clear HK8
                    by_cases hok : other.toList = key.toList
                    · have hB : (other.toList == key.toList) = true := by rw [hok]; exact beq_self_eq_true _
                      clear hok
                      go_wp2
                      go_ret
                      exact ⟨rfl, hbb8⟩
                    · have hB : (other.toList == key.toList) = false := by rw [beq_eq_false_iff_ne]; exact hok
                      have HOK : Hid (¬ other.toList = key.toList) := hok
                      clear hok
                      go_wp2_with fail
                      rcases first_or_none K other n with hno2 | ⟨i2, hi2, hKi2, hno2⟩
                      · refine (look_no gw _ n n K P other w8 (by omega) hHb8 hno2).mono ?_
                        rintro e w9 ⟨rfl, hb9⟩
                        have hHa9 := hHa8.below hb9
                        have hbb9 := hbb8.trans (hb9.mono hbb8.size)
                        have HNO2 : Hid (∀ j, j < n → (K j).toList ≠ other.toList) := hno2
                        clear hno2 hHa8 hHb8 hb9
                        go_wp2_with fail
                        refine (look_no ga _ (n + 1) (n + 1) K' P' other w9 (by omega) hHa9 (ins_none HK.out hdn HNO2.out HOK.out)).mono ?_
                        rintro e w10 ⟨rfl, hb10⟩
                        have hbb10 := hbb9.trans (hb10.mono hbb9.size)
                        have hse := neq_self none w10
                        clear hb10 hHa9
                        go_wp2
                        go_ret
                        exact ⟨rfl, hbb10⟩
                      · obtain ⟨q2, hq2⟩ : ∃ q, P i2 = q := ⟨_, rfl⟩
                        refine (look_is gw _ n n K P other i2 q2 w8 (by omega) hHb8 hi2 hKi2 hno2 hq2).mono ?_
                        rintro e w9 ⟨rfl, hb9⟩
                        have hHa9 := hHa8.below hb9
                        have hbb9 := hbb8.trans (hb9.mono hbb8.size)
                        obtain ⟨i3, hi3, hKi3, hno3, hP3⟩ := ins_found HK.out HP.out hdn hi2 hKi2 hno2 HOK.out
                        have HQ : Hid (P' i3 = q2) := hP3.trans hq2
                        have HKI3 : Hid ((K' i3).toList = other.toList) := hKi3
                        have HNO3 : Hid (∀ j, j < i3 → (K' j).toList ≠ other.toList) := hno3
                        clear hno2 hHa8 hHb8 hb9 hKi2 hq2 hKi3 hno3 hP3
                        go_wp2_with fail
                        refine (look_is ga _ (n + 1) (n + 1) K' P' other i3 q2 w9 (by omega) hHa9 hi3 HKI3.out HNO3.out HQ.out).mono ?_
                        rintro e w10 ⟨rfl, hb10⟩
                        have hbb10 := hbb9.trans (hb10.mono hbb9.size)
                        have hse := neq_self q2 w10
                        clear hb10 hHa9
                        go_wp2
                        go_ret
                        exact ⟨rfl, hbb10⟩
              · have HNO : Hid (∀ j, j < i → (K j).toList ≠ key.toList) := hno
                have HKI : Hid ((K i).toList = key.toList) := hKi
                obtain ⟨q, hq⟩ : ∃ q, P i = q := ⟨_, rfl⟩
                have HQ0 : Hid (P i = q) := hq
                have HPD : Hid (P' i = q) := by rw [Hid, HP.out, insP_lt hi]; exact HQ0.out
                have HKD : Hid ((K' i).toList = key.toList) := by rw [Hid, HK.out, insK_lt hi]; exact HKI.out
                have HND : Hid (∀ j, j < i → (K' j).toList ≠ key.toList) := fun j hj => by rw [HK.out, insK_lt (by omega)]; exact HNO.out j hj
                clear hno hKi hq
                go_wp2_with fail
                refine (look_is gw _ n n K P key i q _ (by omega) hHb (by omega) HKI.out HNO.out HQ0.out).mono ?_
                rintro e w7 ⟨rfl, hb7⟩
                have hHa7 := hHa.below hb7
                have hHb7 := hHb.below hb7
                have hk7 := hk6.below hb7
                have hbb7 := hbb6.trans (hb7.mono hbb6.size)
                simp only [← HGA.out]
                clear hHa hHb hb7 hk6 hbb6
                go_wp2_with fail
                refine (look_is ga _ (n + 1) (n + 1) K' P' key i q w7 (by omega) hHa7 (by omega) HKD.out HND.out HPD.out).mono ?_
                rintro e w8 ⟨rfl, hb8⟩
                have hHa8 := hHa7.below hb8
                have hHb8 := hHb7.below hb8
                have hk8 := hk7.below hb8
                have hbb8 := hbb7.trans (hb8.mono hbb7.size)
                have hse0 := neq_self q w8
                have HK8 : Hid (Keys w8 a n K) := hk8
                clear hHa7 hHb7 hb8 hk7 hbb7 hk8
                go_wp2_with fail
                go_loop [20, 21] (fun u v => u = .bool false ∧ ∃ t : Nat, v = .int .i64 t ∧ t ≤ i) (fun _ v => d - (intOf v).toNat)
                case atStart => exact ⟨rfl, 0, rfl, Nat.zero_le _⟩
                case round =>
                  obtain ⟨rfl, t, rfl, htd⟩ := hrel
                  obtain ⟨b, off, rfl, hc⟩ := HK8.out t (by omega)
                  by_cases hlt3 : t < i
                  · have hB : ((K t).toList == key.toList) = false := by rw [beq_eq_false_iff_ne]; exact HNO.out t hlt3
                    go_wp2
                    go_round
                    case rel => exact ⟨rfl, t + 1, by go_num, by omega⟩
                    case measure => simp [intOf]; omega
                  · obtain rfl : t = i := by omega
                    have hB0 : ((K t).toList == key.toList) = true := by rw [HKI.out]; exact beq_self_eq_true _
                    clear HK8
                    by_cases hok : other.toList = key.toList
                    · have hB : (other.toList == key.toList) = true := by rw [hok]; exact beq_self_eq_true _
                      clear hok
                      go_wp2
                      go_ret
                      exact ⟨rfl, hbb8⟩
                    · have hB : (other.toList == key.toList) = false := by rw [beq_eq_false_iff_ne]; exact hok
                      have HOK : Hid (¬ other.toList = key.toList) := hok
                      clear hok
                      go_wp2_with fail
                      rcases first_or_none K other n with hno2 | ⟨i2, hi2, hKi2, hno2⟩
                      · refine (look_no gw _ n n K P other w8 (by omega) hHb8 hno2).mono ?_
                        rintro e w9 ⟨rfl, hb9⟩
                        have hHa9 := hHa8.below hb9
                        have hbb9 := hbb8.trans (hb9.mono hbb8.size)
                        have HNO2 : Hid (∀ j, j < n → (K j).toList ≠ other.toList) := hno2
                        clear hno2 hHa8 hHb8 hb9
                        go_wp2_with fail
                        refine (look_no ga _ (n + 1) (n + 1) K' P' other w9 (by omega) hHa9 (ins_none HK.out hdn HNO2.out HOK.out)).mono ?_
                        rintro e w10 ⟨rfl, hb10⟩
                        have hbb10 := hbb9.trans (hb10.mono hbb9.size)
                        have hse := neq_self none w10
                        clear hb10 hHa9
                        go_wp2
                        go_ret
                        exact ⟨rfl, hbb10⟩
                      · obtain ⟨q2, hq2⟩ : ∃ q, P i2 = q := ⟨_, rfl⟩
                        refine (look_is gw _ n n K P other i2 q2 w8 (by omega) hHb8 hi2 hKi2 hno2 hq2).mono ?_
                        rintro e w9 ⟨rfl, hb9⟩
                        have hHa9 := hHa8.below hb9
                        have hbb9 := hbb8.trans (hb9.mono hbb8.size)
                        obtain ⟨i3, hi3, hKi3, hno3, hP3⟩ := ins_found HK.out HP.out hdn hi2 hKi2 hno2 HOK.out
                        have HQ : Hid (P' i3 = q2) := hP3.trans hq2
                        have HKI3 : Hid ((K' i3).toList = other.toList) := hKi3
                        have HNO3 : Hid (∀ j, j < i3 → (K' j).toList ≠ other.toList) := hno3
                        clear hno2 hHa8 hHb8 hb9 hKi2 hq2 hKi3 hno3 hP3
                        go_wp2_with fail
                        refine (look_is ga _ (n + 1) (n + 1) K' P' other i3 q2 w9 (by omega) hHa9 hi3 HKI3.out HNO3.out HQ.out).mono ?_
                        rintro e w10 ⟨rfl, hb10⟩
                        have hbb10 := hbb9.trans (hb10.mono hbb9.size)
                        have hse := neq_self q2 w10
                        clear hb10 hHa9
                        go_wp2
                        go_ret
                        exact ⟨rfl, hbb10⟩

end Go.Proofs.Qxb6628924a
