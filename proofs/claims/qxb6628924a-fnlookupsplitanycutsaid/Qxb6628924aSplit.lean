/-
  Seat b6628924a: the walk of FnLookupSplitAnyCut.
-/
import Derived.Test.Qxb6628924aParts
namespace Go.Proofs.Qxb6628924a
open Go.RowKit

set_option maxRecDepth 100000 in
set_option maxHeartbeats 4000000 in
theorem walk3 (a : Option Addr) (n c : Nat) (K : Nat → ByteArray) (cut : Int) (key : ByteArray) (w : World) (hk : Keys w a n K) :
    Calls Try.prog 3 #[.slice a n c, .int .i64 cut, .string key] w fun e w' => e = .returned (.bool true) ∧ Below w.heap.size w w' := by
  go_enter Try.func3, Try.ntmps3
  go_wp2_with fail
  refine (bytes5 a n c K _ key w hk).mono ?_
  rintro e w' ⟨r, rfl, hw', hyes⟩
  obtain rfl := hw'.symm
  cases r with
  | false =>
    clear hyes
    go_wp2
    go_ret
    exact ⟨rfl, Below.refl _ _⟩
  | true =>
    obtain ⟨hn1, hk1, hK1⟩ := hyes rfl
    have HK1 : Hid (∀ j, j < n → (K j).size ≤ 1048576) := hK1
    clear hyes hK1
    go_wp2_with fail
    refine (fits6 a n c K key ⟨#[]⟩ w hk hn1 hk1 (by decide) HK1.out).mono ?_
    rintro e w' ⟨r, rfl, hw', hyes⟩
    obtain rfl := hw'.symm
    cases r with
    | false =>
      clear hyes
      go_wp2
      go_ret
      exact ⟨rfl, Below.refl _ _⟩
    | true =>
      have hn : n ≤ 65536 := hyes rfl
      clear hyes HK1
      by_cases hlow : cut < 0
      · go_wp2
        go_ret
        exact ⟨rfl, Below.refl _ _⟩
      obtain ⟨d, rfl⟩ : ∃ d : Nat, cut = d := ⟨cut.toNat, by omega⟩
      by_cases hhigh : n < d
      · go_wp2
        go_ret
        exact ⟨rfl, Below.refl _ _⟩
      go_wp2_with fail
      refine (build_any a n c K w hk hn).mono ?_
      rintro e w3 ⟨gw, gv, gm, P, rfl, hH, hv, hgd, hb3⟩
      have hmem := hH.members
      have hgw : gw < w3.heap.size := World.block_lt_of_cell? _ _ hmem
      by_cases hdn : d < n
      · have hW := two_boxes w3 (.slice (some ⟨gm, 0, none⟩) d n) (.slice (some ⟨gm, d * 2, none⟩) (n - d) (n - d))
        obtain ⟨hbW, hcl, hcr⟩ := hW
        have hH4 := hH.below hbW
        have hHl := left_holds hH4 (by omega) hcl
        have hHr := right_holds hH4 (by omega) hcr
        have hb4 := hb3.trans (hbW.mono hb3.size)
        go_wp2_with fail
        rcases first_or_none K key n with hno | ⟨i, hi, hKi, hno⟩
        · have HNO : Hid (∀ j, j < n → (K j).toList ≠ key.toList) := hno
          refine (look_no gw _ n n K P key _ (by omega) hH4 hno).mono ?_
          rintro e w5 ⟨rfl, hb5⟩
          have hHl5 := hHl.below hb5
          have hHr5 := hHr.below hb5
          have hbb5 := hb4.trans (hb5.mono hb4.size)
          clear hHl hHr hH4 hbW hcl hcr hno hb5 hb4
          go_wp2_with fail
          refine (look_no _ _ d n K P key w5 (by omega) hHl5 (fun j hj => HNO.out j (by omega))).mono ?_
          rintro e w6 ⟨rfl, hb6⟩
          have hHr6 := hHr5.below hb6
          have hbb6 := hbb5.trans (hb6.mono hbb5.size)
          clear hHl5 hHr5 hb6 hbb5
          go_wp2_with fail
          refine (look_no _ _ (n - d) (n - d) (fun j => K (d + j)) (fun j => P (d + j)) key w6 (by omega) hHr6 (fun j hj => HNO.out (d + j) (by omega))).mono ?_
          rintro e w7 ⟨rfl, hb7⟩
          have hbb7 := hbb6.trans (hb7.mono hbb6.size)
          have hk7 := hk.below hbb7
          clear hHr6 hb7 hbb6
          go_wp2_with fail
          go_loop [17, 18] (fun u v => u = .bool false ∧ ∃ k : Nat, v = .int .i64 k ∧ k ≤ n) (fun _ v => n - (intOf v).toNat)
          case atStart => exact ⟨rfl, 0, rfl, Nat.zero_le _⟩
          case round =>
            obtain ⟨rfl, k, rfl, hkn⟩ := hrel
            by_cases hlt : k < n
            · obtain ⟨b, off, rfl, hc⟩ := hk7 k hlt
              have hB : ((K k).toList == key.toList) = false := by rw [beq_eq_false_iff_ne]; exact HNO.out k hlt
              go_wp2
              go_round
              case rel => exact ⟨rfl, k + 1, by go_num, by omega⟩
              case measure => simp [intOf]; omega
            · go_wp2
              go_ret
              exact ⟨rfl, hbb7⟩
        · by_cases hid : i < d
          · have HNO : Hid (∀ j, j < i → (K j).toList ≠ key.toList) := hno
            have HKI : Hid ((K i).toList = key.toList) := hKi
            obtain ⟨p, hp⟩ : ∃ p, P i = p := ⟨_, rfl⟩
            have HP : Hid (P i = p) := hp
            clear hp hno hKi
            refine (look_is gw _ n n K P key i p _ (by omega) hH4 hi HKI.out HNO.out HP.out).mono ?_
            rintro e w5 ⟨rfl, hb5⟩
            have hHl5 := hHl.below hb5
            have hHr5 := hHr.below hb5
            have hbb5 := hb4.trans (hb5.mono hb4.size)
            have hv5 : ∀ j, j < n → w5.cell? ⟨gv, j, none⟩ = some (.pointer (P j)) := fun j hj => vals_stay hb5 (vals_stay hbW hv) j hj
            have hg5 : ∀ j, j < n → Good w5 (P j) := fun j hj => ((hgd j hj).below hbW).below hb5
            clear hgd
            clear hHl hHr hH4 hbW hcl hcr hb5 hb4
            go_wp2_with fail
            refine (look_is _ _ d n K P key i p w5 (by omega) hHl5 hid HKI.out HNO.out HP.out).mono ?_
            rintro e w6 ⟨rfl, hb6⟩
            have hHr6 := hHr5.below hb6
            have hbb6 := hbb5.trans (hb6.mono hbb5.size)
            have hv6 := vals_stay hb6 hv5
            have hg6 := goods_stay hb6 hg5
            clear hHl5 hHr5 hb6 hbb5
            go_wp2_with fail
            refine (look_some _ _ (n - d) (n - d) (fun j => K (d + j)) (fun j => P (d + j)) key w6 (by omega) hHr6).mono ?_
            rintro e w7 ⟨rq, rok, rfl, hb7⟩
            have hbb7 := hbb6.trans (hb7.mono hbb6.size)
            have hk7 := hk.below hbb7
            have hv7 := vals_stay hb7 hv6
            have HG : Hid (∀ j, j < n → Good w7 (P j)) := goods_stay hb7 hg6
            have HV : Hid (∀ j, j < n → w7.cell? ⟨gv, j, none⟩ = some (.pointer (P j))) := hv7
            clear hHr6 hb7 hbb6 hv6 hv5 hv7 hv hg6 hg5
            go_wp2_with fail
            go_loop [17, 18] (fun u v => u = .bool false ∧ ∃ k : Nat, v = .int .i64 k ∧ k ≤ i) (fun _ v => n - (intOf v).toNat)
            case atStart => exact ⟨rfl, 0, rfl, Nat.zero_le _⟩
            case round =>
              obtain ⟨rfl, k, rfl, hkn⟩ := hrel
              obtain ⟨b, off, rfl, hc⟩ := hk7 k (by omega)
              by_cases hlt : k < i
              · have hB : ((K k).toList == key.toList) = false := by rw [beq_eq_false_iff_ne]; exact HNO.out k hlt
                go_wp2
                go_round
                case rel => exact ⟨rfl, k + 1, by go_num, by omega⟩
                case measure => simp [intOf]; omega
              · obtain rfl : k = i := by omega
                have hB : ((K k).toList == key.toList) = true := by rw [HKI.out]; exact beq_self_eq_true _
                go_wp2_with fail
                obtain ⟨i, hik⟩ : ∃ i, i = k := ⟨_, rfl⟩
                subst hik
                clear hB hc
                go_loop [19, 20] (fun u v => ∃ (k : Nat) (r : Bool), u = .bool r ∧ v = .int .i64 k ∧ k ≤ n ∧ Hid (i < k → r = true)) (fun _ v => n - (intOf v).toNat)
                case atStart => exact ⟨0, false, rfl, rfl, Nat.zero_le _, fun h => absurd h (by omega)⟩
                case round =>
                  obtain ⟨k, r, rfl, rfl, hkn2, HR⟩ := hrel
                  by_cases hlt2 : k < n
                  · obtain ⟨b', off', eb, hc2⟩ := hk7 k hlt2
                    obtain ⟨rfl, rfl⟩ : b' = b ∧ off' = off := by simp at eb; exact ⟨eb.1.symm, eb.2.symm⟩
                    have hcv := HV.out k hlt2
                    clear eb
                    by_cases hKk : (K k).toList = key.toList
                    · have hB : ((K k).toList == key.toList) = true := by rw [hKk]; exact beq_self_eq_true _
                      clear hKk
                      by_cases hPk : P k = p
                      · have hpe : (binOp .eql 25 (.pointer (P k)) (.pointer p)).run Try.prog w7 = .ok (.bool true) w7 := by rw [hPk]; exact eql_self p w7
                        clear hPk
                        go_wp2
                        go_round
                        case rel => exact ⟨k + 1, true, rfl, by go_num, by omega, fun _ => rfl⟩
                        case measure => simp [intOf]; omega
                      · have hpe : (binOp .eql 25 (.pointer (P k)) (.pointer p)).run Try.prog w7 = .ok (.bool false) w7 := by
                          have h := eql_good (HG.out k hlt2) (q := p) (by rw [← HP.out]; exact HG.out i hi)
                          rw [decide_eq_false hPk] at h; exact h
                        have hki : k ≠ i := fun e => hPk (by rw [e]; exact HP.out)
                        clear hPk
                        go_wp2
                        go_round
                        case rel => exact ⟨k + 1, r, rfl, by go_num, by omega, fun h => HR.out (by omega)⟩
                        case measure => simp [intOf]; omega
                    · have hB : ((K k).toList == key.toList) = false := by rw [beq_eq_false_iff_ne]; exact hKk
                      have hki : k ≠ i := fun e => hKk (by rw [e]; exact HKI.out)
                      clear hKk
                      go_wp2
                      go_round
                      case rel => exact ⟨k + 1, r, rfl, by go_num, by omega, fun h => HR.out (by omega)⟩
                      case measure => simp [intOf]; omega
                  · obtain rfl : r = true := HR.out (by omega)
                    have hse := eql_self p w7
                    go_wp2
                    go_ret
                    exact ⟨rfl, hbb7⟩
          · have HNO : Hid (∀ j, j < i → (K j).toList ≠ key.toList) := hno
            have HKI : Hid ((K i).toList = key.toList) := hKi
            obtain ⟨p, hp⟩ : ∃ p, P i = p := ⟨_, rfl⟩
            have HP : Hid (P i = p) := hp
            clear hp hno hKi
            refine (look_is gw _ n n K P key i p _ (by omega) hH4 hi HKI.out HNO.out HP.out).mono ?_
            rintro e w5 ⟨rfl, hb5⟩
            have hHl5 := hHl.below hb5
            have hHr5 := hHr.below hb5
            have hbb5 := hb4.trans (hb5.mono hb4.size)
            have hv5 : ∀ j, j < n → w5.cell? ⟨gv, j, none⟩ = some (.pointer (P j)) := fun j hj => vals_stay hb5 (vals_stay hbW hv) j hj
            have hg5 : ∀ j, j < n → Good w5 (P j) := fun j hj => ((hgd j hj).below hbW).below hb5
            clear hgd
            clear hHl hHr hH4 hbW hcl hcr hb5 hb4
            go_wp2_with fail
            refine (look_no _ _ d n K P key w5 (by omega) hHl5 (fun j hj => HNO.out j (by omega))).mono ?_
            rintro e w6 ⟨rfl, hb6⟩
            have hHr6 := hHr5.below hb6
            have hbb6 := hbb5.trans (hb6.mono hbb5.size)
            have hv6 := vals_stay hb6 hv5
            have hg6 := goods_stay hb6 hg5
            clear hHl5 hHr5 hb6 hbb5
            go_wp2_with fail
            have hdi : d + (i - d) = i := by omega
            have HDI : Hid (d + (i - d) = i) := hdi
            clear hdi
            refine (look_is _ _ (n - d) (n - d) (fun j => K (d + j)) (fun j => P (d + j)) key (i - d) p w6 (by omega) hHr6 (by omega) (by show (K (d + (i - d))).toList = _; rw [HDI.out]; exact HKI.out) (fun j hj => HNO.out (d + j) (by omega)) (by show P (d + (i - d)) = p; rw [HDI.out]; exact HP.out)).mono ?_
            rintro e w7 ⟨rfl, hb7⟩
            have hbb7 := hbb6.trans (hb7.mono hbb6.size)
            have hk7 := hk.below hbb7
            have hv7 := vals_stay hb7 hv6
            have HG : Hid (∀ j, j < n → Good w7 (P j)) := goods_stay hb7 hg6
            have HV : Hid (∀ j, j < n → w7.cell? ⟨gv, j, none⟩ = some (.pointer (P j))) := hv7
            clear hHr6 hb7 hbb6 hv6 hv5 hv7 hv hg6 hg5
            go_wp2_with fail
            go_loop [17, 18] (fun u v => u = .bool false ∧ ∃ k : Nat, v = .int .i64 k ∧ k ≤ i) (fun _ v => n - (intOf v).toNat)
            case atStart => exact ⟨rfl, 0, rfl, Nat.zero_le _⟩
            case round =>
              obtain ⟨rfl, k, rfl, hkn⟩ := hrel
              obtain ⟨b, off, rfl, hc⟩ := hk7 k (by omega)
              by_cases hlt : k < i
              · have hB : ((K k).toList == key.toList) = false := by rw [beq_eq_false_iff_ne]; exact HNO.out k hlt
                go_wp2
                go_round
                case rel => exact ⟨rfl, k + 1, by go_num, by omega⟩
                case measure => simp [intOf]; omega
              · obtain rfl : k = i := by omega
                have hB : ((K k).toList == key.toList) = true := by rw [HKI.out]; exact beq_self_eq_true _
                go_wp2_with fail
                obtain ⟨i, hik⟩ : ∃ i, i = k := ⟨_, rfl⟩
                subst hik
                clear hB hc
                go_loop [19, 20] (fun u v => ∃ (k : Nat) (r : Bool), u = .bool r ∧ v = .int .i64 k ∧ k ≤ n ∧ Hid (i < k → r = true)) (fun _ v => n - (intOf v).toNat)
                case atStart => exact ⟨0, false, rfl, rfl, Nat.zero_le _, fun h => absurd h (by omega)⟩
                case round =>
                  obtain ⟨k, r, rfl, rfl, hkn2, HR⟩ := hrel
                  by_cases hlt2 : k < n
                  · obtain ⟨b', off', eb, hc2⟩ := hk7 k hlt2
                    obtain ⟨rfl, rfl⟩ : b' = b ∧ off' = off := by simp at eb; exact ⟨eb.1.symm, eb.2.symm⟩
                    have hcv := HV.out k hlt2
                    clear eb
                    by_cases hKk : (K k).toList = key.toList
                    · have hB : ((K k).toList == key.toList) = true := by rw [hKk]; exact beq_self_eq_true _
                      clear hKk
                      by_cases hPk : P k = p
                      · have hpe : (binOp .eql 25 (.pointer (P k)) (.pointer p)).run Try.prog w7 = .ok (.bool true) w7 := by rw [hPk]; exact eql_self p w7
                        clear hPk
                        go_wp2
                        go_round
                        case rel => exact ⟨k + 1, true, rfl, by go_num, by omega, fun _ => rfl⟩
                        case measure => simp [intOf]; omega
                      · have hpe : (binOp .eql 25 (.pointer (P k)) (.pointer p)).run Try.prog w7 = .ok (.bool false) w7 := by
                          have h := eql_good (HG.out k hlt2) (q := p) (by rw [← HP.out]; exact HG.out i hi)
                          rw [decide_eq_false hPk] at h; exact h
                        have hki : k ≠ i := fun e => hPk (by rw [e]; exact HP.out)
                        clear hPk
                        go_wp2
                        go_round
                        case rel => exact ⟨k + 1, r, rfl, by go_num, by omega, fun h => HR.out (by omega)⟩
                        case measure => simp [intOf]; omega
                    · have hB : ((K k).toList == key.toList) = false := by rw [beq_eq_false_iff_ne]; exact hKk
                      have hki : k ≠ i := fun e => hKk (by rw [e]; exact HKI.out)
                      clear hKk
                      go_wp2
                      go_round
                      case rel => exact ⟨k + 1, r, rfl, by go_num, by omega, fun h => HR.out (by omega)⟩
                      case measure => simp [intOf]; omega
                  · obtain rfl : r = true := HR.out (by omega)
                    have hse := eql_self p w7
                    go_wp2
                    go_ret
                    exact ⟨rfl, hbb7⟩
      · obtain rfl : d = n := by omega
        have hW := two_boxes w3 (.slice (some ⟨gm, 0, none⟩) d d) (.slice (some ⟨gm, 0, none⟩) 0 0)
        obtain ⟨hbW, hcl, hcr⟩ := hW
        have hH4 := hH.below hbW
        have hHl := left_holds hH4 (by omega) hcl
        have hHr := empty_holds (K := fun j => K (d + j)) (P := fun j => P (d + j)) hcr
        have hb4 := hb3.trans (hbW.mono hb3.size)
        go_wp2_with fail
        rcases first_or_none K key d with hno | ⟨i, hi, hKi, hno⟩
        · have HNO : Hid (∀ j, j < d → (K j).toList ≠ key.toList) := hno
          refine (look_no gw _ d d K P key _ (by omega) hH4 hno).mono ?_
          rintro e w5 ⟨rfl, hb5⟩
          have hHl5 := hHl.below hb5
          have hHr5 := hHr.below hb5
          have hbb5 := hb4.trans (hb5.mono hb4.size)
          clear hHl hHr hH4 hbW hcl hcr hno hb5 hb4
          go_wp2_with fail
          refine (look_no _ _ d d K P key w5 (by omega) hHl5 (fun j hj => HNO.out j (by omega))).mono ?_
          rintro e w6 ⟨rfl, hb6⟩
          have hHr6 := hHr5.below hb6
          have hbb6 := hbb5.trans (hb6.mono hbb5.size)
          clear hHl5 hHr5 hb6 hbb5
          go_wp2_with fail
          refine (look_no _ _ 0 0 (fun j => K (d + j)) (fun j => P (d + j)) key w6 (by omega) hHr6 (fun j hj => HNO.out (d + j) (by omega))).mono ?_
          rintro e w7 ⟨rfl, hb7⟩
          have hbb7 := hbb6.trans (hb7.mono hbb6.size)
          have hk7 := hk.below hbb7
          clear hHr6 hb7 hbb6
          go_wp2_with fail
          go_loop [17, 18] (fun u v => u = .bool false ∧ ∃ k : Nat, v = .int .i64 k ∧ k ≤ d) (fun _ v => d - (intOf v).toNat)
          case atStart => exact ⟨rfl, 0, rfl, Nat.zero_le _⟩
          case round =>
            obtain ⟨rfl, k, rfl, hkn⟩ := hrel
            by_cases hlt : k < d
            · obtain ⟨b, off, rfl, hc⟩ := hk7 k hlt
              have hB : ((K k).toList == key.toList) = false := by rw [beq_eq_false_iff_ne]; exact HNO.out k hlt
              go_wp2
              go_round
              case rel => exact ⟨rfl, k + 1, by go_num, by omega⟩
              case measure => simp [intOf]; omega
            · go_wp2
              go_ret
              exact ⟨rfl, hbb7⟩
        · have hid : i < d := hi
          have HNO : Hid (∀ j, j < i → (K j).toList ≠ key.toList) := hno
          have HKI : Hid ((K i).toList = key.toList) := hKi
          obtain ⟨p, hp⟩ : ∃ p, P i = p := ⟨_, rfl⟩
          have HP : Hid (P i = p) := hp
          clear hp hno hKi
          refine (look_is gw _ d d K P key i p _ (by omega) hH4 hi HKI.out HNO.out HP.out).mono ?_
          rintro e w5 ⟨rfl, hb5⟩
          have hHl5 := hHl.below hb5
          have hHr5 := hHr.below hb5
          have hbb5 := hb4.trans (hb5.mono hb4.size)
          have hv5 : ∀ j, j < d → w5.cell? ⟨gv, j, none⟩ = some (.pointer (P j)) := fun j hj => vals_stay hb5 (vals_stay hbW hv) j hj
          have hg5 : ∀ j, j < d → Good w5 (P j) := fun j hj => ((hgd j hj).below hbW).below hb5
          clear hgd
          clear hHl hHr hH4 hbW hcl hcr hb5 hb4
          go_wp2_with fail
          refine (look_is _ _ d d K P key i p w5 (by omega) hHl5 hid HKI.out HNO.out HP.out).mono ?_
          rintro e w6 ⟨rfl, hb6⟩
          have hHr6 := hHr5.below hb6
          have hbb6 := hbb5.trans (hb6.mono hbb5.size)
          have hv6 := vals_stay hb6 hv5
          have hg6 := goods_stay hb6 hg5
          clear hHl5 hHr5 hb6 hbb5
          go_wp2_with fail
          refine (look_some _ _ 0 0 (fun j => K (d + j)) (fun j => P (d + j)) key w6 (by omega) hHr6).mono ?_
          rintro e w7 ⟨rq, rok, rfl, hb7⟩
          have hbb7 := hbb6.trans (hb7.mono hbb6.size)
          have hk7 := hk.below hbb7
          have hv7 := vals_stay hb7 hv6
          have HG : Hid (∀ j, j < d → Good w7 (P j)) := goods_stay hb7 hg6
          have HV : Hid (∀ j, j < d → w7.cell? ⟨gv, j, none⟩ = some (.pointer (P j))) := hv7
          clear hHr6 hb7 hbb6 hv6 hv5 hv7 hv hg6 hg5
          go_wp2_with fail
          go_loop [17, 18] (fun u v => u = .bool false ∧ ∃ k : Nat, v = .int .i64 k ∧ k ≤ i) (fun _ v => d - (intOf v).toNat)
          case atStart => exact ⟨rfl, 0, rfl, Nat.zero_le _⟩
          case round =>
            obtain ⟨rfl, k, rfl, hkn⟩ := hrel
            obtain ⟨b, off, rfl, hc⟩ := hk7 k (by omega)
            by_cases hlt : k < i
            · have hB : ((K k).toList == key.toList) = false := by rw [beq_eq_false_iff_ne]; exact HNO.out k hlt
              go_wp2
              go_round
              case rel => exact ⟨rfl, k + 1, by go_num, by omega⟩
              case measure => simp [intOf]; omega
            · obtain rfl : k = i := by omega
              have hB : ((K k).toList == key.toList) = true := by rw [HKI.out]; exact beq_self_eq_true _
              go_wp2_with fail
              obtain ⟨i, hik⟩ : ∃ i, i = k := ⟨_, rfl⟩
              subst hik
              clear hB hc
              go_loop [19, 20] (fun u v => ∃ (k : Nat) (r : Bool), u = .bool r ∧ v = .int .i64 k ∧ k ≤ d ∧ Hid (i < k → r = true)) (fun _ v => d - (intOf v).toNat)
              case atStart => exact ⟨0, false, rfl, rfl, Nat.zero_le _, fun h => absurd h (by omega)⟩
              case round =>
                obtain ⟨k, r, rfl, rfl, hkn2, HR⟩ := hrel
                by_cases hlt2 : k < d
                · obtain ⟨b', off', eb, hc2⟩ := hk7 k hlt2
                  obtain ⟨rfl, rfl⟩ : b' = b ∧ off' = off := by simp at eb; exact ⟨eb.1.symm, eb.2.symm⟩
                  have hcv := HV.out k hlt2
                  clear eb
                  by_cases hKk : (K k).toList = key.toList
                  · have hB : ((K k).toList == key.toList) = true := by rw [hKk]; exact beq_self_eq_true _
                    clear hKk
                    by_cases hPk : P k = p
                    · have hpe : (binOp .eql 25 (.pointer (P k)) (.pointer p)).run Try.prog w7 = .ok (.bool true) w7 := by rw [hPk]; exact eql_self p w7
                      clear hPk
                      go_wp2
                      go_round
                      case rel => exact ⟨k + 1, true, rfl, by go_num, by omega, fun _ => rfl⟩
                      case measure => simp [intOf]; omega
                    · have hpe : (binOp .eql 25 (.pointer (P k)) (.pointer p)).run Try.prog w7 = .ok (.bool false) w7 := by
                        have h := eql_good (HG.out k hlt2) (q := p) (by rw [← HP.out]; exact HG.out i hi)
                        rw [decide_eq_false hPk] at h; exact h
                      have hki : k ≠ i := fun e => hPk (by rw [e]; exact HP.out)
                      clear hPk
                      go_wp2
                      go_round
                      case rel => exact ⟨k + 1, r, rfl, by go_num, by omega, fun h => HR.out (by omega)⟩
                      case measure => simp [intOf]; omega
                  · have hB : ((K k).toList == key.toList) = false := by rw [beq_eq_false_iff_ne]; exact hKk
                    have hki : k ≠ i := fun e => hKk (by rw [e]; exact HKI.out)
                    clear hKk
                    go_wp2
                    go_round
                    case rel => exact ⟨k + 1, r, rfl, by go_num, by omega, fun h => HR.out (by omega)⟩
                    case measure => simp [intOf]; omega
                · obtain rfl : r = true := HR.out (by omega)
                  have hse := eql_self p w7
                  go_wp2
                  go_ret
                  exact ⟨rfl, hbb7⟩

end Go.Proofs.Qxb6628924a
