/-
  Seat b6628847a: the contract of AppendString.
-/
import Derived.Test.Qxb6628847aClone
import Derived.Deep.RegionLaw
namespace Go.Proofs.Qxb6628847a
open Go.RowKit Plain PlainAid

/-- The bytes in a block that was just laid, as a source. -/
theorem src_laid (w : World) (l : List Int) {n : Nat} (hn : l.length = n) : Src Try.prog 1 22 (.slice (some ⟨w.heap.size, 0, none⟩) n n) n (cells l) (w.alloc (.cells (cells l).toArray 5)) := by
  refine Src.ofSlice _ Try.underlying22 ⟨w.heap.size, 0, none⟩ n n (cells l) (by rw [cells_len]; omega) ?_ (ints_oneCell _ _)
  intro j u hu
  rw [addp, Nat.zero_add, cell_of_row _ _ _ (cells l).toArray 5 (0, 0) (heap_alloc_new w _)]
  simpa using hu

/-- An append whose run is known, at the list of a plain region's operations. -/
theorem wpList_ran {w w2 : World} {ops : Array Oper} {rest : List Oper} {o : Oper} {a : Act} {Q : Exit → Act → World → Prop} {v xv r : Value} {tx : TypeId} (hgd : o.guard = none) (s x : Operand)
    (ho : o.op = .call { callee := .builtin .append, args := #[s, x], argTypes := #[22, tx] }) (hs : a.eval s = v) (hx : a.eval x = xv)
    (hr : (Builtin.append_ #[22, tx] o.type #[v, xv]).run Try.prog w = .ok r w2) (h : wpList Try.prog ops Q rest (a.put o.dst r) w2) : wpList Try.prog ops Q (o :: rest) a w := by
  refine wpList_plain hgd fun K hK => ?_
  unfold Oper.wp execOp
  simp only [ho, resolve, invoke, builtin, Sem.run_bind, Sem.run_pure, Result.andThen_ok, List.map_toArray, List.map_cons, List.map_nil, hs, hx, hr]
  exact hK _ _ h

/-- The literal so far: l behind xs. -/
def Sofar (w wr : World) (v0 : Value) (base n : Nat) (xs : List Value) (g N cap : Nat) (l : List Int) : Prop :=
  N = n + l.length ∧ Grew w wr v0 base (.slice (some ⟨g, 0, none⟩) N cap) N (xs ++ cells l)

theorem Sofar.next {w w1 w1' : World} {v0 : Value} {base n : Nat} {xs : List Value} {g N cap : Nat} {l : List Int} (h : Sofar w w1 v0 base n xs g N cap l) (hb : base ≤ w.heap.size) (hg : w1.grownBy w1' none)
    {tx : TypeId} (ty : TypeId) {x : Value} {m : Nat} {news : List Int} (hs : Src Try.prog 1 tx x m (cells news) w1') (hm : 0 < m) (hle : N + m ≤ 100000000) :
    ∃ g2 N2 cap2 w2, (Builtin.append_ #[22, tx] ty #[.slice (some ⟨g, 0, none⟩) N cap, x]).run Try.prog w1' = .ok (.slice (some ⟨g2, 0, none⟩) N2 cap2) w2 ∧ Sofar w w2 v0 base n xs g2 N2 cap2 (l ++ news) := by
  obtain ⟨g2, cap2, w2, hr, hG⟩ := h.2.more hb hg ty hs hm hle
  have hml : news.length = m := by have := hs.newsLen; rw [cells_len] at this; omega
  refine ⟨g2, N + m, cap2, w2, hr, ?_, ?_⟩
  · have := h.1
    rw [List.length_append]; omega
  · rw [cells_append, ← List.append_assoc]; exact hG
theorem Sofar.first {w w1' : World} {v0 : Value} {base n : Nat} {xs : List Value} (hown : w.ownsRow base 5 1 v0 n xs) (hb : base ≤ w.heap.size) (hg : w.grownBy w1' none)
    {tx : TypeId} (ty : TypeId) {x : Value} {m : Nat} {news : List Int} (hs : Src Try.prog 1 tx x m (cells news) w1') (hm : 0 < m) (hle : n + m ≤ 100000000) :
    ∃ g2 N2 cap2 w2, (Builtin.append_ #[22, tx] ty #[v0, x]).run Try.prog w1' = .ok (.slice (some ⟨g2, 0, none⟩) N2 cap2) w2 ∧ Sofar w w2 v0 base n xs g2 N2 cap2 news := by
  obtain ⟨g2, cap2, w2, hr, hG⟩ := (Grew.start hown).more hb hg ty hs hm hle
  have hml : news.length = m := by have := hs.newsLen; rw [cells_len] at this; omega
  exact ⟨g2, n + m, cap2, w2, hr, by omega, hG⟩
theorem Sofar.bound {w wr : World} {v0 : Value} {base n : Nat} {xs : List Value} {g N cap : Nat} {f : Nat → Int} {k : Nat} (h : Sofar w wr v0 base n xs g N cap (34 :: enc f k)) : N ≤ n + 1 + 6 * k := by
  have h1 := h.1
  have h2 := enc_len f k
  rw [List.length_cons] at h1
  omega
theorem Sofar.step {w wr : World} {v0 : Value} {base n : Nat} {xs : List Value} {g N cap : Nat} {f : Nat → Int} {k : Nat} {news : List Int} (h : Sofar w wr v0 base n xs g N cap (34 :: enc f k ++ news)) (e : esc (f k) = news) :
    Sofar w wr v0 base n xs g N cap (34 :: enc f (k + 1)) := by
  subst e
  exact h
/-- A constant string as a source. -/
theorem src_const (w : World) (s : ByteArray) (l : List Int) {n : Nat} (hl : byteCells s = cells l) (hn : s.size = n) : Src Try.prog 1 9 (.string s) n (cells l) w := by
  subst hn
  rw [← hl]
  exact Src.ofString w Try.underlying9 s

/-- The same as one step of a region that draws its order. -/
theorem step_ran {w w2 : World} {ops : Array Oper} {o : Oper} {a : Act} {K : Act → World → Prop} {Q : Exit → Act → World → Prop} {E : Prop} {v xv r : Value} {tx : TypeId} (hgd : o.guard = none) (s x : Operand)
    (ho : o.op = .call { callee := .builtin .append, args := #[s, x], argTypes := #[22, tx] }) (hs : a.eval s = v) (hx : a.eval x = xv)
    (hr : (Builtin.append_ #[22, tx] o.type #[v, xv]).run Try.prog w = .ok r w2) (h : K (a.put o.dst r) w2) :
    if Region.wanted o (yielded ops a.tmps) = true then Oper.wp Try.prog o a w K Q else E := by
  have hw : Region.wanted o (yielded ops a.tmps) = true := by simp [Region.wanted, hgd]
  rw [if_pos hw]
  unfold Oper.wp execOp
  simp only [ho, resolve, invoke, builtin, Sem.run_bind, Sem.run_pure, Result.andThen_ok, List.map_toArray, List.map_cons, List.map_nil, hs, hx, hr]
  exact h

def hexS : ByteArray := ⟨#[48, 49, 50, 51, 52, 53, 54, 55, 56, 57, 97, 98, 99, 100, 101, 102]⟩
theorem hex_at (d : Nat) (h : d < 16) : bt hexS d = hexd d := by
  have H : ∀ d : Fin 16, bt hexS d.val = hexd (d.val : Int) := by decide
  exact H ⟨d, h⟩

theorem grown_drew_alloc (w : World) (o : Obj) : w.grownBy (w.drew.alloc o) none := ⟨rfl, rfl, rfl, by simp, fun k hk _ => Below.heap_alloc w.drew o k hk⟩
theorem and_15 {b : Int} (h0 : 0 ≤ b) (h1 : b < 32) : bits .and .u8 b 15 = b % 16 := by
  have H : ∀ d : Fin 32, bits .and .u8 (d.val : Int) 15 = (d.val : Int) % 16 := by decide
  have e := H ⟨b.toNat, by omega⟩
  rw [show ((⟨b.toNat, by omega⟩ : Fin 32).val : Int) = b from by show ((b.toNat : Nat) : Int) = b; omega] at e
  exact e
theorem hex_get (z : Int) (h0 : 0 ≤ z) (h1 : z < 16) : ∀ h, ((({ data := #[48, 49, 50, 51, 52, 53, 54, 55, 56, 57, 97, 98, 99, 100, 101, 102] } : ByteArray)[z.toNat]'h).toNat : Int) = hexd z := by
  intro h
  have e := hex_at z.toNat (by omega)
  rw [← get_bt hexS z.toNat h] at e
  rw [show ((z.toNat : Nat) : Int) = z from by omega] at e
  exact e
set_option maxHeartbeats 2000000 in
theorem append_any (base : Nat) (v0 : Value) (n : Nat) (xs : List Value) (s : ByteArray) (w : World) (hs : s.size ≤ 1048576) (hn : n ≤ 1048576) (hown : w.ownsRow base 5 1 v0 n xs) (hb : base ≤ w.heap.size) :
    Calls Try.prog 7 #[v0, .string s] w fun e w' => ∃ g cap, e = .returned (.slice (some ⟨g, 0, none⟩) (n + (lit (bt s) s.size).length) cap) ∧
      Grew w w' v0 base (.slice (some ⟨g, 0, none⟩) (n + (lit (bt s) s.size).length) cap) (n + (lit (bt s) s.size).length) (xs ++ cells (lit (bt s) s.size)) := by
  have hbt := get_bt s
  obtain ⟨g1, N1, cap1, w1, hr1, hS1⟩ := Sofar.first hown hb (World.grownBy_alloc w (.cells (cells [34]).toArray 5) none) 22 (src_laid w [34] (n := 1) rfl) (by decide) (by omega)
  simp only [cells, List.map_cons, List.map_nil] at hr1
  go_enter Try.func7, Try.ntmps7
  go_wp2_with (at_builtin; refine wpList_ran rfl (.tmp 7) (.tmp 8) rfl rfl rfl hr1 ?_)
  clear hr1
  go_loopw [0, 5] (fun v i wr => ∃ k g N cap : Nat, v = .slice (some ⟨g, 0, none⟩) N cap ∧ i = .int .i64 k ∧ k ≤ s.size ∧ Sofar w wr v0 base n xs g N cap (34 :: enc (bt s) k)) (fun _ i _ => s.size - (intOf i).toNat)
  case atStart => exact ⟨0, g1, N1, cap1, rfl, rfl, Nat.zero_le _, hS1⟩
  case round =>
    obtain ⟨k, g, N, cap, rfl, rfl, hk, hS⟩ := hrel
    have hN := hS.bound
    clear hS1
    by_cases hlt : k < s.size
    · have hb0 := bt_nonneg s k
      have hb1 := bt_le s k
      by_cases h34 : bt s k = 34
      · obtain ⟨g2, N2, cap2, w2, hr2, hS2⟩ := hS.next hb (World.grownBy_alloc wr (.cells (cells [92, 34]).toArray 5) none) 22 (src_laid wr [92, 34] (n := 2) rfl) (by decide) (by omega)
        simp only [cells, List.map_cons, List.map_nil] at hr2
        have hS3 := hS2.step (by rw [h34]; exact esc_self (.inl rfl))
        clear hS2 hS
        go_wp2_with (at_builtin; refine wpList_ran rfl (.tmp 30) (.tmp 32) rfl rfl rfl hr2 ?_)
        go_roundw
        case rel => exact ⟨k + 1, g2, N2, cap2, rfl, by go_num, by omega, hS3⟩
        case measure => simp [intOf]; omega
      by_cases h92 : bt s k = 92
      · obtain ⟨g2, N2, cap2, w2, hr2, hS2⟩ := hS.next hb (World.grownBy_alloc wr (.cells (cells [92, 92]).toArray 5) none) 22 (src_laid wr [92, 92] (n := 2) rfl) (by decide) (by omega)
        simp only [cells, List.map_cons, List.map_nil] at hr2
        have hS3 := hS2.step (by rw [h92]; exact esc_self (.inr rfl))
        clear hS2 hS
        go_wp2_with (at_builtin; refine wpList_ran rfl (.tmp 30) (.tmp 32) rfl rfl rfl hr2 ?_)
        go_roundw
        case rel => exact ⟨k + 1, g2, N2, cap2, rfl, by go_num, by omega, hS3⟩
        case measure => simp [intOf]; omega
      by_cases h8 : bt s k = 8
      · obtain ⟨g2, N2, cap2, w2, hr2, hS2⟩ := hS.next hb (World.grownBy.refl wr none) 22 (src_const wr ⟨#[92, 98]⟩ [92, 98] (n := 2) rfl rfl) (by decide) (by omega)
        have hS3 := hS2.step (by rw [h8]; exact esc_8)
        clear hS2 hS
        go_wp2_with (at_builtin; refine wpList_ran rfl (.tmp 37) (.const (.string ⟨#[92, 98]⟩)) rfl rfl rfl hr2 ?_)
        go_roundw
        case rel => exact ⟨k + 1, g2, N2, cap2, rfl, by go_num, by omega, hS3⟩
        case measure => simp [intOf]; omega
      by_cases h9 : bt s k = 9
      · obtain ⟨g2, N2, cap2, w2, hr2, hS2⟩ := hS.next hb (World.grownBy.refl wr none) 22 (src_const wr ⟨#[92, 116]⟩ [92, 116] (n := 2) rfl rfl) (by decide) (by omega)
        have hS3 := hS2.step (by rw [h9]; exact esc_9)
        clear hS2 hS
        go_wp2_with (at_builtin; refine wpList_ran rfl (.tmp 42) (.const (.string ⟨#[92, 116]⟩)) rfl rfl rfl hr2 ?_)
        go_roundw
        case rel => exact ⟨k + 1, g2, N2, cap2, rfl, by go_num, by omega, hS3⟩
        case measure => simp [intOf]; omega
      by_cases h10 : bt s k = 10
      · obtain ⟨g2, N2, cap2, w2, hr2, hS2⟩ := hS.next hb (World.grownBy.refl wr none) 22 (src_const wr ⟨#[92, 110]⟩ [92, 110] (n := 2) rfl rfl) (by decide) (by omega)
        have hS3 := hS2.step (by rw [h10]; exact esc_10)
        clear hS2 hS
        go_wp2_with (at_builtin; refine wpList_ran rfl (.tmp 47) (.const (.string ⟨#[92, 110]⟩)) rfl rfl rfl hr2 ?_)
        go_roundw
        case rel => exact ⟨k + 1, g2, N2, cap2, rfl, by go_num, by omega, hS3⟩
        case measure => simp [intOf]; omega
      by_cases h12 : bt s k = 12
      · obtain ⟨g2, N2, cap2, w2, hr2, hS2⟩ := hS.next hb (World.grownBy.refl wr none) 22 (src_const wr ⟨#[92, 102]⟩ [92, 102] (n := 2) rfl rfl) (by decide) (by omega)
        have hS3 := hS2.step (by rw [h12]; exact esc_12)
        clear hS2 hS
        go_wp2_with (at_builtin; refine wpList_ran rfl (.tmp 52) (.const (.string ⟨#[92, 102]⟩)) rfl rfl rfl hr2 ?_)
        go_roundw
        case rel => exact ⟨k + 1, g2, N2, cap2, rfl, by go_num, by omega, hS3⟩
        case measure => simp [intOf]; omega
      by_cases h13 : bt s k = 13
      · obtain ⟨g2, N2, cap2, w2, hr2, hS2⟩ := hS.next hb (World.grownBy.refl wr none) 22 (src_const wr ⟨#[92, 114]⟩ [92, 114] (n := 2) rfl rfl) (by decide) (by omega)
        have hS3 := hS2.step (by rw [h13]; exact esc_13)
        clear hS2 hS
        go_wp2_with (at_builtin; refine wpList_ran rfl (.tmp 57) (.const (.string ⟨#[92, 114]⟩)) rfl rfl rfl hr2 ?_)
        go_roundw
        case rel => exact ⟨k + 1, g2, N2, cap2, rfl, by go_num, by omega, hS3⟩
        case measure => simp [intOf]; omega
      have e34 : (bt s k == 34) = false := by simpa using h34
      have e92 : (bt s k == 92) = false := by simpa using h92
      by_cases h32 : bt s k < 32
      · have i1 : (0 : Int) ≤ bt s k / 16 := by omega
        have i2 : bt s k / 16 < 16 := by omega
        have hx1 := hex_get _ i1 i2
        have ha := and_15 hb0 h32
        have i3 : (0 : Int) ≤ bt s k % 16 := by omega
        have i4 : bt s k % 16 < 16 := by omega
        have hx2 := hex_get _ i3 i4
        obtain ⟨g2, N2, cap2, w2, hr2, hS2⟩ := hS.next hb (w1' := wr.drew.alloc (.cells (cells [92, 117, 48, 48, hexd (bt s k / 16), hexd (bt s k % 16)]).toArray 5)) (grown_drew_alloc wr _) 22 (src_laid wr.drew [92, 117, 48, 48, hexd (bt s k / 16), hexd (bt s k % 16)] (n := 6) rfl) (by decide) (by omega)
        simp only [cells, List.map_cons, List.map_nil] at hr2
        have hS3 := hS2.step (esc_low h32 h8 h9 h10 h12 h13)
        clear hS2 hS
        go_wp2_with fail
        go_region_law (refine step_ran rfl (.tmp 62) (.tmp 69) rfl rfl rfl hr2 ?_)
        all_goals
          go_wp2
          go_roundw
          case rel => exact ⟨k + 1, g2, N2, cap2, rfl, by go_num, by omega, hS3⟩
          case measure => simp [intOf]; omega
      · obtain ⟨g2, N2, cap2, w2, hr2, hS2⟩ := hS.next hb (World.grownBy_alloc wr (.cells (cells [bt s k]).toArray 5) none) 22 (src_laid wr [bt s k] (n := 1) rfl) (by decide) (by omega)
        simp only [cells, List.map_cons, List.map_nil] at hr2
        have hS3 := hS2.step (esc_plain (by omega) h34 h92)
        clear hS2 hS
        go_wp2_with (at_builtin; refine wpList_ran rfl (.tmp 19) (.tmp 21) rfl rfl rfl hr2 ?_)
        go_roundw
        case rel => exact ⟨k + 1, g2, N2, cap2, rfl, by go_num, by omega, hS3⟩
        case measure => simp [intOf]; omega
    · obtain rfl : k = s.size := by omega
      obtain ⟨g2, N2, cap2, w2, hr2, hS2⟩ := hS.next hb (World.grownBy_alloc wr (.cells (cells [34]).toArray 5) none) 22 (src_laid wr [34] (n := 1) rfl) (by decide) (by omega)
      simp only [cells, List.map_cons, List.map_nil] at hr2
      clear hS
      go_wp2_with (at_builtin; refine wpList_ran rfl (.tmp 71) (.tmp 72) rfl rfl rfl hr2 ?_)
      go_ret
      obtain ⟨e1, e2⟩ := hS2
      subst e1
      exact ⟨g2, cap2, rfl, e2⟩

end Go.Proofs.Qxb6628847a
