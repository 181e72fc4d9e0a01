/-
  Seat b6628886a: contracts of Kind.Carries and zzCarriesMessageKind; the walks of the two laws.
-/
import Derived.Test.Qxb6628886aRows
import Derived.WalkKit
import Derived.Below
import Derived.ProofKit
namespace Go.Proofs.Qxb6628886a
open Go.RowKit

/-- What a kind carries. -/
def carries (k : Int) : Int := if k = 3 then 22 else if k = 4 then 2 else if k = 6 then 60 else 3
theorem carries_any (k : Int) (w : World) : Calls Try.prog 5 #[.int .i64 k] w fun e w' => e = .returned (.int .i64 (carries k)) ∧ w' = w := by
  by_cases h3 : k = 3
  · subst h3
    go_enter Try.func5, Try.ntmps5
    go_wp2
    go_ret
    exact ⟨rfl, rfl⟩
  by_cases h4 : k = 4
  · subst h4
    go_enter Try.func5, Try.ntmps5
    go_wp2
    go_ret
    exact ⟨rfl, rfl⟩
  by_cases h6 : k = 6
  · subst h6
    go_enter Try.func5, Try.ntmps5
    go_wp2
    go_ret
    exact ⟨rfl, rfl⟩
  have e : carries k = 3 := by unfold carries; rw [if_neg h3, if_neg h4, if_neg h6]
  have H : Hid (carries k = 3) := e
  clear e
  go_enter Try.func5, Try.ntmps5
  go_wp2
  go_ret
  exact ⟨by rw [H.out]; rfl, rfl⟩
theorem carries_other {k : Int} (h3 : k ≠ 3) (h4 : k ≠ 4) (h6 : k ≠ 6) : carries k = 3 := by unfold carries; rw [if_neg h3, if_neg h4, if_neg h6]

theorem kind_no (k : Int) (w : World) (h : k = 3 ∨ k = 4 ∨ k = 6) : Calls Try.prog 6 #[.int .i64 k] w fun e w' => e = .returned (.bool false) ∧ w' = w := by
  rcases h with rfl | rfl | rfl
  all_goals
    go_enter Try.func6, Try.ntmps6
    go_wp2
    go_ret
    exact ⟨rfl, rfl⟩
theorem kind_yes (k : Int) (w : World) (h3 : k ≠ 3) (h4 : k ≠ 4) (h6 : k ≠ 6) : Calls Try.prog 6 #[.int .i64 k] w fun e w' => e = .returned (.bool true) ∧ w' = w := by
  go_enter Try.func6, Try.ntmps6
  go_wp2
  go_ret
  exact ⟨rfl, rfl⟩

theorem carries_is {k c : Int} (h : carries k = c) (w : World) : Calls Try.prog 5 #[.int .i64 k] w fun e w' => e = .returned (.int .i64 c) ∧ w' = w := by
  subst h
  exact carries_any k w

/-- The first law in the table: the fields' companies. -/
theorem walk4 (a0 : Int) (w : World) : Calls Try.prog 4 #[.int .i64 a0] w fun e w' => e = .returned (.bool true) ∧ w' = w := by
  by_cases h3 : a0 = 3
  · subst h3
    go_enter Try.func4, Try.ntmps4
    go_wp2_with (go_at_call 5; refine (carries_is (c := 22) rfl _).mono ?_; rintro e w' ⟨rfl, hw'⟩; obtain rfl := hw'.symm)
    go_ret
    exact ⟨rfl, rfl⟩
  by_cases h4 : a0 = 4
  · subst h4
    go_enter Try.func4, Try.ntmps4
    go_wp2_with (go_at_call 5; refine (carries_is (c := 2) rfl _).mono ?_; rintro e w' ⟨rfl, hw'⟩; obtain rfl := hw'.symm)
    go_ret
    exact ⟨rfl, rfl⟩
  by_cases h6 : a0 = 6
  · subst h6
    go_enter Try.func4, Try.ntmps4
    go_wp2_with (go_at_call 5; refine (carries_is (c := 60) rfl _).mono ?_; rintro e w' ⟨rfl, hw'⟩; obtain rfl := hw'.symm)
    go_ret
    exact ⟨rfl, rfl⟩
  go_enter Try.func4, Try.ntmps4
  go_wp2_with (go_at_call 5; refine (carries_is (c := 3) (carries_other h3 h4 h6) _).mono ?_; rintro e w' ⟨rfl, hw'⟩; obtain rfl := hw'.symm)
  go_ret
  exact ⟨rfl, rfl⟩

set_option maxHeartbeats 1000000 in
theorem case_3 (a1 : Int) (w : World) : Calls Try.prog 3 #[.int .i64 3, .int .i64 a1] w fun e w' => e = .returned (.bool true) ∧ w' = w := by
  by_cases q3 : a1 = 3
  · subst q3
    go_enter Try.func3, Try.ntmps3
    go_wp2_with fail
    refine (carries_is (c := 22) rfl _).mono ?_
    rintro e w' ⟨rfl, hw'⟩; obtain rfl := hw'.symm
    go_wp2_with fail
    refine (carries_is (c := 22) rfl _).mono ?_
    rintro e w' ⟨rfl, hw'⟩; obtain rfl := hw'.symm
    go_wp2_with fail
    refine (kind_no _ _ (.inl rfl)).mono ?_
    rintro e w' ⟨rfl, hw'⟩; obtain rfl := hw'.symm
    go_wp2_with fail
    refine (kind_no _ _ (.inl rfl)).mono ?_
    rintro e w' ⟨rfl, hw'⟩; obtain rfl := hw'.symm
    go_wp2
    go_ret
    exact ⟨rfl, rfl⟩
  by_cases q4 : a1 = 4
  · subst q4
    go_enter Try.func3, Try.ntmps3
    go_wp2_with fail
    refine (carries_is (c := 22) rfl _).mono ?_
    rintro e w' ⟨rfl, hw'⟩; obtain rfl := hw'.symm
    go_wp2_with fail
    refine (carries_is (c := 2) rfl _).mono ?_
    rintro e w' ⟨rfl, hw'⟩; obtain rfl := hw'.symm
    go_wp2_with fail
    refine (kind_no _ _ (.inl rfl)).mono ?_
    rintro e w' ⟨rfl, hw'⟩; obtain rfl := hw'.symm
    go_wp2_with fail
    refine (kind_no _ _ (.inr (.inl rfl))).mono ?_
    rintro e w' ⟨rfl, hw'⟩; obtain rfl := hw'.symm
    go_wp2
    go_ret
    exact ⟨rfl, rfl⟩
  by_cases q6 : a1 = 6
  · subst q6
    go_enter Try.func3, Try.ntmps3
    go_wp2_with fail
    refine (carries_is (c := 22) rfl _).mono ?_
    rintro e w' ⟨rfl, hw'⟩; obtain rfl := hw'.symm
    go_wp2_with fail
    refine (carries_is (c := 60) rfl _).mono ?_
    rintro e w' ⟨rfl, hw'⟩; obtain rfl := hw'.symm
    go_wp2_with fail
    refine (kind_no _ _ (.inl rfl)).mono ?_
    rintro e w' ⟨rfl, hw'⟩; obtain rfl := hw'.symm
    go_wp2_with fail
    refine (kind_no _ _ (.inr (.inr rfl))).mono ?_
    rintro e w' ⟨rfl, hw'⟩; obtain rfl := hw'.symm
    go_wp2
    go_ret
    exact ⟨rfl, rfl⟩
  have e1 : ((3 : Int) == a1) = false := by simp only [beq_eq_false_iff_ne]; omega
  go_enter Try.func3, Try.ntmps3
  go_wp2_with fail
  refine (carries_is (c := 22) rfl _).mono ?_
  rintro e w' ⟨rfl, hw'⟩; obtain rfl := hw'.symm
  go_wp2_with fail
  refine (carries_is (c := 3) (carries_other q3 q4 q6) _).mono ?_
  rintro e w' ⟨rfl, hw'⟩; obtain rfl := hw'.symm
  go_wp2_with fail
  refine (kind_no _ _ (.inl rfl)).mono ?_
  rintro e w' ⟨rfl, hw'⟩; obtain rfl := hw'.symm
  go_wp2_with fail
  refine (kind_yes _ _ q3 q4 q6).mono ?_
  rintro e w' ⟨rfl, hw'⟩; obtain rfl := hw'.symm
  go_wp2
  go_ret
  exact ⟨rfl, rfl⟩

set_option maxHeartbeats 1000000 in
theorem case_4 (a1 : Int) (w : World) : Calls Try.prog 3 #[.int .i64 4, .int .i64 a1] w fun e w' => e = .returned (.bool true) ∧ w' = w := by
  by_cases q3 : a1 = 3
  · subst q3
    go_enter Try.func3, Try.ntmps3
    go_wp2_with fail
    refine (carries_is (c := 2) rfl _).mono ?_
    rintro e w' ⟨rfl, hw'⟩; obtain rfl := hw'.symm
    go_wp2_with fail
    refine (carries_is (c := 22) rfl _).mono ?_
    rintro e w' ⟨rfl, hw'⟩; obtain rfl := hw'.symm
    go_wp2_with fail
    refine (kind_no _ _ (.inr (.inl rfl))).mono ?_
    rintro e w' ⟨rfl, hw'⟩; obtain rfl := hw'.symm
    go_wp2_with fail
    refine (kind_no _ _ (.inl rfl)).mono ?_
    rintro e w' ⟨rfl, hw'⟩; obtain rfl := hw'.symm
    go_wp2
    go_ret
    exact ⟨rfl, rfl⟩
  by_cases q4 : a1 = 4
  · subst q4
    go_enter Try.func3, Try.ntmps3
    go_wp2_with fail
    refine (carries_is (c := 2) rfl _).mono ?_
    rintro e w' ⟨rfl, hw'⟩; obtain rfl := hw'.symm
    go_wp2_with fail
    refine (carries_is (c := 2) rfl _).mono ?_
    rintro e w' ⟨rfl, hw'⟩; obtain rfl := hw'.symm
    go_wp2_with fail
    refine (kind_no _ _ (.inr (.inl rfl))).mono ?_
    rintro e w' ⟨rfl, hw'⟩; obtain rfl := hw'.symm
    go_wp2_with fail
    refine (kind_no _ _ (.inr (.inl rfl))).mono ?_
    rintro e w' ⟨rfl, hw'⟩; obtain rfl := hw'.symm
    go_wp2
    go_ret
    exact ⟨rfl, rfl⟩
  by_cases q6 : a1 = 6
  · subst q6
    go_enter Try.func3, Try.ntmps3
    go_wp2_with fail
    refine (carries_is (c := 2) rfl _).mono ?_
    rintro e w' ⟨rfl, hw'⟩; obtain rfl := hw'.symm
    go_wp2_with fail
    refine (carries_is (c := 60) rfl _).mono ?_
    rintro e w' ⟨rfl, hw'⟩; obtain rfl := hw'.symm
    go_wp2_with fail
    refine (kind_no _ _ (.inr (.inl rfl))).mono ?_
    rintro e w' ⟨rfl, hw'⟩; obtain rfl := hw'.symm
    go_wp2_with fail
    refine (kind_no _ _ (.inr (.inr rfl))).mono ?_
    rintro e w' ⟨rfl, hw'⟩; obtain rfl := hw'.symm
    go_wp2
    go_ret
    exact ⟨rfl, rfl⟩
  have e1 : ((4 : Int) == a1) = false := by simp only [beq_eq_false_iff_ne]; omega
  go_enter Try.func3, Try.ntmps3
  go_wp2_with fail
  refine (carries_is (c := 2) rfl _).mono ?_
  rintro e w' ⟨rfl, hw'⟩; obtain rfl := hw'.symm
  go_wp2_with fail
  refine (carries_is (c := 3) (carries_other q3 q4 q6) _).mono ?_
  rintro e w' ⟨rfl, hw'⟩; obtain rfl := hw'.symm
  go_wp2_with fail
  refine (kind_no _ _ (.inr (.inl rfl))).mono ?_
  rintro e w' ⟨rfl, hw'⟩; obtain rfl := hw'.symm
  go_wp2_with fail
  refine (kind_yes _ _ q3 q4 q6).mono ?_
  rintro e w' ⟨rfl, hw'⟩; obtain rfl := hw'.symm
  go_wp2
  go_ret
  exact ⟨rfl, rfl⟩

set_option maxHeartbeats 1000000 in
theorem case_6 (a1 : Int) (w : World) : Calls Try.prog 3 #[.int .i64 6, .int .i64 a1] w fun e w' => e = .returned (.bool true) ∧ w' = w := by
  by_cases q3 : a1 = 3
  · subst q3
    go_enter Try.func3, Try.ntmps3
    go_wp2_with fail
    refine (carries_is (c := 60) rfl _).mono ?_
    rintro e w' ⟨rfl, hw'⟩; obtain rfl := hw'.symm
    go_wp2_with fail
    refine (carries_is (c := 22) rfl _).mono ?_
    rintro e w' ⟨rfl, hw'⟩; obtain rfl := hw'.symm
    go_wp2_with fail
    refine (kind_no _ _ (.inr (.inr rfl))).mono ?_
    rintro e w' ⟨rfl, hw'⟩; obtain rfl := hw'.symm
    go_wp2_with fail
    refine (kind_no _ _ (.inl rfl)).mono ?_
    rintro e w' ⟨rfl, hw'⟩; obtain rfl := hw'.symm
    go_wp2
    go_ret
    exact ⟨rfl, rfl⟩
  by_cases q4 : a1 = 4
  · subst q4
    go_enter Try.func3, Try.ntmps3
    go_wp2_with fail
    refine (carries_is (c := 60) rfl _).mono ?_
    rintro e w' ⟨rfl, hw'⟩; obtain rfl := hw'.symm
    go_wp2_with fail
    refine (carries_is (c := 2) rfl _).mono ?_
    rintro e w' ⟨rfl, hw'⟩; obtain rfl := hw'.symm
    go_wp2_with fail
    refine (kind_no _ _ (.inr (.inr rfl))).mono ?_
    rintro e w' ⟨rfl, hw'⟩; obtain rfl := hw'.symm
    go_wp2_with fail
    refine (kind_no _ _ (.inr (.inl rfl))).mono ?_
    rintro e w' ⟨rfl, hw'⟩; obtain rfl := hw'.symm
    go_wp2
    go_ret
    exact ⟨rfl, rfl⟩
  by_cases q6 : a1 = 6
  · subst q6
    go_enter Try.func3, Try.ntmps3
    go_wp2_with fail
    refine (carries_is (c := 60) rfl _).mono ?_
    rintro e w' ⟨rfl, hw'⟩; obtain rfl := hw'.symm
    go_wp2_with fail
    refine (carries_is (c := 60) rfl _).mono ?_
    rintro e w' ⟨rfl, hw'⟩; obtain rfl := hw'.symm
    go_wp2_with fail
    refine (kind_no _ _ (.inr (.inr rfl))).mono ?_
    rintro e w' ⟨rfl, hw'⟩; obtain rfl := hw'.symm
    go_wp2_with fail
    refine (kind_no _ _ (.inr (.inr rfl))).mono ?_
    rintro e w' ⟨rfl, hw'⟩; obtain rfl := hw'.symm
    go_wp2
    go_ret
    exact ⟨rfl, rfl⟩
  have e1 : ((6 : Int) == a1) = false := by simp only [beq_eq_false_iff_ne]; omega
  go_enter Try.func3, Try.ntmps3
  go_wp2_with fail
  refine (carries_is (c := 60) rfl _).mono ?_
  rintro e w' ⟨rfl, hw'⟩; obtain rfl := hw'.symm
  go_wp2_with fail
  refine (carries_is (c := 3) (carries_other q3 q4 q6) _).mono ?_
  rintro e w' ⟨rfl, hw'⟩; obtain rfl := hw'.symm
  go_wp2_with fail
  refine (kind_no _ _ (.inr (.inr rfl))).mono ?_
  rintro e w' ⟨rfl, hw'⟩; obtain rfl := hw'.symm
  go_wp2_with fail
  refine (kind_yes _ _ q3 q4 q6).mono ?_
  rintro e w' ⟨rfl, hw'⟩; obtain rfl := hw'.symm
  go_wp2
  go_ret
  exact ⟨rfl, rfl⟩

set_option maxHeartbeats 1000000 in
theorem case_o (a0 a1 : Int) (w : World) (p3 : a0 ≠ 3) (p4 : a0 ≠ 4) (p6 : a0 ≠ 6) : Calls Try.prog 3 #[.int .i64 a0, .int .i64 a1] w fun e w' => e = .returned (.bool true) ∧ w' = w := by
  by_cases q3 : a1 = 3
  · subst q3
    have e1 : (a0 == 3) = false := by simpa using p3
    go_enter Try.func3, Try.ntmps3
    go_wp2_with fail
    refine (carries_is (c := 3) (carries_other p3 p4 p6) _).mono ?_
    rintro e w' ⟨rfl, hw'⟩; obtain rfl := hw'.symm
    go_wp2_with fail
    refine (carries_is (c := 22) rfl _).mono ?_
    rintro e w' ⟨rfl, hw'⟩; obtain rfl := hw'.symm
    go_wp2_with fail
    refine (kind_yes _ _ p3 p4 p6).mono ?_
    rintro e w' ⟨rfl, hw'⟩; obtain rfl := hw'.symm
    go_wp2_with fail
    refine (kind_no _ _ (.inl rfl)).mono ?_
    rintro e w' ⟨rfl, hw'⟩; obtain rfl := hw'.symm
    go_wp2
    go_ret
    exact ⟨rfl, rfl⟩
  by_cases q4 : a1 = 4
  · subst q4
    have e1 : (a0 == 4) = false := by simpa using p4
    go_enter Try.func3, Try.ntmps3
    go_wp2_with fail
    refine (carries_is (c := 3) (carries_other p3 p4 p6) _).mono ?_
    rintro e w' ⟨rfl, hw'⟩; obtain rfl := hw'.symm
    go_wp2_with fail
    refine (carries_is (c := 2) rfl _).mono ?_
    rintro e w' ⟨rfl, hw'⟩; obtain rfl := hw'.symm
    go_wp2_with fail
    refine (kind_yes _ _ p3 p4 p6).mono ?_
    rintro e w' ⟨rfl, hw'⟩; obtain rfl := hw'.symm
    go_wp2_with fail
    refine (kind_no _ _ (.inr (.inl rfl))).mono ?_
    rintro e w' ⟨rfl, hw'⟩; obtain rfl := hw'.symm
    go_wp2
    go_ret
    exact ⟨rfl, rfl⟩
  by_cases q6 : a1 = 6
  · subst q6
    have e1 : (a0 == 6) = false := by simpa using p6
    go_enter Try.func3, Try.ntmps3
    go_wp2_with fail
    refine (carries_is (c := 3) (carries_other p3 p4 p6) _).mono ?_
    rintro e w' ⟨rfl, hw'⟩; obtain rfl := hw'.symm
    go_wp2_with fail
    refine (carries_is (c := 60) rfl _).mono ?_
    rintro e w' ⟨rfl, hw'⟩; obtain rfl := hw'.symm
    go_wp2_with fail
    refine (kind_yes _ _ p3 p4 p6).mono ?_
    rintro e w' ⟨rfl, hw'⟩; obtain rfl := hw'.symm
    go_wp2_with fail
    refine (kind_no _ _ (.inr (.inr rfl))).mono ?_
    rintro e w' ⟨rfl, hw'⟩; obtain rfl := hw'.symm
    go_wp2
    go_ret
    exact ⟨rfl, rfl⟩
  by_cases hab : a0 = a1
  · subst hab
    have e1 : (a0 == a0) = true := by simp
    go_enter Try.func3, Try.ntmps3
    go_wp2_with fail
    refine (carries_is (c := 3) (carries_other p3 p4 p6) _).mono ?_
    rintro e w' ⟨rfl, hw'⟩; obtain rfl := hw'.symm
    go_wp2_with fail
    refine (carries_is (c := 3) (carries_other q3 q4 q6) _).mono ?_
    rintro e w' ⟨rfl, hw'⟩; obtain rfl := hw'.symm
    go_wp2_with fail
    refine (kind_yes _ _ p3 p4 p6).mono ?_
    rintro e w' ⟨rfl, hw'⟩; obtain rfl := hw'.symm
    go_wp2_with fail
    refine (kind_yes _ _ q3 q4 q6).mono ?_
    rintro e w' ⟨rfl, hw'⟩; obtain rfl := hw'.symm
    go_wp2
    go_ret
    exact ⟨rfl, rfl⟩
  have e1 : (a0 == a1) = false := by simpa using hab
  go_enter Try.func3, Try.ntmps3
  go_wp2_with fail
  refine (carries_is (c := 3) (carries_other p3 p4 p6) _).mono ?_
  rintro e w' ⟨rfl, hw'⟩; obtain rfl := hw'.symm
  go_wp2_with fail
  refine (carries_is (c := 3) (carries_other q3 q4 q6) _).mono ?_
  rintro e w' ⟨rfl, hw'⟩; obtain rfl := hw'.symm
  go_wp2_with fail
  refine (kind_yes _ _ p3 p4 p6).mono ?_
  rintro e w' ⟨rfl, hw'⟩; obtain rfl := hw'.symm
  go_wp2_with fail
  refine (kind_yes _ _ q3 q4 q6).mono ?_
  rintro e w' ⟨rfl, hw'⟩; obtain rfl := hw'.symm
  go_wp2
  go_ret
  exact ⟨rfl, rfl⟩

/-- The second law: which kinds share a set. -/
theorem walk3 (a0 a1 : Int) (w : World) : Calls Try.prog 3 #[.int .i64 a0, .int .i64 a1] w fun e w' => e = .returned (.bool true) ∧ w' = w := by
  by_cases h3 : a0 = 3
  · subst h3
    exact case_3 a1 w
  by_cases h4 : a0 = 4
  · subst h4
    exact case_4 a1 w
  by_cases h6 : a0 = 6
  · subst h6
    exact case_6 a1 w
  exact case_o a0 a1 w h3 h4 h6

theorem law3 (a0 : Int) (a1 : Int) (_w0 : (Lit.int .i64 a0).wf = true) (_w1 : (Lit.int .i64 a1).wf = true) (w : World) :
    Calls Try.prog 3 #[.int .i64 a0, .int .i64 a1] w fun e w' => e = .returned (.bool true) ∧ Grown w w' := by
  refine (walk3 a0 a1 w).mono ?_
  rintro e w' ⟨rfl, rfl⟩
  exact ⟨rfl, Grown.refl _⟩
theorem law4 (a0 : Int) (_w0 : (Lit.int .i64 a0).wf = true) (w : World) :
    Calls Try.prog 4 #[.int .i64 a0] w fun e w' => e = .returned (.bool true) ∧ Grown w w' := by
  refine (walk4 a0 w).mono ?_
  rintro e w' ⟨rfl, rfl⟩
  exact ⟨rfl, Grown.refl _⟩

end Go.Proofs.Qxb6628886a
