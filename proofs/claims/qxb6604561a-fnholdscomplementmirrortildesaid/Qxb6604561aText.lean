import Derived.Test.Qxb6604561aHas
namespace Go.Proofs.Qxb6604561a
open Go.RowKit

/-- A string whose bytes are l. -/
theorem str_of {s : ByteArray} {l : List UInt8} (h : s.toList = l) : s = ⟨l.toArray⟩ := by
  subst h
  obtain ⟨d⟩ := s
  rw [ByteArray.toList_eq]

/-- The order is below, at or above nought: each test's answer. -/
theorem signs (o : Int) : (decide (o < 0) = true ∧ (o == 0) = false ∧ decide (0 < o) = false ∧ decide (o ≤ 0) = true ∧ decide (0 ≤ o) = false) ∨
    (decide (o < 0) = false ∧ (o == 0) = true ∧ decide (0 < o) = false ∧ decide (o ≤ 0) = true ∧ decide (0 ≤ o) = true) ∨
    (decide (o < 0) = false ∧ (o == 0) = false ∧ decide (0 < o) = true ∧ decide (o ≤ 0) = false ∧ decide (0 ≤ o) = true) := by
  simp only [decide_eq_true_iff, decide_eq_false_iff_not, beq_iff_eq, beq_eq_false_iff_ne]; omega

set_option maxRecDepth 100000 in
theorem op0 (o : Int) (w : World) : Calls Try.prog 3 #[.string ⟨#[61, 61]⟩, .int .i64 o] w fun e w' => e = .returned (.bool true) ∧ w' = w := by
  have h1 : hb [61, 61] 60 = false := rfl
  have h2 : hb [61, 61] 62 = false := rfl
  have h3 : hb [61, 61] 33 = false := rfl
  rcases signs o with ⟨o1, o2, o3, o4, o5⟩ | ⟨o1, o2, o3, o4, o5⟩ | ⟨o1, o2, o3, o4, o5⟩
  all_goals
    go_enter Try.func3, Try.ntmps3
    go_wp2_with (first | (go_at_call 8; refine (hasByte_any _ _ _ (by decide)).mono ?_; rintro e w' ⟨rfl, rfl⟩) | go_in)
    go_ret
    exact ⟨rfl, rfl⟩

set_option maxRecDepth 100000 in
theorem op1 (o : Int) (w : World) : Calls Try.prog 3 #[.string ⟨#[33, 61]⟩, .int .i64 o] w fun e w' => e = .returned (.bool true) ∧ w' = w := by
  have h1 : hb [33, 61] 60 = false := rfl
  have h2 : hb [33, 61] 62 = false := rfl
  have h3 : hb [33, 61] 33 = true := rfl
  rcases signs o with ⟨o1, o2, o3, o4, o5⟩ | ⟨o1, o2, o3, o4, o5⟩ | ⟨o1, o2, o3, o4, o5⟩
  all_goals
    go_enter Try.func3, Try.ntmps3
    go_wp2_with (first | (go_at_call 8; refine (hasByte_any _ _ _ (by decide)).mono ?_; rintro e w' ⟨rfl, rfl⟩) | go_in)
    go_ret
    exact ⟨rfl, rfl⟩

set_option maxRecDepth 100000 in
theorem op2 (o : Int) (w : World) : Calls Try.prog 3 #[.string ⟨#[60]⟩, .int .i64 o] w fun e w' => e = .returned (.bool true) ∧ w' = w := by
  have h1 : hb [60] 60 = true := rfl
  have h2 : hb [60] 62 = false := rfl
  have h3 : hb [60] 33 = false := rfl
  rcases signs o with ⟨o1, o2, o3, o4, o5⟩ | ⟨o1, o2, o3, o4, o5⟩ | ⟨o1, o2, o3, o4, o5⟩
  all_goals
    go_enter Try.func3, Try.ntmps3
    go_wp2_with (first | (go_at_call 8; refine (hasByte_any _ _ _ (by decide)).mono ?_; rintro e w' ⟨rfl, rfl⟩) | go_in)
    go_ret
    exact ⟨rfl, rfl⟩

set_option maxRecDepth 100000 in
theorem op3 (o : Int) (w : World) : Calls Try.prog 3 #[.string ⟨#[60, 61]⟩, .int .i64 o] w fun e w' => e = .returned (.bool true) ∧ w' = w := by
  have h1 : hb [60, 61] 60 = true := rfl
  have h2 : hb [60, 61] 62 = false := rfl
  have h3 : hb [60, 61] 33 = false := rfl
  rcases signs o with ⟨o1, o2, o3, o4, o5⟩ | ⟨o1, o2, o3, o4, o5⟩ | ⟨o1, o2, o3, o4, o5⟩
  all_goals
    go_enter Try.func3, Try.ntmps3
    go_wp2_with (first | (go_at_call 8; refine (hasByte_any _ _ _ (by decide)).mono ?_; rintro e w' ⟨rfl, rfl⟩) | go_in)
    go_ret
    exact ⟨rfl, rfl⟩

set_option maxRecDepth 100000 in
theorem op4 (o : Int) (w : World) : Calls Try.prog 3 #[.string ⟨#[62]⟩, .int .i64 o] w fun e w' => e = .returned (.bool true) ∧ w' = w := by
  have h1 : hb [62] 60 = false := rfl
  have h2 : hb [62] 62 = true := rfl
  have h3 : hb [62] 33 = false := rfl
  rcases signs o with ⟨o1, o2, o3, o4, o5⟩ | ⟨o1, o2, o3, o4, o5⟩ | ⟨o1, o2, o3, o4, o5⟩
  all_goals
    go_enter Try.func3, Try.ntmps3
    go_wp2_with (first | (go_at_call 8; refine (hasByte_any _ _ _ (by decide)).mono ?_; rintro e w' ⟨rfl, rfl⟩) | go_in)
    go_ret
    exact ⟨rfl, rfl⟩

set_option maxRecDepth 100000 in
theorem op5 (o : Int) (w : World) : Calls Try.prog 3 #[.string ⟨#[62, 61]⟩, .int .i64 o] w fun e w' => e = .returned (.bool true) ∧ w' = w := by
  have h1 : hb [62, 61] 60 = false := rfl
  have h2 : hb [62, 61] 62 = true := rfl
  have h3 : hb [62, 61] 33 = false := rfl
  rcases signs o with ⟨o1, o2, o3, o4, o5⟩ | ⟨o1, o2, o3, o4, o5⟩ | ⟨o1, o2, o3, o4, o5⟩
  all_goals
    go_enter Try.func3, Try.ntmps3
    go_wp2_with (first | (go_at_call 8; refine (hasByte_any _ _ _ (by decide)).mono ?_; rintro e w' ⟨rfl, rfl⟩) | go_in)
    go_ret
    exact ⟨rfl, rfl⟩

set_option maxRecDepth 100000 in
theorem op6 (o : Int) (w : World) : Calls Try.prog 3 #[.string ⟨#[126, 61]⟩, .int .i64 o] w fun e w' => e = .returned (.bool true) ∧ w' = w := by
  have h1 : hb [126, 61] 60 = false := rfl
  have h2 : hb [126, 61] 62 = false := rfl
  have h3 : hb [126, 61] 33 = false := rfl
  rcases signs o with ⟨o1, o2, o3, o4, o5⟩ | ⟨o1, o2, o3, o4, o5⟩ | ⟨o1, o2, o3, o4, o5⟩
  all_goals
    go_enter Try.func3, Try.ntmps3
    go_wp2_with (first | (go_at_call 8; refine (hasByte_any _ _ _ (by decide)).mono ?_; rintro e w' ⟨rfl, rfl⟩) | go_in)
    go_ret
    exact ⟨rfl, rfl⟩

set_option maxRecDepth 100000 in
theorem op7 (o : Int) (w : World) : Calls Try.prog 3 #[.string ⟨#[126, 33, 61]⟩, .int .i64 o] w fun e w' => e = .returned (.bool true) ∧ w' = w := by
  have h1 : hb [126, 33, 61] 60 = false := rfl
  have h2 : hb [126, 33, 61] 62 = false := rfl
  have h3 : hb [126, 33, 61] 33 = true := rfl
  rcases signs o with ⟨o1, o2, o3, o4, o5⟩ | ⟨o1, o2, o3, o4, o5⟩ | ⟨o1, o2, o3, o4, o5⟩
  all_goals
    go_enter Try.func3, Try.ntmps3
    go_wp2_with (first | (go_at_call 8; refine (hasByte_any _ _ _ (by decide)).mono ?_; rintro e w' ⟨rfl, rfl⟩) | go_in)
    go_ret
    exact ⟨rfl, rfl⟩

set_option maxRecDepth 100000 in
theorem op8 (o : Int) (w : World) : Calls Try.prog 3 #[.string ⟨#[126, 60]⟩, .int .i64 o] w fun e w' => e = .returned (.bool true) ∧ w' = w := by
  have h1 : hb [126, 60] 60 = true := rfl
  have h2 : hb [126, 60] 62 = false := rfl
  have h3 : hb [126, 60] 33 = false := rfl
  rcases signs o with ⟨o1, o2, o3, o4, o5⟩ | ⟨o1, o2, o3, o4, o5⟩ | ⟨o1, o2, o3, o4, o5⟩
  all_goals
    go_enter Try.func3, Try.ntmps3
    go_wp2_with (first | (go_at_call 8; refine (hasByte_any _ _ _ (by decide)).mono ?_; rintro e w' ⟨rfl, rfl⟩) | go_in)
    go_ret
    exact ⟨rfl, rfl⟩

set_option maxRecDepth 100000 in
theorem op9 (o : Int) (w : World) : Calls Try.prog 3 #[.string ⟨#[126, 60, 61]⟩, .int .i64 o] w fun e w' => e = .returned (.bool true) ∧ w' = w := by
  have h1 : hb [126, 60, 61] 60 = true := rfl
  have h2 : hb [126, 60, 61] 62 = false := rfl
  have h3 : hb [126, 60, 61] 33 = false := rfl
  rcases signs o with ⟨o1, o2, o3, o4, o5⟩ | ⟨o1, o2, o3, o4, o5⟩ | ⟨o1, o2, o3, o4, o5⟩
  all_goals
    go_enter Try.func3, Try.ntmps3
    go_wp2_with (first | (go_at_call 8; refine (hasByte_any _ _ _ (by decide)).mono ?_; rintro e w' ⟨rfl, rfl⟩) | go_in)
    go_ret
    exact ⟨rfl, rfl⟩

set_option maxRecDepth 100000 in
theorem op10 (o : Int) (w : World) : Calls Try.prog 3 #[.string ⟨#[126, 62]⟩, .int .i64 o] w fun e w' => e = .returned (.bool true) ∧ w' = w := by
  have h1 : hb [126, 62] 60 = false := rfl
  have h2 : hb [126, 62] 62 = true := rfl
  have h3 : hb [126, 62] 33 = false := rfl
  rcases signs o with ⟨o1, o2, o3, o4, o5⟩ | ⟨o1, o2, o3, o4, o5⟩ | ⟨o1, o2, o3, o4, o5⟩
  all_goals
    go_enter Try.func3, Try.ntmps3
    go_wp2_with (first | (go_at_call 8; refine (hasByte_any _ _ _ (by decide)).mono ?_; rintro e w' ⟨rfl, rfl⟩) | go_in)
    go_ret
    exact ⟨rfl, rfl⟩

set_option maxRecDepth 100000 in
theorem op11 (o : Int) (w : World) : Calls Try.prog 3 #[.string ⟨#[126, 62, 61]⟩, .int .i64 o] w fun e w' => e = .returned (.bool true) ∧ w' = w := by
  have h1 : hb [126, 62, 61] 60 = false := rfl
  have h2 : hb [126, 62, 61] 62 = true := rfl
  have h3 : hb [126, 62, 61] 33 = false := rfl
  rcases signs o with ⟨o1, o2, o3, o4, o5⟩ | ⟨o1, o2, o3, o4, o5⟩ | ⟨o1, o2, o3, o4, o5⟩
  all_goals
    go_enter Try.func3, Try.ntmps3
    go_wp2_with (first | (go_at_call 8; refine (hasByte_any _ _ _ (by decide)).mono ?_; rintro e w' ⟨rfl, rfl⟩) | go_in)
    go_ret
    exact ⟨rfl, rfl⟩

set_option maxRecDepth 100000 in
theorem opNo (s : ByteArray) (o : Int) (w : World) (hs : s.size ≤ 1048576) (n0 : (s.toList == [61, 61]) = false) (n1 : (s.toList == [33, 61]) = false) (n2 : (s.toList == [60]) = false) (n3 : (s.toList == [60, 61]) = false) (n4 : (s.toList == [62]) = false) (n5 : (s.toList == [62, 61]) = false) (n6 : (s.toList == [126, 61]) = false) (n7 : (s.toList == [126, 33, 61]) = false) (n8 : (s.toList == [126, 60]) = false) (n9 : (s.toList == [126, 60, 61]) = false) (n10 : (s.toList == [126, 62]) = false) (n11 : (s.toList == [126, 62, 61]) = false) :
    Calls Try.prog 3 #[.string s, .int .i64 o] w fun e w' => e = .returned (.bool true) ∧ w' = w := by
  have d1 : decide ((1048576 : Int) < (s.size : Int)) = false := by simp; omega
  go_enter Try.func3, Try.ntmps3
  go_wp2
  go_ret
  exact ⟨rfl, rfl⟩

theorem opAll (s : ByteArray) (o : Int) (w : World) (hs : s.size ≤ 1048576) :
    Calls Try.prog 3 #[.string s, .int .i64 o] w fun e w' => e = .returned (.bool true) ∧ w' = w := by
  by_cases n0 : s.toList = [61, 61]
  · rw [str_of n0]; exact op0 o w
  by_cases n1 : s.toList = [33, 61]
  · rw [str_of n1]; exact op1 o w
  by_cases n2 : s.toList = [60]
  · rw [str_of n2]; exact op2 o w
  by_cases n3 : s.toList = [60, 61]
  · rw [str_of n3]; exact op3 o w
  by_cases n4 : s.toList = [62]
  · rw [str_of n4]; exact op4 o w
  by_cases n5 : s.toList = [62, 61]
  · rw [str_of n5]; exact op5 o w
  by_cases n6 : s.toList = [126, 61]
  · rw [str_of n6]; exact op6 o w
  by_cases n7 : s.toList = [126, 33, 61]
  · rw [str_of n7]; exact op7 o w
  by_cases n8 : s.toList = [126, 60]
  · rw [str_of n8]; exact op8 o w
  by_cases n9 : s.toList = [126, 60, 61]
  · rw [str_of n9]; exact op9 o w
  by_cases n10 : s.toList = [126, 62]
  · rw [str_of n10]; exact op10 o w
  by_cases n11 : s.toList = [126, 62, 61]
  · rw [str_of n11]; exact op11 o w
  exact opNo s o w hs (beq_eq_false_iff_ne.2 n0) (beq_eq_false_iff_ne.2 n1) (beq_eq_false_iff_ne.2 n2) (beq_eq_false_iff_ne.2 n3) (beq_eq_false_iff_ne.2 n4) (beq_eq_false_iff_ne.2 n5) (beq_eq_false_iff_ne.2 n6) (beq_eq_false_iff_ne.2 n7) (beq_eq_false_iff_ne.2 n8) (beq_eq_false_iff_ne.2 n9) (beq_eq_false_iff_ne.2 n10) (beq_eq_false_iff_ne.2 n11)
end Go.Proofs.Qxb6604561a
