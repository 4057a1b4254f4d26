import Derived.Test.Qxb6604561aTwins
namespace Go.Proofs.Qxb6604561a
open Go.RowKit

set_option maxRecDepth 100000 in
theorem cmt0n (o : Int) (w : World) (h : o < 0) : Calls Try.prog 4 #[.string ⟨#[61, 61]⟩, .int .i64 o] w fun e w' => e = .returned (.bool true) ∧ w' = w := by
  have o1 : decide (o < 0) = true := by simp; omega
  have o2 : (o == 0) = false := by simp; omega
  have o6 : (o != 0) = true := by simp; omega
  have o3 : decide (0 < o) = false := by simp; omega
  have o4 : decide (o ≤ 0) = true := by simp; omega
  have o5 : decide (0 ≤ o) = false := by simp; omega
  go_enter Try.func4, Try.ntmps4
  go_wp2_with (first | (go_at_call 9; go_in) | (go_at_call 7; go_in))
  refine (z0n o _ h).mono ?_
  rintro e w' ⟨rfl, rfl⟩
  go_wp2_with fail
  refine (c0 _).mono ?_
  rintro e w' ⟨rfl, rfl⟩
  go_wp2_with fail
  refine (z1n o _ h).mono ?_
  rintro e w' ⟨rfl, rfl⟩
  go_wp2_with fail
  refine (m0 _).mono ?_
  rintro e w' ⟨rfl, rfl⟩
  go_wp2_with fail
  refine (z0p 1 _ (by decide)).mono ?_
  rintro e w' ⟨rfl, rfl⟩
  go_wp2_with fail
  refine (t0 _).mono ?_
  rintro e w' ⟨rfl, rfl⟩
  go_wp2_with fail
  refine (z6n o _ h).mono ?_
  rintro e w' ⟨rfl, rfl⟩
  go_wp2_with fail
  go_ret
  exact ⟨rfl, rfl⟩

set_option maxRecDepth 100000 in
theorem cmt0z (o : Int) (w : World) (h : o = 0) : Calls Try.prog 4 #[.string ⟨#[61, 61]⟩, .int .i64 o] w fun e w' => e = .returned (.bool true) ∧ w' = w := by
  subst h
  go_enter Try.func4, Try.ntmps4
  go_wp2_with (first | (go_at_call 9; go_in) | (go_at_call 7; go_in))
  refine (z0z 0 _ rfl).mono ?_
  rintro e w' ⟨rfl, rfl⟩
  go_wp2_with fail
  refine (c0 _).mono ?_
  rintro e w' ⟨rfl, rfl⟩
  go_wp2_with fail
  refine (z1z 0 _ rfl).mono ?_
  rintro e w' ⟨rfl, rfl⟩
  go_wp2_with fail
  refine (m0 _).mono ?_
  rintro e w' ⟨rfl, rfl⟩
  go_wp2_with fail
  refine (z0z 0 _ rfl).mono ?_
  rintro e w' ⟨rfl, rfl⟩
  go_wp2_with fail
  refine (t0 _).mono ?_
  rintro e w' ⟨rfl, rfl⟩
  go_wp2_with fail
  refine (z6z 0 _ rfl).mono ?_
  rintro e w' ⟨rfl, rfl⟩
  go_wp2_with fail
  go_ret
  exact ⟨rfl, rfl⟩

set_option maxRecDepth 100000 in
theorem cmt0p (o : Int) (w : World) (h : 0 < o) : Calls Try.prog 4 #[.string ⟨#[61, 61]⟩, .int .i64 o] w fun e w' => e = .returned (.bool true) ∧ w' = w := by
  have o1 : decide (o < 0) = false := by simp; omega
  have o2 : (o == 0) = false := by simp; omega
  have o6 : (o != 0) = true := by simp; omega
  have o3 : decide (0 < o) = true := by simp; omega
  have o4 : decide (o ≤ 0) = false := by simp; omega
  have o5 : decide (0 ≤ o) = true := by simp; omega
  go_enter Try.func4, Try.ntmps4
  go_wp2_with (first | (go_at_call 9; go_in) | (go_at_call 7; go_in))
  refine (z0p o _ h).mono ?_
  rintro e w' ⟨rfl, rfl⟩
  go_wp2_with fail
  refine (c0 _).mono ?_
  rintro e w' ⟨rfl, rfl⟩
  go_wp2_with fail
  refine (z1p o _ h).mono ?_
  rintro e w' ⟨rfl, rfl⟩
  go_wp2_with fail
  refine (m0 _).mono ?_
  rintro e w' ⟨rfl, rfl⟩
  go_wp2_with fail
  refine (z0n (-1) _ (by decide)).mono ?_
  rintro e w' ⟨rfl, rfl⟩
  go_wp2_with fail
  refine (t0 _).mono ?_
  rintro e w' ⟨rfl, rfl⟩
  go_wp2_with fail
  refine (z6p o _ h).mono ?_
  rintro e w' ⟨rfl, rfl⟩
  go_wp2_with fail
  go_ret
  exact ⟨rfl, rfl⟩

set_option maxRecDepth 100000 in
theorem cmt1n (o : Int) (w : World) (h : o < 0) : Calls Try.prog 4 #[.string ⟨#[33, 61]⟩, .int .i64 o] w fun e w' => e = .returned (.bool true) ∧ w' = w := by
  have o1 : decide (o < 0) = true := by simp; omega
  have o2 : (o == 0) = false := by simp; omega
  have o6 : (o != 0) = true := by simp; omega
  have o3 : decide (0 < o) = false := by simp; omega
  have o4 : decide (o ≤ 0) = true := by simp; omega
  have o5 : decide (0 ≤ o) = false := by simp; omega
  go_enter Try.func4, Try.ntmps4
  go_wp2_with (first | (go_at_call 9; go_in) | (go_at_call 7; go_in))
  refine (z1n o _ h).mono ?_
  rintro e w' ⟨rfl, rfl⟩
  go_wp2_with fail
  refine (c1 _).mono ?_
  rintro e w' ⟨rfl, rfl⟩
  go_wp2_with fail
  refine (z0n o _ h).mono ?_
  rintro e w' ⟨rfl, rfl⟩
  go_wp2_with fail
  refine (m1 _).mono ?_
  rintro e w' ⟨rfl, rfl⟩
  go_wp2_with fail
  refine (z1p 1 _ (by decide)).mono ?_
  rintro e w' ⟨rfl, rfl⟩
  go_wp2_with fail
  refine (t1 _).mono ?_
  rintro e w' ⟨rfl, rfl⟩
  go_wp2_with fail
  refine (z7n o _ h).mono ?_
  rintro e w' ⟨rfl, rfl⟩
  go_wp2_with fail
  go_ret
  exact ⟨rfl, rfl⟩

set_option maxRecDepth 100000 in
theorem cmt1z (o : Int) (w : World) (h : o = 0) : Calls Try.prog 4 #[.string ⟨#[33, 61]⟩, .int .i64 o] w fun e w' => e = .returned (.bool true) ∧ w' = w := by
  subst h
  go_enter Try.func4, Try.ntmps4
  go_wp2_with (first | (go_at_call 9; go_in) | (go_at_call 7; go_in))
  refine (z1z 0 _ rfl).mono ?_
  rintro e w' ⟨rfl, rfl⟩
  go_wp2_with fail
  refine (c1 _).mono ?_
  rintro e w' ⟨rfl, rfl⟩
  go_wp2_with fail
  refine (z0z 0 _ rfl).mono ?_
  rintro e w' ⟨rfl, rfl⟩
  go_wp2_with fail
  refine (m1 _).mono ?_
  rintro e w' ⟨rfl, rfl⟩
  go_wp2_with fail
  refine (z1z 0 _ rfl).mono ?_
  rintro e w' ⟨rfl, rfl⟩
  go_wp2_with fail
  refine (t1 _).mono ?_
  rintro e w' ⟨rfl, rfl⟩
  go_wp2_with fail
  refine (z7z 0 _ rfl).mono ?_
  rintro e w' ⟨rfl, rfl⟩
  go_wp2_with fail
  go_ret
  exact ⟨rfl, rfl⟩

set_option maxRecDepth 100000 in
theorem cmt1p (o : Int) (w : World) (h : 0 < o) : Calls Try.prog 4 #[.string ⟨#[33, 61]⟩, .int .i64 o] w fun e w' => e = .returned (.bool true) ∧ w' = w := by
  have o1 : decide (o < 0) = false := by simp; omega
  have o2 : (o == 0) = false := by simp; omega
  have o6 : (o != 0) = true := by simp; omega
  have o3 : decide (0 < o) = true := by simp; omega
  have o4 : decide (o ≤ 0) = false := by simp; omega
  have o5 : decide (0 ≤ o) = true := by simp; omega
  go_enter Try.func4, Try.ntmps4
  go_wp2_with (first | (go_at_call 9; go_in) | (go_at_call 7; go_in))
  refine (z1p o _ h).mono ?_
  rintro e w' ⟨rfl, rfl⟩
  go_wp2_with fail
  refine (c1 _).mono ?_
  rintro e w' ⟨rfl, rfl⟩
  go_wp2_with fail
  refine (z0p o _ h).mono ?_
  rintro e w' ⟨rfl, rfl⟩
  go_wp2_with fail
  refine (m1 _).mono ?_
  rintro e w' ⟨rfl, rfl⟩
  go_wp2_with fail
  refine (z1n (-1) _ (by decide)).mono ?_
  rintro e w' ⟨rfl, rfl⟩
  go_wp2_with fail
  refine (t1 _).mono ?_
  rintro e w' ⟨rfl, rfl⟩
  go_wp2_with fail
  refine (z7p o _ h).mono ?_
  rintro e w' ⟨rfl, rfl⟩
  go_wp2_with fail
  go_ret
  exact ⟨rfl, rfl⟩

set_option maxRecDepth 100000 in
theorem cmt2n (o : Int) (w : World) (h : o < 0) : Calls Try.prog 4 #[.string ⟨#[60]⟩, .int .i64 o] w fun e w' => e = .returned (.bool true) ∧ w' = w := by
  have o1 : decide (o < 0) = true := by simp; omega
  have o2 : (o == 0) = false := by simp; omega
  have o6 : (o != 0) = true := by simp; omega
  have o3 : decide (0 < o) = false := by simp; omega
  have o4 : decide (o ≤ 0) = true := by simp; omega
  have o5 : decide (0 ≤ o) = false := by simp; omega
  go_enter Try.func4, Try.ntmps4
  go_wp2_with (first | (go_at_call 9; go_in) | (go_at_call 7; go_in))
  refine (z2n o _ h).mono ?_
  rintro e w' ⟨rfl, rfl⟩
  go_wp2_with fail
  refine (c2 _).mono ?_
  rintro e w' ⟨rfl, rfl⟩
  go_wp2_with fail
  refine (z5n o _ h).mono ?_
  rintro e w' ⟨rfl, rfl⟩
  go_wp2_with fail
  refine (m2 _).mono ?_
  rintro e w' ⟨rfl, rfl⟩
  go_wp2_with fail
  refine (z4p 1 _ (by decide)).mono ?_
  rintro e w' ⟨rfl, rfl⟩
  go_wp2_with fail
  refine (t2 _).mono ?_
  rintro e w' ⟨rfl, rfl⟩
  go_wp2_with fail
  refine (z8n o _ h).mono ?_
  rintro e w' ⟨rfl, rfl⟩
  go_wp2_with fail
  go_ret
  exact ⟨rfl, rfl⟩

set_option maxRecDepth 100000 in
theorem cmt2z (o : Int) (w : World) (h : o = 0) : Calls Try.prog 4 #[.string ⟨#[60]⟩, .int .i64 o] w fun e w' => e = .returned (.bool true) ∧ w' = w := by
  subst h
  go_enter Try.func4, Try.ntmps4
  go_wp2_with (first | (go_at_call 9; go_in) | (go_at_call 7; go_in))
  refine (z2z 0 _ rfl).mono ?_
  rintro e w' ⟨rfl, rfl⟩
  go_wp2_with fail
  refine (c2 _).mono ?_
  rintro e w' ⟨rfl, rfl⟩
  go_wp2_with fail
  refine (z5z 0 _ rfl).mono ?_
  rintro e w' ⟨rfl, rfl⟩
  go_wp2_with fail
  refine (m2 _).mono ?_
  rintro e w' ⟨rfl, rfl⟩
  go_wp2_with fail
  refine (z4z 0 _ rfl).mono ?_
  rintro e w' ⟨rfl, rfl⟩
  go_wp2_with fail
  refine (t2 _).mono ?_
  rintro e w' ⟨rfl, rfl⟩
  go_wp2_with fail
  refine (z8z 0 _ rfl).mono ?_
  rintro e w' ⟨rfl, rfl⟩
  go_wp2_with fail
  go_ret
  exact ⟨rfl, rfl⟩

set_option maxRecDepth 100000 in
theorem cmt2p (o : Int) (w : World) (h : 0 < o) : Calls Try.prog 4 #[.string ⟨#[60]⟩, .int .i64 o] w fun e w' => e = .returned (.bool true) ∧ w' = w := by
  have o1 : decide (o < 0) = false := by simp; omega
  have o2 : (o == 0) = false := by simp; omega
  have o6 : (o != 0) = true := by simp; omega
  have o3 : decide (0 < o) = true := by simp; omega
  have o4 : decide (o ≤ 0) = false := by simp; omega
  have o5 : decide (0 ≤ o) = true := by simp; omega
  go_enter Try.func4, Try.ntmps4
  go_wp2_with (first | (go_at_call 9; go_in) | (go_at_call 7; go_in))
  refine (z2p o _ h).mono ?_
  rintro e w' ⟨rfl, rfl⟩
  go_wp2_with fail
  refine (c2 _).mono ?_
  rintro e w' ⟨rfl, rfl⟩
  go_wp2_with fail
  refine (z5p o _ h).mono ?_
  rintro e w' ⟨rfl, rfl⟩
  go_wp2_with fail
  refine (m2 _).mono ?_
  rintro e w' ⟨rfl, rfl⟩
  go_wp2_with fail
  refine (z4n (-1) _ (by decide)).mono ?_
  rintro e w' ⟨rfl, rfl⟩
  go_wp2_with fail
  refine (t2 _).mono ?_
  rintro e w' ⟨rfl, rfl⟩
  go_wp2_with fail
  refine (z8p o _ h).mono ?_
  rintro e w' ⟨rfl, rfl⟩
  go_wp2_with fail
  go_ret
  exact ⟨rfl, rfl⟩

set_option maxRecDepth 100000 in
theorem cmt3n (o : Int) (w : World) (h : o < 0) : Calls Try.prog 4 #[.string ⟨#[60, 61]⟩, .int .i64 o] w fun e w' => e = .returned (.bool true) ∧ w' = w := by
  have o1 : decide (o < 0) = true := by simp; omega
  have o2 : (o == 0) = false := by simp; omega
  have o6 : (o != 0) = true := by simp; omega
  have o3 : decide (0 < o) = false := by simp; omega
  have o4 : decide (o ≤ 0) = true := by simp; omega
  have o5 : decide (0 ≤ o) = false := by simp; omega
  go_enter Try.func4, Try.ntmps4
  go_wp2_with (first | (go_at_call 9; go_in) | (go_at_call 7; go_in))
  refine (z3n o _ h).mono ?_
  rintro e w' ⟨rfl, rfl⟩
  go_wp2_with fail
  refine (c3 _).mono ?_
  rintro e w' ⟨rfl, rfl⟩
  go_wp2_with fail
  refine (z4n o _ h).mono ?_
  rintro e w' ⟨rfl, rfl⟩
  go_wp2_with fail
  refine (m3 _).mono ?_
  rintro e w' ⟨rfl, rfl⟩
  go_wp2_with fail
  refine (z5p 1 _ (by decide)).mono ?_
  rintro e w' ⟨rfl, rfl⟩
  go_wp2_with fail
  refine (t3 _).mono ?_
  rintro e w' ⟨rfl, rfl⟩
  go_wp2_with fail
  refine (z9n o _ h).mono ?_
  rintro e w' ⟨rfl, rfl⟩
  go_wp2_with fail
  go_ret
  exact ⟨rfl, rfl⟩

set_option maxRecDepth 100000 in
theorem cmt3z (o : Int) (w : World) (h : o = 0) : Calls Try.prog 4 #[.string ⟨#[60, 61]⟩, .int .i64 o] w fun e w' => e = .returned (.bool true) ∧ w' = w := by
  subst h
  go_enter Try.func4, Try.ntmps4
  go_wp2_with (first | (go_at_call 9; go_in) | (go_at_call 7; go_in))
  refine (z3z 0 _ rfl).mono ?_
  rintro e w' ⟨rfl, rfl⟩
  go_wp2_with fail
  refine (c3 _).mono ?_
  rintro e w' ⟨rfl, rfl⟩
  go_wp2_with fail
  refine (z4z 0 _ rfl).mono ?_
  rintro e w' ⟨rfl, rfl⟩
  go_wp2_with fail
  refine (m3 _).mono ?_
  rintro e w' ⟨rfl, rfl⟩
  go_wp2_with fail
  refine (z5z 0 _ rfl).mono ?_
  rintro e w' ⟨rfl, rfl⟩
  go_wp2_with fail
  refine (t3 _).mono ?_
  rintro e w' ⟨rfl, rfl⟩
  go_wp2_with fail
  refine (z9z 0 _ rfl).mono ?_
  rintro e w' ⟨rfl, rfl⟩
  go_wp2_with fail
  go_ret
  exact ⟨rfl, rfl⟩

set_option maxRecDepth 100000 in
theorem cmt3p (o : Int) (w : World) (h : 0 < o) : Calls Try.prog 4 #[.string ⟨#[60, 61]⟩, .int .i64 o] w fun e w' => e = .returned (.bool true) ∧ w' = w := by
  have o1 : decide (o < 0) = false := by simp; omega
  have o2 : (o == 0) = false := by simp; omega
  have o6 : (o != 0) = true := by simp; omega
  have o3 : decide (0 < o) = true := by simp; omega
  have o4 : decide (o ≤ 0) = false := by simp; omega
  have o5 : decide (0 ≤ o) = true := by simp; omega
  go_enter Try.func4, Try.ntmps4
  go_wp2_with (first | (go_at_call 9; go_in) | (go_at_call 7; go_in))
  refine (z3p o _ h).mono ?_
  rintro e w' ⟨rfl, rfl⟩
  go_wp2_with fail
  refine (c3 _).mono ?_
  rintro e w' ⟨rfl, rfl⟩
  go_wp2_with fail
  refine (z4p o _ h).mono ?_
  rintro e w' ⟨rfl, rfl⟩
  go_wp2_with fail
  refine (m3 _).mono ?_
  rintro e w' ⟨rfl, rfl⟩
  go_wp2_with fail
  refine (z5n (-1) _ (by decide)).mono ?_
  rintro e w' ⟨rfl, rfl⟩
  go_wp2_with fail
  refine (t3 _).mono ?_
  rintro e w' ⟨rfl, rfl⟩
  go_wp2_with fail
  refine (z9p o _ h).mono ?_
  rintro e w' ⟨rfl, rfl⟩
  go_wp2_with fail
  go_ret
  exact ⟨rfl, rfl⟩

set_option maxRecDepth 100000 in
theorem cmt4n (o : Int) (w : World) (h : o < 0) : Calls Try.prog 4 #[.string ⟨#[62]⟩, .int .i64 o] w fun e w' => e = .returned (.bool true) ∧ w' = w := by
  have o1 : decide (o < 0) = true := by simp; omega
  have o2 : (o == 0) = false := by simp; omega
  have o6 : (o != 0) = true := by simp; omega
  have o3 : decide (0 < o) = false := by simp; omega
  have o4 : decide (o ≤ 0) = true := by simp; omega
  have o5 : decide (0 ≤ o) = false := by simp; omega
  go_enter Try.func4, Try.ntmps4
  go_wp2_with (first | (go_at_call 9; go_in) | (go_at_call 7; go_in))
  refine (z4n o _ h).mono ?_
  rintro e w' ⟨rfl, rfl⟩
  go_wp2_with fail
  refine (c4 _).mono ?_
  rintro e w' ⟨rfl, rfl⟩
  go_wp2_with fail
  refine (z3n o _ h).mono ?_
  rintro e w' ⟨rfl, rfl⟩
  go_wp2_with fail
  refine (m4 _).mono ?_
  rintro e w' ⟨rfl, rfl⟩
  go_wp2_with fail
  refine (z2p 1 _ (by decide)).mono ?_
  rintro e w' ⟨rfl, rfl⟩
  go_wp2_with fail
  refine (t4 _).mono ?_
  rintro e w' ⟨rfl, rfl⟩
  go_wp2_with fail
  refine (z10n o _ h).mono ?_
  rintro e w' ⟨rfl, rfl⟩
  go_wp2_with fail
  go_ret
  exact ⟨rfl, rfl⟩

set_option maxRecDepth 100000 in
theorem cmt4z (o : Int) (w : World) (h : o = 0) : Calls Try.prog 4 #[.string ⟨#[62]⟩, .int .i64 o] w fun e w' => e = .returned (.bool true) ∧ w' = w := by
  subst h
  go_enter Try.func4, Try.ntmps4
  go_wp2_with (first | (go_at_call 9; go_in) | (go_at_call 7; go_in))
  refine (z4z 0 _ rfl).mono ?_
  rintro e w' ⟨rfl, rfl⟩
  go_wp2_with fail
  refine (c4 _).mono ?_
  rintro e w' ⟨rfl, rfl⟩
  go_wp2_with fail
  refine (z3z 0 _ rfl).mono ?_
  rintro e w' ⟨rfl, rfl⟩
  go_wp2_with fail
  refine (m4 _).mono ?_
  rintro e w' ⟨rfl, rfl⟩
  go_wp2_with fail
  refine (z2z 0 _ rfl).mono ?_
  rintro e w' ⟨rfl, rfl⟩
  go_wp2_with fail
  refine (t4 _).mono ?_
  rintro e w' ⟨rfl, rfl⟩
  go_wp2_with fail
  refine (z10z 0 _ rfl).mono ?_
  rintro e w' ⟨rfl, rfl⟩
  go_wp2_with fail
  go_ret
  exact ⟨rfl, rfl⟩

set_option maxRecDepth 100000 in
theorem cmt4p (o : Int) (w : World) (h : 0 < o) : Calls Try.prog 4 #[.string ⟨#[62]⟩, .int .i64 o] w fun e w' => e = .returned (.bool true) ∧ w' = w := by
  have o1 : decide (o < 0) = false := by simp; omega
  have o2 : (o == 0) = false := by simp; omega
  have o6 : (o != 0) = true := by simp; omega
  have o3 : decide (0 < o) = true := by simp; omega
  have o4 : decide (o ≤ 0) = false := by simp; omega
  have o5 : decide (0 ≤ o) = true := by simp; omega
  go_enter Try.func4, Try.ntmps4
  go_wp2_with (first | (go_at_call 9; go_in) | (go_at_call 7; go_in))
  refine (z4p o _ h).mono ?_
  rintro e w' ⟨rfl, rfl⟩
  go_wp2_with fail
  refine (c4 _).mono ?_
  rintro e w' ⟨rfl, rfl⟩
  go_wp2_with fail
  refine (z3p o _ h).mono ?_
  rintro e w' ⟨rfl, rfl⟩
  go_wp2_with fail
  refine (m4 _).mono ?_
  rintro e w' ⟨rfl, rfl⟩
  go_wp2_with fail
  refine (z2n (-1) _ (by decide)).mono ?_
  rintro e w' ⟨rfl, rfl⟩
  go_wp2_with fail
  refine (t4 _).mono ?_
  rintro e w' ⟨rfl, rfl⟩
  go_wp2_with fail
  refine (z10p o _ h).mono ?_
  rintro e w' ⟨rfl, rfl⟩
  go_wp2_with fail
  go_ret
  exact ⟨rfl, rfl⟩

set_option maxRecDepth 100000 in
theorem cmt5n (o : Int) (w : World) (h : o < 0) : Calls Try.prog 4 #[.string ⟨#[62, 61]⟩, .int .i64 o] w fun e w' => e = .returned (.bool true) ∧ w' = w := by
  have o1 : decide (o < 0) = true := by simp; omega
  have o2 : (o == 0) = false := by simp; omega
  have o6 : (o != 0) = true := by simp; omega
  have o3 : decide (0 < o) = false := by simp; omega
  have o4 : decide (o ≤ 0) = true := by simp; omega
  have o5 : decide (0 ≤ o) = false := by simp; omega
  go_enter Try.func4, Try.ntmps4
  go_wp2_with (first | (go_at_call 9; go_in) | (go_at_call 7; go_in))
  refine (z5n o _ h).mono ?_
  rintro e w' ⟨rfl, rfl⟩
  go_wp2_with fail
  refine (c5 _).mono ?_
  rintro e w' ⟨rfl, rfl⟩
  go_wp2_with fail
  refine (z2n o _ h).mono ?_
  rintro e w' ⟨rfl, rfl⟩
  go_wp2_with fail
  refine (m5 _).mono ?_
  rintro e w' ⟨rfl, rfl⟩
  go_wp2_with fail
  refine (z3p 1 _ (by decide)).mono ?_
  rintro e w' ⟨rfl, rfl⟩
  go_wp2_with fail
  refine (t5 _).mono ?_
  rintro e w' ⟨rfl, rfl⟩
  go_wp2_with fail
  refine (z11n o _ h).mono ?_
  rintro e w' ⟨rfl, rfl⟩
  go_wp2_with fail
  go_ret
  exact ⟨rfl, rfl⟩

set_option maxRecDepth 100000 in
theorem cmt5z (o : Int) (w : World) (h : o = 0) : Calls Try.prog 4 #[.string ⟨#[62, 61]⟩, .int .i64 o] w fun e w' => e = .returned (.bool true) ∧ w' = w := by
  subst h
  go_enter Try.func4, Try.ntmps4
  go_wp2_with (first | (go_at_call 9; go_in) | (go_at_call 7; go_in))
  refine (z5z 0 _ rfl).mono ?_
  rintro e w' ⟨rfl, rfl⟩
  go_wp2_with fail
  refine (c5 _).mono ?_
  rintro e w' ⟨rfl, rfl⟩
  go_wp2_with fail
  refine (z2z 0 _ rfl).mono ?_
  rintro e w' ⟨rfl, rfl⟩
  go_wp2_with fail
  refine (m5 _).mono ?_
  rintro e w' ⟨rfl, rfl⟩
  go_wp2_with fail
  refine (z3z 0 _ rfl).mono ?_
  rintro e w' ⟨rfl, rfl⟩
  go_wp2_with fail
  refine (t5 _).mono ?_
  rintro e w' ⟨rfl, rfl⟩
  go_wp2_with fail
  refine (z11z 0 _ rfl).mono ?_
  rintro e w' ⟨rfl, rfl⟩
  go_wp2_with fail
  go_ret
  exact ⟨rfl, rfl⟩

set_option maxRecDepth 100000 in
theorem cmt5p (o : Int) (w : World) (h : 0 < o) : Calls Try.prog 4 #[.string ⟨#[62, 61]⟩, .int .i64 o] w fun e w' => e = .returned (.bool true) ∧ w' = w := by
  have o1 : decide (o < 0) = false := by simp; omega
  have o2 : (o == 0) = false := by simp; omega
  have o6 : (o != 0) = true := by simp; omega
  have o3 : decide (0 < o) = true := by simp; omega
  have o4 : decide (o ≤ 0) = false := by simp; omega
  have o5 : decide (0 ≤ o) = true := by simp; omega
  go_enter Try.func4, Try.ntmps4
  go_wp2_with (first | (go_at_call 9; go_in) | (go_at_call 7; go_in))
  refine (z5p o _ h).mono ?_
  rintro e w' ⟨rfl, rfl⟩
  go_wp2_with fail
  refine (c5 _).mono ?_
  rintro e w' ⟨rfl, rfl⟩
  go_wp2_with fail
  refine (z2p o _ h).mono ?_
  rintro e w' ⟨rfl, rfl⟩
  go_wp2_with fail
  refine (m5 _).mono ?_
  rintro e w' ⟨rfl, rfl⟩
  go_wp2_with fail
  refine (z3n (-1) _ (by decide)).mono ?_
  rintro e w' ⟨rfl, rfl⟩
  go_wp2_with fail
  refine (t5 _).mono ?_
  rintro e w' ⟨rfl, rfl⟩
  go_wp2_with fail
  refine (z11p o _ h).mono ?_
  rintro e w' ⟨rfl, rfl⟩
  go_wp2_with fail
  go_ret
  exact ⟨rfl, rfl⟩

set_option maxRecDepth 100000 in
theorem cmt6n (o : Int) (w : World) (h : o < 0) : Calls Try.prog 4 #[.string ⟨#[126, 61]⟩, .int .i64 o] w fun e w' => e = .returned (.bool true) ∧ w' = w := by
  have o1 : decide (o < 0) = true := by simp; omega
  have o2 : (o == 0) = false := by simp; omega
  have o6 : (o != 0) = true := by simp; omega
  have o3 : decide (0 < o) = false := by simp; omega
  have o4 : decide (o ≤ 0) = true := by simp; omega
  have o5 : decide (0 ≤ o) = false := by simp; omega
  go_enter Try.func4, Try.ntmps4
  go_wp2_with (first | (go_at_call 9; go_in) | (go_at_call 7; go_in))
  refine (z6n o _ h).mono ?_
  rintro e w' ⟨rfl, rfl⟩
  go_wp2_with fail
  refine (c6 _).mono ?_
  rintro e w' ⟨rfl, rfl⟩
  go_wp2_with fail
  refine (z7n o _ h).mono ?_
  rintro e w' ⟨rfl, rfl⟩
  go_wp2_with fail
  refine (m6 _).mono ?_
  rintro e w' ⟨rfl, rfl⟩
  go_wp2_with fail
  refine (z6p 1 _ (by decide)).mono ?_
  rintro e w' ⟨rfl, rfl⟩
  go_wp2_with fail
  refine (t6 _).mono ?_
  rintro e w' ⟨rfl, rfl⟩
  go_wp2_with fail
  refine (z0n o _ h).mono ?_
  rintro e w' ⟨rfl, rfl⟩
  go_wp2_with fail
  go_ret
  exact ⟨rfl, rfl⟩

set_option maxRecDepth 100000 in
theorem cmt6z (o : Int) (w : World) (h : o = 0) : Calls Try.prog 4 #[.string ⟨#[126, 61]⟩, .int .i64 o] w fun e w' => e = .returned (.bool true) ∧ w' = w := by
  subst h
  go_enter Try.func4, Try.ntmps4
  go_wp2_with (first | (go_at_call 9; go_in) | (go_at_call 7; go_in))
  refine (z6z 0 _ rfl).mono ?_
  rintro e w' ⟨rfl, rfl⟩
  go_wp2_with fail
  refine (c6 _).mono ?_
  rintro e w' ⟨rfl, rfl⟩
  go_wp2_with fail
  refine (z7z 0 _ rfl).mono ?_
  rintro e w' ⟨rfl, rfl⟩
  go_wp2_with fail
  refine (m6 _).mono ?_
  rintro e w' ⟨rfl, rfl⟩
  go_wp2_with fail
  refine (z6z 0 _ rfl).mono ?_
  rintro e w' ⟨rfl, rfl⟩
  go_wp2_with fail
  refine (t6 _).mono ?_
  rintro e w' ⟨rfl, rfl⟩
  go_wp2_with fail
  refine (z0z 0 _ rfl).mono ?_
  rintro e w' ⟨rfl, rfl⟩
  go_wp2_with fail
  go_ret
  exact ⟨rfl, rfl⟩

set_option maxRecDepth 100000 in
theorem cmt6p (o : Int) (w : World) (h : 0 < o) : Calls Try.prog 4 #[.string ⟨#[126, 61]⟩, .int .i64 o] w fun e w' => e = .returned (.bool true) ∧ w' = w := by
  have o1 : decide (o < 0) = false := by simp; omega
  have o2 : (o == 0) = false := by simp; omega
  have o6 : (o != 0) = true := by simp; omega
  have o3 : decide (0 < o) = true := by simp; omega
  have o4 : decide (o ≤ 0) = false := by simp; omega
  have o5 : decide (0 ≤ o) = true := by simp; omega
  go_enter Try.func4, Try.ntmps4
  go_wp2_with (first | (go_at_call 9; go_in) | (go_at_call 7; go_in))
  refine (z6p o _ h).mono ?_
  rintro e w' ⟨rfl, rfl⟩
  go_wp2_with fail
  refine (c6 _).mono ?_
  rintro e w' ⟨rfl, rfl⟩
  go_wp2_with fail
  refine (z7p o _ h).mono ?_
  rintro e w' ⟨rfl, rfl⟩
  go_wp2_with fail
  refine (m6 _).mono ?_
  rintro e w' ⟨rfl, rfl⟩
  go_wp2_with fail
  refine (z6n (-1) _ (by decide)).mono ?_
  rintro e w' ⟨rfl, rfl⟩
  go_wp2_with fail
  refine (t6 _).mono ?_
  rintro e w' ⟨rfl, rfl⟩
  go_wp2_with fail
  refine (z0p o _ h).mono ?_
  rintro e w' ⟨rfl, rfl⟩
  go_wp2_with fail
  go_ret
  exact ⟨rfl, rfl⟩

set_option maxRecDepth 100000 in
theorem cmt7n (o : Int) (w : World) (h : o < 0) : Calls Try.prog 4 #[.string ⟨#[126, 33, 61]⟩, .int .i64 o] w fun e w' => e = .returned (.bool true) ∧ w' = w := by
  have o1 : decide (o < 0) = true := by simp; omega
  have o2 : (o == 0) = false := by simp; omega
  have o6 : (o != 0) = true := by simp; omega
  have o3 : decide (0 < o) = false := by simp; omega
  have o4 : decide (o ≤ 0) = true := by simp; omega
  have o5 : decide (0 ≤ o) = false := by simp; omega
  go_enter Try.func4, Try.ntmps4
  go_wp2_with (first | (go_at_call 9; go_in) | (go_at_call 7; go_in))
  refine (z7n o _ h).mono ?_
  rintro e w' ⟨rfl, rfl⟩
  go_wp2_with fail
  refine (c7 _).mono ?_
  rintro e w' ⟨rfl, rfl⟩
  go_wp2_with fail
  refine (z6n o _ h).mono ?_
  rintro e w' ⟨rfl, rfl⟩
  go_wp2_with fail
  refine (m7 _).mono ?_
  rintro e w' ⟨rfl, rfl⟩
  go_wp2_with fail
  refine (z7p 1 _ (by decide)).mono ?_
  rintro e w' ⟨rfl, rfl⟩
  go_wp2_with fail
  refine (t7 _).mono ?_
  rintro e w' ⟨rfl, rfl⟩
  go_wp2_with fail
  refine (z1n o _ h).mono ?_
  rintro e w' ⟨rfl, rfl⟩
  go_wp2_with fail
  go_ret
  exact ⟨rfl, rfl⟩

set_option maxRecDepth 100000 in
theorem cmt7z (o : Int) (w : World) (h : o = 0) : Calls Try.prog 4 #[.string ⟨#[126, 33, 61]⟩, .int .i64 o] w fun e w' => e = .returned (.bool true) ∧ w' = w := by
  subst h
  go_enter Try.func4, Try.ntmps4
  go_wp2_with (first | (go_at_call 9; go_in) | (go_at_call 7; go_in))
  refine (z7z 0 _ rfl).mono ?_
  rintro e w' ⟨rfl, rfl⟩
  go_wp2_with fail
  refine (c7 _).mono ?_
  rintro e w' ⟨rfl, rfl⟩
  go_wp2_with fail
  refine (z6z 0 _ rfl).mono ?_
  rintro e w' ⟨rfl, rfl⟩
  go_wp2_with fail
  refine (m7 _).mono ?_
  rintro e w' ⟨rfl, rfl⟩
  go_wp2_with fail
  refine (z7z 0 _ rfl).mono ?_
  rintro e w' ⟨rfl, rfl⟩
  go_wp2_with fail
  refine (t7 _).mono ?_
  rintro e w' ⟨rfl, rfl⟩
  go_wp2_with fail
  refine (z1z 0 _ rfl).mono ?_
  rintro e w' ⟨rfl, rfl⟩
  go_wp2_with fail
  go_ret
  exact ⟨rfl, rfl⟩

set_option maxRecDepth 100000 in
theorem cmt7p (o : Int) (w : World) (h : 0 < o) : Calls Try.prog 4 #[.string ⟨#[126, 33, 61]⟩, .int .i64 o] w fun e w' => e = .returned (.bool true) ∧ w' = w := by
  have o1 : decide (o < 0) = false := by simp; omega
  have o2 : (o == 0) = false := by simp; omega
  have o6 : (o != 0) = true := by simp; omega
  have o3 : decide (0 < o) = true := by simp; omega
  have o4 : decide (o ≤ 0) = false := by simp; omega
  have o5 : decide (0 ≤ o) = true := by simp; omega
  go_enter Try.func4, Try.ntmps4
  go_wp2_with (first | (go_at_call 9; go_in) | (go_at_call 7; go_in))
  refine (z7p o _ h).mono ?_
  rintro e w' ⟨rfl, rfl⟩
  go_wp2_with fail
  refine (c7 _).mono ?_
  rintro e w' ⟨rfl, rfl⟩
  go_wp2_with fail
  refine (z6p o _ h).mono ?_
  rintro e w' ⟨rfl, rfl⟩
  go_wp2_with fail
  refine (m7 _).mono ?_
  rintro e w' ⟨rfl, rfl⟩
  go_wp2_with fail
  refine (z7n (-1) _ (by decide)).mono ?_
  rintro e w' ⟨rfl, rfl⟩
  go_wp2_with fail
  refine (t7 _).mono ?_
  rintro e w' ⟨rfl, rfl⟩
  go_wp2_with fail
  refine (z1p o _ h).mono ?_
  rintro e w' ⟨rfl, rfl⟩
  go_wp2_with fail
  go_ret
  exact ⟨rfl, rfl⟩

set_option maxRecDepth 100000 in
theorem cmt8n (o : Int) (w : World) (h : o < 0) : Calls Try.prog 4 #[.string ⟨#[126, 60]⟩, .int .i64 o] w fun e w' => e = .returned (.bool true) ∧ w' = w := by
  have o1 : decide (o < 0) = true := by simp; omega
  have o2 : (o == 0) = false := by simp; omega
  have o6 : (o != 0) = true := by simp; omega
  have o3 : decide (0 < o) = false := by simp; omega
  have o4 : decide (o ≤ 0) = true := by simp; omega
  have o5 : decide (0 ≤ o) = false := by simp; omega
  go_enter Try.func4, Try.ntmps4
  go_wp2_with (first | (go_at_call 9; go_in) | (go_at_call 7; go_in))
  refine (z8n o _ h).mono ?_
  rintro e w' ⟨rfl, rfl⟩
  go_wp2_with fail
  refine (c8 _).mono ?_
  rintro e w' ⟨rfl, rfl⟩
  go_wp2_with fail
  refine (z11n o _ h).mono ?_
  rintro e w' ⟨rfl, rfl⟩
  go_wp2_with fail
  refine (m8 _).mono ?_
  rintro e w' ⟨rfl, rfl⟩
  go_wp2_with fail
  refine (z10p 1 _ (by decide)).mono ?_
  rintro e w' ⟨rfl, rfl⟩
  go_wp2_with fail
  refine (t8 _).mono ?_
  rintro e w' ⟨rfl, rfl⟩
  go_wp2_with fail
  refine (z2n o _ h).mono ?_
  rintro e w' ⟨rfl, rfl⟩
  go_wp2_with fail
  go_ret
  exact ⟨rfl, rfl⟩

set_option maxRecDepth 100000 in
theorem cmt8z (o : Int) (w : World) (h : o = 0) : Calls Try.prog 4 #[.string ⟨#[126, 60]⟩, .int .i64 o] w fun e w' => e = .returned (.bool true) ∧ w' = w := by
  subst h
  go_enter Try.func4, Try.ntmps4
  go_wp2_with (first | (go_at_call 9; go_in) | (go_at_call 7; go_in))
  refine (z8z 0 _ rfl).mono ?_
  rintro e w' ⟨rfl, rfl⟩
  go_wp2_with fail
  refine (c8 _).mono ?_
  rintro e w' ⟨rfl, rfl⟩
  go_wp2_with fail
  refine (z11z 0 _ rfl).mono ?_
  rintro e w' ⟨rfl, rfl⟩
  go_wp2_with fail
  refine (m8 _).mono ?_
  rintro e w' ⟨rfl, rfl⟩
  go_wp2_with fail
  refine (z10z 0 _ rfl).mono ?_
  rintro e w' ⟨rfl, rfl⟩
  go_wp2_with fail
  refine (t8 _).mono ?_
  rintro e w' ⟨rfl, rfl⟩
  go_wp2_with fail
  refine (z2z 0 _ rfl).mono ?_
  rintro e w' ⟨rfl, rfl⟩
  go_wp2_with fail
  go_ret
  exact ⟨rfl, rfl⟩

set_option maxRecDepth 100000 in
theorem cmt8p (o : Int) (w : World) (h : 0 < o) : Calls Try.prog 4 #[.string ⟨#[126, 60]⟩, .int .i64 o] w fun e w' => e = .returned (.bool true) ∧ w' = w := by
  have o1 : decide (o < 0) = false := by simp; omega
  have o2 : (o == 0) = false := by simp; omega
  have o6 : (o != 0) = true := by simp; omega
  have o3 : decide (0 < o) = true := by simp; omega
  have o4 : decide (o ≤ 0) = false := by simp; omega
  have o5 : decide (0 ≤ o) = true := by simp; omega
  go_enter Try.func4, Try.ntmps4
  go_wp2_with (first | (go_at_call 9; go_in) | (go_at_call 7; go_in))
  refine (z8p o _ h).mono ?_
  rintro e w' ⟨rfl, rfl⟩
  go_wp2_with fail
  refine (c8 _).mono ?_
  rintro e w' ⟨rfl, rfl⟩
  go_wp2_with fail
  refine (z11p o _ h).mono ?_
  rintro e w' ⟨rfl, rfl⟩
  go_wp2_with fail
  refine (m8 _).mono ?_
  rintro e w' ⟨rfl, rfl⟩
  go_wp2_with fail
  refine (z10n (-1) _ (by decide)).mono ?_
  rintro e w' ⟨rfl, rfl⟩
  go_wp2_with fail
  refine (t8 _).mono ?_
  rintro e w' ⟨rfl, rfl⟩
  go_wp2_with fail
  refine (z2p o _ h).mono ?_
  rintro e w' ⟨rfl, rfl⟩
  go_wp2_with fail
  go_ret
  exact ⟨rfl, rfl⟩

set_option maxRecDepth 100000 in
theorem cmt9n (o : Int) (w : World) (h : o < 0) : Calls Try.prog 4 #[.string ⟨#[126, 60, 61]⟩, .int .i64 o] w fun e w' => e = .returned (.bool true) ∧ w' = w := by
  have o1 : decide (o < 0) = true := by simp; omega
  have o2 : (o == 0) = false := by simp; omega
  have o6 : (o != 0) = true := by simp; omega
  have o3 : decide (0 < o) = false := by simp; omega
  have o4 : decide (o ≤ 0) = true := by simp; omega
  have o5 : decide (0 ≤ o) = false := by simp; omega
  go_enter Try.func4, Try.ntmps4
  go_wp2_with (first | (go_at_call 9; go_in) | (go_at_call 7; go_in))
  refine (z9n o _ h).mono ?_
  rintro e w' ⟨rfl, rfl⟩
  go_wp2_with fail
  refine (c9 _).mono ?_
  rintro e w' ⟨rfl, rfl⟩
  go_wp2_with fail
  refine (z10n o _ h).mono ?_
  rintro e w' ⟨rfl, rfl⟩
  go_wp2_with fail
  refine (m9 _).mono ?_
  rintro e w' ⟨rfl, rfl⟩
  go_wp2_with fail
  refine (z11p 1 _ (by decide)).mono ?_
  rintro e w' ⟨rfl, rfl⟩
  go_wp2_with fail
  refine (t9 _).mono ?_
  rintro e w' ⟨rfl, rfl⟩
  go_wp2_with fail
  refine (z3n o _ h).mono ?_
  rintro e w' ⟨rfl, rfl⟩
  go_wp2_with fail
  go_ret
  exact ⟨rfl, rfl⟩

set_option maxRecDepth 100000 in
theorem cmt9z (o : Int) (w : World) (h : o = 0) : Calls Try.prog 4 #[.string ⟨#[126, 60, 61]⟩, .int .i64 o] w fun e w' => e = .returned (.bool true) ∧ w' = w := by
  subst h
  go_enter Try.func4, Try.ntmps4
  go_wp2_with (first | (go_at_call 9; go_in) | (go_at_call 7; go_in))
  refine (z9z 0 _ rfl).mono ?_
  rintro e w' ⟨rfl, rfl⟩
  go_wp2_with fail
  refine (c9 _).mono ?_
  rintro e w' ⟨rfl, rfl⟩
  go_wp2_with fail
  refine (z10z 0 _ rfl).mono ?_
  rintro e w' ⟨rfl, rfl⟩
  go_wp2_with fail
  refine (m9 _).mono ?_
  rintro e w' ⟨rfl, rfl⟩
  go_wp2_with fail
  refine (z11z 0 _ rfl).mono ?_
  rintro e w' ⟨rfl, rfl⟩
  go_wp2_with fail
  refine (t9 _).mono ?_
  rintro e w' ⟨rfl, rfl⟩
  go_wp2_with fail
  refine (z3z 0 _ rfl).mono ?_
  rintro e w' ⟨rfl, rfl⟩
  go_wp2_with fail
  go_ret
  exact ⟨rfl, rfl⟩

set_option maxRecDepth 100000 in
theorem cmt9p (o : Int) (w : World) (h : 0 < o) : Calls Try.prog 4 #[.string ⟨#[126, 60, 61]⟩, .int .i64 o] w fun e w' => e = .returned (.bool true) ∧ w' = w := by
  have o1 : decide (o < 0) = false := by simp; omega
  have o2 : (o == 0) = false := by simp; omega
  have o6 : (o != 0) = true := by simp; omega
  have o3 : decide (0 < o) = true := by simp; omega
  have o4 : decide (o ≤ 0) = false := by simp; omega
  have o5 : decide (0 ≤ o) = true := by simp; omega
  go_enter Try.func4, Try.ntmps4
  go_wp2_with (first | (go_at_call 9; go_in) | (go_at_call 7; go_in))
  refine (z9p o _ h).mono ?_
  rintro e w' ⟨rfl, rfl⟩
  go_wp2_with fail
  refine (c9 _).mono ?_
  rintro e w' ⟨rfl, rfl⟩
  go_wp2_with fail
  refine (z10p o _ h).mono ?_
  rintro e w' ⟨rfl, rfl⟩
  go_wp2_with fail
  refine (m9 _).mono ?_
  rintro e w' ⟨rfl, rfl⟩
  go_wp2_with fail
  refine (z11n (-1) _ (by decide)).mono ?_
  rintro e w' ⟨rfl, rfl⟩
  go_wp2_with fail
  refine (t9 _).mono ?_
  rintro e w' ⟨rfl, rfl⟩
  go_wp2_with fail
  refine (z3p o _ h).mono ?_
  rintro e w' ⟨rfl, rfl⟩
  go_wp2_with fail
  go_ret
  exact ⟨rfl, rfl⟩

set_option maxRecDepth 100000 in
theorem cmt10n (o : Int) (w : World) (h : o < 0) : Calls Try.prog 4 #[.string ⟨#[126, 62]⟩, .int .i64 o] w fun e w' => e = .returned (.bool true) ∧ w' = w := by
  have o1 : decide (o < 0) = true := by simp; omega
  have o2 : (o == 0) = false := by simp; omega
  have o6 : (o != 0) = true := by simp; omega
  have o3 : decide (0 < o) = false := by simp; omega
  have o4 : decide (o ≤ 0) = true := by simp; omega
  have o5 : decide (0 ≤ o) = false := by simp; omega
  go_enter Try.func4, Try.ntmps4
  go_wp2_with (first | (go_at_call 9; go_in) | (go_at_call 7; go_in))
  refine (z10n o _ h).mono ?_
  rintro e w' ⟨rfl, rfl⟩
  go_wp2_with fail
  refine (c10 _).mono ?_
  rintro e w' ⟨rfl, rfl⟩
  go_wp2_with fail
  refine (z9n o _ h).mono ?_
  rintro e w' ⟨rfl, rfl⟩
  go_wp2_with fail
  refine (m10 _).mono ?_
  rintro e w' ⟨rfl, rfl⟩
  go_wp2_with fail
  refine (z8p 1 _ (by decide)).mono ?_
  rintro e w' ⟨rfl, rfl⟩
  go_wp2_with fail
  refine (t10 _).mono ?_
  rintro e w' ⟨rfl, rfl⟩
  go_wp2_with fail
  refine (z4n o _ h).mono ?_
  rintro e w' ⟨rfl, rfl⟩
  go_wp2_with fail
  go_ret
  exact ⟨rfl, rfl⟩

set_option maxRecDepth 100000 in
theorem cmt10z (o : Int) (w : World) (h : o = 0) : Calls Try.prog 4 #[.string ⟨#[126, 62]⟩, .int .i64 o] w fun e w' => e = .returned (.bool true) ∧ w' = w := by
  subst h
  go_enter Try.func4, Try.ntmps4
  go_wp2_with (first | (go_at_call 9; go_in) | (go_at_call 7; go_in))
  refine (z10z 0 _ rfl).mono ?_
  rintro e w' ⟨rfl, rfl⟩
  go_wp2_with fail
  refine (c10 _).mono ?_
  rintro e w' ⟨rfl, rfl⟩
  go_wp2_with fail
  refine (z9z 0 _ rfl).mono ?_
  rintro e w' ⟨rfl, rfl⟩
  go_wp2_with fail
  refine (m10 _).mono ?_
  rintro e w' ⟨rfl, rfl⟩
  go_wp2_with fail
  refine (z8z 0 _ rfl).mono ?_
  rintro e w' ⟨rfl, rfl⟩
  go_wp2_with fail
  refine (t10 _).mono ?_
  rintro e w' ⟨rfl, rfl⟩
  go_wp2_with fail
  refine (z4z 0 _ rfl).mono ?_
  rintro e w' ⟨rfl, rfl⟩
  go_wp2_with fail
  go_ret
  exact ⟨rfl, rfl⟩

set_option maxRecDepth 100000 in
theorem cmt10p (o : Int) (w : World) (h : 0 < o) : Calls Try.prog 4 #[.string ⟨#[126, 62]⟩, .int .i64 o] w fun e w' => e = .returned (.bool true) ∧ w' = w := by
  have o1 : decide (o < 0) = false := by simp; omega
  have o2 : (o == 0) = false := by simp; omega
  have o6 : (o != 0) = true := by simp; omega
  have o3 : decide (0 < o) = true := by simp; omega
  have o4 : decide (o ≤ 0) = false := by simp; omega
  have o5 : decide (0 ≤ o) = true := by simp; omega
  go_enter Try.func4, Try.ntmps4
  go_wp2_with (first | (go_at_call 9; go_in) | (go_at_call 7; go_in))
  refine (z10p o _ h).mono ?_
  rintro e w' ⟨rfl, rfl⟩
  go_wp2_with fail
  refine (c10 _).mono ?_
  rintro e w' ⟨rfl, rfl⟩
  go_wp2_with fail
  refine (z9p o _ h).mono ?_
  rintro e w' ⟨rfl, rfl⟩
  go_wp2_with fail
  refine (m10 _).mono ?_
  rintro e w' ⟨rfl, rfl⟩
  go_wp2_with fail
  refine (z8n (-1) _ (by decide)).mono ?_
  rintro e w' ⟨rfl, rfl⟩
  go_wp2_with fail
  refine (t10 _).mono ?_
  rintro e w' ⟨rfl, rfl⟩
  go_wp2_with fail
  refine (z4p o _ h).mono ?_
  rintro e w' ⟨rfl, rfl⟩
  go_wp2_with fail
  go_ret
  exact ⟨rfl, rfl⟩

set_option maxRecDepth 100000 in
theorem cmt11n (o : Int) (w : World) (h : o < 0) : Calls Try.prog 4 #[.string ⟨#[126, 62, 61]⟩, .int .i64 o] w fun e w' => e = .returned (.bool true) ∧ w' = w := by
  have o1 : decide (o < 0) = true := by simp; omega
  have o2 : (o == 0) = false := by simp; omega
  have o6 : (o != 0) = true := by simp; omega
  have o3 : decide (0 < o) = false := by simp; omega
  have o4 : decide (o ≤ 0) = true := by simp; omega
  have o5 : decide (0 ≤ o) = false := by simp; omega
  go_enter Try.func4, Try.ntmps4
  go_wp2_with (first | (go_at_call 9; go_in) | (go_at_call 7; go_in))
  refine (z11n o _ h).mono ?_
  rintro e w' ⟨rfl, rfl⟩
  go_wp2_with fail
  refine (c11 _).mono ?_
  rintro e w' ⟨rfl, rfl⟩
  go_wp2_with fail
  refine (z8n o _ h).mono ?_
  rintro e w' ⟨rfl, rfl⟩
  go_wp2_with fail
  refine (m11 _).mono ?_
  rintro e w' ⟨rfl, rfl⟩
  go_wp2_with fail
  refine (z9p 1 _ (by decide)).mono ?_
  rintro e w' ⟨rfl, rfl⟩
  go_wp2_with fail
  refine (t11 _).mono ?_
  rintro e w' ⟨rfl, rfl⟩
  go_wp2_with fail
  refine (z5n o _ h).mono ?_
  rintro e w' ⟨rfl, rfl⟩
  go_wp2_with fail
  go_ret
  exact ⟨rfl, rfl⟩

set_option maxRecDepth 100000 in
theorem cmt11z (o : Int) (w : World) (h : o = 0) : Calls Try.prog 4 #[.string ⟨#[126, 62, 61]⟩, .int .i64 o] w fun e w' => e = .returned (.bool true) ∧ w' = w := by
  subst h
  go_enter Try.func4, Try.ntmps4
  go_wp2_with (first | (go_at_call 9; go_in) | (go_at_call 7; go_in))
  refine (z11z 0 _ rfl).mono ?_
  rintro e w' ⟨rfl, rfl⟩
  go_wp2_with fail
  refine (c11 _).mono ?_
  rintro e w' ⟨rfl, rfl⟩
  go_wp2_with fail
  refine (z8z 0 _ rfl).mono ?_
  rintro e w' ⟨rfl, rfl⟩
  go_wp2_with fail
  refine (m11 _).mono ?_
  rintro e w' ⟨rfl, rfl⟩
  go_wp2_with fail
  refine (z9z 0 _ rfl).mono ?_
  rintro e w' ⟨rfl, rfl⟩
  go_wp2_with fail
  refine (t11 _).mono ?_
  rintro e w' ⟨rfl, rfl⟩
  go_wp2_with fail
  refine (z5z 0 _ rfl).mono ?_
  rintro e w' ⟨rfl, rfl⟩
  go_wp2_with fail
  go_ret
  exact ⟨rfl, rfl⟩

set_option maxRecDepth 100000 in
theorem cmt11p (o : Int) (w : World) (h : 0 < o) : Calls Try.prog 4 #[.string ⟨#[126, 62, 61]⟩, .int .i64 o] w fun e w' => e = .returned (.bool true) ∧ w' = w := by
  have o1 : decide (o < 0) = false := by simp; omega
  have o2 : (o == 0) = false := by simp; omega
  have o6 : (o != 0) = true := by simp; omega
  have o3 : decide (0 < o) = true := by simp; omega
  have o4 : decide (o ≤ 0) = false := by simp; omega
  have o5 : decide (0 ≤ o) = true := by simp; omega
  go_enter Try.func4, Try.ntmps4
  go_wp2_with (first | (go_at_call 9; go_in) | (go_at_call 7; go_in))
  refine (z11p o _ h).mono ?_
  rintro e w' ⟨rfl, rfl⟩
  go_wp2_with fail
  refine (c11 _).mono ?_
  rintro e w' ⟨rfl, rfl⟩
  go_wp2_with fail
  refine (z8p o _ h).mono ?_
  rintro e w' ⟨rfl, rfl⟩
  go_wp2_with fail
  refine (m11 _).mono ?_
  rintro e w' ⟨rfl, rfl⟩
  go_wp2_with fail
  refine (z9n (-1) _ (by decide)).mono ?_
  rintro e w' ⟨rfl, rfl⟩
  go_wp2_with fail
  refine (t11 _).mono ?_
  rintro e w' ⟨rfl, rfl⟩
  go_wp2_with fail
  refine (z5p o _ h).mono ?_
  rintro e w' ⟨rfl, rfl⟩
  go_wp2_with fail
  go_ret
  exact ⟨rfl, rfl⟩

set_option maxRecDepth 100000 in
theorem cmtNo (s : ByteArray) (o : Int) (w : World) (hs : s.size ≤ 1048576) (n0 : (s.toList == [61, 61]) = false) (n1 : (s.toList == [33, 61]) = false) (n2 : (s.toList == [60]) = false) (n3 : (s.toList == [60, 61]) = false) (n4 : (s.toList == [62]) = false) (n5 : (s.toList == [62, 61]) = false) (n6 : (s.toList == [126, 61]) = false) (n7 : (s.toList == [126, 33, 61]) = false) (n8 : (s.toList == [126, 60]) = false) (n9 : (s.toList == [126, 60, 61]) = false) (n10 : (s.toList == [126, 62]) = false) (n11 : (s.toList == [126, 62, 61]) = false) :
    Calls Try.prog 4 #[.string s, .int .i64 o] w fun e w' => e = .returned (.bool true) ∧ w' = w := by
  have d1 : decide ((1048576 : Int) < (s.size : Int)) = false := by simp; omega
  go_enter Try.func4, Try.ntmps4
  go_wp2
  go_ret
  exact ⟨rfl, rfl⟩

theorem cmtAll (s : ByteArray) (o : Int) (w : World) (hs : s.size ≤ 1048576) :
    Calls Try.prog 4 #[.string s, .int .i64 o] w fun e w' => e = .returned (.bool true) ∧ w' = w := by
  by_cases n0 : s.toList = [61, 61]
  · rw [str_of n0]
    rcases (show o < 0 ∨ o = 0 ∨ 0 < o from by omega) with h | h | h
    · exact cmt0n o w h
    · exact cmt0z o w h
    · exact cmt0p o w h
  by_cases n1 : s.toList = [33, 61]
  · rw [str_of n1]
    rcases (show o < 0 ∨ o = 0 ∨ 0 < o from by omega) with h | h | h
    · exact cmt1n o w h
    · exact cmt1z o w h
    · exact cmt1p o w h
  by_cases n2 : s.toList = [60]
  · rw [str_of n2]
    rcases (show o < 0 ∨ o = 0 ∨ 0 < o from by omega) with h | h | h
    · exact cmt2n o w h
    · exact cmt2z o w h
    · exact cmt2p o w h
  by_cases n3 : s.toList = [60, 61]
  · rw [str_of n3]
    rcases (show o < 0 ∨ o = 0 ∨ 0 < o from by omega) with h | h | h
    · exact cmt3n o w h
    · exact cmt3z o w h
    · exact cmt3p o w h
  by_cases n4 : s.toList = [62]
  · rw [str_of n4]
    rcases (show o < 0 ∨ o = 0 ∨ 0 < o from by omega) with h | h | h
    · exact cmt4n o w h
    · exact cmt4z o w h
    · exact cmt4p o w h
  by_cases n5 : s.toList = [62, 61]
  · rw [str_of n5]
    rcases (show o < 0 ∨ o = 0 ∨ 0 < o from by omega) with h | h | h
    · exact cmt5n o w h
    · exact cmt5z o w h
    · exact cmt5p o w h
  by_cases n6 : s.toList = [126, 61]
  · rw [str_of n6]
    rcases (show o < 0 ∨ o = 0 ∨ 0 < o from by omega) with h | h | h
    · exact cmt6n o w h
    · exact cmt6z o w h
    · exact cmt6p o w h
  by_cases n7 : s.toList = [126, 33, 61]
  · rw [str_of n7]
    rcases (show o < 0 ∨ o = 0 ∨ 0 < o from by omega) with h | h | h
    · exact cmt7n o w h
    · exact cmt7z o w h
    · exact cmt7p o w h
  by_cases n8 : s.toList = [126, 60]
  · rw [str_of n8]
    rcases (show o < 0 ∨ o = 0 ∨ 0 < o from by omega) with h | h | h
    · exact cmt8n o w h
    · exact cmt8z o w h
    · exact cmt8p o w h
  by_cases n9 : s.toList = [126, 60, 61]
  · rw [str_of n9]
    rcases (show o < 0 ∨ o = 0 ∨ 0 < o from by omega) with h | h | h
    · exact cmt9n o w h
    · exact cmt9z o w h
    · exact cmt9p o w h
  by_cases n10 : s.toList = [126, 62]
  · rw [str_of n10]
    rcases (show o < 0 ∨ o = 0 ∨ 0 < o from by omega) with h | h | h
    · exact cmt10n o w h
    · exact cmt10z o w h
    · exact cmt10p o w h
  by_cases n11 : s.toList = [126, 62, 61]
  · rw [str_of n11]
    rcases (show o < 0 ∨ o = 0 ∨ 0 < o from by omega) with h | h | h
    · exact cmt11n o w h
    · exact cmt11z o w h
    · exact cmt11p o w h
  exact cmtNo s o w hs (beq_eq_false_iff_ne.2 n0) (beq_eq_false_iff_ne.2 n1) (beq_eq_false_iff_ne.2 n2) (beq_eq_false_iff_ne.2 n3) (beq_eq_false_iff_ne.2 n4) (beq_eq_false_iff_ne.2 n5) (beq_eq_false_iff_ne.2 n6) (beq_eq_false_iff_ne.2 n7) (beq_eq_false_iff_ne.2 n8) (beq_eq_false_iff_ne.2 n9) (beq_eq_false_iff_ne.2 n10) (beq_eq_false_iff_ne.2 n11)
end Go.Proofs.Qxb6604561a
