import Derived.Test.Qxb6604561aText
namespace Go.Proofs.Qxb6604561a
open Go.RowKit
/-! ### Each operator's answer at each sign -/

theorem z0n (o : Int) (w : World) (h : o < 0) : Calls Try.prog 6 #[.string ⟨#[61, 61]⟩, .int .i64 o] w fun e w' => e = .returned (.int .i8 0) ∧ w' = w := by
  have o1 : decide (o < 0) = true := by simp; omega
  have o2 : (o == 0) = false := by simp; omega
  have o6 : (o != 0) = true := by simp; omega
  have o3 : decide (0 < o) = false := by simp; omega
  have o4 : decide (o ≤ 0) = true := by simp; omega
  have o5 : decide (0 ≤ o) = false := by simp; omega
  go_enter Try.func6, Try.ntmps6
  go_wp2
  go_ret
  exact ⟨rfl, rfl⟩

theorem z0z (o : Int) (w : World) (h : o = 0) : Calls Try.prog 6 #[.string ⟨#[61, 61]⟩, .int .i64 o] w fun e w' => e = .returned (.int .i8 2) ∧ w' = w := by
  subst h
  go_enter Try.func6, Try.ntmps6
  go_wp2
  go_ret
  exact ⟨rfl, rfl⟩

theorem z0p (o : Int) (w : World) (h : 0 < o) : Calls Try.prog 6 #[.string ⟨#[61, 61]⟩, .int .i64 o] w fun e w' => e = .returned (.int .i8 0) ∧ w' = w := by
  have o1 : decide (o < 0) = false := by simp; omega
  have o2 : (o == 0) = false := by simp; omega
  have o6 : (o != 0) = true := by simp; omega
  have o3 : decide (0 < o) = true := by simp; omega
  have o4 : decide (o ≤ 0) = false := by simp; omega
  have o5 : decide (0 ≤ o) = true := by simp; omega
  go_enter Try.func6, Try.ntmps6
  go_wp2
  go_ret
  exact ⟨rfl, rfl⟩

theorem z1n (o : Int) (w : World) (h : o < 0) : Calls Try.prog 6 #[.string ⟨#[33, 61]⟩, .int .i64 o] w fun e w' => e = .returned (.int .i8 2) ∧ w' = w := by
  have o1 : decide (o < 0) = true := by simp; omega
  have o2 : (o == 0) = false := by simp; omega
  have o6 : (o != 0) = true := by simp; omega
  have o3 : decide (0 < o) = false := by simp; omega
  have o4 : decide (o ≤ 0) = true := by simp; omega
  have o5 : decide (0 ≤ o) = false := by simp; omega
  go_enter Try.func6, Try.ntmps6
  go_wp2
  go_ret
  exact ⟨rfl, rfl⟩

theorem z1z (o : Int) (w : World) (h : o = 0) : Calls Try.prog 6 #[.string ⟨#[33, 61]⟩, .int .i64 o] w fun e w' => e = .returned (.int .i8 0) ∧ w' = w := by
  subst h
  go_enter Try.func6, Try.ntmps6
  go_wp2
  go_ret
  exact ⟨rfl, rfl⟩

theorem z1p (o : Int) (w : World) (h : 0 < o) : Calls Try.prog 6 #[.string ⟨#[33, 61]⟩, .int .i64 o] w fun e w' => e = .returned (.int .i8 2) ∧ w' = w := by
  have o1 : decide (o < 0) = false := by simp; omega
  have o2 : (o == 0) = false := by simp; omega
  have o6 : (o != 0) = true := by simp; omega
  have o3 : decide (0 < o) = true := by simp; omega
  have o4 : decide (o ≤ 0) = false := by simp; omega
  have o5 : decide (0 ≤ o) = true := by simp; omega
  go_enter Try.func6, Try.ntmps6
  go_wp2
  go_ret
  exact ⟨rfl, rfl⟩

theorem z2n (o : Int) (w : World) (h : o < 0) : Calls Try.prog 6 #[.string ⟨#[60]⟩, .int .i64 o] w fun e w' => e = .returned (.int .i8 2) ∧ w' = w := by
  have o1 : decide (o < 0) = true := by simp; omega
  have o2 : (o == 0) = false := by simp; omega
  have o6 : (o != 0) = true := by simp; omega
  have o3 : decide (0 < o) = false := by simp; omega
  have o4 : decide (o ≤ 0) = true := by simp; omega
  have o5 : decide (0 ≤ o) = false := by simp; omega
  go_enter Try.func6, Try.ntmps6
  go_wp2
  go_ret
  exact ⟨rfl, rfl⟩

theorem z2z (o : Int) (w : World) (h : o = 0) : Calls Try.prog 6 #[.string ⟨#[60]⟩, .int .i64 o] w fun e w' => e = .returned (.int .i8 0) ∧ w' = w := by
  subst h
  go_enter Try.func6, Try.ntmps6
  go_wp2
  go_ret
  exact ⟨rfl, rfl⟩

theorem z2p (o : Int) (w : World) (h : 0 < o) : Calls Try.prog 6 #[.string ⟨#[60]⟩, .int .i64 o] w fun e w' => e = .returned (.int .i8 0) ∧ w' = w := by
  have o1 : decide (o < 0) = false := by simp; omega
  have o2 : (o == 0) = false := by simp; omega
  have o6 : (o != 0) = true := by simp; omega
  have o3 : decide (0 < o) = true := by simp; omega
  have o4 : decide (o ≤ 0) = false := by simp; omega
  have o5 : decide (0 ≤ o) = true := by simp; omega
  go_enter Try.func6, Try.ntmps6
  go_wp2
  go_ret
  exact ⟨rfl, rfl⟩

theorem z3n (o : Int) (w : World) (h : o < 0) : Calls Try.prog 6 #[.string ⟨#[60, 61]⟩, .int .i64 o] w fun e w' => e = .returned (.int .i8 2) ∧ w' = w := by
  have o1 : decide (o < 0) = true := by simp; omega
  have o2 : (o == 0) = false := by simp; omega
  have o6 : (o != 0) = true := by simp; omega
  have o3 : decide (0 < o) = false := by simp; omega
  have o4 : decide (o ≤ 0) = true := by simp; omega
  have o5 : decide (0 ≤ o) = false := by simp; omega
  go_enter Try.func6, Try.ntmps6
  go_wp2
  go_ret
  exact ⟨rfl, rfl⟩

theorem z3z (o : Int) (w : World) (h : o = 0) : Calls Try.prog 6 #[.string ⟨#[60, 61]⟩, .int .i64 o] w fun e w' => e = .returned (.int .i8 2) ∧ w' = w := by
  subst h
  go_enter Try.func6, Try.ntmps6
  go_wp2
  go_ret
  exact ⟨rfl, rfl⟩

theorem z3p (o : Int) (w : World) (h : 0 < o) : Calls Try.prog 6 #[.string ⟨#[60, 61]⟩, .int .i64 o] w fun e w' => e = .returned (.int .i8 0) ∧ w' = w := by
  have o1 : decide (o < 0) = false := by simp; omega
  have o2 : (o == 0) = false := by simp; omega
  have o6 : (o != 0) = true := by simp; omega
  have o3 : decide (0 < o) = true := by simp; omega
  have o4 : decide (o ≤ 0) = false := by simp; omega
  have o5 : decide (0 ≤ o) = true := by simp; omega
  go_enter Try.func6, Try.ntmps6
  go_wp2
  go_ret
  exact ⟨rfl, rfl⟩

theorem z4n (o : Int) (w : World) (h : o < 0) : Calls Try.prog 6 #[.string ⟨#[62]⟩, .int .i64 o] w fun e w' => e = .returned (.int .i8 0) ∧ w' = w := by
  have o1 : decide (o < 0) = true := by simp; omega
  have o2 : (o == 0) = false := by simp; omega
  have o6 : (o != 0) = true := by simp; omega
  have o3 : decide (0 < o) = false := by simp; omega
  have o4 : decide (o ≤ 0) = true := by simp; omega
  have o5 : decide (0 ≤ o) = false := by simp; omega
  go_enter Try.func6, Try.ntmps6
  go_wp2
  go_ret
  exact ⟨rfl, rfl⟩

theorem z4z (o : Int) (w : World) (h : o = 0) : Calls Try.prog 6 #[.string ⟨#[62]⟩, .int .i64 o] w fun e w' => e = .returned (.int .i8 0) ∧ w' = w := by
  subst h
  go_enter Try.func6, Try.ntmps6
  go_wp2
  go_ret
  exact ⟨rfl, rfl⟩

theorem z4p (o : Int) (w : World) (h : 0 < o) : Calls Try.prog 6 #[.string ⟨#[62]⟩, .int .i64 o] w fun e w' => e = .returned (.int .i8 2) ∧ w' = w := by
  have o1 : decide (o < 0) = false := by simp; omega
  have o2 : (o == 0) = false := by simp; omega
  have o6 : (o != 0) = true := by simp; omega
  have o3 : decide (0 < o) = true := by simp; omega
  have o4 : decide (o ≤ 0) = false := by simp; omega
  have o5 : decide (0 ≤ o) = true := by simp; omega
  go_enter Try.func6, Try.ntmps6
  go_wp2
  go_ret
  exact ⟨rfl, rfl⟩

theorem z5n (o : Int) (w : World) (h : o < 0) : Calls Try.prog 6 #[.string ⟨#[62, 61]⟩, .int .i64 o] w fun e w' => e = .returned (.int .i8 0) ∧ w' = w := by
  have o1 : decide (o < 0) = true := by simp; omega
  have o2 : (o == 0) = false := by simp; omega
  have o6 : (o != 0) = true := by simp; omega
  have o3 : decide (0 < o) = false := by simp; omega
  have o4 : decide (o ≤ 0) = true := by simp; omega
  have o5 : decide (0 ≤ o) = false := by simp; omega
  go_enter Try.func6, Try.ntmps6
  go_wp2
  go_ret
  exact ⟨rfl, rfl⟩

theorem z5z (o : Int) (w : World) (h : o = 0) : Calls Try.prog 6 #[.string ⟨#[62, 61]⟩, .int .i64 o] w fun e w' => e = .returned (.int .i8 2) ∧ w' = w := by
  subst h
  go_enter Try.func6, Try.ntmps6
  go_wp2
  go_ret
  exact ⟨rfl, rfl⟩

theorem z5p (o : Int) (w : World) (h : 0 < o) : Calls Try.prog 6 #[.string ⟨#[62, 61]⟩, .int .i64 o] w fun e w' => e = .returned (.int .i8 2) ∧ w' = w := by
  have o1 : decide (o < 0) = false := by simp; omega
  have o2 : (o == 0) = false := by simp; omega
  have o6 : (o != 0) = true := by simp; omega
  have o3 : decide (0 < o) = true := by simp; omega
  have o4 : decide (o ≤ 0) = false := by simp; omega
  have o5 : decide (0 ≤ o) = true := by simp; omega
  go_enter Try.func6, Try.ntmps6
  go_wp2
  go_ret
  exact ⟨rfl, rfl⟩

theorem z6n (o : Int) (w : World) (h : o < 0) : Calls Try.prog 6 #[.string ⟨#[126, 61]⟩, .int .i64 o] w fun e w' => e = .returned (.int .i8 0) ∧ w' = w := by
  have o1 : decide (o < 0) = true := by simp; omega
  have o2 : (o == 0) = false := by simp; omega
  have o6 : (o != 0) = true := by simp; omega
  have o3 : decide (0 < o) = false := by simp; omega
  have o4 : decide (o ≤ 0) = true := by simp; omega
  have o5 : decide (0 ≤ o) = false := by simp; omega
  go_enter Try.func6, Try.ntmps6
  go_wp2
  go_ret
  exact ⟨rfl, rfl⟩

theorem z6z (o : Int) (w : World) (h : o = 0) : Calls Try.prog 6 #[.string ⟨#[126, 61]⟩, .int .i64 o] w fun e w' => e = .returned (.int .i8 2) ∧ w' = w := by
  subst h
  go_enter Try.func6, Try.ntmps6
  go_wp2
  go_ret
  exact ⟨rfl, rfl⟩

theorem z6p (o : Int) (w : World) (h : 0 < o) : Calls Try.prog 6 #[.string ⟨#[126, 61]⟩, .int .i64 o] w fun e w' => e = .returned (.int .i8 0) ∧ w' = w := by
  have o1 : decide (o < 0) = false := by simp; omega
  have o2 : (o == 0) = false := by simp; omega
  have o6 : (o != 0) = true := by simp; omega
  have o3 : decide (0 < o) = true := by simp; omega
  have o4 : decide (o ≤ 0) = false := by simp; omega
  have o5 : decide (0 ≤ o) = true := by simp; omega
  go_enter Try.func6, Try.ntmps6
  go_wp2
  go_ret
  exact ⟨rfl, rfl⟩

theorem z7n (o : Int) (w : World) (h : o < 0) : Calls Try.prog 6 #[.string ⟨#[126, 33, 61]⟩, .int .i64 o] w fun e w' => e = .returned (.int .i8 2) ∧ w' = w := by
  have o1 : decide (o < 0) = true := by simp; omega
  have o2 : (o == 0) = false := by simp; omega
  have o6 : (o != 0) = true := by simp; omega
  have o3 : decide (0 < o) = false := by simp; omega
  have o4 : decide (o ≤ 0) = true := by simp; omega
  have o5 : decide (0 ≤ o) = false := by simp; omega
  go_enter Try.func6, Try.ntmps6
  go_wp2
  go_ret
  exact ⟨rfl, rfl⟩

theorem z7z (o : Int) (w : World) (h : o = 0) : Calls Try.prog 6 #[.string ⟨#[126, 33, 61]⟩, .int .i64 o] w fun e w' => e = .returned (.int .i8 0) ∧ w' = w := by
  subst h
  go_enter Try.func6, Try.ntmps6
  go_wp2
  go_ret
  exact ⟨rfl, rfl⟩

theorem z7p (o : Int) (w : World) (h : 0 < o) : Calls Try.prog 6 #[.string ⟨#[126, 33, 61]⟩, .int .i64 o] w fun e w' => e = .returned (.int .i8 2) ∧ w' = w := by
  have o1 : decide (o < 0) = false := by simp; omega
  have o2 : (o == 0) = false := by simp; omega
  have o6 : (o != 0) = true := by simp; omega
  have o3 : decide (0 < o) = true := by simp; omega
  have o4 : decide (o ≤ 0) = false := by simp; omega
  have o5 : decide (0 ≤ o) = true := by simp; omega
  go_enter Try.func6, Try.ntmps6
  go_wp2
  go_ret
  exact ⟨rfl, rfl⟩

theorem z8n (o : Int) (w : World) (h : o < 0) : Calls Try.prog 6 #[.string ⟨#[126, 60]⟩, .int .i64 o] w fun e w' => e = .returned (.int .i8 2) ∧ w' = w := by
  have o1 : decide (o < 0) = true := by simp; omega
  have o2 : (o == 0) = false := by simp; omega
  have o6 : (o != 0) = true := by simp; omega
  have o3 : decide (0 < o) = false := by simp; omega
  have o4 : decide (o ≤ 0) = true := by simp; omega
  have o5 : decide (0 ≤ o) = false := by simp; omega
  go_enter Try.func6, Try.ntmps6
  go_wp2
  go_ret
  exact ⟨rfl, rfl⟩

theorem z8z (o : Int) (w : World) (h : o = 0) : Calls Try.prog 6 #[.string ⟨#[126, 60]⟩, .int .i64 o] w fun e w' => e = .returned (.int .i8 0) ∧ w' = w := by
  subst h
  go_enter Try.func6, Try.ntmps6
  go_wp2
  go_ret
  exact ⟨rfl, rfl⟩

theorem z8p (o : Int) (w : World) (h : 0 < o) : Calls Try.prog 6 #[.string ⟨#[126, 60]⟩, .int .i64 o] w fun e w' => e = .returned (.int .i8 0) ∧ w' = w := by
  have o1 : decide (o < 0) = false := by simp; omega
  have o2 : (o == 0) = false := by simp; omega
  have o6 : (o != 0) = true := by simp; omega
  have o3 : decide (0 < o) = true := by simp; omega
  have o4 : decide (o ≤ 0) = false := by simp; omega
  have o5 : decide (0 ≤ o) = true := by simp; omega
  go_enter Try.func6, Try.ntmps6
  go_wp2
  go_ret
  exact ⟨rfl, rfl⟩

theorem z9n (o : Int) (w : World) (h : o < 0) : Calls Try.prog 6 #[.string ⟨#[126, 60, 61]⟩, .int .i64 o] w fun e w' => e = .returned (.int .i8 2) ∧ w' = w := by
  have o1 : decide (o < 0) = true := by simp; omega
  have o2 : (o == 0) = false := by simp; omega
  have o6 : (o != 0) = true := by simp; omega
  have o3 : decide (0 < o) = false := by simp; omega
  have o4 : decide (o ≤ 0) = true := by simp; omega
  have o5 : decide (0 ≤ o) = false := by simp; omega
  go_enter Try.func6, Try.ntmps6
  go_wp2
  go_ret
  exact ⟨rfl, rfl⟩

theorem z9z (o : Int) (w : World) (h : o = 0) : Calls Try.prog 6 #[.string ⟨#[126, 60, 61]⟩, .int .i64 o] w fun e w' => e = .returned (.int .i8 2) ∧ w' = w := by
  subst h
  go_enter Try.func6, Try.ntmps6
  go_wp2
  go_ret
  exact ⟨rfl, rfl⟩

theorem z9p (o : Int) (w : World) (h : 0 < o) : Calls Try.prog 6 #[.string ⟨#[126, 60, 61]⟩, .int .i64 o] w fun e w' => e = .returned (.int .i8 0) ∧ w' = w := by
  have o1 : decide (o < 0) = false := by simp; omega
  have o2 : (o == 0) = false := by simp; omega
  have o6 : (o != 0) = true := by simp; omega
  have o3 : decide (0 < o) = true := by simp; omega
  have o4 : decide (o ≤ 0) = false := by simp; omega
  have o5 : decide (0 ≤ o) = true := by simp; omega
  go_enter Try.func6, Try.ntmps6
  go_wp2
  go_ret
  exact ⟨rfl, rfl⟩

theorem z10n (o : Int) (w : World) (h : o < 0) : Calls Try.prog 6 #[.string ⟨#[126, 62]⟩, .int .i64 o] w fun e w' => e = .returned (.int .i8 0) ∧ w' = w := by
  have o1 : decide (o < 0) = true := by simp; omega
  have o2 : (o == 0) = false := by simp; omega
  have o6 : (o != 0) = true := by simp; omega
  have o3 : decide (0 < o) = false := by simp; omega
  have o4 : decide (o ≤ 0) = true := by simp; omega
  have o5 : decide (0 ≤ o) = false := by simp; omega
  go_enter Try.func6, Try.ntmps6
  go_wp2
  go_ret
  exact ⟨rfl, rfl⟩

theorem z10z (o : Int) (w : World) (h : o = 0) : Calls Try.prog 6 #[.string ⟨#[126, 62]⟩, .int .i64 o] w fun e w' => e = .returned (.int .i8 0) ∧ w' = w := by
  subst h
  go_enter Try.func6, Try.ntmps6
  go_wp2
  go_ret
  exact ⟨rfl, rfl⟩

theorem z10p (o : Int) (w : World) (h : 0 < o) : Calls Try.prog 6 #[.string ⟨#[126, 62]⟩, .int .i64 o] w fun e w' => e = .returned (.int .i8 2) ∧ w' = w := by
  have o1 : decide (o < 0) = false := by simp; omega
  have o2 : (o == 0) = false := by simp; omega
  have o6 : (o != 0) = true := by simp; omega
  have o3 : decide (0 < o) = true := by simp; omega
  have o4 : decide (o ≤ 0) = false := by simp; omega
  have o5 : decide (0 ≤ o) = true := by simp; omega
  go_enter Try.func6, Try.ntmps6
  go_wp2
  go_ret
  exact ⟨rfl, rfl⟩

theorem z11n (o : Int) (w : World) (h : o < 0) : Calls Try.prog 6 #[.string ⟨#[126, 62, 61]⟩, .int .i64 o] w fun e w' => e = .returned (.int .i8 0) ∧ w' = w := by
  have o1 : decide (o < 0) = true := by simp; omega
  have o2 : (o == 0) = false := by simp; omega
  have o6 : (o != 0) = true := by simp; omega
  have o3 : decide (0 < o) = false := by simp; omega
  have o4 : decide (o ≤ 0) = true := by simp; omega
  have o5 : decide (0 ≤ o) = false := by simp; omega
  go_enter Try.func6, Try.ntmps6
  go_wp2
  go_ret
  exact ⟨rfl, rfl⟩

theorem z11z (o : Int) (w : World) (h : o = 0) : Calls Try.prog 6 #[.string ⟨#[126, 62, 61]⟩, .int .i64 o] w fun e w' => e = .returned (.int .i8 2) ∧ w' = w := by
  subst h
  go_enter Try.func6, Try.ntmps6
  go_wp2
  go_ret
  exact ⟨rfl, rfl⟩

theorem z11p (o : Int) (w : World) (h : 0 < o) : Calls Try.prog 6 #[.string ⟨#[126, 62, 61]⟩, .int .i64 o] w fun e w' => e = .returned (.int .i8 2) ∧ w' = w := by
  have o1 : decide (o < 0) = false := by simp; omega
  have o2 : (o == 0) = false := by simp; omega
  have o6 : (o != 0) = true := by simp; omega
  have o3 : decide (0 < o) = true := by simp; omega
  have o4 : decide (o ≤ 0) = false := by simp; omega
  have o5 : decide (0 ≤ o) = true := by simp; omega
  go_enter Try.func6, Try.ntmps6
  go_wp2
  go_ret
  exact ⟨rfl, rfl⟩
end Go.Proofs.Qxb6604561a
