import Derived.Test.Qxb6604561aHolds
namespace Go.Proofs.Qxb6604561a
open Go.RowKit
/-! ### The operator's negation, mirror and tilde twin -/

theorem c0 (w : World) : Calls Try.prog 10 #[.string ⟨#[61, 61]⟩] w fun e w' => e = .returned (.string ⟨#[33, 61]⟩) ∧ w' = w := by
  go_enter Try.func10, Try.ntmps10
  go_wp2
  go_ret
  exact ⟨rfl, rfl⟩

theorem m0 (w : World) : Calls Try.prog 11 #[.string ⟨#[61, 61]⟩] w fun e w' => e = .returned (.string ⟨#[61, 61]⟩) ∧ w' = w := by
  go_enter Try.func11, Try.ntmps11
  go_wp2
  go_ret
  exact ⟨rfl, rfl⟩

theorem t0 (w : World) : Calls Try.prog 12 #[.string ⟨#[61, 61]⟩] w fun e w' => e = .returned (.string ⟨#[126, 61]⟩) ∧ w' = w := by
  go_enter Try.func12, Try.ntmps12
  go_wp2
  go_ret
  exact ⟨rfl, rfl⟩

theorem c1 (w : World) : Calls Try.prog 10 #[.string ⟨#[33, 61]⟩] w fun e w' => e = .returned (.string ⟨#[61, 61]⟩) ∧ w' = w := by
  go_enter Try.func10, Try.ntmps10
  go_wp2
  go_ret
  exact ⟨rfl, rfl⟩

theorem m1 (w : World) : Calls Try.prog 11 #[.string ⟨#[33, 61]⟩] w fun e w' => e = .returned (.string ⟨#[33, 61]⟩) ∧ w' = w := by
  go_enter Try.func11, Try.ntmps11
  go_wp2
  go_ret
  exact ⟨rfl, rfl⟩

theorem t1 (w : World) : Calls Try.prog 12 #[.string ⟨#[33, 61]⟩] w fun e w' => e = .returned (.string ⟨#[126, 33, 61]⟩) ∧ w' = w := by
  go_enter Try.func12, Try.ntmps12
  go_wp2
  go_ret
  exact ⟨rfl, rfl⟩

theorem c2 (w : World) : Calls Try.prog 10 #[.string ⟨#[60]⟩] w fun e w' => e = .returned (.string ⟨#[62, 61]⟩) ∧ w' = w := by
  go_enter Try.func10, Try.ntmps10
  go_wp2
  go_ret
  exact ⟨rfl, rfl⟩

theorem m2 (w : World) : Calls Try.prog 11 #[.string ⟨#[60]⟩] w fun e w' => e = .returned (.string ⟨#[62]⟩) ∧ w' = w := by
  go_enter Try.func11, Try.ntmps11
  go_wp2
  go_ret
  exact ⟨rfl, rfl⟩

theorem t2 (w : World) : Calls Try.prog 12 #[.string ⟨#[60]⟩] w fun e w' => e = .returned (.string ⟨#[126, 60]⟩) ∧ w' = w := by
  go_enter Try.func12, Try.ntmps12
  go_wp2
  go_ret
  exact ⟨rfl, rfl⟩

theorem c3 (w : World) : Calls Try.prog 10 #[.string ⟨#[60, 61]⟩] w fun e w' => e = .returned (.string ⟨#[62]⟩) ∧ w' = w := by
  go_enter Try.func10, Try.ntmps10
  go_wp2
  go_ret
  exact ⟨rfl, rfl⟩

theorem m3 (w : World) : Calls Try.prog 11 #[.string ⟨#[60, 61]⟩] w fun e w' => e = .returned (.string ⟨#[62, 61]⟩) ∧ w' = w := by
  go_enter Try.func11, Try.ntmps11
  go_wp2
  go_ret
  exact ⟨rfl, rfl⟩

theorem t3 (w : World) : Calls Try.prog 12 #[.string ⟨#[60, 61]⟩] w fun e w' => e = .returned (.string ⟨#[126, 60, 61]⟩) ∧ w' = w := by
  go_enter Try.func12, Try.ntmps12
  go_wp2
  go_ret
  exact ⟨rfl, rfl⟩

theorem c4 (w : World) : Calls Try.prog 10 #[.string ⟨#[62]⟩] w fun e w' => e = .returned (.string ⟨#[60, 61]⟩) ∧ w' = w := by
  go_enter Try.func10, Try.ntmps10
  go_wp2
  go_ret
  exact ⟨rfl, rfl⟩

theorem m4 (w : World) : Calls Try.prog 11 #[.string ⟨#[62]⟩] w fun e w' => e = .returned (.string ⟨#[60]⟩) ∧ w' = w := by
  go_enter Try.func11, Try.ntmps11
  go_wp2
  go_ret
  exact ⟨rfl, rfl⟩

theorem t4 (w : World) : Calls Try.prog 12 #[.string ⟨#[62]⟩] w fun e w' => e = .returned (.string ⟨#[126, 62]⟩) ∧ w' = w := by
  go_enter Try.func12, Try.ntmps12
  go_wp2
  go_ret
  exact ⟨rfl, rfl⟩

theorem c5 (w : World) : Calls Try.prog 10 #[.string ⟨#[62, 61]⟩] w fun e w' => e = .returned (.string ⟨#[60]⟩) ∧ w' = w := by
  go_enter Try.func10, Try.ntmps10
  go_wp2
  go_ret
  exact ⟨rfl, rfl⟩

theorem m5 (w : World) : Calls Try.prog 11 #[.string ⟨#[62, 61]⟩] w fun e w' => e = .returned (.string ⟨#[60, 61]⟩) ∧ w' = w := by
  go_enter Try.func11, Try.ntmps11
  go_wp2
  go_ret
  exact ⟨rfl, rfl⟩

theorem t5 (w : World) : Calls Try.prog 12 #[.string ⟨#[62, 61]⟩] w fun e w' => e = .returned (.string ⟨#[126, 62, 61]⟩) ∧ w' = w := by
  go_enter Try.func12, Try.ntmps12
  go_wp2
  go_ret
  exact ⟨rfl, rfl⟩

theorem c6 (w : World) : Calls Try.prog 10 #[.string ⟨#[126, 61]⟩] w fun e w' => e = .returned (.string ⟨#[126, 33, 61]⟩) ∧ w' = w := by
  go_enter Try.func10, Try.ntmps10
  go_wp2
  go_ret
  exact ⟨rfl, rfl⟩

theorem m6 (w : World) : Calls Try.prog 11 #[.string ⟨#[126, 61]⟩] w fun e w' => e = .returned (.string ⟨#[126, 61]⟩) ∧ w' = w := by
  go_enter Try.func11, Try.ntmps11
  go_wp2
  go_ret
  exact ⟨rfl, rfl⟩

theorem t6 (w : World) : Calls Try.prog 12 #[.string ⟨#[126, 61]⟩] w fun e w' => e = .returned (.string ⟨#[61, 61]⟩) ∧ w' = w := by
  go_enter Try.func12, Try.ntmps12
  go_wp2
  go_ret
  exact ⟨rfl, rfl⟩

theorem c7 (w : World) : Calls Try.prog 10 #[.string ⟨#[126, 33, 61]⟩] w fun e w' => e = .returned (.string ⟨#[126, 61]⟩) ∧ w' = w := by
  go_enter Try.func10, Try.ntmps10
  go_wp2
  go_ret
  exact ⟨rfl, rfl⟩

theorem m7 (w : World) : Calls Try.prog 11 #[.string ⟨#[126, 33, 61]⟩] w fun e w' => e = .returned (.string ⟨#[126, 33, 61]⟩) ∧ w' = w := by
  go_enter Try.func11, Try.ntmps11
  go_wp2
  go_ret
  exact ⟨rfl, rfl⟩

theorem t7 (w : World) : Calls Try.prog 12 #[.string ⟨#[126, 33, 61]⟩] w fun e w' => e = .returned (.string ⟨#[33, 61]⟩) ∧ w' = w := by
  go_enter Try.func12, Try.ntmps12
  go_wp2
  go_ret
  exact ⟨rfl, rfl⟩

theorem c8 (w : World) : Calls Try.prog 10 #[.string ⟨#[126, 60]⟩] w fun e w' => e = .returned (.string ⟨#[126, 62, 61]⟩) ∧ w' = w := by
  go_enter Try.func10, Try.ntmps10
  go_wp2
  go_ret
  exact ⟨rfl, rfl⟩

theorem m8 (w : World) : Calls Try.prog 11 #[.string ⟨#[126, 60]⟩] w fun e w' => e = .returned (.string ⟨#[126, 62]⟩) ∧ w' = w := by
  go_enter Try.func11, Try.ntmps11
  go_wp2
  go_ret
  exact ⟨rfl, rfl⟩

theorem t8 (w : World) : Calls Try.prog 12 #[.string ⟨#[126, 60]⟩] w fun e w' => e = .returned (.string ⟨#[60]⟩) ∧ w' = w := by
  go_enter Try.func12, Try.ntmps12
  go_wp2
  go_ret
  exact ⟨rfl, rfl⟩

theorem c9 (w : World) : Calls Try.prog 10 #[.string ⟨#[126, 60, 61]⟩] w fun e w' => e = .returned (.string ⟨#[126, 62]⟩) ∧ w' = w := by
  go_enter Try.func10, Try.ntmps10
  go_wp2
  go_ret
  exact ⟨rfl, rfl⟩

theorem m9 (w : World) : Calls Try.prog 11 #[.string ⟨#[126, 60, 61]⟩] w fun e w' => e = .returned (.string ⟨#[126, 62, 61]⟩) ∧ w' = w := by
  go_enter Try.func11, Try.ntmps11
  go_wp2
  go_ret
  exact ⟨rfl, rfl⟩

theorem t9 (w : World) : Calls Try.prog 12 #[.string ⟨#[126, 60, 61]⟩] w fun e w' => e = .returned (.string ⟨#[60, 61]⟩) ∧ w' = w := by
  go_enter Try.func12, Try.ntmps12
  go_wp2
  go_ret
  exact ⟨rfl, rfl⟩

theorem c10 (w : World) : Calls Try.prog 10 #[.string ⟨#[126, 62]⟩] w fun e w' => e = .returned (.string ⟨#[126, 60, 61]⟩) ∧ w' = w := by
  go_enter Try.func10, Try.ntmps10
  go_wp2
  go_ret
  exact ⟨rfl, rfl⟩

theorem m10 (w : World) : Calls Try.prog 11 #[.string ⟨#[126, 62]⟩] w fun e w' => e = .returned (.string ⟨#[126, 60]⟩) ∧ w' = w := by
  go_enter Try.func11, Try.ntmps11
  go_wp2
  go_ret
  exact ⟨rfl, rfl⟩

theorem t10 (w : World) : Calls Try.prog 12 #[.string ⟨#[126, 62]⟩] w fun e w' => e = .returned (.string ⟨#[62]⟩) ∧ w' = w := by
  go_enter Try.func12, Try.ntmps12
  go_wp2
  go_ret
  exact ⟨rfl, rfl⟩

theorem c11 (w : World) : Calls Try.prog 10 #[.string ⟨#[126, 62, 61]⟩] w fun e w' => e = .returned (.string ⟨#[126, 60]⟩) ∧ w' = w := by
  go_enter Try.func10, Try.ntmps10
  go_wp2
  go_ret
  exact ⟨rfl, rfl⟩

theorem m11 (w : World) : Calls Try.prog 11 #[.string ⟨#[126, 62, 61]⟩] w fun e w' => e = .returned (.string ⟨#[126, 60, 61]⟩) ∧ w' = w := by
  go_enter Try.func11, Try.ntmps11
  go_wp2
  go_ret
  exact ⟨rfl, rfl⟩

theorem t11 (w : World) : Calls Try.prog 12 #[.string ⟨#[126, 62, 61]⟩] w fun e w' => e = .returned (.string ⟨#[62, 61]⟩) ∧ w' = w := by
  go_enter Try.func12, Try.ntmps12
  go_wp2
  go_ret
  exact ⟨rfl, rfl⟩
end Go.Proofs.Qxb6604561a
