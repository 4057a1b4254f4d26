import Derived.WalkKit
import Derived.Test.Qxb6604561aProg
namespace Go.Proofs.Qxb6604561a
open Go.RowKit

/-- Does the byte c stand among the bytes l? -/
def hb (l : List UInt8) (c : Int) : Bool := l.any fun x => ((x.toNat : Int) == c)
theorem take_snoc (s : ByteArray) (k : Nat) (h : k < s.size) : s.data.toList.take (k + 1) = s.data.toList.take k ++ [s[k]] := by
  rw [List.take_succ_eq_append_getElem (by simpa using h)]; rfl

set_option maxHeartbeats 400000 in
theorem hasByte_any (s : ByteArray) (c : Int) (w : World) (hs : s.size ≤ 1048576) :
    Calls Try.prog 8 #[.string s, .int .u8 c] w fun e w' => e = .returned (.bool (hb s.data.toList c)) ∧ w' = w := by
  go_enter Try.func8, Try.ntmps8
  go_wp2
  go_loop [5] (fun i => ∃ k : Nat, k ≤ s.size ∧ i = .int .i64 k ∧ Hid (hb (s.data.toList.take k) c = false)) (fun i => s.size - (intOf i).toNat)
  case atStart => exact ⟨0, Nat.zero_le _, rfl, (rfl : hb _ _ = false)⟩
  case round =>
    obtain ⟨k, hk, rfl, hno⟩ := hrel
    by_cases hlt : k < s.size
    · cases hc : ((s[k].toNat : Int) == c)
      · go_wp2
        go_round
        case rel => exact ⟨k + 1, by omega, by go_num, by
          show hb _ _ = false
          rw [take_snoc s k hlt]; unfold hb; rw [List.any_append]
          have := hno.out; unfold hb at this
          simp [this] at hc ⊢; exact hc⟩
        case measure => simp [intOf]; omega
      · go_wp2
        go_ret
        refine ⟨?_, rfl⟩
        have : hb s.data.toList c = true := by
          unfold hb; rw [List.any_eq_true]
          exact ⟨s[k], by rw [Array.mem_toList_iff]; exact Array.getElem_mem (xs := s.data) hlt, hc⟩
        rw [this]; rfl
    · go_wp2
      go_ret
      refine ⟨?_, rfl⟩
      have e : s.data.toList.take k = s.data.toList := List.take_of_length_le (by simp; omega)
      have := hno.out
      rw [e] at this
      rw [this]; rfl
end Go.Proofs.Qxb6604561a
