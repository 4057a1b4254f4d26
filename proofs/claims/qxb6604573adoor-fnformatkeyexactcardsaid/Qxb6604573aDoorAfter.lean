import Derived.Test.Qxb6604573aDoorOrd
import Derived.WalkSpells
namespace Go.Proofs.Qxb6604573aDoor
open Go.RowKit

/-- What comes behind an integer's key. -/
def aftI (l : List UInt8) : List UInt8 := if ord8 l = 18446744073709551615 then l else Lib.beBytes 8 (ord8 l + 1)

theorem add_zero_byte (s : ByteArray) : s ++ (⟨#[0]⟩ : ByteArray) = ⟨(s.data.toList ++ [0]).toArray⟩ := by
  apply ByteArray.ext
  simp
  apply Array.ext'
  simp

/-- A slice's length, for a loop's measure. -/
def slen : Value → Nat | .slice _ n _ => n | _ => 0

theorem str_self (s : ByteArray) : s = ⟨s.data.toList.toArray⟩ := by cases s; rfl

set_option maxRecDepth 100000 in
set_option maxHeartbeats 400000 in
theorem after_int (a0 a1 : ByteArray) (a2 a3 a4 a5 : Int) (s : ByteArray) (w : World) (hk : (a1.toList == [98, 121, 116, 101, 115]) = false) :
    Calls Tryd.prog 14 #[.agg #[.string a0, .string a1, .int .i64 a2, .int .i64 a3, .int .i64 a4, .int .i64 a5, .string ⟨#[]⟩, .int .i64 0, .int .u64 0, .int .u64 0], .string s] w fun e w' => e = .returned (.string ⟨(aftI s.data.toList).toArray⟩) ∧ Below w.heap.size w w' := by
  have hlt := ord8_lt s.data.toList
  obtain ⟨n, hn⟩ : ∃ n : Int, n = (ord8 s.data.toList : Int) - 9223372036854775808 := ⟨_, rfl⟩
  have h0 : -9223372036854775808 ≤ n := by omega
  have h1 : n ≤ 9223372036854775807 := by omega
  have HI : Hid (∀ w, Calls Tryd.prog 16 #[.string s] w fun e w' => e = .returned (.int .i64 n) ∧ Below w.heap.size w w') := by
    intro w; rw [hn]; exact int_any s w
  have HN : Hid (n = (ord8 s.data.toList : Int) - 9223372036854775808) := hn
  clear hn hlt
  by_cases hm : n < 9223372036854775807
  · go_enter Tryd.func14, Tryd.ntmps14
    go_wp2_with fail
    refine (HI.out _).mono ?_
    rintro e w1 ⟨rfl, hb1⟩
    go_wp2_with fail
    refine (intKey_any _ _ (by omega) (by omega)).mono ?_
    rintro e w2 ⟨rfl, hb2⟩
    go_wp2_with fail
    go_ret
    have hz : w.heap.size ≤ w1.heap.size := by have := hb1.size; simp at this; omega
    refine ⟨?_, ((((Below.refl _ w).alloc (Nat.le_refl _) _).trans (hb1.mono (by simp))).trans (hb2.mono hz))⟩
    have e1 : (n + 1 + 9223372036854775808).toNat = ord8 s.data.toList + 1 := by have := HN.out; omega
    have e2 : ord8 s.data.toList ≠ 18446744073709551615 := by have := HN.out; omega
    rw [aftI, if_neg e2, ← e1]; rfl
  · go_enter Tryd.func14, Tryd.ntmps14
    go_wp2_with fail
    refine (HI.out _).mono ?_
    rintro e w1 ⟨rfl, hb1⟩
    go_wp2_with fail
    go_ret
    refine ⟨?_, (((Below.refl _ w).alloc (Nat.le_refl _) _).trans (hb1.mono (by simp)))⟩
    have e2 : ord8 s.data.toList = 18446744073709551615 := by have := HN.out; omega
    rw [aftI, if_pos e2, ← str_self]; rfl

end Go.Proofs.Qxb6604573aDoor
