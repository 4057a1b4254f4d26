import Derived.Test.Qxb6604573aModel
namespace Go.Proofs.Qxb6604573a
open Go.RowKit

theorem mk_any (a0 a1 : ByteArray) (a2 a3 a4 a5 : Int) (w : World) : Calls Try.prog 5 #[.string a0, .string a1, .int .i64 a2, .int .i64 a3, .int .i64 a4, .int .i64 a5] w
    fun e w' => e = .returned (.agg #[.string a0, .string a1, .int .i64 a2, .int .i64 a3, .int .i64 a4, .int .i64 a5, .string ⟨#[]⟩, .int .i64 0, .int .u64 0, .int .u64 0]) ∧ Below w.heap.size w w' := by
  go_enter Try.func5, Try.ntmps5
  go_wp2
  exact bodyPost_ret (v := .agg #[.string a0, .string a1, .int .i64 a2, .int .i64 a3, .int .i64 a4, .int .i64 a5, .string ⟨#[]⟩, .int .i64 0, .int .u64 0, .int .u64 0]) (by simp [results, Try.results5, go_sem]) rfl ⟨rfl, (Below.refl _ _).alloc (Nat.le_refl _) _⟩

/-- What 'After' and its model give. -/
def afterV (b : Bool) (l : List UInt8) : List UInt8 := if b then (if l.length < 1024 then l ++ [0] else aft l) else aftI l

theorem after_all (a0 a1 : ByteArray) (a2 a3 a4 a5 : Int) (s : ByteArray) (w : World) (hs : s.size ≤ 1048576) :
    Calls Try.prog 6 #[.agg #[.string a0, .string a1, .int .i64 a2, .int .i64 a3, .int .i64 a4, .int .i64 a5, .string ⟨#[]⟩, .int .i64 0, .int .u64 0, .int .u64 0], .string s] w fun e w' => e = .returned (.string ⟨(afterV (a1.toList == [98, 121, 116, 101, 115]) s.data.toList).toArray⟩) ∧ Below w.heap.size w w' := by
  have hsl : s.size = s.data.toList.length := by rw [Array.length_toList]; rfl
  cases hk : (a1.toList == [98, 121, 116, 101, 115])
  · exact after_int a0 a1 a2 a3 a4 a5 s w hk
  · by_cases h : s.size < 1024
    · have e : afterV true s.data.toList = s.data.toList ++ [0] := by simp only [afterV, if_true]; rw [if_pos (by omega)]
      rw [e]; exact after_short a0 a1 a2 a3 a4 a5 s w hk h
    · have e : afterV true s.data.toList = aft s.data.toList := by simp only [afterV, if_true]; rw [if_neg (by omega)]
      rw [e]; exact after_long a0 a1 a2 a3 a4 a5 s w hk (by omega) hs

theorem model_all (a1 s : ByteArray) (w : World) (hs : s.size ≤ 1048576) :
    Calls Try.prog 7 #[.string a1, .string s] w fun e w' => e = .returned (.string ⟨(afterV (a1.toList == [98, 121, 116, 101, 115]) s.data.toList).toArray⟩) ∧ Below w.heap.size w w' := by
  have hsl : s.size = s.data.toList.length := by rw [Array.length_toList]; rfl
  cases hk : (a1.toList == [98, 121, 116, 101, 115])
  · exact model_int a1 s w hk hs
  · by_cases h : s.size < 1024
    · have e : afterV true s.data.toList = s.data.toList ++ [0] := by simp only [afterV, if_true]; rw [if_pos (by omega)]
      rw [e]; exact model_short a1 s w hk h
    · have e : afterV true s.data.toList = aft s.data.toList := by simp only [afterV, if_true]; rw [if_neg (by omega)]
      rw [e]; exact model_long a1 s w hk (by omega) hs

set_option maxRecDepth 100000 in
set_option maxHeartbeats 400000 in
theorem law_main (a0 a1 : ByteArray) (a2 a3 a4 a5 : Int) (a6 : ByteArray) (w : World) (h0 : a0.size ≤ 262144) (h1 : a1.size ≤ 262144) (h6 : a6.size ≤ 262144) :
    Calls Try.prog 3 #[.string a0, .string a1, .int .i64 a2, .int .i64 a3, .int .i64 a4, .int .i64 a5, .string a6] w fun e w' => e = .returned (.bool true) ∧ Below w.heap.size w w' := by
  go_enter Try.func3, Try.ntmps3
  go_wp2_with (first | (go_at_call 4; go_in))
  refine (mk_any a0 a1 a2 a3 a4 a5 _).mono ?_
  rintro e w1 ⟨rfl, hb1⟩
  go_wp2_with fail
  refine (after_all a0 a1 a2 a3 a4 a5 a6 _ (by omega)).mono ?_
  rintro e w2 ⟨rfl, hb2⟩
  have HM : Hid (∀ w, Calls Try.prog 7 #[.string a1, .string a6] w fun e w' => e = .returned (.string ⟨(afterV (a1.toList == [98, 121, 116, 101, 115]) a6.data.toList).toArray⟩) ∧ Below w.heap.size w w') := fun w => model_all a1 a6 w (by omega)
  generalize (⟨(afterV (a1.toList == [98, 121, 116, 101, 115]) a6.data.toList).toArray⟩ : ByteArray) = G at *
  have hz1 : w.heap.size ≤ w1.heap.size := hb1.size
  have hz2 : w1.heap.size ≤ w2.heap.size := by have := hb2.size; simp at this; omega
  have HB : Hid (Below w.heap.size w w2) := (hb1.alloc hz1 _).trans (hb2.mono (by simp; omega))
  clear hb1 hb2
  go_wp2_with fail
  refine (HM.out _).mono ?_
  rintro e w3 ⟨rfl, hb3⟩
  go_wp2_with fail
  go_ret
  exact ⟨by simp, HB.out.trans (hb3.mono (by omega))⟩

set_option maxRecDepth 100000 in
set_option maxHeartbeats 400000 in
theorem law_all (a0 a1 : ByteArray) (a2 a3 a4 a5 : Int) (a6 : ByteArray) (w : World) (m0 : a0.size ≤ maxLen) (m1 : a1.size ≤ maxLen) (m6 : a6.size ≤ maxLen) :
    Calls Try.prog 3 #[.string a0, .string a1, .int .i64 a2, .int .i64 a3, .int .i64 a4, .int .i64 a5, .string a6] w fun e w' => e = .returned (.bool true) ∧ Below w.heap.size w w' := by
  unfold maxLen at m0 m1 m6
  by_cases h0 : a0.size ≤ 262144
  · by_cases h1 : a1.size ≤ 262144
    · by_cases h6 : a6.size ≤ 262144
      · exact law_main a0 a1 a2 a3 a4 a5 a6 w h0 h1 h6
      · go_enter Try.func3, Try.ntmps3
        go_wp2
        all_goals (go_ret; exact ⟨rfl, Below.refl _ _⟩)
    · go_enter Try.func3, Try.ntmps3
      go_wp2
      all_goals (go_ret; exact ⟨rfl, Below.refl _ _⟩)
  · go_enter Try.func3, Try.ntmps3
    go_wp2
    all_goals (go_ret; exact ⟨rfl, Below.refl _ _⟩)
end Go.Proofs.Qxb6604573a
