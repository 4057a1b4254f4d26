import Derived.Test.Qxb6604573aDoorPad
namespace Go.Proofs.Qxb6604573aDoor
open Go.RowKit

set_option maxRecDepth 100000 in
set_option maxHeartbeats 400000 in
theorem exact_bytes (a0 a1 : ByteArray) (a2 a3 a4 a5 : Int) (a6 : ByteArray) (w : World) (h0 : a0.size ≤ 262144) (h1 : a1.size ≤ 262144) (h6 : a6.size ≤ 262144) (hk : (a1.toList == [98, 121, 116, 101, 115]) = true) :
    Calls Tryd.prog 3 #[.string a0, .string a1, .int .i64 a2, .int .i64 a3, .int .i64 a4, .int .i64 a5, .string a6] w fun e w' => e = .returned (.bool true) ∧ Below w.heap.size w w' := by
  go_enter Tryd.func3, Tryd.ntmps3
  go_wp2_with (first | (go_at_call 6; go_in))
  refine (mk_any a0 a1 a2 a3 a4 a5 _).mono ?_
  rintro e w1 ⟨rfl, hb1⟩
  go_wp2_with fail
  refine (fk_bytes a0 a1 a2 a3 a4 a5 a6 _ hk).mono ?_
  rintro e w2 ⟨rfl, hb2⟩
  have hz1 : w.heap.size ≤ w1.heap.size := hb1.size
  have HB : Hid (Below w.heap.size w w2) := (hb1.alloc hz1 _).trans (hb2.mono (by simp; omega))
  clear hb1 hb2
  go_wp2_with fail
  go_ret
  exact ⟨by simp, HB.out⟩

set_option maxRecDepth 100000 in
set_option maxHeartbeats 400000 in
theorem exact_int (a0 a1 : ByteArray) (a2 a3 a4 a5 : Int) (a6 : ByteArray) (w : World) (h0 : a0.size ≤ 262144) (h1 : a1.size ≤ 262144) (h6 : a6.size ≤ 262144) (hk : (a1.toList == [98, 121, 116, 101, 115]) = false) (htab : Tab w) :
    Calls Tryd.prog 3 #[.string a0, .string a1, .int .i64 a2, .int .i64 a3, .int .i64 a4, .int .i64 a5, .string a6] w fun e w' => e = .returned (.bool true) ∧ Below w.heap.size w w' := by
  have HT : Hid (Tab w) := htab
  have HF : Hid (∀ w, Tab w → Calls Tryd.prog 8 #[.agg #[.string a0, .string a1, .int .i64 a2, .int .i64 a3, .int .i64 a4, .int .i64 a5, .string ⟨#[]⟩, .int .i64 0, .int .u64 0, .int .u64 0], .string a6] w
      fun e w' => e = .returned (.string ⟨(Lib.itoa (keyN a6.data.toList)).toArray⟩) ∧ Below w.heap.size w w') := fun w ht => fk_int a0 a1 a2 a3 a4 a5 a6 w hk ht
  have hn := keyN_bd a6.data.toList
  have HP : Hid (∀ w, Calls Tryd.prog 9 #[.string ⟨(Lib.itoa (keyN a6.data.toList)).toArray⟩] w fun e w' => e = .returned (.tuple #[.int .i64 (keyN a6.data.toList), .bool true]) ∧ w' = w) := fun w => parse_itoa _ w hn.1 hn.2
  have hflip : bits .xor .u64 (IntKind.u64.wrap (keyN a6.data.toList)) 9223372036854775808 = (ord8 a6.data.toList : Int) := by
    rw [flip_u64 _ hn.1 hn.2]; unfold keyN; omega
  have HE : Hid (∀ w, Calls Tryd.prog 10 #[.int .u64 (ord8 a6.data.toList : Int)] w fun e w' => e = .returned (.string ⟨(pad8 a6.data.toList).toArray⟩) ∧ Below w.heap.size w w') := by
    intro w; rw [← enc8_ord8]; exact enc_any _ w (ord8_lt _)
  have HQ : Hid (∀ w, Calls Tryd.prog 11 #[.string a6] w fun e w' => e = .returned (.string ⟨(pad8 a6.data.toList).toArray⟩) ∧ Below w.heap.size w w') := fun w => pad_any a6 w
  clear htab hn
  generalize keyN a6.data.toList = n at *
  generalize ord8 a6.data.toList = U at *
  generalize (⟨(pad8 a6.data.toList).toArray⟩ : ByteArray) = G at *
  generalize (⟨(Lib.itoa n).toArray⟩ : ByteArray) = S at *
  go_enter Tryd.func3, Tryd.ntmps3
  go_wp2_with (first | (go_at_call 6; go_in))
  refine (mk_any a0 a1 a2 a3 a4 a5 _).mono ?_
  rintro e w1 ⟨rfl, hb1⟩
  have hz1 : w.heap.size ≤ w1.heap.size := hb1.size
  have HB1 : Hid (Below w.heap.size w w1) := hb1
  clear hb1
  go_wp2_with fail
  refine (HF.out _ (HT.out.below (HB1.out.alloc hz1 _) HT.out.lt)).mono ?_
  rintro e w2 ⟨rfl, hb2⟩
  have hz2 : w1.heap.size ≤ w2.heap.size := by have := hb2.size; simp at this; omega
  have HB2 : Hid (Below w.heap.size w w2) := (HB1.out.alloc hz1 _).trans (hb2.mono (by simp; omega))
  clear hb2
  go_wp2_with fail
  refine (HP.out _).mono ?_
  rintro e w2' ⟨rfl, hw⟩
  subst w2'
  go_wp2_with fail
  refine (HE.out _).mono ?_
  rintro e w3 ⟨rfl, hb3⟩
  have hz3 : w2.heap.size ≤ w3.heap.size := hb3.size
  have HB3 : Hid (Below w.heap.size w w3) := HB2.out.trans (hb3.mono (by omega))
  clear hb3
  go_wp2_with fail
  refine (HQ.out _).mono ?_
  rintro e w4 ⟨rfl, hb4⟩
  have HB4 : Hid (Below w.heap.size w w4) := HB3.out.trans (hb4.mono (by omega))
  clear hb4
  go_wp2_with fail
  go_ret
  exact ⟨by simp, HB4.out⟩

set_option maxRecDepth 100000 in
set_option maxHeartbeats 400000 in
theorem exact_all (a0 a1 : ByteArray) (a2 a3 a4 a5 : Int) (a6 : ByteArray) (w : World) (m0 : a0.size ≤ maxLen) (m1 : a1.size ≤ maxLen) (m6 : a6.size ≤ maxLen) (htab : Tab w) :
    Calls Tryd.prog 3 #[.string a0, .string a1, .int .i64 a2, .int .i64 a3, .int .i64 a4, .int .i64 a5, .string a6] w fun e w' => e = .returned (.bool true) ∧ Below w.heap.size w w' := by
  unfold maxLen at m0 m1 m6
  by_cases h0 : a0.size ≤ 262144
  · by_cases h1 : a1.size ≤ 262144
    · by_cases h6 : a6.size ≤ 262144
      · cases hk : (a1.toList == [98, 121, 116, 101, 115])
        · exact exact_int a0 a1 a2 a3 a4 a5 a6 w h0 h1 h6 hk htab
        · exact exact_bytes a0 a1 a2 a3 a4 a5 a6 w h0 h1 h6 hk
      · clear htab
        go_enter Tryd.func3, Tryd.ntmps3
        go_wp2
        all_goals (go_ret; exact ⟨rfl, Below.refl _ _⟩)
    · clear htab
      go_enter Tryd.func3, Tryd.ntmps3
      go_wp2
      all_goals (go_ret; exact ⟨rfl, Below.refl _ _⟩)
  · clear htab
    go_enter Tryd.func3, Tryd.ntmps3
    go_wp2
    all_goals (go_ret; exact ⟨rfl, Below.refl _ _⟩)
end Go.Proofs.Qxb6604573aDoor
