import Derived.Test.Qxb6604573aDoorOrder
namespace Go.Proofs.Qxb6604573aDoor
open Go.RowKit

theorem aftI_max (s : ByteArray) (h : keyN s.data.toList = 9223372036854775807) : (⟨(aftI s.data.toList).toArray⟩ : ByteArray) = s := by
  have e : ord8 s.data.toList = 18446744073709551615 := by unfold keyN at h; omega
  rw [aftI, if_pos e, ← str_self]
theorem aftI_next (s : ByteArray) (h : keyN s.data.toList < 9223372036854775807) : keyN (⟨(aftI s.data.toList).toArray⟩ : ByteArray).data.toList = keyN s.data.toList + 1 ∧ (⟨(aftI s.data.toList).toArray⟩ : ByteArray).size = 8 := by
  have hlt := ord8_lt s.data.toList
  have e : ord8 s.data.toList ≠ 18446744073709551615 := by unfold keyN at h; omega
  have e2 : aftI s.data.toList = Lib.beBytes 8 (ord8 s.data.toList + 1) := if_neg e
  rw [e2]
  have e4 : ord8 s.data.toList + 1 < 256 ^ 8 := by
    have : (256 : Nat) ^ 8 = 18446744073709551616 := by decide
    omega
  have e3 : ord8 (Lib.beBytes 8 (ord8 s.data.toList + 1)) = ord8 s.data.toList + 1 := by
    show Lib.beNat (pad8 (Lib.beBytes 8 (ord8 s.data.toList + 1))) = _
    rw [pad8_self _ (Lib.beBytes_length _ _), Lib.beNat_beBytes 8 _ e4]
  constructor
  · show keyN (Lib.beBytes 8 (ord8 s.data.toList + 1)) = _
    unfold keyN; rw [e3]; omega
  · show (Lib.beBytes 8 (ord8 s.data.toList + 1)).toArray.size = 8
    rw [List.size_toArray, Lib.beBytes_length]

set_option maxRecDepth 100000 in
set_option maxHeartbeats 1000000 in
theorem succ_main (a0 a1 : ByteArray) (a2 a3 a4 a5 : Int) (a6 : ByteArray) (w : World) (h0 : a0.size ≤ 262144) (h1 : a1.size ≤ 262144) (hk : (a1.toList == [98, 121, 116, 101, 115]) = false) (h6 : a6.size = 8) (htab : Tab w) :
    Calls Tryd.prog 5 #[.string a0, .string a1, .int .i64 a2, .int .i64 a3, .int .i64 a4, .int .i64 a5, .string a6] w fun e w' => e = .returned (.bool true) ∧ Below w.heap.size w w' := by
  have HT : Hid (Tab w) := htab
  have HF : Hid (∀ (s : ByteArray) w, Tab w → Calls Tryd.prog 8 #[.agg #[.string a0, .string a1, .int .i64 a2, .int .i64 a3, .int .i64 a4, .int .i64 a5, .string ⟨#[]⟩, .int .i64 0, .int .u64 0, .int .u64 0], .string s] w
      fun e w' => e = .returned (.string ⟨(Lib.itoa (keyN s.data.toList)).toArray⟩) ∧ Below w.heap.size w w') := fun s w ht => fk_int a0 a1 a2 a3 a4 a5 s w hk ht
  have HP : Hid (∀ (s : ByteArray) w, Calls Tryd.prog 9 #[.string ⟨(Lib.itoa (keyN s.data.toList)).toArray⟩] w fun e w' => e = .returned (.tuple #[.int .i64 (keyN s.data.toList), .bool true]) ∧ w' = w) := fun s w => parse_itoa _ w (keyN_bd _).1 (keyN_bd _).2
  have HA : Hid (∀ w, Calls Tryd.prog 14 #[.agg #[.string a0, .string a1, .int .i64 a2, .int .i64 a3, .int .i64 a4, .int .i64 a5, .string ⟨#[]⟩, .int .i64 0, .int .u64 0, .int .u64 0], .string a6] w
      fun e w' => e = .returned (.string ⟨(aftI a6.data.toList).toArray⟩) ∧ Below w.heap.size w w') := fun w => after_int a0 a1 a2 a3 a4 a5 a6 w hk
  have z6 : ((a6.size : Int) != 8) = false := by rw [h6]; rfl
  have b6 : a6.size ≤ 8 := by omega
  have H6 : Hid (a6.size = 8) := h6
  have hn := keyN_bd a6.data.toList
  clear htab h6
  by_cases hmx : keyN a6.data.toList = 9223372036854775807
  · have HM : Hid ((⟨(aftI a6.data.toList).toArray⟩ : ByteArray) = a6) := aftI_max a6 hmx
    have tm : (keyN a6.data.toList == 9223372036854775807) = true := by rw [hmx]; rfl
    have HF6 := HF.out a6
    have HP6 := HP.out a6
    clear hmx hn
    rw [HM.out] at HA
    generalize keyN a6.data.toList = n at *
    generalize (⟨(Lib.itoa n).toArray⟩ : ByteArray) = S at *
    have HF' : Hid (∀ w, Tab w → _) := HF6
    have HP' : Hid (∀ w, Calls Tryd.prog 9 #[.string S] w _) := HP6
    clear HF6 HP6
    go_enter Tryd.func5, Tryd.ntmps5
    go_wp2_with (first | (go_at_call 13; go_in))
    refine (mk_any a0 a1 a2 a3 a4 a5 _).mono ?_
    rintro e w1 ⟨rfl, hb1⟩
    have hz1 : w.heap.size ≤ w1.heap.size := hb1.size
    have HB1 : Hid (Below w.heap.size w w1) := hb1
    clear hb1
    go_wp2_with fail
    refine (HF'.out _ (HT.out.below (HB1.out.alloc hz1 _) HT.out.lt)).mono ?_
    rintro e w2 ⟨rfl, hb2⟩
    have hz2 : w1.heap.size < w2.heap.size := by have := hb2.size; simp at this; omega
    have HB2 : Hid (Below w.heap.size w w2) := (HB1.out.alloc hz1 _).trans (hb2.mono (by simp; omega))
    have hcell := fun o => hb2.cell (p := ⟨w1.heap.size, o, none⟩) (by simp)
    clear hb2
    go_wp2_with fail
    refine (HP'.out _).mono ?_
    rintro e w2' ⟨rfl, hw⟩
    subst w2'
    go_wp2_with fail
    refine (HA.out _).mono ?_
    rintro e w3 ⟨rfl, hb3⟩
    have HB3 : Hid (Below w.heap.size w w3) := HB2.out.trans (hb3.mono (by omega))
    clear hb3 hcell
    go_wp2_with fail
    go_ret
    exact ⟨by simp, HB3.out⟩
  · have hlt : keyN a6.data.toList < 9223372036854775807 := by omega
    obtain ⟨e1, e2⟩ := aftI_next a6 hlt
    obtain ⟨k1, k2⟩ := key_less (⟨(aftI a6.data.toList).toArray⟩ : ByteArray) a6 e2 H6.out
    have G1 : Op.bytesLess (⟨(aftI a6.data.toList).toArray⟩ : ByteArray).toList a6.toList = false := by rw [k1, e1, decide_eq_false_iff_not]; omega
    have G2 : ((⟨(aftI a6.data.toList).toArray⟩ : ByteArray).toList == a6.toList) = false := by rw [k2, e1, beq_eq_false_iff_ne]; omega
    have tm : (keyN a6.data.toList == 9223372036854775807) = false := by rw [beq_eq_false_iff_ne]; exact hmx
    have HF6 := HF.out a6
    have HP6 := HP.out a6
    have HFG := HF.out (⟨(aftI a6.data.toList).toArray⟩ : ByteArray)
    have HPG := HP.out (⟨(aftI a6.data.toList).toArray⟩ : ByteArray)
    rw [e1] at HFG HPG
    have G3 : (((⟨(aftI a6.data.toList).toArray⟩ : ByteArray).size : Int) == 8) = true := by rw [e2]; rfl
    clear hmx k1 k2 e1 e2
    obtain ⟨hn0, _⟩ := hn
    generalize (⟨(aftI a6.data.toList).toArray⟩ : ByteArray) = G at *
    generalize keyN a6.data.toList = n at *
    generalize (⟨(Lib.itoa n).toArray⟩ : ByteArray) = S at *
    generalize (⟨(Lib.itoa (n + 1)).toArray⟩ : ByteArray) = S2 at *
    have HF' : Hid (∀ w, Tab w → _) := HF6
    have HP' : Hid (∀ w, Calls Tryd.prog 9 #[.string S] w _) := HP6
    have HFG' : Hid (∀ w, Tab w → _) := HFG
    have HPG' : Hid (∀ w, Calls Tryd.prog 9 #[.string S2] w _) := HPG
    clear HF6 HP6 HFG HPG
    go_enter Tryd.func5, Tryd.ntmps5
    go_wp2_with (first | (go_at_call 13; go_in))
    refine (mk_any a0 a1 a2 a3 a4 a5 _).mono ?_
    rintro e w1 ⟨rfl, hb1⟩
    have hz1 : w.heap.size ≤ w1.heap.size := hb1.size
    have HB1 : Hid (Below w.heap.size w w1) := hb1
    clear hb1
    go_wp2_with fail
    refine (HF'.out _ (HT.out.below (HB1.out.alloc hz1 _) HT.out.lt)).mono ?_
    rintro e w2 ⟨rfl, hb2⟩
    have hz2 : w1.heap.size < w2.heap.size := by have := hb2.size; simp at this; omega
    have HB2 : Hid (Below w.heap.size w w2) := (HB1.out.alloc hz1 _).trans (hb2.mono (by simp; omega))
    have hcell := fun o => hb2.cell (p := ⟨w1.heap.size, o, none⟩) (by simp)
    clear hb2
    go_wp2_with fail
    refine (HP'.out _).mono ?_
    rintro e w2' ⟨rfl, hw⟩
    subst w2'
    go_wp2_with fail
    refine (HA.out _).mono ?_
    rintro e w3 ⟨rfl, hb3⟩
    have hz3 : w2.heap.size ≤ w3.heap.size := hb3.size
    have HB3 : Hid (Below w.heap.size w w3) := HB2.out.trans (hb3.mono (by omega))
    have hcell3 := fun o => (hb3.cell (p := ⟨w1.heap.size, o, none⟩) hz2).trans (hcell o)
    clear hb3 hcell
    go_wp2_with fail
    refine (HFG'.out _ (HT.out.below HB3.out HT.out.lt)).mono ?_
    rintro e w4 ⟨rfl, hb4⟩
    have HB4 : Hid (Below w.heap.size w w4) := HB3.out.trans (hb4.mono (by omega))
    clear hb4 hcell3
    go_wp2_with fail
    refine (HPG'.out _).mono ?_
    rintro e w4' ⟨rfl, hw⟩
    subst w4'
    go_wp2_with fail
    go_ret
    exact ⟨by simp, HB4.out⟩

set_option maxRecDepth 100000 in
set_option maxHeartbeats 1000000 in
theorem succ_all (a0 a1 : ByteArray) (a2 a3 a4 a5 : Int) (a6 : ByteArray) (w : World) (m0 : a0.size ≤ maxLen) (m1 : a1.size ≤ maxLen) (m6 : a6.size ≤ maxLen) (htab : Tab w) :
    Calls Tryd.prog 5 #[.string a0, .string a1, .int .i64 a2, .int .i64 a3, .int .i64 a4, .int .i64 a5, .string a6] w fun e w' => e = .returned (.bool true) ∧ Below w.heap.size w w' := by
  unfold maxLen at m0 m1 m6
  by_cases h0 : a0.size ≤ 262144
  · by_cases h1 : a1.size ≤ 262144
    · by_cases h6 : a6.size ≤ 262144
      · cases hk : (a1.toList == [98, 121, 116, 101, 115])
        · by_cases e6 : a6.size = 8
          · exact succ_main a0 a1 a2 a3 a4 a5 a6 w h0 h1 hk e6 htab
          · clear htab
            have z6 : ((a6.size : Int) != 8) = true := by rw [bne_iff_ne]; omega
            go_enter Tryd.func5, Tryd.ntmps5
            go_wp2
            all_goals (go_ret; exact ⟨rfl, Below.refl _ _⟩)
        · clear htab
          go_enter Tryd.func5, Tryd.ntmps5
          go_wp2
          all_goals (go_ret; exact ⟨rfl, Below.refl _ _⟩)
      · clear htab
        go_enter Tryd.func5, Tryd.ntmps5
        go_wp2
        all_goals (go_ret; exact ⟨rfl, Below.refl _ _⟩)
    · clear htab
      go_enter Tryd.func5, Tryd.ntmps5
      go_wp2
      all_goals (go_ret; exact ⟨rfl, Below.refl _ _⟩)
  · clear htab
    go_enter Tryd.func5, Tryd.ntmps5
    go_wp2
    all_goals (go_ret; exact ⟨rfl, Below.refl _ _⟩)
end Go.Proofs.Qxb6604573aDoor
