import Derived.Test.Qxb6604573aAfter
namespace Go.Proofs.Qxb6604573a
open Go.RowKit

set_option maxRecDepth 100000 in
set_option maxHeartbeats 400000 in
theorem model_int (a1 s : ByteArray) (w : World) (hk : (a1.toList == [98, 121, 116, 101, 115]) = false) (hs : s.size ≤ 1048576) :
    Calls Try.prog 7 #[.string a1, .string s] w fun e w' => e = .returned (.string ⟨(aftI s.data.toList).toArray⟩) ∧ Below w.heap.size w w' := by
  have hlt := ord8_lt s.data.toList
  have HO : Hid (Calls Try.prog 11 #[.string s] w _) := ord_any s w hs
  by_cases hm : ord8 s.data.toList = 18446744073709551615
  · have ht : (((ord8 s.data.toList : Nat) : Int) == 18446744073709551615) = true := by rw [hm]; rfl
    have HM : Hid (ord8 s.data.toList = 18446744073709551615) := hm
    have HA : Hid (aftI s.data.toList = s.data.toList) := (if_pos hm : aftI s.data.toList = s.data.toList)
    clear hm hlt
    generalize ord8 s.data.toList = U at *
    go_enter Try.func7, Try.ntmps7
    go_wp2_with fail
    refine HO.out.mono ?_
    rintro e w1 ⟨rfl, rfl⟩
    go_wp2_with fail
    go_ret
    refine ⟨?_, Below.refl _ _⟩
    rw [HA.out, ← str_self]; rfl
  · have ht : (((ord8 s.data.toList : Nat) : Int) == 18446744073709551615) = false := by rw [beq_eq_false_iff_ne]; omega
    have HE : Hid (∀ w, Calls Try.prog 12 #[.int .u64 ((ord8 s.data.toList + 1 : Nat) : Int)] w fun e w' => e = .returned (.string (enc8 (ord8 s.data.toList + 1))) ∧ Below w.heap.size w w') := fun w => enc_any (ord8 s.data.toList + 1) w (by omega)
    have HA : Hid (aftI s.data.toList = Lib.beBytes 8 (ord8 s.data.toList + 1)) := (if_neg hm : aftI s.data.toList = _)
    have hlt' : ((ord8 s.data.toList : Nat) : Int) ≤ 18446744073709551614 := by omega
    have HL : Hid (((ord8 s.data.toList : Nat) : Int) ≤ 18446744073709551614) := hlt'
    clear hm hlt hlt'
    generalize ord8 s.data.toList = U at *
    go_enter Try.func7, Try.ntmps7
    go_wp2_with fail
    refine HO.out.mono ?_
    rintro e w1 ⟨rfl, rfl⟩
    go_wp2_with fail
    have ew : IntKind.u64.wrap ((U : Int) + 1) = ((U + 1 : Nat) : Int) := by rw [IntKind.wrap_u64]; have := HL.out; omega
    rw [ew]
    refine (HE.out _).mono ?_
    rintro e w2 ⟨rfl, hb⟩
    clear ew
    go_wp2_with fail
    go_ret
    refine ⟨?_, hb⟩
    rw [HA.out]; rfl

set_option maxRecDepth 100000 in
set_option maxHeartbeats 400000 in
theorem model_short (a1 s : ByteArray) (w : World) (hk : (a1.toList == [98, 121, 116, 101, 115]) = true) (hs : s.size < 1024) :
    Calls Try.prog 7 #[.string a1, .string s] w fun e w' => e = .returned (.string ⟨(s.data.toList ++ [0]).toArray⟩) ∧ Below w.heap.size w w' := by
  go_enter Try.func7, Try.ntmps7
  go_wp2
  go_ret
  refine ⟨?_, Below.refl _ _⟩
  rw [← add_zero_byte]; rfl

set_option maxRecDepth 100000 in
set_option maxHeartbeats 400000 in
theorem model_long (a1 s : ByteArray) (w : World) (hk : (a1.toList == [98, 121, 116, 101, 115]) = true) (hs : 1024 ≤ s.size) (hs2 : s.size ≤ 1048576) :
    Calls Try.prog 7 #[.string a1, .string s] w fun e w' => e = .returned (.string ⟨(aft s.data.toList).toArray⟩) ∧ Below w.heap.size w w' := by
  obtain ⟨cap, W, hcv, hcap, hrow, hb, hsz⟩ := bytes_made w 9 s Try.underlying9
  have hsl : s.size = s.data.toList.length := by rw [Array.length_toList]; rfl
  have hI := inc_any w.heap.size cap s.data.toList W (by omega) hrow
  rw [← hsl] at hI
  have HI : Hid (Calls Try.prog 10 #[.slice (some ⟨w.heap.size, 0, none⟩) s.size cap] W _) := hI
  have HB : Hid (Below w.heap.size w W) := hb
  have HL : Hid (s.size = s.data.toList.length) := hsl
  have d0 : decide ((s.size : Int) < 1024) = false := by simp; omega
  have HS : Hid ((⟨s.data.toList.toArray⟩ : ByteArray) = s) := (str_self s).symm
  clear hrow hb hsz hsl hI
  generalize s.data.toList = l at *
  by_cases h0 : keep l = 0
  · have ht : (keep l != 0) = false := by rw [h0]; rfl
    have HA : Hid (aft l = l) := (if_pos h0 : aft l = l)
    clear h0
    go_enter Try.func7, Try.ntmps7
    go_wp2_with fail
    refine HI.out.mono ?_
    rintro e w1 ⟨rfl, hr1, hb1, hz1⟩
    rw [ht]
    clear hr1 hz1
    go_wp2_with fail
    go_ret
    refine ⟨?_, HB.out.trans hb1⟩
    rw [HA.out, HS.out]; rfl
  · have ht : (keep l != 0) = true := by rw [bne_iff_ne]; exact h0
    have hkl : keep l ≤ s.size := by rw [HL.out]; exact keep_le l
    have HA : Hid ((incL l).take (keep l) = aft l) := incL_take l h0
    have H0 : Hid (keep l ≠ 0) := h0
    clear h0
    go_enter Try.func7, Try.ntmps7
    go_wp2_with fail
    refine HI.out.mono ?_
    rintro e w1 ⟨rfl, hr1, hb1, hz1⟩
    rw [ht]
    have HR : Hid (Row w1 w.heap.size (incL l)) := hr1
    have HB2 : Hid (Below w.heap.size w w1) := HB.out.trans hb1
    clear hr1 hz1 hb1
    go_wp2_with fail
    go_loop [6] (fun v => ∃ k : Nat, keep l ≤ k ∧ k ≤ s.size ∧ v = .int .i64 k) (fun v => (intOf v).toNat)
    case atStart => exact ⟨s.size, hkl, Nat.le_refl _, rfl⟩
    case round =>
      obtain ⟨k, hk1, hk2, rfl⟩ := hrel
      have hkp : 0 < keep l := by have := H0.out; omega
      obtain ⟨q, rfl⟩ : ∃ q, k = q + 1 := ⟨k - 1, by omega⟩
      have hlen := incL_length l
      have hqi : q < (incL l).length := by have := HL.out; omega
      have c1 : w1.cell? ⟨w.heap.size, q, none⟩ = some (.int .u8 ((incL l).getD q 0).toNat) := HR.out.1 q hqi
      have hqs : (q : Int) < (s.size : Int) := by omega
      by_cases hq : q + 1 = keep l
      · have hlast : (incL l).getD q 0 = l.getD q 0 + 1 := by have := incL_last l H0.out; rw [← hq, Nat.add_sub_cancel] at this; exact this
        have hne : l.getD q 0 ≠ 255 := by have := keep_ne l H0.out; rw [← hq, Nat.add_sub_cancel] at this; exact this
        have ht0 : ((((incL l).getD q 0).toNat : Int) == 0) = false := by
          rw [beq_eq_false_iff_ne, hlast]; intro h
          have h1 : (l.getD q 0).toNat ≠ 255 := fun h => hne (UInt8.toNat_inj.1 h)
          have h2 := (l.getD q 0).toNat_lt
          have h3 : (l.getD q 0 + 1).toNat = ((l.getD q 0).toNat + 1) % 256 := UInt8.toNat_add _ _
          omega
        have hlen2 : (aft l).length = q + 1 := by rw [← HA.out, List.length_take]; omega
        have hcv2 := conv_l w.heap.size (q + 1) cap (aft l) hlen2 w1 (fun j hj => by
          have h1 : j < keep l := by omega
          rw [HR.out.1 j (by omega), ← HA.out]
          simp [List.getD, h1]) 9 Try.underlying9
        clear hlast hne hlen hqi hq hlen2
        generalize ((incL l).getD q 0).toNat = c at *
        go_wp2_with fail
        go_ret
        exact ⟨rfl, HB2.out⟩
      · have e0 : (incL l).getD q 0 = 0 := incL_zero l q (by omega)
        rw [e0] at c1
        have c1' : w1.cell? ⟨w.heap.size, q, none⟩ = some (.int .u8 0) := c1
        clear c1 e0 hlen hqi
        go_wp2_with fail
        go_round
        case rel => exact ⟨q, by omega, by omega, by go_num⟩
        case measure => simp [intOf]
end Go.Proofs.Qxb6604573a
