import Derived.Test.Qxb6604573aInc
import Derived.WalkSpells
namespace Go.Proofs.Qxb6604573a
open Go.RowKit

/-- What comes behind an integer's key. -/
def aftI (l : List UInt8) : List UInt8 := if ord8 l = 18446744073709551615 then l else Lib.beBytes 8 (ord8 l + 1)

theorem add_zero_byte (s : ByteArray) : s ++ (⟨#[0]⟩ : ByteArray) = ⟨(s.data.toList ++ [0]).toArray⟩ := by
  apply ByteArray.ext
  simp
  apply Array.ext'
  simp

/-- A slice's length, for a loop's measure. -/
def slen : Value → Nat | .slice _ n _ => n | _ => 0

theorem str_self (s : ByteArray) : s = ⟨s.data.toList.toArray⟩ := by cases s; rfl

theorem aft_length (l : List UInt8) (q : Nat) (hK : q + 1 = keep l) (hq : q < l.length) : (aft l).length = q + 1 := by
  rw [aft, ← hK, if_neg (by omega), Nat.add_sub_cancel]; simp; omega
theorem aft_get (l : List UInt8) (q : Nat) (hK : q + 1 = keep l) (hq : q < l.length) (j : Nat) (hj : j ≤ q) : (aft l).getD j 0 = (l.set q (l.getD q 0 + 1)).getD j 0 := by
  have h2 : (l.take q).length = q := by simp; omega
  rw [aft, ← hK, if_neg (by omega), Nat.add_sub_cancel]
  by_cases e : j = q
  · subst e
    rw [List.getD, List.getElem?_append_right (by omega), h2, Nat.sub_self]
    simp [List.getD, hq]
  · rw [List.getD, List.getElem?_append_left (by omega)]
    have e' : q ≠ j := fun x => e x.symm
    have e2 : j < q := by omega
    simp [List.getD, e', e2]

set_option maxRecDepth 100000 in
set_option maxHeartbeats 400000 in
theorem after_int (a0 a1 : ByteArray) (a2 a3 a4 a5 : Int) (s : ByteArray) (w : World) (hk : (a1.toList == [98, 121, 116, 101, 115]) = false) :
    Calls Try.prog 6 #[.agg #[.string a0, .string a1, .int .i64 a2, .int .i64 a3, .int .i64 a4, .int .i64 a5, .string ⟨#[]⟩, .int .i64 0, .int .u64 0, .int .u64 0], .string s] w fun e w' => e = .returned (.string ⟨(aftI s.data.toList).toArray⟩) ∧ Below w.heap.size w w' := by
  have hlt := ord8_lt s.data.toList
  obtain ⟨n, hn⟩ : ∃ n : Int, n = (ord8 s.data.toList : Int) - 9223372036854775808 := ⟨_, rfl⟩
  have h0 : -9223372036854775808 ≤ n := by omega
  have h1 : n ≤ 9223372036854775807 := by omega
  have HI : Hid (∀ w, Calls Try.prog 8 #[.string s] w fun e w' => e = .returned (.int .i64 n) ∧ Below w.heap.size w w') := by
    intro w; rw [hn]; exact int_any s w
  have HN : Hid (n = (ord8 s.data.toList : Int) - 9223372036854775808) := hn
  clear hn hlt
  by_cases hm : n < 9223372036854775807
  · go_enter Try.func6, Try.ntmps6
    go_wp2_with fail
    refine (HI.out _).mono ?_
    rintro e w1 ⟨rfl, hb1⟩
    go_wp2_with fail
    refine (intKey_any _ _ (by omega) (by omega)).mono ?_
    rintro e w2 ⟨rfl, hb2⟩
    go_wp2_with fail
    go_ret
    have hz : w.heap.size ≤ w1.heap.size := by have := hb1.size; simp at this; omega
    refine ⟨?_, ((((Below.refl _ w).alloc (Nat.le_refl _) _).trans (hb1.mono (by simp))).trans (hb2.mono hz))⟩
    have e1 : (n + 1 + 9223372036854775808).toNat = ord8 s.data.toList + 1 := by have := HN.out; omega
    have e2 : ord8 s.data.toList ≠ 18446744073709551615 := by have := HN.out; omega
    rw [aftI, if_neg e2, ← e1]; rfl
  · go_enter Try.func6, Try.ntmps6
    go_wp2_with fail
    refine (HI.out _).mono ?_
    rintro e w1 ⟨rfl, hb1⟩
    go_wp2_with fail
    go_ret
    refine ⟨?_, (((Below.refl _ w).alloc (Nat.le_refl _) _).trans (hb1.mono (by simp)))⟩
    have e2 : ord8 s.data.toList = 18446744073709551615 := by have := HN.out; omega
    rw [aftI, if_pos e2, ← str_self]; rfl

set_option maxRecDepth 100000 in
set_option maxHeartbeats 400000 in
theorem after_short (a0 a1 : ByteArray) (a2 a3 a4 a5 : Int) (s : ByteArray) (w : World) (hk : (a1.toList == [98, 121, 116, 101, 115]) = true) (hs : s.size < 1024) :
    Calls Try.prog 6 #[.agg #[.string a0, .string a1, .int .i64 a2, .int .i64 a3, .int .i64 a4, .int .i64 a5, .string ⟨#[]⟩, .int .i64 0, .int .u64 0, .int .u64 0], .string s] w fun e w' => e = .returned (.string ⟨(s.data.toList ++ [0]).toArray⟩) ∧ Below w.heap.size w w' := by
  go_enter Try.func6, Try.ntmps6
  go_wp2
  go_ret
  refine ⟨?_, (Below.refl _ w).alloc (Nat.le_refl _) _⟩
  rw [← add_zero_byte]; rfl

set_option maxRecDepth 100000 in
set_option maxHeartbeats 400000 in
theorem after_long (a0 a1 : ByteArray) (a2 a3 a4 a5 : Int) (s : ByteArray) (w : World) (hk : (a1.toList == [98, 121, 116, 101, 115]) = true) (hs : 1024 ≤ s.size) (hs2 : s.size ≤ 1048576) :
    Calls Try.prog 6 #[.agg #[.string a0, .string a1, .int .i64 a2, .int .i64 a3, .int .i64 a4, .int .i64 a5, .string ⟨#[]⟩, .int .i64 0, .int .u64 0, .int .u64 0], .string s] w fun e w' => e = .returned (.string ⟨(aft s.data.toList).toArray⟩) ∧ Below w.heap.size w w' := by
  obtain ⟨cap, W, hcv, hcap, hrow, hb, hsz⟩ := bytes_made (w.alloc (.cells #[.string a0, .string a1, .int .i64 a2, .int .i64 a3, .int .i64 a4, .int .i64 a5, .string ⟨#[]⟩, .int .i64 0, .int .u64 0, .int .u64 0] 27)) 29 s Try.underlying29
  have e0 : ∀ o : Obj, (w.alloc o).heap.size = w.heap.size + 1 := fun o => by simp
  rw [e0] at hcv hrow hb hsz
  clear e0
  have hsl : s.size = s.data.toList.length := by rw [Array.length_toList]; rfl
  have HR : Hid (Row W (w.heap.size + 1) s.data.toList) := hrow
  have HB : Hid (Below w.heap.size w W) := ((Below.refl _ w).alloc (Nat.le_refl _) _).trans (hb.mono (by omega))
  have HL : Hid (s.size = s.data.toList.length) := hsl
  have d0 : decide ((s.size : Int) < 1024) = false := by simp; omega
  have HS : Hid ((⟨s.data.toList.toArray⟩ : ByteArray) = s) := (str_self s).symm
  clear hrow hb hsz hsl
  generalize s.data.toList = l at *
  go_enter Try.func6, Try.ntmps6
  go_wp2_with fail
  go_loop [5] (fun v => ∃ k : Nat, k ≤ s.size ∧ v = .slice (some ⟨w.heap.size + 1, 0, none⟩) k cap ∧ Hid (∀ j, k ≤ j → j < l.length → l[j]? = some 255)) (fun v => slen v)
  case atStart => exact ⟨s.size, Nat.le_refl _, rfl, fun j h1 h2 => by have := HL.out; omega⟩
  case round =>
    obtain ⟨k, hk1, rfl, hall⟩ := hrel
    rcases k with _ | q
    · have HK : Hid (0 = keep l) := keep_spec l 0 (Nat.zero_le _) hall.out (.inl rfl)
      go_wp2_with fail
      go_ret
      refine ⟨?_, HB.out⟩
      rw [aft, ← HK.out, if_pos rfl, HS.out]; rfl
    · have hql : q < l.length := by have := HL.out; omega
      have c1 : W.cell? ⟨w.heap.size + 1, q, none⟩ = some (.int .u8 (l.getD q 0).toNat) := HR.out.1 q hql
      have f1 : W.frozen? ⟨w.heap.size + 1, q, none⟩ = false := HR.out.2 q hql
      have hb' := (l.getD q 0).toNat_lt
      by_cases hc : l.getD q 0 = 255
      · have ht : (((l.getD q 0).toNat : Int) == 255) = true := by rw [hc]; rfl
        have HA : Hid (∀ j, q ≤ j → j < l.length → l[j]? = some 255) := by
          intro j h1 h2
          by_cases hj : j = q
          · subst hj
            rw [List.getElem?_eq_getElem h2]
            rw [List.getD, List.getElem?_eq_getElem h2] at hc
            simp at hc; rw [hc]
          · exact hall.out j (by omega) h2
        clear hql hc
        generalize (l.getD q 0).toNat = c at *
        go_wp2_with fail
        go_round
        case rel => exact ⟨q, by omega, by first | rfl | (simp; done), HA⟩
        case measure => simp [slen]
      · have ht : (((l.getD q 0).toNat : Int) == 255) = false := by
          rw [beq_eq_false_iff_ne]; intro h; apply hc
          apply UInt8.toNat_inj.1
          show (l.getD q 0).toNat = 255
          omega
        have HK : Hid (q + 1 = keep l) := keep_spec l (q + 1) (by omega) hall.out (.inr ⟨l.getD q 0, by rw [Nat.add_sub_cancel, List.getD, List.getElem?_eq_getElem hql]; rfl, hc⟩)
        have HT : Hid ((l.getD q 0 + 1).toNat = (l.getD q 0).toNat + 1) := (show (l.getD q 0 + 1).toNat = (l.getD q 0).toNat + 1 by
          have h1 : (l.getD q 0).toNat ≠ 255 := fun h => hc (UInt8.toNat_inj.1 h)
          rw [UInt8.toNat_add]; show ((l.getD q 0).toNat + 1) % 256 = _; omega)
        have hR2 := HR.out.set q hql (l.getD q 0 + 1)
        have hcv2 := conv_l (w.heap.size + 1) (q + 1) cap (aft l) (aft_length l q HK.out hql) (W.setCell ⟨w.heap.size + 1, q, none⟩ (.int .u8 (l.getD q 0 + 1).toNat))
          (fun j hj => by rw [hR2.1 j (by rw [List.length_set]; omega), aft_get l q HK.out hql j (by omega)]) 29 Try.underlying29
        have HB2 : Hid (Below w.heap.size w (W.setCell ⟨w.heap.size + 1, q, none⟩ (.int .u8 (l.getD q 0 + 1).toNat))) := HB.out.setCell (Nat.le_succ _) _
        have hc254 : (l.getD q 0).toNat ≤ 254 := by rw [beq_eq_false_iff_ne] at ht; omega
        rw [HT.out] at hcv2 HB2
        clear hql hc hR2
        generalize (l.getD q 0).toNat = c at *
        rw [show ((c + 1 : Nat) : Int) = (c : Int) + 1 from by omega] at hcv2 HB2
        go_wp2_with fail
        go_ret
        exact ⟨rfl, HB2.out⟩
end Go.Proofs.Qxb6604573a
