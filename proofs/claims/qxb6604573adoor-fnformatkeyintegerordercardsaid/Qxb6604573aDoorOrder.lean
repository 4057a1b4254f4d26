import Derived.Test.Qxb6604573aDoorExact
import Derived.WalkLawsBesides
namespace Go.Proofs.Qxb6604573aDoor
open Go.RowKit

theorem beFrom_add (l : List UInt8) (a : Nat) : Lib.beFrom a l = a * 256 ^ l.length + Lib.beNat l := by
  rw [Lib.beFrom_eq, Lib.beNat_eq]
theorem less_be : ∀ (x y : List UInt8), x.length = y.length → Op.bytesLess x y = decide (Lib.beNat x < Lib.beNat y)
  | [], [], _ => by simp [Op.bytesLess]
  | a :: x, b :: y, h => by
    have hl : x.length = y.length := by simpa using h
    have ih := less_be x y hl
    have hx := beNat_lt x
    have hy := beNat_lt y
    have ea : Lib.beNat (a :: x) = a.toNat * 256 ^ x.length + Lib.beNat x := by show Lib.beFrom (0 * 256 + a.toNat) x = _; rw [beFrom_add]; simp
    have eb : Lib.beNat (b :: y) = b.toNat * 256 ^ x.length + Lib.beNat y := by show Lib.beFrom (0 * 256 + b.toNat) y = _; rw [beFrom_add, hl]; simp
    rw [hl] at hx ea eb
    have key : ∀ p q : Nat, p < q → p * 256 ^ y.length + 256 ^ y.length ≤ q * 256 ^ y.length := fun p q hpq => by
      have := Nat.mul_le_mul_right (256 ^ y.length) (show p + 1 ≤ q from hpq)
      rw [Nat.add_mul] at this; omega
    rw [ea, eb]
    show (decide (a < b) || (a == b && Op.bytesLess x y)) = _
    rcases Nat.lt_trichotomy a.toNat b.toNat with hab | hab | hab
    · have h1 : decide (a < b) = true := decide_eq_true (UInt8.lt_iff_toNat_lt.2 hab)
      have h2 := key _ _ hab
      rw [h1, Bool.true_or, eq_comm, decide_eq_true_iff]; omega
    · have h1 : a = b := UInt8.toNat_inj.1 hab
      subst h1
      have h2 : decide (a < a) = false := decide_eq_false (UInt8.lt_irrefl a)
      rw [h2, beq_self_eq_true, Bool.false_or, Bool.true_and, ih]
      congr 1
      apply propext
      omega
    · have h1 : decide (a < b) = false := decide_eq_false (fun h => by have := UInt8.lt_iff_toNat_lt.1 h; omega)
      have h2 : (a == b) = false := by rw [beq_eq_false_iff_ne]; intro h; rw [h] at hab; omega
      have h3 := key _ _ hab
      rw [h1, h2, Bool.false_or, Bool.false_and, eq_comm, decide_eq_false_iff_not]; omega
theorem eq_be (x y : List UInt8) (hx : x.length = 8) (hy : y.length = 8) : (x == y) = (Lib.beNat x == Lib.beNat y) := by
  rw [Bool.eq_iff_iff, beq_iff_eq, beq_iff_eq]
  constructor
  · intro h; rw [h]
  · intro h
    have h1 := beBytes_beNat x
    have h2 := beBytes_beNat y
    rw [hx] at h1; rw [hy] at h2
    rw [← h1, ← h2, h]
theorem pad8_self (l : List UInt8) (h : l.length = 8) : pad8 l = l := by
  unfold pad8; rw [← h]; simp
/-- The order of keys is the order of their integers. -/
theorem key_less (a b : ByteArray) (ha : a.size = 8) (hb : b.size = 8) : Op.bytesLess a.toList b.toList = decide (keyN a.data.toList < keyN b.data.toList) ∧ (a.toList == b.toList) = (keyN a.data.toList == keyN b.data.toList) := by
  have la : a.data.toList.length = 8 := by rw [Array.length_toList]; exact ha
  have lb : b.data.toList.length = 8 := by rw [Array.length_toList]; exact hb
  rw [ByteArray.toList_eq, ByteArray.toList_eq, less_be _ _ (by omega), eq_be _ _ la lb]
  unfold keyN ord8
  rw [pad8_self _ la, pad8_self _ lb]
  constructor
  · rw [Bool.eq_iff_iff, decide_eq_true_iff, decide_eq_true_iff]; omega
  · rw [Bool.eq_iff_iff, beq_iff_eq, beq_iff_eq]; omega

set_option maxRecDepth 100000 in
set_option maxHeartbeats 400000 in
theorem order_main (a0 a1 : ByteArray) (a2 a3 a4 a5 : Int) (a6 a7 : ByteArray) (w : World) (h0 : a0.size ≤ 262144) (h1 : a1.size ≤ 262144) (hk : (a1.toList == [98, 121, 116, 101, 115]) = false) (h6 : a6.size = 8) (h7 : a7.size = 8) (htab : Tab w) :
    Calls Tryd.prog 4 #[.string a0, .string a1, .int .i64 a2, .int .i64 a3, .int .i64 a4, .int .i64 a5, .string a6, .string a7] w fun e w' => e = .returned (.bool true) ∧ Below w.heap.size w w' := by
  have HT : Hid (Tab w) := htab
  obtain ⟨E1, E2⟩ := key_less a6 a7 h6 h7
  have HF : Hid (∀ (s : ByteArray) w, Tab w → Calls Tryd.prog 8 #[.agg #[.string a0, .string a1, .int .i64 a2, .int .i64 a3, .int .i64 a4, .int .i64 a5, .string ⟨#[]⟩, .int .i64 0, .int .u64 0, .int .u64 0], .string s] w
      fun e w' => e = .returned (.string ⟨(Lib.itoa (keyN s.data.toList)).toArray⟩) ∧ Below w.heap.size w w') := fun s w ht => fk_int a0 a1 a2 a3 a4 a5 s w hk ht
  have HP : Hid (∀ (s : ByteArray) w, Calls Tryd.prog 9 #[.string ⟨(Lib.itoa (keyN s.data.toList)).toArray⟩] w fun e w' => e = .returned (.tuple #[.int .i64 (keyN s.data.toList), .bool true]) ∧ w' = w) := fun s w => parse_itoa _ w (keyN_bd _).1 (keyN_bd _).2
  have z6 : ((a6.size : Int) != 8) = false := by rw [h6]; rfl
  have z7 : ((a7.size : Int) != 8) = false := by rw [h7]; rfl
  have b6 : a6.size ≤ 8 := by omega
  have b7 : a7.size ≤ 8 := by omega
  clear htab h6 h7
  go_enter Tryd.func4, Tryd.ntmps4
  go_wp2_with (first | (go_at_call 12; go_in))
  refine (mk_any a0 a1 a2 a3 a4 a5 _).mono ?_
  rintro e w1 ⟨rfl, hb1⟩
  have hz1 : w.heap.size ≤ w1.heap.size := hb1.size
  have HB1 : Hid (Below w.heap.size w w1) := hb1
  clear hb1
  go_wp2_with fail
  refine (HF.out a6 _ (HT.out.below (HB1.out.alloc hz1 _) HT.out.lt)).mono ?_
  rintro e w2 ⟨rfl, hb2⟩
  have hz2 : w1.heap.size < w2.heap.size := by have := hb2.size; simp at this; omega
  have HB2 : Hid (Below w.heap.size w w2) := (HB1.out.alloc hz1 _).trans (hb2.mono (by simp; omega))
  have hcell := fun o => hb2.cell (p := ⟨w1.heap.size, o, none⟩) (by simp)
  clear hb2
  go_wp2_with fail
  refine (HP.out a6 _).mono ?_
  rintro e w2' ⟨rfl, hw⟩
  subst w2'
  go_wp2_with fail
  refine (HF.out a7 _ (HT.out.below HB2.out HT.out.lt)).mono ?_
  rintro e w3 ⟨rfl, hb3⟩
  have HB3 : Hid (Below w.heap.size w w3) := HB2.out.trans (hb3.mono (by omega))
  clear hb3 hcell
  go_wp2_with fail
  refine (HP.out a7 _).mono ?_
  rintro e w3' ⟨rfl, hw⟩
  subst w3'
  go_wp2_with fail
  go_ret
  exact ⟨by simp, HB3.out⟩

set_option maxRecDepth 100000 in
set_option maxHeartbeats 1000000 in
theorem order_all (a0 a1 : ByteArray) (a2 a3 a4 a5 : Int) (a6 a7 : ByteArray) (w : World) (m0 : a0.size ≤ maxLen) (m1 : a1.size ≤ maxLen) (m6 : a6.size ≤ maxLen) (m7 : a7.size ≤ maxLen) (htab : Tab w) :
    Calls Tryd.prog 4 #[.string a0, .string a1, .int .i64 a2, .int .i64 a3, .int .i64 a4, .int .i64 a5, .string a6, .string a7] w fun e w' => e = .returned (.bool true) ∧ Below w.heap.size w w' := by
  unfold maxLen at m0 m1 m6 m7
  by_cases h0 : a0.size ≤ 262144
  · by_cases h1 : a1.size ≤ 262144
    · by_cases h6 : a6.size ≤ 262144
      · by_cases h7 : a7.size ≤ 262144
        · cases hk : (a1.toList == [98, 121, 116, 101, 115])
          · by_cases e6 : a6.size = 8
            · by_cases e7 : a7.size = 8
              · exact order_main a0 a1 a2 a3 a4 a5 a6 a7 w h0 h1 hk e6 e7 htab
              · clear htab
                have z6 : ((a6.size : Int) != 8) = false := by rw [e6]; rfl
                have z7 : ((a7.size : Int) != 8) = true := by rw [bne_iff_ne]; omega
                clear e6 e7
                go_enter Tryd.func4, Tryd.ntmps4
                go_wp2
                all_goals (go_ret; exact ⟨rfl, Below.refl _ _⟩)
            · clear htab
              have z6 : ((a6.size : Int) != 8) = true := by rw [bne_iff_ne]; omega
              go_enter Tryd.func4, Tryd.ntmps4
              go_wp2
              all_goals (go_ret; exact ⟨rfl, Below.refl _ _⟩)
          · clear htab
            go_enter Tryd.func4, Tryd.ntmps4
            go_wp2
            all_goals (go_ret; exact ⟨rfl, Below.refl _ _⟩)
        · clear htab
          go_enter Tryd.func4, Tryd.ntmps4
          go_wp2
          all_goals (go_ret; exact ⟨rfl, Below.refl _ _⟩)
      · clear htab
        go_enter Tryd.func4, Tryd.ntmps4
        go_wp2
        all_goals (go_ret; exact ⟨rfl, Below.refl _ _⟩)
    · clear htab
      go_enter Tryd.func4, Tryd.ntmps4
      go_wp2
      all_goals (go_ret; exact ⟨rfl, Below.refl _ _⟩)
  · clear htab
    go_enter Tryd.func4, Tryd.ntmps4
    go_wp2
    all_goals (go_ret; exact ⟨rfl, Below.refl _ _⟩)
end Go.Proofs.Qxb6604573aDoor
