import Derived.Test.Qxb6604573aDoorFmt
import Derived.Lib.ItoaLen
namespace Go.Proofs.Qxb6604573aDoor
open Go.RowKit

theorem wrap_step (V D X : Nat) (h : V * 10 + D = X) (hX : X ≤ 9223372036854775808) : IntKind.u64.wrap (IntKind.u64.wrap ((V : Int) * 10) + (48 + (D : Int) - 48)) = (X : Int) := by
  rw [IntKind.wrap_u64, IntKind.wrap_u64]; omega
theorem wrap_neg (u : Nat) (h : u ≤ 9223372036854775808) : wrap64 (IntKind.u64.wrap (-(u : Int))) = -(u : Int) := by
  rw [IntKind.wrap_u64]; unfold wrap64; omega
theorem wrap_pos (u : Nat) (h : u ≤ 9223372036854775807) : wrap64 (u : Int) = u := by unfold wrap64; omega

set_option maxRecDepth 100000 in
set_option maxHeartbeats 400000 in
theorem parse_pos (s : ByteArray) (u N : Nat) (w : World) (hs : s.size = N) (hN1 : 1 ≤ N) (hN2 : N ≤ 20) (hu : u ≤ 9223372036854775807) (hd : ∀ j (h : j < s.size), (s[j]'h).toNat = 48 + dgt u N j) (h0 : dgt u N 0 ≠ 0) (hv0 : preV u N 0 = 0) :
    Calls Tryd.prog 9 #[.string s] w fun e w' => e = .returned (.tuple #[.int .i64 u, .bool true]) ∧ w' = w := by
  subst hs
  have HU : Hid (u ≤ 9223372036854775807) := hu
  have HD : Hid (∀ j (h : j < s.size), (s[j]'h).toNat = 48 + dgt u s.size j) := hd
  have e0 : (s[0]'(by omega)).toNat = 48 + dgt u s.size 0 := hd 0 (by omega)
  have l0 := dgt_lt u s.size 0
  have z0 : ((s.size : Int) == 0) = false := by rw [beq_eq_false_iff_ne]; omega
  have z1 : (0 == (s.size : Int)) = false := by rw [beq_eq_false_iff_ne]; omega
  have z2 : decide ((20 : Int) < (s.size : Int)) = false := by simp; omega
  have t1 : (((s[0]'(by omega)).toNat : Int) == 45) = false := by rw [beq_eq_false_iff_ne]; omega
  have t2 : (((s[0]'(by omega)).toNat : Int) == 48) = false := by rw [beq_eq_false_iff_ne]; omega
  clear hu hd e0 h0 l0
  have HV : Hid (preV u s.size 0 = 0) := hv0
  clear hv0
  have hp : 0 < s.size := by omega
  go_enter Tryd.func9, Tryd.ntmps9
  go_wp2
  go_loop [4, 6] (fun i v => ∃ j : Nat, j ≤ s.size ∧ i = .int .i64 j ∧ v = .int .u64 (preV u s.size j : Int)) (fun i _ => s.size - (intOf i).toNat)
  case atStart => exact ⟨0, Nat.zero_le _, rfl, by rw [HV.out]; rfl⟩
  case round =>
    obtain ⟨j, hj, rfl, rfl⟩ := hrel
    by_cases hlt : j < s.size
    · have c1 : (s[j]'hlt).toNat = 48 + dgt u s.size j := HD.out j hlt
      have hD := dgt_lt u s.size j
      have HS : Hid (preV u s.size j * 10 + dgt u s.size j = preV u s.size (j + 1)) := preV_step u s.size j hlt
      have HL : Hid (preV u s.size (j + 1) ≤ 9223372036854775807) := Nat.le_trans (preV_le _ _ _) HU.out
      generalize dgt u s.size j = D at *
      generalize preV u s.size j = V at *
      have ht : decide ((18446744073709551615 - (48 + (D : Int) - 48)) / 10 < (V : Int)) = false := by
        have h1 := HS.out
        have h2 := HL.out
        simp only [decide_eq_false_iff_not]; omega
      have HX : Hid (IntKind.u64.wrap (IntKind.u64.wrap ((V : Int) * 10) + (48 + (D : Int) - 48)) = (preV u s.size (j + 1) : Int)) := wrap_step V D _ HS.out (Nat.le_succ_of_le HL.out)
      go_wp2
      go_round
      case rel => exact ⟨j + 1, by omega, by go_num, by rw [← HX.out]⟩
      case measure => simp [intOf]; omega
    · have e : preV u s.size j = u := by
        obtain rfl : j = s.size := by omega
        exact preV_full _ _
      simp only [e]
      have ht : decide ((9223372036854775807 : Int) < (u : Int)) = false := by have := HU.out; simp only [decide_eq_false_iff_not]; omega
      clear e
      go_wp2
      go_ret2
      refine ⟨?_, rfl⟩
      have e2 := wrap_pos u HU.out
      show Ending.returned (Value.tuple #[Value.int .i64 (wrap64 (u : Int)), Value.bool true]) = _
      rw [e2]

set_option maxRecDepth 100000 in
set_option maxHeartbeats 400000 in
theorem parse_neg (s : ByteArray) (u N : Nat) (w : World) (hs : s.size = N + 1) (hN1 : 1 ≤ N) (hN2 : N ≤ 19) (hu : u ≤ 9223372036854775808) (hm : ∀ h : 0 < s.size, (s[0]'h).toNat = 45) (hd : ∀ j, j < N → ∀ h : 1 + j < s.size, (s[1 + j]'h).toNat = 48 + dgt u N j) (h0 : dgt u N 0 ≠ 0) (hv0 : preV u N 0 = 0) :
    Calls Tryd.prog 9 #[.string s] w fun e w' => e = .returned (.tuple #[.int .i64 (-(u : Int)), .bool true]) ∧ w' = w := by
  have HU : Hid (u ≤ 9223372036854775808) := hu
  have HD : Hid (∀ j, j < N → ∀ h : 1 + j < s.size, (s[1 + j]'h).toNat = 48 + dgt u N j) := hd
  have HN : Hid (s.size = N + 1) := hs
  have hp0 : 0 < s.size := by omega
  have hp : 1 < s.size := by omega
  have e0 : (s[1]'hp).toNat = 48 + dgt u N 0 := hd 0 (by omega) (by omega)
  have l0 := dgt_lt u N 0
  have em : (s[0]'hp0).toNat = 45 := hm (by omega)
  have z0 : ((s.size : Int) == 0) = false := by rw [beq_eq_false_iff_ne]; omega
  have z1 : (1 == (s.size : Int)) = false := by rw [beq_eq_false_iff_ne]; omega
  have z2 : decide ((20 : Int) < (s.size : Int)) = false := by simp; omega
  have t2 : (((s[1]'hp).toNat : Int) == 48) = false := by rw [beq_eq_false_iff_ne]; omega
  have hp1 : (1 : Int) < (s.size : Int) := by omega
  have hp2 : s.size ≤ 20 := by omega
  clear hu hd e0 h0 l0 hm hs
  have HV : Hid (preV u N 0 = 0) := hv0
  clear hv0
  go_enter Tryd.func9, Tryd.ntmps9
  go_wp2
  go_loop [4, 6] (fun i v => ∃ j : Nat, j ≤ N ∧ i = .int .i64 (1 + (j : Int)) ∧ v = .int .u64 (preV u N j : Int)) (fun i _ => 1 + N - (intOf i).toNat)
  case atStart => exact ⟨0, Nat.zero_le _, rfl, by rw [HV.out]; rfl⟩
  case round =>
    obtain ⟨j, hj, rfl, rfl⟩ := hrel
    by_cases hlt : j < N
    · have hlt' : 1 + j < s.size := by have := HN.out; omega
      have hlt2 : 1 + (j : Int) < (s.size : Int) := by omega
      have c1 : (s[1 + j]'hlt').toNat = 48 + dgt u N j := HD.out j hlt hlt'
      have hD := dgt_lt u N j
      have HS : Hid (preV u N j * 10 + dgt u N j = preV u N (j + 1)) := preV_step u N j hlt
      have HL : Hid (preV u N (j + 1) ≤ 9223372036854775808) := Nat.le_trans (preV_le _ _ _) HU.out
      generalize dgt u N j = D at *
      generalize preV u N j = V at *
      have ht : decide ((18446744073709551615 - (48 + (D : Int) - 48)) / 10 < (V : Int)) = false := by
        have h1 := HS.out
        have h2 := HL.out
        simp only [decide_eq_false_iff_not]; omega
      have HX : Hid (IntKind.u64.wrap (IntKind.u64.wrap ((V : Int) * 10) + (48 + (D : Int) - 48)) = (preV u N (j + 1) : Int)) := wrap_step V D _ HS.out HL.out
      go_wp2
      go_round
      case rel => exact ⟨j + 1, by omega, by go_num, by rw [← HX.out]⟩
      case measure => simp [intOf]; omega
    · have e : preV u N j = u := by
        obtain rfl : j = N := by omega
        exact preV_full _ _
      simp only [e]
      have hge : ¬ 1 + (j : Int) < (s.size : Int) := by have := HN.out; omega
      have ht : decide ((9223372036854775808 : Int) < (u : Int)) = false := by have := HU.out; simp only [decide_eq_false_iff_not]; omega
      clear e
      go_wp2
      go_ret2
      refine ⟨?_, rfl⟩
      have e2 := wrap_neg u HU.out
      show Ending.returned (Value.tuple #[Value.int .i64 (wrap64 (IntKind.u64.wrap (-(u : Int)))), Value.bool true]) = _
      rw [e2]

theorem parse_zero (w : World) : Calls Tryd.prog 9 #[.string ⟨#[48]⟩] w fun e w' => e = .returned (.tuple #[.int .i64 0, .bool true]) ∧ w' = w := by
  go_enter Tryd.func9, Tryd.ntmps9
  go_wp2
  refine wp_loop_rounds 2 ?_
  rw [rounds_succ]
  go_wp2
  rw [rounds_succ]
  go_wp2
  go_ret2
  exact ⟨rfl, rfl⟩

theorem nDigits_le : ∀ (k u : Nat), 0 < u → u < 10 ^ k → Lib.nDigits u ≤ k := by
  intro k
  induction k with
  | zero => intro u h h'; simp at h'; omega
  | succ k ih =>
    intro u h h'
    by_cases hu : u < 10
    · rw [Lib.nDigits_small hu]; omega
    · rw [Lib.nDigits_big hu]
      have := ih (u / 10) (by omega) (by rw [Nat.pow_succ] at h'; omega)
      omega

theorem parse_itoa (n : Int) (w : World) (h0 : -9223372036854775808 ≤ n) (h1 : n ≤ 9223372036854775807) :
    Calls Tryd.prog 9 #[.string ⟨(Lib.itoa n).toArray⟩] w fun e w' => e = .returned (.tuple #[.int .i64 n, .bool true]) ∧ w' = w := by
  have hsz : ∀ l : List UInt8, (ByteArray.mk l.toArray).size = l.length := fun l => by simp [ByteArray.size]
  by_cases hn : n < 0
  · obtain ⟨u, hu⟩ : ∃ u : Nat, n = -(u : Int) := ⟨n.natAbs, by omega⟩
    subst hu
    have hna : (-(u : Int)).natAbs = u := by omega
    have e : Lib.itoa (-(u : Int)) = 45 :: Lib.decDigits u := by rw [Lib.itoa, if_pos hn, hna]
    rw [e]
    have hup : 0 < u := by omega
    have hpos := Lib.nDigits_pos u
    have hle : Lib.nDigits u ≤ 19 := nDigits_le 19 u hup (by have : (10 : Nat) ^ 19 = 10000000000000000000 := by decide
                                                             omega)
    refine parse_neg _ u (Lib.nDigits u) w (by rw [hsz, List.length_cons, Lib.decDigits_length]) hpos hle (by omega) (fun _ => rfl) (fun j hj h => ?_) (dgt_lead u hup) (preV_zero u)
    obtain ⟨hl, hg⟩ := dec_get u j hj
    rw [← hg]
    have : ∀ h', (45 :: Lib.decDigits u)[1 + j]'h' = (Lib.decDigits u)[j] := fun h' => by simp [Nat.add_comm 1 j]
    show ((45 :: Lib.decDigits u).toArray[1 + j]'_).toNat = _
    rw [List.getElem_toArray, this]
  · by_cases hz : n = 0
    · subst hz
      have e : Lib.itoa 0 = [48] := by rw [Lib.itoa, if_neg (by decide)]; exact Lib.decDigits_one (by decide)
      rw [e]; exact parse_zero w
    · obtain ⟨u, hu⟩ : ∃ u : Nat, n = (u : Int) := ⟨n.toNat, by omega⟩
      subst hu
      have e : Lib.itoa (u : Int) = Lib.decDigits u := by rw [Lib.itoa, if_neg hn]; rfl
      rw [e]
      have hup : 0 < u := by omega
      have hpos := Lib.nDigits_pos u
      have hle : Lib.nDigits u ≤ 19 := nDigits_le 19 u hup (by have : (10 : Nat) ^ 19 = 10000000000000000000 := by decide
                                                               omega)
      refine parse_pos _ u (Lib.nDigits u) w (by rw [hsz, Lib.decDigits_length]) hpos (by omega) (by omega) (fun j h => ?_) (dgt_lead u hup) (preV_zero u)
      obtain ⟨hl, hg⟩ := dec_get u j (by rw [hsz, Lib.decDigits_length] at h; exact h)
      rw [← hg]
      show ((Lib.decDigits u).toArray[j]'_).toNat = _
      rw [List.getElem_toArray]
end Go.Proofs.Qxb6604573aDoor
