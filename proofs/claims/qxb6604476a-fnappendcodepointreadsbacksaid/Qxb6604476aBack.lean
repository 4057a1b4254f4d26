import Derived.Test.Qxb6604476aApp
import Derived.Deep.QuietTactic
import Derived.BigQuiet
namespace Go.Proofs.Qxb6604476a
open Go.RowKit

/-- What a digit's byte reads as. -/
def hexv (c : Int) : Int := if c ≤ 57 then c - 48 else c - 55
theorem hexv_hexd (d : Int) (h1 : d < 16) : hexv (hexd d) = d := by
  unfold hexv hexd; repeat' split
  all_goals omega
theorem hexd_cases (d : Int) (h0 : 0 ≤ d) (h1 : d < 16) : (48 ≤ hexd d ∧ hexd d ≤ 57) ∨ (65 ≤ hexd d ∧ hexd d ≤ 70) := by
  unfold hexd; split <;> omega
theorem dig_cases (r : Int) (n q : Nat) : (48 ≤ dig r n q ∧ dig r n q ≤ 57) ∨ (65 ≤ dig r n q ∧ dig r n q ≤ 70) :=
  hexd_cases _ (Int.emod_nonneg _ (by decide)) (Int.emod_lt_of_pos _ (by decide))

theorem hexValue_any (c : Int) (w : World) (h : (48 ≤ c ∧ c ≤ 57) ∨ (65 ≤ c ∧ c ≤ 70)) :
    Calls Try.prog 12 #[.int .u8 c] w fun e w' => e = .returned (.tuple #[.int .i64 (hexv c), .bool true]) ∧ w' = w := by
  rcases h with ⟨h1, h2⟩ | ⟨h1, h2⟩
  · have e : Hid (hexv c = c - 48) := (by unfold hexv; exact if_pos h2 : hexv c = c - 48)
    go_enter Try.func12, Try.ntmps12
    go_wp2
    go_ret2
    rw [e.out]; exact ⟨rfl, rfl⟩
  · have e : Hid (hexv c = c - 55) := (by unfold hexv; exact if_neg (by omega) : hexv c = c - 55)
    have h3 : ¬ c ≤ 57 := by omega
    go_enter Try.func12, Try.ntmps12
    go_wp2
    go_ret2
    rw [e.out]
    refine ⟨?_, rfl⟩
    have e2 : c - 65 + 10 = c - 55 := by omega
    rw [e2]
    rfl

/-- The two texts' row: what lies at each place: the old bytes, the two bytes of U+, the digits. -/
theorem row_old (zs : List Int) (n : Nat) (r : Int) (N : Nat) (hz : n ≤ zs.length) (j : Nat) (hj : j < n) :
    ((zs.take n).map (Value.int .u8) ++ [.int .u8 85, .int .u8 43] ++ digs r N N)[j]? = some (.int .u8 (zs.getD j 0)) := by
  have h1 : j < zs.length := by omega
  have hl : ((zs.take n).map (Value.int .u8)).length = n := by simp; omega
  rw [List.append_assoc, List.getElem?_append_left (by omega)]
  simp [hj, h1]
theorem row_U (zs : List Int) (n : Nat) (r : Int) (N : Nat) (hz : n ≤ zs.length) :
    ((zs.take n).map (Value.int .u8) ++ [.int .u8 85, .int .u8 43] ++ digs r N N)[n]? = some (.int .u8 85) := by
  have hl : ((zs.take n).map (Value.int .u8)).length = n := by simp; omega
  rw [List.append_assoc, List.getElem?_append_right (by omega), hl, Nat.sub_self]
  rfl
theorem row_plus (zs : List Int) (n : Nat) (r : Int) (N : Nat) (hz : n ≤ zs.length) :
    ((zs.take n).map (Value.int .u8) ++ [.int .u8 85, .int .u8 43] ++ digs r N N)[n + 1]? = some (.int .u8 43) := by
  have hl : ((zs.take n).map (Value.int .u8)).length = n := by simp; omega
  rw [List.append_assoc, List.getElem?_append_right (by omega), hl, Nat.add_sub_cancel_left]
  rfl
theorem row_dig (zs : List Int) (n : Nat) (r : Int) (N : Nat) (hz : n ≤ zs.length) (q : Nat) (hq : q < N) :
    ((zs.take n).map (Value.int .u8) ++ [.int .u8 85, .int .u8 43] ++ digs r N N)[n + 2 + q]? = some (.int .u8 (dig r N q)) := by
  have hl : ((zs.take n).map (Value.int .u8) ++ [Value.int .u8 85, .int .u8 43]).length = n + 2 := by simp; omega
  rw [List.getElem?_append_right (by omega), hl, Nat.add_sub_cancel_left]
  exact digs_get r N N q hq

theorem hexd_ne (d : Int) (h : d ≠ 0) (_h0 : 0 ≤ d) : (hexd d == 48) = false := by
  rw [beq_eq_false_iff_ne]; unfold hexd; split <;> omega
theorem lead (r : Int) (N : Nat) (h0 : 0 ≤ r) (h1 : r ≤ 2147483647) (hN : ndig r = N) (h4 : 4 < N) : (dig r N 0 == 48) = false := by
  have hb := ndig_bd r
  subst hN
  apply hexd_ne
  · rcases (show ndig r = 5 ∨ ndig r = 6 ∨ ndig r = 7 ∨ ndig r = 8 from by omega) with h | h | h | h <;>
      (rw [h]; simp only [Nat.reduceSub, Int.reducePow]; unfold ndig at h; repeat' split at h) <;> omega
  · exact Int.emod_nonneg _ (by decide)

theorem hexv_bd (c : Int) (h : 48 ≤ c ∧ c ≤ 70) : 0 ≤ hexv c ∧ hexv c ≤ 22 := by unfold hexv; split <;> omega
theorem val_start (r : Int) (N : Nat) (h0 : 0 ≤ r) (h1 : r ≤ 2147483647) (hN : ndig r = N) : r / 16 ^ N = 0 := by
  have hb := ndig_bd r
  subst hN
  rcases (show ndig r = 4 ∨ ndig r = 5 ∨ ndig r = 6 ∨ ndig r = 7 ∨ ndig r = 8 from by omega) with h | h | h | h | h <;>
    (rw [h]; simp only [Int.reducePow]; unfold ndig at h; repeat' split at h) <;> omega
theorem val_step (r : Int) (N j : Nat) (hj : j < N) : r / 16 ^ (N - j) * 16 + hexv (dig r N j) = r / 16 ^ (N - (j + 1)) := by
  obtain ⟨q, hq⟩ : ∃ q, N - (j + 1) = q := ⟨_, rfl⟩
  have e1 : N - j = q + 1 := by omega
  have e2 : N - 1 - j = q := by omega
  rw [dig, hexv_hexd _ (Int.emod_lt_of_pos _ (by decide)), e1, e2, hq, Int.pow_succ, ← Int.ediv_ediv_of_nonneg (Int.le_of_lt (Int.pow_pos (by decide)))]
  omega

set_option maxRecDepth 100000 in
set_option maxHeartbeats 1000000 in
theorem back_main (a0 : Option Addr) (n cap0 : Nat) (zs : List Int) (r : Int) (w : World) (hrow : (a0 = none ∧ n = 0 ∧ cap0 = 0) ∨ ∃ x, a0 = some x ∧ n ≤ zs.length ∧ ∀ i, i < zs.length → w.cell? (x.add i) = some (.int .u8 (zs.getD i 0)))
    (hz : n ≤ zs.length) (hn : n ≤ 1048576) (hr0 : 0 ≤ r) (hr1 : r ≤ 2147483647) :
    Calls Try.prog 4 #[.slice a0 n cap0, .int .i32 r] w fun e w' => e = .returned (.bool true) ∧ Below w.heap.size w w' := by
  have HC : Hid (Calls Try.prog 8 #[.slice a0 n cap0] w _) := clone_any a0 n cap0 zs w hn hrow
  clear hrow
  have d1 : decide ((1048576 : Int) < (n : Int)) = false := by simp; omega
  have d2 : decide (r < 0) = false := by simp; omega
  go_enter Try.func4, Try.ntmps4
  go_wp2_with (first | (go_at_call 11; go_in))
  refine HC.out.mono ?_
  rintro e w1 ⟨ao, rfl, hcl, hb1⟩
  have HA := own_of_clone hcl hz
  have HK : Hid (Calls Try.prog 9 #[.slice ao n n, .int .i32 r] w1 _) := zacp_any ao n ((zs.take n).map (Value.int .u8)) r w1 hn hr0 hr1 HA.1 (by simp; omega) HA.2
  have HCL : Hid (IsClone w1 w.heap.size ao n zs) := hcl
  clear HA hcl HC
  go_wp2_with fail
  refine HK.out.mono ?_
  rintro e w2 ⟨v2, rfl, hown, hb2⟩
  obtain ⟨g, cap, rfl, hcap, hcm, hcell⟩ := own_shape hown (by omega)
  have hN := ndig_bd r
  generalize hNr : ndig r = N at *
  have HN : Hid (ndig r = N) := hNr
  have HW : Hid (∀ (j : Nat) (u : Value), _ → _) := hcell
  have d3 : decide ((n : Int) + 2 + (N : Int) < (n : Int) + 6) = false := by simp; omega
  clear hown hcell HK hNr
  go_wp2_with fail
  go_loopw [6] (fun i wr => ∃ k : Nat, k ≤ n ∧ i = .int .i64 k ∧ ∃ q, wr = w2.drewN q) (fun i _ => n - (intOf i).toNat)
  case atStart => exact ⟨0, Nat.zero_le _, rfl, 0, rfl⟩
  case round =>
    obtain ⟨k, hk, rfl, q, rfl⟩ := hrel
    by_cases hlt : k < n
    · obtain ⟨rfl, hB, hc⟩ : ao = some ⟨w.heap.size, 0, none⟩ ∧ w.heap.size < w1.heap.size ∧ ∀ j, j < n → w1.cell? ⟨w.heap.size, j, none⟩ = some (.int .u8 (zs.getD j 0)) := by
        rcases HCL.out with ⟨_, h⟩ | h
        · omega
        · exact h
      have c1 : w2.cell? ⟨g, k, none⟩ = some (.int .u8 (zs.getD k 0)) := HW.out k _ (row_old zs n r N hz k hlt)
      have c2 : w2.cell? ⟨w.heap.size, k, none⟩ = some (.int .u8 (zs.getD k 0)) := (hb2.cell (by exact hB)).trans (hc k hlt)
      have i1 : (k : Int) < (n : Int) + 2 + (N : Int) := by omega
      clear hc
      go_wp2_with fail
      go_quiet (fail)
      go_wp2_with fail
      go_roundw
      case rel => exact ⟨k + 1, by omega, by go_num, q + nq, by simp⟩
      case measure => simp [intOf]; omega
    · have cU : w2.cell? ⟨g, n, none⟩ = some (.int .u8 85) := HW.out n _ (row_U zs n r N hz)
      have cP : w2.cell? ⟨g, n + 1, none⟩ = some (.int .u8 43) := HW.out (n + 1) _ (row_plus zs n r N hz)
      have c0 : w2.cell? ⟨g, n + 2, none⟩ = some (.int .u8 (dig r N 0)) := HW.out (n + 2) _ (row_dig zs n r N hz 0 (by omega))
      have hL : decide ((4 : Int) < (N : Int)) = false ∨ (decide ((4 : Int) < (N : Int)) = true ∧ (dig r N 0 == 48) = false) := by
        by_cases h4 : 4 < N
        · exact .inr ⟨by simp; omega, lead r N hr0 hr1 HN.out h4⟩
        · exact .inl (by simp; omega)
      have e1 : n + 2 + N - n = N + 2 := by omega
      rcases hL with hL | ⟨hL, hD⟩
      all_goals
        go_wp2_with fail
        go_loop [9, 10] (fun v i => ∃ j : Nat, j ≤ N ∧ i = .int .i64 j ∧ v = .int .i64 (r / 16 ^ (N - j))) (fun _ i => N - (intOf i).toNat)
        case atStart => exact ⟨0, Nat.zero_le _, rfl, by rw [Nat.sub_zero, val_start r N hr0 hr1 HN.out]⟩
        case round =>
          obtain ⟨j, hj, rfl, rfl⟩ := hrel
          clear cU cP c0
          by_cases hjl : j < N
          · have cj : w2.cell? ⟨g, n + 2 + j, none⟩ = some (.int .u8 (dig r N j)) := HW.out (n + 2 + j) _ (row_dig zs n r N hz j hjl)
            have HV : Hid (r / 16 ^ (N - j) * 16 + hexv (dig r N j) = r / 16 ^ (N - (j + 1))) := val_step r N j hjl
            have hV0 : 0 ≤ r / 16 ^ (N - j) := Int.ediv_nonneg hr0 (Int.le_of_lt (Int.pow_pos (by decide)))
            have hV1 : r / 16 ^ (N - j) ≤ 2147483647 := Int.le_trans (Int.ediv_le_self _ hr0) hr1
            have HE : Hid (Calls Try.prog 12 #[.int .u8 (dig r N j)] (w2.drewN q) _) := hexValue_any (dig r N j) (w2.drewN q) (dig_cases r N j)
            have hv := hexv_bd (dig r N j) (dig_bd r N j)
            generalize dig r N j = c at *
            generalize hexv c = d at *
            generalize r / 16 ^ (N - j) = V at *
            go_wp2_with (go_at_call 12; refine HE.out.mono ?_; rintro e w' ⟨rfl, rfl⟩)
            go_round
            case rel => exact ⟨j + 1, by omega, by go_num, by rw [← HV.out]⟩
            case measure => simp [intOf]; omega
          · obtain rfl : j = N := by omega
            have eR : r / 16 ^ (j - j) = r := by rw [Nat.sub_self]; simp
            go_wp2_with fail
            go_ret
            exact ⟨by simp, (hb1.trans (hb2.mono hb1.size)).trans ⟨rfl, rfl, rfl, Nat.le_refl _, fun _ _ => rfl⟩⟩
end Go.Proofs.Qxb6604476a
