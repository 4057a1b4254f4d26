import Derived.Test.Qxb6604476aText
import Derived.Test.Qxb6604476aBack
namespace Go.Proofs.Qxb6604476a
open Go.RowKit

theorem tail_got (zs : List Int) (n : Nat) (r : Int) (N : Nat) (hz : n ≤ zs.length) (k : Nat) :
    ((zs.take n).map (Value.int .u8) ++ [.int .u8 85, .int .u8 43] ++ digs r N N)[n + k]? = ([Value.int .u8 85, .int .u8 43] ++ digs r N N)[k]? := by
  have hl : ((zs.take n).map (Value.int .u8)).length = n := by simp; omega
  rw [List.append_assoc, List.getElem?_append_right (by omega), hl, Nat.add_sub_cancel_left]
theorem tail_some (r : Int) (N k : Nat) (hk : k < 2 + N) : ∃ c, ([Value.int .u8 85, .int .u8 43] ++ digs r N N)[k]? = some (.int .u8 c) := by
  match k with
  | 0 => exact ⟨85, rfl⟩
  | 1 => exact ⟨43, rfl⟩
  | q + 2 => exact ⟨dig r N q, by rw [List.getElem?_append_right (by simp)]; exact digs_get r N N q (by omega)⟩

set_option maxRecDepth 100000 in
set_option maxHeartbeats 1000000 in
theorem match_main (a0 : Option Addr) (n cap0 : Nat) (zs : List Int) (r : Int) (w : World) (hrow : (a0 = none ∧ n = 0 ∧ cap0 = 0) ∨ ∃ x, a0 = some x ∧ n ≤ zs.length ∧ ∀ i, i < zs.length → w.cell? (x.add i) = some (.int .u8 (zs.getD i 0)))
    (hz : n ≤ zs.length) (hn : n ≤ 1048576) (hr0 : 0 ≤ r) (hr1 : r ≤ 2147483647) :
    Calls Try.prog 3 #[.slice a0 n cap0, .int .i32 r] w fun e w' => e = .returned (.bool true) ∧ Below w.heap.size w w' := by
  have HC : Hid (Calls Try.prog 8 #[.slice a0 n cap0] w _) := clone_any a0 n cap0 zs w hn hrow
  clear hrow
  have d1 : decide ((1048576 : Int) < (n : Int)) = false := by simp; omega
  have d2 : decide (r < 0) = false := by simp; omega
  go_enter Try.func3, Try.ntmps3
  go_wp2_with (first | (go_at_call 7; go_in))
  refine HC.out.mono ?_
  rintro e w1 ⟨ao, rfl, hcl, hb1⟩
  have HA := own_of_clone hcl hz
  have HK : Hid (Calls Try.prog 9 #[.slice ao n n, .int .i32 r] w1 _) := zacp_any ao n ((zs.take n).map (Value.int .u8)) r w1 hn hr0 hr1 HA.1 (by simp; omega) HA.2
  have HCL : Hid (IsClone w1 w.heap.size ao n zs) := hcl
  clear HA hcl HC
  go_wp2_with fail
  refine HK.out.mono ?_
  rintro e w2 ⟨v2, rfl, hown, hb2⟩
  obtain ⟨g, cap, rfl, hcap, hcm, hcell⟩ := own_shape hown (by omega)
  have HT : Hid (Calls Try.prog 10 #[.int .i32 r] w2 _) := text_any r w2 hr0 hr1
  have HW : Hid (∀ (j : Nat) (u : Value), _ → _) := hcell
  clear hown hcell HK
  go_wp2_with fail
  refine HT.out.mono ?_
  rintro e w3 ⟨v3, rfl, hown, hb3⟩
  obtain ⟨g3, cap3, rfl, hcap3, hcm3, hcell⟩ := own_shape hown (by omega)
  have HX : Hid (∀ (j : Nat) (u : Value), _ → _) := hcell
  have hN := ndig_bd r
  have HB : Hid (Below w.heap.size w w3) := (hb1.trans (hb2.mono hb1.size)).trans (hb3.mono (Nat.le_trans hb1.size hb2.size))
  generalize ndig r = N at *
  have d3 : ((n : Int) + 2 + (N : Int) != (n : Int) + (2 + (N : Int))) = false := by simp; omega
  clear hown hcell HT
  go_wp2_with fail
  go_loopw [7] (fun i wr => ∃ k : Nat, k ≤ n ∧ i = .int .i64 k ∧ ∃ q, wr = w3.drewN q) (fun i _ => n - (intOf i).toNat)
  case atStart => exact ⟨0, Nat.zero_le _, rfl, 0, rfl⟩
  case round =>
    obtain ⟨k, hk, rfl, q, rfl⟩ := hrel
    by_cases hlt : k < n
    · obtain ⟨rfl, hB, hc⟩ : ao = some ⟨w.heap.size, 0, none⟩ ∧ w.heap.size < w1.heap.size ∧ ∀ j, j < n → w1.cell? ⟨w.heap.size, j, none⟩ = some (.int .u8 (zs.getD j 0)) := by
        rcases HCL.out with ⟨_, h⟩ | h
        · omega
        · exact h
      have c1' : w2.cell? ⟨g, k, none⟩ = some (.int .u8 (zs.getD k 0)) := HW.out k _ (row_old zs n r N hz k hlt)
      have c1 : w3.cell? ⟨g, k, none⟩ = some (.int .u8 (zs.getD k 0)) := (hb3.cell (by have := World.block_lt_of_cell? w2 _ c1'; exact this)).trans c1'
      have c2 : w3.cell? ⟨w.heap.size, k, none⟩ = some (.int .u8 (zs.getD k 0)) := (hb3.cell (by have := hb2.size; show w.heap.size < w2.heap.size; omega)).trans ((hb2.cell (by exact hB)).trans (hc k hlt))
      have i1 : (k : Int) < (n : Int) + 2 + (N : Int) := by omega
      clear hc c1'
      go_wp2_with fail
      go_quiet (fail)
      go_wp2_with fail
      go_roundw
      case rel => exact ⟨k + 1, by omega, by go_num, q + nq, by simp⟩
      case measure => simp [intOf]; omega
    · go_wp2_with fail
      go_loopw [8] (fun i wr => ∃ k : Nat, k ≤ 2 + N ∧ i = .int .i64 k ∧ ∃ q, wr = w3.drewN q) (fun i _ => 2 + N - (intOf i).toNat)
      case atStart => exact ⟨0, Nat.zero_le _, rfl, q, rfl⟩
      case round =>
        clear hlt hk
        obtain ⟨k, hk, rfl, q, rfl⟩ := hrel
        by_cases hlt : k < 2 + N
        · obtain ⟨c, hc⟩ := tail_some r N k hlt
          have c1' : w2.cell? ⟨g, n + k, none⟩ = some (.int .u8 c) := HW.out (n + k) _ ((tail_got zs n r N hz k).trans hc)
          have c1 : w3.cell? ⟨g, n + k, none⟩ = some (.int .u8 c) := (hb3.cell (by have := World.block_lt_of_cell? w2 _ c1'; exact this)).trans c1'
          have c2 : w3.cell? ⟨g3, k, none⟩ = some (.int .u8 c) := HX.out k _ hc
          have i1 : (n : Int) + (k : Int) < (n : Int) + 2 + (N : Int) := by omega
          have i2 : (k : Int) < 2 + (N : Int) := by omega
          clear hc c1'
          go_wp2_with fail
          go_quiet (fail)
          go_wp2_with fail
          go_roundw
          case rel => exact ⟨k + 1, by omega, by go_num, q + nq, by simp⟩
          case measure => simp [intOf]; omega
        · go_wp2_with fail
          go_ret
          exact ⟨rfl, HB.out.trans ⟨rfl, rfl, rfl, Nat.le_refl _, fun _ _ => rfl⟩⟩
end Go.Proofs.Qxb6604476a
