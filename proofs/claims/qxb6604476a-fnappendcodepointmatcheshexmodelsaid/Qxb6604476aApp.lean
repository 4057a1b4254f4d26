import Derived.Test.Qxb6604476aClone
namespace Go.Proofs.Qxb6604476a
open Go.RowKit

theorem own_of_clone {w : World} {B : Nat} {ao : Option Addr} {n : Nat} {zs : List Int} (h : IsClone w B ao n zs) (hz : n ≤ zs.length) :
    (ao = none → n = 0) ∧ (∀ b, ao = some b → ∀ j u, ((zs.take n).map (Value.int .u8))[j]? = some u → w.cell? (b.add j) = some u) := by
  rcases h with ⟨rfl, rfl⟩ | ⟨rfl, _, hc⟩
  · refine ⟨fun _ => rfl, fun b hb => ?_⟩
    cases hb
  · refine ⟨fun h => ?_, fun b hb j u hj => ?_⟩
    · cases h
    cases hb
    have hj' : j < n := by
      have := (List.getElem?_eq_some_iff.1 hj).1
      simp at this; omega
    have h1 : j < zs.length := by omega
    simp [hj', h1] at hj
    rw [Addr.add_lit, Nat.zero_add, hc j hj']
    simp [h1, hj]

theorem ndig_test (r : Int) (k : Nat) (h0 : 0 ≤ r) (h1 : r ≤ 2147483647) (hk1 : 4 ≤ k) (hk2 : k ≤ ndig r) : (r / 2 ^ (4 * k) != 0) = decide (k < ndig r) := by
  have hb := ndig_bd r
  rw [Bool.eq_iff_iff, bne_iff_ne, decide_eq_true_iff]
  rcases (show k = 4 ∨ k = 5 ∨ k = 6 ∨ k = 7 ∨ k = 8 from by omega) with rfl | rfl | rfl | rfl | rfl <;>
    (unfold ndig at *; simp only [Nat.reduceMul, Int.reducePow]; constructor <;> intro h <;> (repeat' split at *) <;> omega)

/-- The digit that the Go text looks up, as a byte. -/
theorem hex_at (d : Int) (h0 : 0 ≤ d) (h1 : d < 16) (hh) : (((⟨#[48, 49, 50, 51, 52, 53, 54, 55, 56, 57, 65, 66, 67, 68, 69, 70]⟩ : ByteArray)[d.toNat]'hh).toNat : Int) = hexd d := by
  rcases (show d = 0 ∨ d = 1 ∨ d = 2 ∨ d = 3 ∨ d = 4 ∨ d = 5 ∨ d = 6 ∨ d = 7 ∨ d = 8 ∨ d = 9 ∨ d = 10 ∨ d = 11 ∨ d = 12 ∨ d = 13 ∨ d = 14 ∨ d = 15 from by omega) with rfl | rfl | rfl | rfl | rfl | rfl | rfl | rfl | rfl | rfl | rfl | rfl | rfl | rfl | rfl | rfl <;> rfl

theorem dig_at (r : Int) (k j q : Nat) (h : j + (q + 1) = k) : dig r k j = hexd (r / 2 ^ (4 * q) % 16) := by
  have e : k - 1 - j = q := by omega
  rw [dig, e, Int.pow_mul]
  rfl

set_option maxRecDepth 100000 in
set_option maxHeartbeats 400000 in
theorem acp_any (ao : Option Addr) (n : Nat) (olds : List Value) (r : Int) (w : World) (hn : n ≤ 1048576) (hr0 : 0 ≤ r) (hr1 : r ≤ 2147483647)
    (hnone : ao = none → n = 0) (hlo : olds.length = n) (hold : ∀ b, ao = some b → ∀ j u, olds[j]? = some u → w.cell? (b.add j) = some u) :
    Calls Try.prog 17 #[.slice ao n n, .int .i32 r] w fun e w' => ∃ v', e = .returned v' ∧ w'.ownsRow w.heap.size 5 1 v' (n + 2 + ndig r) (olds ++ [.int .u8 85, .int .u8 43] ++ digs r (ndig r) (ndig r)) ∧ Below w.heap.size w w' := by
  obtain ⟨i0, hi, hz0, hz1, hz2⟩ := info_parts Try.info5
  have hN := ndig_bd r
  go_enter Try.func17, Try.ntmps17
  go_wp2
  go_loop [5] (fun t => ∃ k : Nat, 4 ≤ k ∧ k ≤ ndig r ∧ t = .int .i64 k) (fun t => 8 - (intOf t).toNat)
  case atStart => exact ⟨4, Nat.le_refl _, hN.1, rfl⟩
  case round =>
    obtain ⟨k, hk1, hk2, rfl⟩ := hrel
    have hk3 : k ≤ 8 := by omega
    have ht := ndig_test r k hr0 hr1 hk1 hk2
    by_cases hlt : k < ndig r
    · simp only [hlt, decide_true] at ht
      go_wp2_with fail
      go_round
      case rel => exact ⟨k + 1, by omega, by omega, by go_num⟩
      case measure => simp [intOf]; omega
    · have hk : Hid (k = ndig r) := (show k = ndig r by omega)
      simp only [hlt, decide_false] at ht
      clear hlt
      go_wp2_with (at_builtin; refine wpList_append_string_full _ rfl _ _ 22 9 rfl 5 i0 (.int .u8 0) Try.underlying22 Try.underlying9 hi hz0 hz1 hz2 rfl ao n olds rfl hnone hlo hold ⟨#[85, 43]⟩ rfl (by decide) ?hb ?_)
      case hb => first | omega | (show n + 2 ≤ _; omega)
      intro v1 w1 hown hgr
      have hown0 : w1.ownsRow w.heap.size 5 1 v1 (n + 2) (olds ++ [.int .u8 85, .int .u8 43] ++ digs r k 0) := by
        rw [digs_zero, List.append_nil]; exact hown
      have hb0 : Below w.heap.size w w1 := (Below.refl _ _).grown hgr (Nat.le_refl _) (fun k h => by cases h)
      clear hown hgr hold hnone
      go_wp2_with fail
      clear ht
      go_loopw [0, 6] (fun v i wr => ∃ j p : Nat, j + p = k ∧ i = .int .i64 ((p : Int) - 1) ∧ wr.ownsRow w.heap.size 5 1 v (n + 2 + j) (olds ++ [.int .u8 85, .int .u8 43] ++ digs r k j) ∧ Below w.heap.size w wr)
        (fun _ i _ => (intOf i + 1).toNat)
      case atStart => exact ⟨0, k, by omega, rfl, hown0, hb0⟩
      case round =>
        clear hown0 hb0
        obtain ⟨j, p, hjp, rfl, hown, hb⟩ := hrel
        rcases p with _ | q
        · go_wp2_with fail
          go_ret
          have hj : j = ndig r := by have := hk.out; omega
          have hkk : k = ndig r := hk.out
          rw [hkk, hj] at hown
          exact ⟨_, rfl, hown, hb⟩
        · have e : (((q + 1 : Nat) : Int) - 1) = q := by omega
          simp only [e]
          have hx0 : 0 ≤ r / 2 ^ (4 * q) := Int.ediv_nonneg hr0 (Int.le_of_lt (Int.pow_pos (by decide)))
          have hx1 : r / 2 ^ (4 * q) < 2147483648 := Int.lt_of_le_of_lt (Int.ediv_le_self _ hr0) (by omega)
          have hbits : bits .and .i32 (r / 2 ^ (4 * q)) 15 = r / 2 ^ (4 * q) % 16 := bits_mask .i32 31 (by decide) wraps_i32 4 (by decide) _ hx0 hx1
          have hq : q ≤ 7 := by omega
          have hd0 : 0 ≤ r / 2 ^ (4 * q) % 16 := Int.emod_nonneg _ (by decide)
          have hd1 : r / 2 ^ (4 * q) % 16 < 16 := Int.emod_lt_of_pos _ (by decide)
          have hB : w.heap.size ≤ wr.heap.size := hb.size
          go_wp2_with (at_builtin; refine wpList_append_own _ rfl _ _ 22 rfl w.heap.size 5 i0 (.int .u8 0) 1 1 Try.underlying22 hi hz0 hz1 hz2 rfl (by decide) _ _ _ rfl (hown.alloc _) ⟨wr.heap.size, 0, none⟩ 1 1 [.int .u8 (hexd (r / 2 ^ (4 * q) % 16))] rfl rfl ?c1 ?c2 ?c3 ?c4 ?c5 ?_)
          case c1 =>
            intro j u hj
            match j, hj with
            | 0, hj =>
              simp at hj; subst hj
              simp [Addr.add]
              exact hex_at _ hd0 hd1 _
          case c2 => intro u hu; simp at hu; subst hu; rfl
          case c3 => unfold maxLen; omega
          case c4 => omega
          case c5 => simp; omega
          intro v' w2 hown' hgrow _
          have hb' : Below w.heap.size w w2 := (hb.alloc hB _).grown hgrow (by simp; omega) (fun k h => (hown.lt k h).1)
          have hown2 : w2.ownsRow w.heap.size 5 1 v' (n + 2 + (j + 1)) (olds ++ [.int .u8 85, .int .u8 43] ++ digs r k (j + 1)) := by
            rw [digs_succ, dig_at r k j q hjp, ← Nat.add_assoc]; simpa [List.append_assoc] using hown'
          clear hown hgrow hown' hbits
          go_wp2_with fail
          go_roundw
          case rel => exact ⟨j + 1, q, by omega, by go_num, hown2, hb'⟩
          case measure => simp [intOf]

theorem zacp_any (ao : Option Addr) (n : Nat) (olds : List Value) (r : Int) (w : World) (hn : n ≤ 1048576) (hr0 : 0 ≤ r) (hr1 : r ≤ 2147483647)
    (hnone : ao = none → n = 0) (hlo : olds.length = n) (hold : ∀ b, ao = some b → ∀ j u, olds[j]? = some u → w.cell? (b.add j) = some u) :
    Calls Try.prog 9 #[.slice ao n n, .int .i32 r] w fun e w' => ∃ v', e = .returned v' ∧ w'.ownsRow w.heap.size 5 1 v' (n + 2 + ndig r) (olds ++ [.int .u8 85, .int .u8 43] ++ digs r (ndig r) (ndig r)) ∧ Below w.heap.size w w' := by
  have H : Hid (Calls Try.prog 17 #[.slice ao n n, .int .i32 r] w _) := acp_any ao n olds r w hn hr0 hr1 hnone hlo hold
  clear hold hnone
  go_enter Try.func9, Try.ntmps9
  go_wp2_with (go_at_call 17; refine H.out.mono ?_; rintro e w' ⟨v', rfl, hown, hb⟩)
  go_ret
  exact ⟨_, rfl, hown, hb⟩

/-- What a row that is owned reads as. -/
theorem own_shape {w : World} {B m : Nat} {v : Value} {xs : List Value} (h : w.ownsRow B 5 1 v m xs) (hm : 0 < m) :
    ∃ g cap, v = .slice (some ⟨g, 0, none⟩) m cap ∧ m ≤ cap ∧ cap ≤ maxLen ∧ ∀ j u, xs[j]? = some u → w.cell? ⟨g, j, none⟩ = some u := by
  obtain ⟨hl, h2⟩ := h
  rcases h2 with ⟨_, rfl⟩ | ⟨g, cap, cur, rfl, hg, hh, h3, h4, h5, h6⟩
  · omega
  · refine ⟨g, cap, rfl, h3, h4, fun j u hj => ?_⟩
    have hj' : j < m := by have := (List.getElem?_eq_some_iff.1 hj).1; omega
    rw [World.ownsRow.cellAt (w := w) (base := B) (e := 5) (size := 1) (xs := xs) ⟨hl, .inr ⟨g, cap, cur, rfl, hg, hh, h3, h4, h5, h6⟩⟩ j (by omega)]
    exact hj
end Go.Proofs.Qxb6604476a
