import Derived.Test.Qxb6604476aApp
namespace Go.Proofs.Qxb6604476a
open Go.RowKit

/-- The digit number q, the least first. -/
def rdig (r : Int) (q : Nat) : Int := hexd (r / 16 ^ q % 16)
def rdigs (r : Int) (j : Nat) : List Value := (List.range j).map fun q => Value.int .u8 (rdig r q)
theorem rdigs_length (r : Int) (j : Nat) : (rdigs r j).length = j := by simp [rdigs]
theorem rdigs_succ (r : Int) (j : Nat) : rdigs r (j + 1) = rdigs r j ++ [Value.int .u8 (rdig r j)] := by simp [rdigs, List.range_succ]
theorem rdigs_get (r : Int) (j q : Nat) (h : q < j) : (rdigs r j)[q]? = some (Value.int .u8 (rdig r q)) := by simp [rdigs, List.getElem?_range h]
theorem dig_rdig (r : Int) (N j q : Nat) (h : j + (q + 1) = N) : dig r N j = rdig r q := by
  have e : N - 1 - j = q := by omega
  rw [dig, e, rdig]
theorem pow_pos16 (j : Nat) : (0 : Int) < 16 ^ j := Int.pow_pos (by decide)
theorem quo_step (r : Int) (j : Nat) : r / 16 ^ j / 16 = r / 16 ^ (j + 1) := by
  rw [Int.pow_succ, ← Int.ediv_ediv_of_nonneg (Int.le_of_lt (pow_pos16 j))]
theorem lt_ndig (r : Int) (j : Nat) (h0 : 0 ≤ r) (h1 : r ≤ 2147483647) (hj : j ≤ ndig r) (h : 0 < r / 16 ^ j) : j < ndig r := by
  have hb := ndig_bd r
  apply Classical.byContradiction
  intro hc
  have e : j = ndig r := by omega
  subst e
  rcases (show ndig r = 4 ∨ ndig r = 5 ∨ ndig r = 6 ∨ ndig r = 7 ∨ ndig r = 8 from by omega) with h' | h' | h' | h' | h' <;>
    (rw [h'] at h; simp only [Int.reducePow] at h; unfold ndig at h'; repeat' split at h') <;> omega
theorem eq_ndig (r : Int) (j : Nat) (h1 : r ≤ 2147483647) (hj : j ≤ ndig r) (hj4 : 4 ≤ j) (h : r / 16 ^ j = 0) : j = ndig r := by
  have hb := ndig_bd r
  rcases (show j = 4 ∨ j = 5 ∨ j = 6 ∨ j = 7 ∨ j = 8 from by omega) with rfl | rfl | rfl | rfl | rfl <;>
    (simp only [Int.reducePow] at h; unfold ndig at *; repeat' split at *) <;> omega

theorem hexDigit_any (d : Int) (w : World) (h0 : 0 ≤ d) (h1 : d < 16) : Calls Try.prog 18 #[.int .i32 d] w fun e w' => e = .returned (.int .u8 (hexd d)) ∧ w' = w := by
  by_cases h : d < 10
  · have e : Hid (hexd d = 48 + d) := (by unfold hexd; exact if_pos h : hexd d = 48 + d)
    go_enter Try.func18, Try.ntmps18
    go_wp2
    go_ret
    rw [e.out]; exact ⟨rfl, rfl⟩
  · have e : Hid (hexd d = 55 + d) := (by unfold hexd; exact if_neg h : hexd d = 55 + d)
    go_enter Try.func18, Try.ntmps18
    go_wp2
    go_ret
    rw [e.out]
    refine ⟨?_, rfl⟩
    have e2 : 65 + (d - 10) = 55 + d := by omega
    first | (rw [e2]; rfl) | rfl

/-- A slice's length, for a loop's measure. -/
def slen : Value → Nat | .slice _ n _ => n | _ => 0
theorem own_slice {w : World} {B m : Nat} {v : Value} {xs : List Value} (h : w.ownsRow B 5 1 v m xs) : ∃ ao cap, v = .slice ao m cap := by
  rcases h.2 with ⟨rfl, rfl⟩ | ⟨g, cap, cur, rfl, _⟩
  · exact ⟨_, _, rfl⟩
  · exact ⟨_, _, rfl⟩

set_option maxRecDepth 100000 in
set_option maxHeartbeats 1000000 in
theorem text_any (r : Int) (w : World) (hr0 : 0 ≤ r) (hr1 : r ≤ 2147483647) :
    Calls Try.prog 10 #[.int .i32 r] w fun e w' => ∃ v', e = .returned v' ∧ w'.ownsRow w.heap.size 5 1 v' (2 + ndig r) ([.int .u8 85, .int .u8 43] ++ digs r (ndig r) (ndig r)) ∧ Below w.heap.size w w' := by
  obtain ⟨i0, hi, hz0, hz1, hz2⟩ := info_parts Try.info5
  have hN := ndig_bd r
  go_enter Try.func10, Try.ntmps10
  go_wp2
  go_loopw [3, 4] (fun v x wr => ∃ j : Nat, j ≤ ndig r ∧ x = .int .i32 (r / 16 ^ j) ∧ wr.ownsRow w.heap.size 5 1 v j (rdigs r j) ∧ Below w.heap.size w wr) (fun _ x _ => (intOf x).toNat)
  case atStart => exact ⟨0, Nat.zero_le _, by simp, World.ownsRow_nil _ _ _ _, Below.refl _ _⟩
  case round =>
    obtain ⟨j, hj, rfl, hown, hb⟩ := hrel
    have hx0 : 0 ≤ r / 16 ^ j := Int.ediv_nonneg hr0 (Int.le_of_lt (pow_pos16 j))
    have hx1 : r / 16 ^ j ≤ 2147483647 := Int.le_trans (Int.ediv_le_self _ hr0) hr1
    have hB : w.heap.size ≤ wr.heap.size := hb.size
    by_cases hp : 0 < r / 16 ^ j
    · have hjl := lt_ndig r j hr0 hr1 hj hp
      have HQ : Hid (r / 16 ^ j / 16 = r / 16 ^ (j + 1)) := quo_step r j
      have HR : Hid (hexd (r / 16 ^ j % 16) = rdig r j) := rfl
      generalize r / 16 ^ j = x at *
      have HE : Hid (Calls Try.prog 18 #[.int .i32 (x % 16)] wr _) := hexDigit_any (x % 16) wr (Int.emod_nonneg _ (by decide)) (Int.emod_lt_of_pos _ (by decide))
      go_wp2_with (first | (go_at_call 18; refine HE.out.mono ?_; rintro e w' ⟨rfl, hw'⟩; subst w') | (at_builtin; refine wpList_append_own _ rfl _ _ 22 rfl w.heap.size 5 i0 (.int .u8 0) 1 1 Try.underlying22 hi hz0 hz1 hz2 rfl (by decide) _ _ _ rfl (hown.alloc _) ⟨wr.heap.size, 0, none⟩ 1 1 [.int .u8 (hexd (x % 16))] rfl rfl ?c1 ?c2 ?c3 ?c4 ?c5 ?_))
      case c1 =>
        intro j u hj
        match j, hj with
        | 0, hj =>
          simp at hj; subst hj
          simp [Addr.add]
      case c2 => intro u hu; simp at hu; subst hu; rfl
      case c3 => unfold maxLen; omega
      case c4 => omega
      case c5 => simp; omega
      intro v' w2 hown' hgrow _
      have hb' : Below w.heap.size w w2 := (hb.alloc hB _).grown hgrow (by simp; omega) (fun k h => (hown.lt k h).1)
      have hown2 : w2.ownsRow w.heap.size 5 1 v' (j + 1) (rdigs r (j + 1)) := by
        rw [rdigs_succ, ← HR.out]; exact hown'
      clear hown hgrow hown' HE
      go_wp2_with fail
      go_roundw
      case rel => exact ⟨j + 1, by omega, by rw [← HQ.out], hown2, hb'⟩
      case measure => simp [intOf]; omega
    · have hx : Hid (r / 16 ^ j = 0) := (show r / 16 ^ j = 0 by omega)
      have h0 : decide (0 < r / 16 ^ j) = false := by simp; omega
      go_wp2_with fail
      clear h0
      go_loopw [3] (fun v wr => ∃ j : Nat, j ≤ ndig r ∧ Hid (r / 16 ^ j = 0) ∧ wr.ownsRow w.heap.size 5 1 v j (rdigs r j) ∧ Below w.heap.size w wr) (fun v _ => 4 - slen v)
      case atStart => exact ⟨j, hj, hx, hown, hb⟩
      case round =>
        clear hown hb hx hj hx0 hx1 hp
        obtain ⟨j, hj, hx, hown, hb⟩ := hrel
        have hB : w.heap.size ≤ wr.heap.size := hb.size
        obtain ⟨ao, cap, rfl⟩ := own_slice hown
        by_cases h4 : j < 4
        · go_wp2_with (at_builtin; refine wpList_append_own _ rfl _ _ 22 rfl w.heap.size 5 i0 (.int .u8 0) 1 1 Try.underlying22 hi hz0 hz1 hz2 rfl (by decide) _ _ _ rfl (hown.alloc _) ⟨wr.heap.size, 0, none⟩ 1 1 [.int .u8 48] rfl rfl ?d1 ?d2 ?d3 ?d4 ?d5 ?_)
          case d1 =>
            intro j u hj
            match j, hj with
            | 0, hj =>
              simp at hj; subst hj
              simp [Addr.add]
          case d2 => intro u hu; simp at hu; subst hu; rfl
          case d3 => unfold maxLen; omega
          case d4 => omega
          case d5 => simp; omega
          intro v' w2 hown' hgrow _
          have hb' : Below w.heap.size w w2 := (hb.alloc hB _).grown hgrow (by simp; omega) (fun k h => (hown.lt k h).1)
          have hown2 : w2.ownsRow w.heap.size 5 1 v' (j + 1) (rdigs r (j + 1)) := by
            have e : rdig r j = 48 := by rw [rdig, hx.out]; rfl
            rw [rdigs_succ, e]; exact hown'
          have hx2 : Hid (r / 16 ^ (j + 1) = 0) := (show r / 16 ^ (j + 1) = 0 by rw [← quo_step, hx.out]; rfl)
          obtain ⟨ao2, cap2, rfl⟩ := own_slice hown2
          clear hown hgrow hown'
          go_wp2_with fail
          go_roundw
          case rel => exact ⟨j + 1, by omega, hx2, hown2, hb'⟩
          case measure => simp [slen]; omega
        · have hjN : Hid (j = ndig r) := eq_ndig r j hr1 hj (by omega) hx.out
          obtain ⟨g, cap', hv, hcap, hcm, hcell⟩ := own_shape hown (by omega)
          have hgl := hown.lt g (by rw [hv]; rfl)
          simp only [Value.slice.injEq, true_and] at hv
          obtain ⟨rfl, rfl⟩ := hv
          have HW : Hid (∀ (q : Nat) (u : Value), (rdigs r j)[q]? = some u → wr.cell? ⟨g, q, none⟩ = some u) := hcell
          clear hcell hown
          have h9 : j ≤ 8 := by omega
          have h4' : decide ((j : Int) < 4) = false := by simp; omega
          go_wp2_with fail
          clear h4'
          have hown0 : (wr.alloc (.cells #[.int .u8 85, .int .u8 43] 5)).ownsRow wr.heap.size 5 1 (.slice (some ⟨wr.heap.size, 0, none⟩) 2 2) 2 ([.int .u8 85, .int .u8 43] ++ digs r j 0) :=
            World.ownsRow_lit wr #[.int .u8 85, .int .u8 43] 2 (Nat.le_refl _) (by unfold maxLen; omega) rfl
          have hb0 : Below wr.heap.size wr (wr.alloc (.cells #[.int .u8 85, .int .u8 43] 5)) := (Below.refl _ _).alloc (Nat.le_refl _) _
          have HB : Hid (Below w.heap.size w wr) := hb
          clear hb
          obtain ⟨wB, rfl⟩ : ∃ x, x = wr := ⟨_, rfl⟩
          go_loopw [5, 6] (fun v i wr => ∃ t p : Nat, t + p = j ∧ i = .int .i64 ((p : Int) - 1) ∧ wr.ownsRow wB.heap.size 5 1 v (2 + t) ([.int .u8 85, .int .u8 43] ++ digs r j t) ∧ Below wB.heap.size wB wr) (fun _ i _ => (intOf i + 1).toNat)
          case atStart => exact ⟨0, j, by omega, rfl, hown0, hb0⟩
          case round =>
            clear hown0 hb0
            obtain ⟨t, p, htp, rfl, hown, hb⟩ := hrel
            have hBs : wB.heap.size ≤ wr.heap.size := hb.size
            rcases p with _ | q
            · go_wp2_with fail
              go_ret
              have ht : t = ndig r := by have := hjN.out; omega
              have hjj : j = ndig r := hjN.out
              rw [hjj, ht] at hown
              refine ⟨_, rfl, ⟨hown.1, ?_⟩, HB.out.trans (hb.mono hB)⟩
              rcases hown.2 with h | ⟨g', cap', cur, e1, e2, e3⟩
              · exact .inl h
              · exact .inr ⟨g', cap', cur, e1, Nat.le_trans hB e2, e3⟩
            · have e : (((q + 1 : Nat) : Int) - 1) = q := by omega
              simp only [e]
              have hcq : wr.cell? ⟨g, q, none⟩ = some (.int .u8 (rdig r q)) := (hb.cell (by exact hgl.2)).trans (HW.out q _ (rdigs_get r j q (by omega)))
              have hql : (q : Int) < (j : Int) := by omega
              go_wp2_with (at_builtin; refine wpList_append_own _ rfl _ _ 22 rfl wB.heap.size 5 i0 (.int .u8 0) 1 1 Try.underlying22 hi hz0 hz1 hz2 rfl (by decide) _ _ _ rfl (hown.alloc _) ⟨wr.heap.size, 0, none⟩ 1 1 [.int .u8 (rdig r q)] rfl rfl ?e1 ?e2 ?e3 ?e4 ?e5 ?_)
              case e1 =>
                intro j u hj
                match j, hj with
                | 0, hj =>
                  simp at hj; subst hj
                  simp [Addr.add]
              case e2 => intro u hu; simp at hu; subst hu; rfl
              case e3 => unfold maxLen; omega
              case e4 => omega
              case e5 => simp; omega
              intro v' w2 hown' hgrow _
              have hb' : Below wB.heap.size wB w2 := (hb.alloc hBs _).grown hgrow (by simp; omega) (fun k h => (hown.lt k h).1)
              have hown2 : w2.ownsRow wB.heap.size 5 1 v' (2 + (t + 1)) ([.int .u8 85, .int .u8 43] ++ digs r j (t + 1)) := by
                rw [digs_succ, dig_rdig r j t q htp, ← Nat.add_assoc]; simpa [List.append_assoc] using hown'
              clear hown hgrow hown' hcq
              go_wp2_with fail
              go_roundw
              case rel => exact ⟨t + 1, q, by omega, by go_num, hown2, hb'⟩
              case measure => simp [intOf]
end Go.Proofs.Qxb6604476a
