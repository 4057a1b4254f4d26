import Derived.Test.Qxb6604573aDoorInt
namespace Go.Proofs.Qxb6604573aDoor
open Go.RowKit

theorem beBytes_get (u q : Nat) (hq : q < 8) : ((Lib.beBytes 8 u).getD q 0).toNat = u / 256 ^ (7 - q) % 256 := by
  rcases (show q = 0 ∨ q = 1 ∨ q = 2 ∨ q = 3 ∨ q = 4 ∨ q = 5 ∨ q = 6 ∨ q = 7 from by omega) with rfl | rfl | rfl | rfl | rfl | rfl | rfl | rfl <;>
    (simp only [Lib.beBytes, Lib.leBytes, List.reverse_cons, List.reverse_nil, List.nil_append, List.cons_append, List.getD_cons_zero, List.getD_cons_succ, Lib.toUInt8_mod, Nat.reduceSub, Nat.reducePow]; try omega)
theorem and_u8 (X : Nat) (h : X < 18446744073709551616) : bits .and .u64 (X : Int) 255 % 256 = ((X % 256 : Nat) : Int) := by
  have hx : bits .and .u64 (X : Int) 255 = ((X &&& 255 : Nat) : Int) := u64_and_nat X 255 h (by decide)
  have h2 : X &&& 255 = X % 256 := Nat.and_two_pow_sub_one_eq_mod X 8
  rw [hx, h2]; omega

/-- What lies in the row of eight bytes behind the rounds 7 .. k. -/
def encAt (u k j : Nat) : Int := if j < k then 0 else (((Lib.beBytes 8 u).getD j 0).toNat : Int)

set_option maxRecDepth 100000 in
set_option maxHeartbeats 400000 in
theorem enc_any (u : Nat) (w : World) (hu : u < 18446744073709551616) : Calls Tryd.prog 10 #[.int .u64 u] w fun e w' => e = .returned (.string (enc8 u)) ∧ Below w.heap.size w w' := by
  have HU : Hid (u < 18446744073709551616) := hu
  clear hu
  go_enter Tryd.func10, Tryd.ntmps10
  go_wp2
  go_loopw [0, 4] (fun v i wr => ∃ k : Nat, k ≤ 8 ∧ i = .int .i64 ((k : Int) - 1) ∧ v = .int .u64 ((u / 256 ^ (8 - k) : Nat) : Int) ∧ Hid (∀ j, j < 8 → wr.cell? ⟨w.heap.size, j, none⟩ = some (.int .u8 (encAt u k j))) ∧ Hid (∀ j, j < 8 → wr.frozen? ⟨w.heap.size, j, none⟩ = false) ∧ Below w.heap.size w wr)
    (fun _ i _ => (intOf i + 1).toNat)
  case atStart =>
    refine ⟨8, by omega, rfl, by simp, fun j hj => ?_, fun j hj => (zero8_cell w 39 j hj).2, (Below.refl _ _).alloc (Nat.le_refl _) _⟩
    rw [encAt, if_pos hj]; exact (zero8_cell w 39 j hj).1
  case round =>
    obtain ⟨k, hk, rfl, rfl, hc, hf, hb⟩ := hrel
    rcases k with _ | q
    · have hcv := conv_l w.heap.size 8 8 (Lib.beBytes 8 u) (Lib.beBytes_length _ _) wr (fun j hj => by rw [hc.out j hj, encAt, if_neg (by omega)]) 9 Tryd.underlying9
      go_wp2
      go_ret
      exact ⟨rfl, hb⟩
    · have e : (((q + 1 : Nat) : Int) - 1) = q := by omega
      simp only [e]
      have c1 : wr.cell? ⟨w.heap.size, q, none⟩ = some (.int .u8 (encAt u (q + 1) q)) := hc.out q (by omega)
      have f1 : wr.frozen? ⟨w.heap.size, q, none⟩ = false := hf.out q (by omega)
      have hq : (q : Int) < 8 := by omega
      have HX : Hid (u / 256 ^ (8 - (q + 1)) < 18446744073709551616) := (show _ < _ from Nat.lt_of_le_of_lt (Nat.div_le_self _ _) HU.out)
      have HD : Hid (u / 256 ^ (8 - (q + 1)) / 256 = u / 256 ^ (8 - q)) := (show u / 256 ^ (8 - (q + 1)) / 256 = u / 256 ^ (8 - q) by
        rw [Nat.div_div_eq_div_mul, ← Nat.pow_succ]; congr 2; omega)
      have HG : Hid (((Lib.beBytes 8 u).getD q 0).toNat = u / 256 ^ (8 - (q + 1)) % 256) := (show _ = _ by
        rw [beBytes_get u q (by omega)]; congr 3; omega)
      generalize u / 256 ^ (8 - (q + 1)) = X at *
      generalize encAt u (q + 1) q = z at *
      have HB : Hid (Below w.heap.size w wr) := hb
      clear hb
      go_wp2
      go_roundw
      case rel =>
        refine ⟨q, by omega, by go_num, ?_, fun j hj => ?_, fun j hj => ?_, ?_⟩
        · rw [← HD.out]; rfl
        · rw [and_u8 X HX.out, ← HG.out]
          by_cases hjq : j = q
          · subst hjq
            rw [World.cell?_setCell_same _ _ _ c1, encAt, if_neg (by omega)]
          · rw [World.cell?_setCell_other _ _ _ _ (by intro h; cases h; exact hjq rfl), hc.out j hj]
            congr 2
            unfold encAt
            by_cases h : j < q
            · rw [if_pos h, if_pos (by omega)]
            · rw [if_neg h, if_neg (by omega)]
        · rw [World.frozen?_setCell]; exact hf.out j hj
        · exact HB.out.setCell (Nat.le_refl _) _
      case measure => simp [intOf]
end Go.Proofs.Qxb6604573aDoor
