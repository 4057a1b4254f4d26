import Derived.Test.Qxb6604573aDoorKey
namespace Go.Proofs.Qxb6604573aDoor
open Go.RowKit

/-- What lies in the row of eight bytes behind k rounds of 'zzPad8'. -/
def padAt (l : List UInt8) (k j : Nat) : Int := if j < k then ((l.getD j 0).toNat : Int) else 0

set_option maxRecDepth 100000 in
set_option maxHeartbeats 400000 in
theorem pad_any (s : ByteArray) (w : World) : Calls Tryd.prog 11 #[.string s] w fun e w' => e = .returned (.string ⟨(pad8 s.data.toList).toArray⟩) ∧ Below w.heap.size w w' := by
  go_enter Tryd.func11, Tryd.ntmps11
  go_wp2
  go_loopw [4] (fun i wr => ∃ k : Nat, k ≤ 8 ∧ i = .int .i64 (k : Int) ∧ Hid (∀ j, j < 8 → wr.cell? ⟨w.heap.size, j, none⟩ = some (.int .u8 (padAt s.data.toList k j))) ∧ Hid (∀ j, j < 8 → wr.frozen? ⟨w.heap.size, j, none⟩ = false) ∧ Below w.heap.size w wr)
    (fun i _ => 8 - (intOf i).toNat)
  case atStart =>
    refine ⟨0, by omega, rfl, fun j hj => ?_, fun j hj => (zero8_cell w 39 j hj).2, (Below.refl _ _).alloc (Nat.le_refl _) _⟩
    rw [padAt, if_neg (by omega)]; exact (zero8_cell w 39 j hj).1
  case round =>
    obtain ⟨k, hk, rfl, hc, hf, hb⟩ := hrel
    by_cases h8 : k < 8
    · by_cases hl : k < s.size
      · have e : s.data.toList.getD k 0 = s[k] := by
          have h' : k < s.data.size := hl
          simp [List.getD, Array.getElem?_eq_getElem h']; rfl
        have c1 : wr.cell? ⟨w.heap.size, k, none⟩ = some (.int .u8 0) := by rw [hc.out k h8, padAt, if_neg (by omega)]
        have f1 : wr.frozen? ⟨w.heap.size, k, none⟩ = false := hf.out k h8
        have HE : Hid (s.data.toList.getD k 0 = s[k]) := e
        have HB : Hid (Below w.heap.size w wr) := hb
        clear e hb
        go_wp2
        go_roundw
        case rel =>
          refine ⟨k + 1, by omega, by go_num, fun j hj => ?_, fun j hj => ?_, HB.out.setCell (Nat.le_refl _) _⟩
          · by_cases hjk : j = k
            · subst hjk
              rw [World.cell?_setCell_same _ _ _ c1, padAt, if_pos (by omega), HE.out]
            · rw [World.cell?_setCell_other _ _ _ _ (by intro h; cases h; exact hjk rfl), hc.out j hj]
              congr 2
              unfold padAt
              by_cases h : j < k
              · rw [if_pos h, if_pos (by omega)]
              · rw [if_neg h, if_neg (by omega)]
          · rw [World.frozen?_setCell]; exact hf.out j hj
        case measure => simp [intOf]; omega
      · have e : s.data.toList.getD k 0 = 0 := by
          have h' : s.data.size ≤ k := by have : s.size = s.data.size := rfl; omega
          simp [List.getD, Array.getElem?_eq_none h']
        have HE : Hid (s.data.toList.getD k 0 = 0) := e
        clear e
        go_wp2
        go_roundw
        case rel =>
          refine ⟨k + 1, by omega, by go_num, fun j hj => ?_, hf, hb⟩
          rw [hc.out j hj]
          congr 2
          unfold padAt
          by_cases h : j < k
          · rw [if_pos h, if_pos (by omega)]
          · by_cases h2 : j = k
            · subst h2; rw [if_neg h, if_pos (by omega), HE.out]; rfl
            · rw [if_neg h, if_neg (by omega)]
        case measure => simp [intOf]; omega
    · have hcv := conv_l w.heap.size 8 8 (pad8 s.data.toList) (pad8_length _) wr (fun j hj => by rw [hc.out j hj, padAt, if_pos (by omega), pad8_get _ j hj]) 9 Tryd.underlying9
      go_wp2
      go_ret
      exact ⟨rfl, hb⟩
end Go.Proofs.Qxb6604573aDoor
