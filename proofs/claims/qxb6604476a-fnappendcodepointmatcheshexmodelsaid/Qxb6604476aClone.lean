import Derived.Test.Qxb6604476aPlain
import Derived.Test.Qxb6604476aProg
import Derived.Lib.SliceRun
import Derived.KernelRfl
import Derived.OpenShut
namespace Go.Proofs.Qxb6604476a
open Go.RowKit

theorem Try.info5 : (Try.prog.info? 5).map (fun i => (i.zero, i.size, i.bytes)) = some (some (.int .u8 0), 1, 1) := by kernel_rfl

theorem clone_nil (w : World) : Calls Try.prog 8 #[.slice none 0 0] w fun e w' => e = .returned (.slice none 0 0) ∧ w' = w := by
  have q22 : ∀ (w : World) (a : Option Addr) (n c n' c' : Nat), (binOp .eql 22 (.slice a n c) (.slice none n' c')).run Try.prog w = .ok (.bool a.isNone) w := fun w a n c n' c' => Lib.run_eql_slice_nil w _ _ a n c n' c' Try.underlying22
  go_enter Try.func8, Try.ntmps8
  go_wp2
  go_ret
  exact ⟨rfl, rfl⟩

/-- The clone's cells behind k rounds. -/
def cl (zs : List Int) (len k : Nat) : List Value := (zs.take k).map (Value.int .u8) ++ List.replicate (len - k) (Value.int .u8 0)
theorem cl_zero (zs : List Int) (len : Nat) : cl zs len 0 = List.replicate len (Value.int .u8 0) := by simp [cl]
theorem cl_full (zs : List Int) (len : Nat) : cl zs len len = (zs.take len).map (Value.int .u8) := by simp [cl]
theorem cl_set (zs : List Int) (len k : Nat) (hk : k < len) (hz : len ≤ zs.length) : (cl zs len k).set k (Value.int .u8 (zs.getD k 0)) = cl zs len (k + 1) := by
  have hl : ((zs.take k).map (Value.int .u8)).length = k := by simp; omega
  unfold cl
  obtain ⟨m, hm⟩ : ∃ m, len - k = m + 1 := ⟨len - k - 1, by omega⟩
  have hm' : len - (k + 1) = m := by omega
  rw [List.set_append_right _ _ (by omega), hl, hm, hm', List.replicate_succ, Nat.sub_self, List.set_cons_zero]
  have e : zs.getD k 0 = zs[k] := by simp [List.getD, List.getElem?_eq_getElem (show k < zs.length by omega)]
  rw [e, List.take_succ_eq_append_getElem (by omega), List.map_append, List.append_assoc]
  rfl
theorem cl_get (zs : List Int) (len k : Nat) (hk : k < len) (hz : len ≤ zs.length) : (cl zs len k)[k]? = some (Value.int .u8 0) := by
  have hl : ((zs.take k).map (Value.int .u8)).length = k := by simp; omega
  unfold cl
  rw [List.getElem?_append_right (by omega), hl, Nat.sub_self]
  obtain ⟨m, hm⟩ : ∃ m, len - k = m + 1 := ⟨len - k - 1, by omega⟩
  simp [hm, List.replicate_succ]

set_option maxHeartbeats 400000 in
theorem clone_some (b off len cap : Nat) (zs : List Int) (w : World) (hpos : 0 < len) (hlen : len ≤ 1048576) (hz : len ≤ zs.length) (hc : ∀ j, j < len → w.cell? ⟨b, off + j, none⟩ = some (.int .u8 (zs.getD j 0))) :
    Calls Try.prog 8 #[.slice (some ⟨b, off, none⟩) len cap] w fun e w' => e = .returned (.slice (some ⟨w.heap.size, 0, none⟩) len len) ∧ w'.ownsRow w.heap.size 5 1 (.slice (some ⟨w.heap.size, 0, none⟩) len len) len ((zs.take len).map (Value.int .u8)) ∧ Below w.heap.size w w' := by
  have q22 : ∀ (w : World) (a : Option Addr) (n c n' c' : Nat), (binOp .eql 22 (.slice a n c) (.slice none n' c')).run Try.prog w = .ok (.bool a.isNone) w := fun w a n c n' c' => Lib.run_eql_slice_nil w _ _ a n c n' c' Try.underlying22
  obtain ⟨i0, hi, hz0, hz1, hz2⟩ := info_parts Try.info5
  have hbB : b < w.heap.size := by have := World.block_lt_of_cell? w _ (hc 0 hpos); simpa using this
  go_enter Try.func8, Try.ntmps8
  go_wp2_with (at_make; refine wpList_make_full _ rfl _ _ 22 rfl w.heap.size 5 i0 (.int .u8 0) 1 Try.underlying22 hi hz0 hz1 .i64 .i64 (len : Int) (len : Int) len rfl rfl rfl rfl (by rw [hz2]; omega) (by unfold maxLen; omega) (Nat.le_refl _) ?_; intro w1 hown hgr)
  have hown0 : w1.ownsRow w.heap.size 5 1 (.slice (some ⟨w.heap.size, 0, none⟩) len len) len (cl zs len 0) := by
    have e : (madeCells (Value.int .u8 0).cells (len * 1)).toList = cl zs len 0 := by rw [cl_zero, Nat.mul_one]; exact toList_madeCells_one _ _
    rw [e] at hown; exact hown
  have hb0 : Below w.heap.size w w1 := (Below.refl _ _).grown hgr (Nat.le_refl _) (fun k h => by cases h)
  clear hown hgr hi hz0 hz1 hz2
  go_loopw [4] (fun i wr => ∃ k : Nat, k ≤ len ∧ i = .int .i64 k ∧ wr.ownsRow w.heap.size 5 1 (.slice (some ⟨w.heap.size, 0, none⟩) len len) len (cl zs len k) ∧ Below w.heap.size w wr)
    (fun i _ => len - (intOf i).toNat)
  case atStart => exact ⟨0, Nat.zero_le _, rfl, hown0, hb0⟩
  case round =>
    obtain ⟨k, hk, rfl, hown, hb⟩ := hrel
    clear hown0 hb0
    by_cases hlt : k < len
    · have hcx : wr.cell? ⟨b, off + k, none⟩ = some (.int .u8 (zs.getD k 0)) := (hb.cell (by exact hbB)).trans (hc k hlt)
      have hck : wr.cell? ⟨w.heap.size, k, none⟩ = some (.int .u8 0) := (hown.cellAt k (by omega)).trans (cl_get zs len k hlt hz)
      have hfk := hown.frozenAt k
      have hst := hown.stored k (.int .u8 (zs.getD k 0))
      rw [cl_set zs len k hlt hz] at hst
      have hb' : Below w.heap.size w (wr.setCell ⟨w.heap.size, k, none⟩ (.int .u8 (zs.getD k 0))) := hb.setCell (Nat.le_refl _) _
      have HS : Hid (_ ∧ _) := hst
      have HB : Hid (Below _ _ _) := hb'
      clear hst hb' hown hc
      go_wp2
      go_roundw
      case rel => exact ⟨k + 1, by omega, by go_num, by simpa using HS.out.1, by simpa using HB.out⟩
      case measure => simp [intOf]; omega
    · obtain rfl : k = len := by omega
      go_wp2
      go_ret
      rw [cl_full] at hown
      exact ⟨rfl, hown, hb⟩

theorem clone_zero (x : Addr) (cap : Nat) (w : World) :
    Calls Try.prog 8 #[.slice (some x) 0 cap] w fun e w' => e = .returned (.slice (some ⟨w.heap.size, 0, none⟩) 0 0) ∧ w.heap.size < w'.heap.size ∧ Below w.heap.size w w' := by
  have q22 : ∀ (w : World) (a : Option Addr) (n c n' c' : Nat), (binOp .eql 22 (.slice a n c) (.slice none n' c')).run Try.prog w = .ok (.bool a.isNone) w := fun w a n c n' c' => Lib.run_eql_slice_nil w _ _ a n c n' c' Try.underlying22
  obtain ⟨i0, hi, hz0, hz1, hz2⟩ := info_parts Try.info5
  go_enter Try.func8, Try.ntmps8
  go_wp2_with (at_make; refine wpList_make_full _ rfl _ _ 22 rfl w.heap.size 5 i0 (.int .u8 0) 1 Try.underlying22 hi hz0 hz1 .i64 .i64 (0 : Int) (0 : Int) 0 rfl rfl rfl rfl (by rw [hz2]; omega) (by unfold maxLen; omega) (Nat.le_refl _) ?_; intro w1 hown hgr)
  have hb0 : Below w.heap.size w w1 := (Below.refl _ _).grown hgr (Nat.le_refl _) (fun k h => by cases h)
  have hsz := (hown.lt w.heap.size rfl).2
  clear hown hgr hi hz0 hz1 hz2
  refine wp_loop_rounds 1 ?_
  rw [rounds_succ]
  go_wp2
  go_ret
  exact ⟨rfl, hsz, hb0⟩

/-- What the clone is: nil where nothing was; else a row of its own, the block B, in which the numbers lie. -/
def IsClone (w : World) (B : Nat) (ao : Option Addr) (len : Nat) (zs : List Int) : Prop :=
  (ao = none ∧ len = 0) ∨ (ao = some ⟨B, 0, none⟩ ∧ B < w.heap.size ∧ ∀ j, j < len → w.cell? ⟨B, j, none⟩ = some (.int .u8 (zs.getD j 0)))

theorem clone_any (a0 : Option Addr) (len cap : Nat) (zs : List Int) (w : World) (hlen : len ≤ 1048576)
    (hrow : (a0 = none ∧ len = 0 ∧ cap = 0) ∨ ∃ x, a0 = some x ∧ len ≤ zs.length ∧ ∀ i, i < zs.length → w.cell? (x.add i) = some (.int .u8 (zs.getD i 0))) :
    Calls Try.prog 8 #[.slice a0 len cap] w fun e w' => ∃ ao, e = .returned (.slice ao len len) ∧ IsClone w' w.heap.size ao len zs ∧ Below w.heap.size w w' := by
  rcases hrow with ⟨rfl, rfl, rfl⟩ | ⟨x, rfl, hl, hc⟩
  · refine (clone_nil w).mono ?_
    rintro e w' ⟨rfl, rfl⟩
    exact ⟨none, rfl, .inl ⟨rfl, rfl⟩, Below.refl _ _⟩
  · by_cases hp : len = 0
    · subst hp
      refine (clone_zero x cap w).mono ?_
      rintro e w' ⟨rfl, hs, hb⟩
      exact ⟨_, rfl, .inr ⟨rfl, hs, fun j hj => by omega⟩, hb⟩
    · obtain ⟨b, off, rfl, hc'⟩ := ints_at hc (by omega)
      refine (clone_some b off len cap zs w (by omega) hlen hl (fun j hj => hc' j (by omega))).mono ?_
      rintro e w' ⟨rfl, hown, hb⟩
      refine ⟨_, rfl, .inr ⟨rfl, (hown.lt _ rfl).2, fun j hj => ?_⟩, hb⟩
      rw [hown.cellAt j (by omega)]
      have h1 : j < zs.length := by omega
      simp [hj, h1]
end Go.Proofs.Qxb6604476a
