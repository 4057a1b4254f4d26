import Derived.Test.Qxb6604573aDoorBin
import Derived.Deep.RegionWith
namespace Go.Proofs.Qxb6604573aDoor
open Go.RowKit

/-- The eight zero bytes of 'var b [8]byte'. -/
def zero8 : Array Value := #[Value.int .u8 0, Value.int .u8 0, Value.int .u8 0, Value.int .u8 0, Value.int .u8 0, Value.int .u8 0, Value.int .u8 0, Value.int .u8 0]

theorem Tryd.info5 : (Tryd.prog.info? 5).map (fun i => (i.zero, i.size, i.bytes)) = some (some (.int .u8 0), 1, 1) := by kernel_rfl
theorem size5 (w : World) : (Go.sizeOf 5).run Tryd.prog w = .ok 1 w := by
  obtain ⟨i0, hi, hz0, hz1, hz2⟩ := info_parts Tryd.info5
  simp [sizeOf, typeInfo, hi, hz1]

theorem pad8_get (l : List UInt8) (j : Nat) (hj : j < 8) : (pad8 l).getD j 0 = l.getD j 0 := by
  unfold pad8
  simp only [List.getD, List.getElem?_take, hj, if_true]
  by_cases h : j < l.length
  · rw [List.getElem?_append_left h]
  · have h1 : (l ++ List.replicate 8 (0 : UInt8))[j]? = some 0 := by rw [List.getElem?_append_right (by omega), List.getElem?_replicate, if_pos (by omega)]
    have h2 : l[j]? = none := List.getElem?_eq_none (by omega)
    rw [h1, h2]; rfl

theorem zero8_cell (w : World) (t : TypeId) (j : Nat) (hj : j < 8) : (w.alloc (.cells zero8 t)).cell? ⟨w.heap.size, j, none⟩ = some (.int .u8 0) ∧ (w.alloc (.cells zero8 t)).frozen? ⟨w.heap.size, j, none⟩ = false := by
  have h1 : (w.alloc (.cells zero8 t)).heap[w.heap.size]? = some (.cells zero8 t (0, 0)) := heap_alloc_new w _
  have h2 : zero8[j]? = some (.int .u8 0) := by
    rcases (show j = 0 ∨ j = 1 ∨ j = 2 ∨ j = 3 ∨ j = 4 ∨ j = 5 ∨ j = 6 ∨ j = 7 from by omega) with rfl | rfl | rfl | rfl | rfl | rfl | rfl | rfl <;> rfl
  constructor
  · unfold World.cell?; simp only [h1, h2]; rfl
  · unfold World.frozen?; simp only [h1]; simp

/-- 'copy(b[:], k)' into eight zero bytes. -/
theorem copy8 (w : World) (s : ByteArray) (t : TypeId) : ∃ v W, (Builtin.copy_ #[41, 30] 3 #[.slice (some ⟨w.heap.size, 0, none⟩) 8 8, .string s]).run Tryd.prog (w.alloc (.cells zero8 t)) = .ok v W ∧
    (∀ j, j < 8 → W.cell? ⟨w.heap.size, j, none⟩ = some (.int .u8 ((pad8 s.data.toList).getD j 0).toNat)) ∧ Below w.heap.size w W := by
  have hr := run_copy_str (P := Tryd.prog) (w.alloc (.cells zero8 t)) 41 30 3 5 w.heap.size 0 8 8 s Tryd.underlying41 size5 (fun j hj => by rw [Nat.zero_add, (zero8_cell w t j hj).1]; rfl) (fun j hj => by rw [Nat.zero_add, (zero8_cell w t j hj).2])
  refine ⟨_, _, hr, fun j hj => ?_, ((Below.refl _ w).alloc (Nat.le_refl _) _).trans (Lib.below_setCells_w (Nat.le_refl _) _ _ _)⟩
  rw [pad8_get _ j hj]
  by_cases h : j < s.data.toList.length
  · have := World.cell?_setCells_in w.heap.size ((s.data.toList.take 8).map fun x => Value.int .u8 (x.toNat : Int)) 0 (w.alloc (.cells zero8 t)) (fun i hi => by
      rw [Nat.zero_add, (zero8_cell w t i (by simp at hi; omega)).1]; rfl) j (by simp at h ⊢; omega)
    rw [Nat.zero_add] at this
    rw [this]
    have h' : j < s.data.size := by simpa using h
    simp [List.getD, Array.getElem?_eq_getElem h']
  · rw [World.cell?_setCells_out w.heap.size _ 0 (w.alloc (.cells zero8 t)) _ (fun _ _ => .inr (by simp at h ⊢; omega)), (zero8_cell w t j hj).1]
    simp at h
    simp [List.getD, h]

set_option maxRecDepth 100000 in
theorem int_any (s : ByteArray) (w : World) : Calls Tryd.prog 16 #[.string s] w fun e w' => e = .returned (.int .i64 ((ord8 s.data.toList : Int) - 9223372036854775808)) ∧ Below w.heap.size w w' := by
  obtain ⟨v, W, hcp, hcell, hb⟩ := copy8 w s 39
  unfold zero8 at hcp
  have HB : Hid (Below w.heap.size w W) := hb
  have HP : Hid (Calls Tryd.prog 19 #[.agg #[], .slice (some ⟨w.heap.size, 0, none⟩) 8 8] W.drew _) := be_u64 w.heap.size 8 8 (pad8 s.data.toList) (pad8_length _) W.drew (Nat.le_refl _) (fun j hj => by simpa using hcell j hj)
  clear hcell hb
  go_enter Tryd.func16, Tryd.ntmps16
  go_wp2_with fail
  go_region_with (go_at_call 19; refine HP.out.mono ?_; rintro e w2 ⟨rfl, hb2⟩)
  all_goals go_wp2
  all_goals go_ret
  all_goals
    refine ⟨?_, HB.out.drew.trans (hb2.mono HB.out.size)⟩
    show Ending.returned (Value.int .i64 (IntKind.i64.wrap (bits .xor .u64 (ord8 s.data.toList : Int) 9223372036854775808))) = _
    rw [flip_i64 _ (ord8_lt _)]

/-- 'string(b)', b bytes that are known. -/
theorem conv_l (g n c : Nat) (l : List UInt8) (hl : l.length = n) (W : World) (hc : ∀ j, j < n → W.cell? ⟨g, j, none⟩ = some (.int .u8 (l.getD j 0).toNat)) (dst : TypeId) (hd : Tryd.prog.underlying dst = some .string) :
    (convert 41 dst (.slice (some ⟨g, 0, none⟩) n c)).run Tryd.prog W = .ok (.string ⟨l.toArray⟩) W := by
  have h := run_convert_bytes_arg (P := Tryd.prog) W 41 5 Tryd.underlying41 Tryd.underlying5 g 0 n c (l.map fun b => (b.toNat : Int)) (by simpa using hl) (fun i hi => by
    have h1 : i < l.length := by omega
    rw [Nat.zero_add, hc i hi]
    simp [List.getD, List.getElem?_eq_getElem h1]) dst hd
  rw [h]
  congr 2
  unfold strOfNums
  congr 2
  rw [List.map_map]
  have : ((fun n : Int => UInt8.ofNat n.toNat) ∘ fun b : UInt8 => (b.toNat : Int)) = id := by
    funext b; simp
  rw [this, List.map_id]

set_option maxRecDepth 100000 in
theorem intKey_any (n : Int) (w : World) (h0 : -9223372036854775808 ≤ n) (h1 : n ≤ 9223372036854775807) : Calls Tryd.prog 17 #[.int .i64 n] w fun e w' => e = .returned (.string (enc8 (n + 9223372036854775808).toNat)) ∧ Below w.heap.size w w' := by
  obtain ⟨U, hU⟩ : ∃ U : Nat, U = (n + 9223372036854775808).toNat := ⟨_, rfl⟩
  have hlt : U < 18446744073709551616 := by omega
  have hflip : bits .xor .u64 (IntKind.u64.wrap n) 9223372036854775808 = (U : Int) := by rw [hU]; exact flip_u64 n h0 h1
  have HP : Hid (Calls Tryd.prog 20 #[.agg #[], .slice (some ⟨w.heap.size, 0, none⟩) 8 8, .int .u64 U] (w.alloc (.cells zero8 39)).drew _) := put_u64 w.heap.size 8 8 U hlt (w.alloc (.cells zero8 39)).drew (Nat.le_refl _) (fun j hj => ⟨_, by simpa using (zero8_cell w 39 j hj).1⟩) (fun j hj => (zero8_cell w 39 j hj).2)
  unfold zero8 at HP
  rw [← hU]
  have HU : Hid (U = (n + 9223372036854775808).toNat) := hU
  clear hU
  go_enter Tryd.func17, Tryd.ntmps17
  go_wp2_with fail
  go_region_with (go_at_call 20; refine HP.out.mono ?_; rintro e w2 ⟨rfl, hc2, hb2, hs2⟩)
  all_goals
    have hcv := conv_l w.heap.size 8 8 (Lib.beBytes 8 U) (Lib.beBytes_length _ _) w2 hc2 30 Tryd.underlying30
    clear hc2 hflip
    go_wp2
    go_ret
    refine ⟨rfl, ?_⟩
    exact ((Below.refl _ w).alloc (Nat.le_refl _) _).drew.trans hb2
end Go.Proofs.Qxb6604573aDoor
