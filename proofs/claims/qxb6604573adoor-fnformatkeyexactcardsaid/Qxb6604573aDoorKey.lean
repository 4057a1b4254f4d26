import Derived.Test.Qxb6604573aDoorParse
import Derived.WalkSmall
namespace Go.Proofs.Qxb6604573aDoor
open Go.RowKit

/-- The table that FormatInt reads lies as Go's library lays it. -/
def Tab (w : World) : Prop := Lib.TabIs Tryd.prog w powName .u64 Lib.pow10Tab
theorem Tryd.gPow : Tryd.prog.globalNamed powName = some 1 := by kernel_rfl
theorem Tab.lt {w : World} (h : Tab w) : 1 < w.heap.size := by
  unfold Tab Lib.TabIs World.var? at h
  rw [Tryd.gPow, Option.bind_some] at h
  apply Classical.byContradiction
  intro hc
  rw [Array.getElem?_eq_none (by omega)] at h
  simp at h
theorem Tab.below {B : Nat} {w w' : World} (h : Tab w) (hb : Below B w w') (hB : 1 < B) : Tab w' := var?_below hb Tryd.gPow hB h

/-- The integer that a key stands for. -/
def keyN (l : List UInt8) : Int := (ord8 l : Int) - 9223372036854775808
theorem keyN_bd (l : List UInt8) : -9223372036854775808 ≤ keyN l ∧ keyN l ≤ 9223372036854775807 := by
  have := ord8_lt l; unfold keyN; omega

theorem mk_any (a0 a1 : ByteArray) (a2 a3 a4 a5 : Int) (w : World) : Calls Tryd.prog 7 #[.string a0, .string a1, .int .i64 a2, .int .i64 a3, .int .i64 a4, .int .i64 a5] w
    fun e w' => e = .returned (.agg #[.string a0, .string a1, .int .i64 a2, .int .i64 a3, .int .i64 a4, .int .i64 a5, .string ⟨#[]⟩, .int .i64 0, .int .u64 0, .int .u64 0]) ∧ Below w.heap.size w w' := by
  go_enter Tryd.func7, Tryd.ntmps7
  go_wp2
  exact bodyPost_ret (v := .agg #[.string a0, .string a1, .int .i64 a2, .int .i64 a3, .int .i64 a4, .int .i64 a5, .string ⟨#[]⟩, .int .i64 0, .int .u64 0, .int .u64 0]) (by simp [results, Tryd.results7, go_sem]) rfl ⟨rfl, (Below.refl _ _).alloc (Nat.le_refl _) _⟩

set_option maxRecDepth 100000 in
set_option maxHeartbeats 400000 in
theorem fk_int (a0 a1 : ByteArray) (a2 a3 a4 a5 : Int) (s : ByteArray) (w : World) (hk : (a1.toList == [98, 121, 116, 101, 115]) = false) (htab : Tab w) :
    Calls Tryd.prog 8 #[.agg #[.string a0, .string a1, .int .i64 a2, .int .i64 a3, .int .i64 a4, .int .i64 a5, .string ⟨#[]⟩, .int .i64 0, .int .u64 0, .int .u64 0], .string s] w
      fun e w' => e = .returned (.string ⟨(Lib.itoa (keyN s.data.toList)).toArray⟩) ∧ Below w.heap.size w w' := by
  have HI : Hid (∀ w, Calls Tryd.prog 16 #[.string s] w fun e w' => e = .returned (.int .i64 (keyN s.data.toList)) ∧ Below w.heap.size w w') := fun w => int_any s w
  have hb := keyN_bd s.data.toList
  have HT : Hid (Tab w) := htab
  clear htab
  generalize keyN s.data.toList = n at *
  obtain ⟨h0, h1⟩ := hb
  have HF : Hid (∀ w, Tab w → Calls Tryd.prog 15 #[.int .i64 n, .int .i64 10] w fun e w' => e = .returned (.string ⟨(Lib.itoa n).toArray⟩) ∧ Below w.heap.size w w') := fun w ht => fmt_any n h0 h1 w ht
  go_enter Tryd.func8, Tryd.ntmps8
  go_wp2_with fail
  refine (HI.out _).mono ?_
  rintro e w1 ⟨rfl, hb1⟩
  have HB : Hid (Below w.heap.size w w1) := ((Below.refl _ w).alloc (Nat.le_refl _) _).trans (hb1.mono (by simp))
  have hz : w.heap.size ≤ w1.heap.size := HB.out.size
  clear hb1
  go_wp2_with fail
  refine (HF.out _ (HT.out.below HB.out HT.out.lt)).mono ?_
  rintro e w2 ⟨rfl, hb2⟩
  go_wp2_with fail
  go_ret
  exact ⟨rfl, HB.out.trans (hb2.mono hz)⟩

set_option maxRecDepth 100000 in
theorem fk_bytes (a0 a1 : ByteArray) (a2 a3 a4 a5 : Int) (s : ByteArray) (w : World) (hk : (a1.toList == [98, 121, 116, 101, 115]) = true) :
    Calls Tryd.prog 8 #[.agg #[.string a0, .string a1, .int .i64 a2, .int .i64 a3, .int .i64 a4, .int .i64 a5, .string ⟨#[]⟩, .int .i64 0, .int .u64 0, .int .u64 0], .string s] w
      fun e w' => e = .returned (.string s) ∧ Below w.heap.size w w' := by
  go_enter Tryd.func8, Tryd.ntmps8
  go_wp2
  go_ret
  exact ⟨rfl, (Below.refl _ w).alloc (Nat.le_refl _) _⟩
end Go.Proofs.Qxb6604573aDoor
