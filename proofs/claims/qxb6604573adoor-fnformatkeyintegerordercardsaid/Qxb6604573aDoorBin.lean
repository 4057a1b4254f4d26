import Derived.Test.Qxb6604573aDoorPlain
import Derived.Test.Qxb6604573aDoorProg
import Derived.Shelf.Bin.BEUint64
import Derived.Shelf.Bin.BEPutUint64
import Derived.Shelf.Lay
import Derived.Ground.MnProg
import Derived.KernelRfl
namespace Go.Proofs
open Go.Shelf
shelf_lay LaysBin.n42 Mn 42 at Tryd as Tryd.lays42
shelf_lay LaysBin.n43 Mn 43 at Tryd as Tryd.lays43
end Go.Proofs
namespace Go.Proofs.Qxb6604573aDoor
open Go.RowKit

theorem list8 {l : List UInt8} (h : l.length = 8) : ∃ b0 b1 b2 b3 b4 b5 b6 b7, l = [b0, b1, b2, b3, b4, b5, b6, b7] := by
  match l, h with
  | [b0, b1, b2, b3, b4, b5, b6, b7], _ => exact ⟨b0, b1, b2, b3, b4, b5, b6, b7, rfl⟩

theorem be_u64 (g n c : Nat) (l : List UInt8) (hl : l.length = 8) (w : World) (hn : 8 ≤ n) (hc : ∀ j, j < 8 → w.cell? ⟨g, j, none⟩ = some (.int .u8 (l.getD j 0).toNat)) :
    Calls Tryd.prog 19 #[.agg #[], .slice (some ⟨g, 0, none⟩) n c] w fun e w' => e = .returned (.int .u64 (Lib.beNat l)) ∧ Below w.heap.size w w' := by
  obtain ⟨b0, b1, b2, b3, b4, b5, b6, b7, rfl⟩ := list8 hl
  exact Any.binary_BE_Uint64 Tryd.lays42 g 0 n c b0 b1 b2 b3 b4 b5 b6 b7 w hn (hc 0 (by omega)) (hc 1 (by omega)) (hc 2 (by omega)) (hc 3 (by omega)) (hc 4 (by omega)) (hc 5 (by omega)) (hc 6 (by omega)) (hc 7 (by omega))

theorem put_u64 (g n c v : Nat) (hv : v < 18446744073709551616) (w : World) (hn : 8 ≤ n) (hc : ∀ j, j < 8 → ∃ x, w.cell? ⟨g, j, none⟩ = some x) (hf : ∀ j, j < 8 → w.frozen? ⟨g, j, none⟩ = false) :
    Calls Tryd.prog 20 #[.agg #[], .slice (some ⟨g, 0, none⟩) n c, .int .u64 v] w fun e w' => e = .returned (.tuple #[]) ∧
      (∀ j, j < 8 → w'.cell? ⟨g, j, none⟩ = some (.int .u8 ((Lib.beBytes 8 v).getD j 0).toNat)) ∧ Below g w w' ∧ w.heap.size < w'.heap.size := by
  obtain ⟨x0, h0⟩ := hc 0 (by omega)
  obtain ⟨x1, h1⟩ := hc 1 (by omega)
  obtain ⟨x2, h2⟩ := hc 2 (by omega)
  obtain ⟨x3, h3⟩ := hc 3 (by omega)
  obtain ⟨x4, h4⟩ := hc 4 (by omega)
  obtain ⟨x5, h5⟩ := hc 5 (by omega)
  obtain ⟨x6, h6⟩ := hc 6 (by omega)
  obtain ⟨x7, h7⟩ := hc 7 (by omega)
  have H : Calls Tryd.prog 20 #[.agg #[], .slice (some ⟨g, 0, none⟩) n c, .int .u64 v] w fun e w' => e = .returned (.tuple #[]) ∧ w' = (w.alloc (.cells #[] 44)).setCells g 0 (Lib.byteCells (Lib.beBytes 8 v)) :=
    Any.binary_BE_PutUint64 Tryd.lays43 g 0 n c v hv x0 x1 x2 x3 x4 x5 x6 x7 w hn h0 h1 h2 h3 h4 h5 h6 h7 (hf 0 (by omega)) (hf 1 (by omega)) (hf 2 (by omega)) (hf 3 (by omega)) (hf 4 (by omega)) (hf 5 (by omega)) (hf 6 (by omega)) (hf 7 (by omega))
  refine H.mono ?_
  rintro e w' ⟨rfl, rfl⟩
  have hg : g < w.heap.size := World.block_lt_of_cell? w _ h0
  have hlen : (Lib.byteCells (Lib.beBytes 8 v)).length = 8 := by simp [Lib.byteCells, Lib.beBytes_length]
  have hbel : Below g (w.alloc (.cells #[] 44)) ((w.alloc (.cells #[] 44)).setCells g 0 (Lib.byteCells (Lib.beBytes 8 v))) := Lib.below_setCells_w (Nat.le_refl _) _ _ _
  refine ⟨rfl, fun j hj => ?_, ((Below.refl g w).alloc (Nat.le_of_lt hg) _).trans hbel, ?_⟩
  · have := World.cell?_setCells_in g (Lib.byteCells (Lib.beBytes 8 v)) 0 (w.alloc (.cells #[] 44)) (fun i hi => by
      obtain ⟨x, hx⟩ := hc i (by omega)
      have := cell?_alloc_old (.cells #[] 44) hx
      rw [Nat.zero_add, this]; rfl) j (by omega)
    rw [Nat.zero_add] at this
    rw [this]
    have hj2 : j < (Lib.beBytes 8 v).length := by rw [Lib.beBytes_length]; exact hj
    simp [Lib.byteCells, List.getD, List.getElem?_eq_getElem hj2]
  · have := hbel.size
    simp at this ⊢
    omega
end Go.Proofs.Qxb6604573aDoor
