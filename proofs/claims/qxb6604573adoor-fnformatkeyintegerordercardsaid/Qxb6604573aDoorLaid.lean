import Derived.Test.Qxb6604573aDoorRows
import Derived.Test.Qxb6604573aDoorSucc
import Derived.ProofKit
import Derived.LaidMore
import Derived.Lay
import Derived.OpenShut
import Derived.ShutString
import Derived.MakeChecks
import Derived.Stop.Joined
namespace Go.Proofs.Qxb6604573aDoor
open Go.ChangeShapes Go.WideShapes Go.ChangeAt Go.RowKit

theorem own : ownKnob Tryd.prog.godebug = none := by kernel_rfl
/-- What the rows list. -/
def laid3 : List (String × DataW Unit) := Rows.fnFormatKeyExactRow.laid

theorem pow_datum : (Rows.laid_internal_strconv_uint64pow10 : DataW Unit) = Lib.tabData .u64 Lib.pow10Tab := by kernel_rfl

/-- WHAT THE CONDITION GIVES THE WALKS: the table of powers. -/
theorem tab_of_laid {W : World} (h : laidMetH Tryd.prog laid3 W) : Tab W := by
  rw [MakeChecks.laidMetH_plain _ _ _ (by kernel_rfl)] at h
  obtain ⟨ps, ⟨g0, t0, cs0, f0, p0, q0, hg0, ht0, hv0, hd0, ⟨g1, t1, cs1, f1, p1, q1, hg1, ht1, hv1, hd1, ⟨g2, t2, cs2, f2, p2, q2, hg2, ht2, hv2, hd2, _, _⟩, _⟩, _⟩, _, _⟩ := h
  obtain rfl := Option.some.inj (Tryd.gPow.symm.trans hg2)
  obtain rfl := Option.some.inj ((show (Tryd.prog.globals[1]?).map (·.type) = some 54 by kernel_rfl).symm.trans ht2)
  rw [pow_datum] at hd2
  have hcs := Lib.cells_of_tab (n := 20) (e := 24) Tryd.underlying54 Tryd.underlying24 (by kernel_rfl) (by kernel_rfl) hd2
  unfold Tab Lib.TabIs
  refine (show World.var? Tryd.prog W powName = some cs2 from hv2).trans ?_
  congr 1
  apply Array.ext'
  rw [hcs]

/-- A world that meets the condition. -/
theorem laid_met (os : Os) (args : Array Value) : laidMetH Tryd.prog laid3 ((World.laidAll Tryd.prog os laid3).forCall (fun _ _ => 0) ⟨#[], args, []⟩).memory := by
  rw [MakeChecks.laidMetH_plain _ _ _ (by kernel_rfl)]
  exact laidMet_laidAll _ (by kernel_rfl) (by kernel_rfl)
end Go.Proofs.Qxb6604573aDoor
