/-
  No cell of these rows narrows 'for every input' (looked for: loops, veiled, ifaces, maps, wideKeys, modest, calm, conditions, laid).
  DERIVED. THE GIVEN ROWS OF THIS SEAT. 2 by the template 'for every input the law returns true; each argument reads behind the call as it read before'; 0 by the template 'total and deterministic' (their statements: Qxb6604561aTotals.lean).
  GIVEN WITH THE SEED: the statements are not yours to turn. If you find one false, say at which input.
  Laid BY PROGRAM, IN A SANDBOX (cutbox-rows.mjs): the forced cells as the released guide's own fill.sh prints them over the translation 0ba68a09ebf8d8d8… (all of the seat's roots in one cut). By AI agents, Wed Nov 11 2026. No macro, syntax, notation, axiom, sorry.
-/
import Derived.Test.Qxb6604561aChecked
import GoSem.Claim
import GoSem.ClaimJoined
import GoSem.ClaimMapViews
import Derived.JoinedTies
import Derived.KernelRfl
namespace Go.Proofs.Qxb6604561a
/- THE CELL 'sum', in the pinned program and in every row, IS THE sha256 OF THE DUMP (.gsa) THAT Qxb6604561aProg.lean LOADS. Nothing in Lean hashes anything: it is a label: what it is worth is what the hold of that sum in a sandbox is worth. -/
noncomputable def Try.pinned : Pinned := { name := "qxb6604561a", sum := "0ba68a09ebf8d8d829e941300bb75279b51b342a80f73549fb9d7d391769aac6", checked := Try.checked }
namespace Rows
def none {H : Type} : Left H := { results := [], args := [] }

/-- 'zzlaws_root_b1.FnHoldsByOperatorText': WHATEVER THE INPUT: true; the input reads as it did. -/
def fnHoldsByOperatorTextSpec : ChangeSpec := { name := "fnHoldsByOperatorText", fn := fun _ => fun
  | [d1, d2] => { results := [.lit (.bool true)], args := [d1, d2] }
  | _ => none }
def fnHoldsByOperatorTextRow : OpenClaim := { program := "qxb6604561a", sum := "0ba68a09ebf8d8d829e941300bb75279b51b342a80f73549fb9d7d391769aac6", func := "example.com/variegate/variegate/zzlaws_root_b1.FnHoldsByOperatorText", spec := "fnHoldsByOperatorText", apart := false }
def FnHoldsByOperatorTextSaid : Prop := fnHoldsByOperatorTextRow.holds Try.pinned (OpenSpec.ofChange fnHoldsByOperatorTextSpec)

/-- ITS FALSE NEIGHBOUR: 'it returns false'. Refute it at one input. -/
def fnHoldsByOperatorTextWrong : ChangeSpec := { name := "fnHoldsByOperatorText", fn := fun _ => fun
  | [d1, d2] => { results := [.lit (.bool false)], args := [d1, d2] }
  | _ => none }
def FnHoldsByOperatorTextWrongFalsely : Prop := fnHoldsByOperatorTextRow.holds Try.pinned (OpenSpec.ofChange fnHoldsByOperatorTextWrong)

/-- 'zzlaws_root_b1.FnHoldsComplementMirrorTilde': WHATEVER THE INPUT: true; the input reads as it did. -/
def fnHoldsComplementMirrorTildeSpec : ChangeSpec := { name := "fnHoldsComplementMirrorTilde", fn := fun _ => fun
  | [d1, d2] => { results := [.lit (.bool true)], args := [d1, d2] }
  | _ => none }
def fnHoldsComplementMirrorTildeRow : OpenClaim := { program := "qxb6604561a", sum := "0ba68a09ebf8d8d829e941300bb75279b51b342a80f73549fb9d7d391769aac6", func := "example.com/variegate/variegate/zzlaws_root_b1.FnHoldsComplementMirrorTilde", spec := "fnHoldsComplementMirrorTilde", apart := false }
def FnHoldsComplementMirrorTildeSaid : Prop := fnHoldsComplementMirrorTildeRow.holds Try.pinned (OpenSpec.ofChange fnHoldsComplementMirrorTildeSpec)

/-- ITS FALSE NEIGHBOUR: 'it returns false'. Refute it at one input. -/
def fnHoldsComplementMirrorTildeWrong : ChangeSpec := { name := "fnHoldsComplementMirrorTilde", fn := fun _ => fun
  | [d1, d2] => { results := [.lit (.bool false)], args := [d1, d2] }
  | _ => none }
def FnHoldsComplementMirrorTildeWrongFalsely : Prop := fnHoldsComplementMirrorTildeRow.holds Try.pinned (OpenSpec.ofChange fnHoldsComplementMirrorTildeWrong)

end Rows
end Go.Proofs.Qxb6604561a
