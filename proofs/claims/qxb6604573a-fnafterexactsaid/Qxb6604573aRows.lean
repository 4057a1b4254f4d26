/-
  No cell of these rows narrows 'for every input' (looked for: loops, veiled, ifaces, maps, wideKeys, modest, calm, conditions, laid).
  DERIVED. THE GIVEN ROWS OF THIS SEAT. 1 by the template 'for every input the law returns true; each argument reads behind the call as it read before'; 0 by the template 'total and deterministic' (their statements: Qxb6604573aTotals.lean).
  GIVEN WITH THE SEED: the statements are not yours to turn. If you find one false, say at which input.
  Laid BY PROGRAM, IN A SANDBOX (cutbox-rows.mjs): the forced cells as the released guide's own fill.sh prints them over the translation c268e66d2774a1ac… (all of the seat's roots in one cut). By AI agents, Wed Nov 11 2026. No macro, syntax, notation, axiom, sorry.
-/
import Derived.Test.Qxb6604573aChecked
import GoSem.Claim
import GoSem.ClaimJoined
import GoSem.ClaimMapViews
import Derived.JoinedTies
import Derived.KernelRfl
namespace Go.Proofs.Qxb6604573a
/- THE CELL 'sum', in the pinned program and in every row, IS THE sha256 OF THE DUMP (.gsa) THAT Qxb6604573aProg.lean LOADS. Nothing in Lean hashes anything: it is a label: what it is worth is what the hold of that sum in a sandbox is worth. -/
noncomputable def Try.pinned : Pinned := { name := "qxb6604573a", sum := "c268e66d2774a1ac79ebfbc33a58d502711068c8f83b603bdbb095f1f35b0cfb", checked := Try.checked }
namespace Rows
def none {H : Type} : Left H := { results := [], args := [] }

/-- 'zzlaws_table_b1.FnAfterExact': WHATEVER THE INPUT: true; the input reads as it did. -/
def fnAfterExactSpec : ChangeSpec := { name := "fnAfterExact", fn := fun _ => fun
  | [d1, d2, d3, d4, d5, d6, d7] => { results := [.lit (.bool true)], args := [d1, d2, d3, d4, d5, d6, d7] }
  | _ => none }
def fnAfterExactRow : OpenClaim := { program := "qxb6604573a", sum := "c268e66d2774a1ac79ebfbc33a58d502711068c8f83b603bdbb095f1f35b0cfb", func := "example.com/rotunda/rotunda/zzlaws_table_b1.FnAfterExact", spec := "fnAfterExact", named := ["encoding/binary.BigEndian"], apart := false }
def FnAfterExactSaid : Prop := fnAfterExactRow.holds Try.pinned (OpenSpec.ofChange fnAfterExactSpec)

/-- ITS FALSE NEIGHBOUR: 'it returns false'. Refute it at one input. -/
def fnAfterExactWrong : ChangeSpec := { name := "fnAfterExact", fn := fun _ => fun
  | [d1, d2, d3, d4, d5, d6, d7] => { results := [.lit (.bool false)], args := [d1, d2, d3, d4, d5, d6, d7] }
  | _ => none }
def FnAfterExactWrongFalsely : Prop := fnAfterExactRow.holds Try.pinned (OpenSpec.ofChange fnAfterExactWrong)

end Rows
end Go.Proofs.Qxb6604573a
