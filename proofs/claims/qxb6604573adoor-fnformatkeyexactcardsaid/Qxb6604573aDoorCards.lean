/-
  DERIVED. GIVEN WITH THE SEED: THE CARDS: each row of Qxb6604573aDoorRows.lean that lists a variable, with what it lists TIED to the program's text (the seventh form; the later family's looks); each row that meets fmt, with fmt's text TOLD by the authors' own Lean function (tested against real Go, not proved from fmt's source: count such statements apart). THE CARD IS WHAT COUNTS. Prove the row's statement (the work); the ties are given (Qxb6604573aDoorTie.lean); close each card by the builder's one call (the guide's Derived/Test/ToyasCard.lean, 'card_holds'). Laid BY PROGRAM, IN A SANDBOX (cutbox-door.mjs). By AI agents, Wed Nov 11 2026. No macro, syntax, notation, axiom, sorry.
-/
import Derived.Test.Qxb6604573aDoorRows
import GoSem.ClaimSeven
namespace Go.Proofs.Qxb6604573aDoor
namespace Rows

/-- THE TIED CARD OF 'zzlaws_table_b1.FnFormatKeyExact'. -/
def fnFormatKeyExactCard : Claim7 := { stood := { row := fnFormatKeyExactRow, standIns := [], harness := (true, "7f57dba499c23124e6b8431d325cffc0c4f5e24b366247c3b979fbf90c73dbc1"), looks := false }, kinds := [], alts := [], laidByText := true, laidKinds := [.data, .data, .data], laidTests := true, laidLooks := .later }
def FnFormatKeyExactCardSaid : Prop := Claim7.holds Tryd.pinned (.plain (OpenSpec.ofChange fnFormatKeyExactSpec)) fnFormatKeyExactCard

/-- THE TIED CARD OF 'zzlaws_table_b1.FnFormatKeyIntegerOrder'. -/
def fnFormatKeyIntegerOrderCard : Claim7 := { stood := { row := fnFormatKeyIntegerOrderRow, standIns := [], harness := (true, "7f57dba499c23124e6b8431d325cffc0c4f5e24b366247c3b979fbf90c73dbc1"), looks := false }, kinds := [], alts := [], laidByText := true, laidKinds := [.data, .data, .data], laidTests := true, laidLooks := .later }
def FnFormatKeyIntegerOrderCardSaid : Prop := Claim7.holds Tryd.pinned (.plain (OpenSpec.ofChange fnFormatKeyIntegerOrderSpec)) fnFormatKeyIntegerOrderCard

/-- THE TIED CARD OF 'zzlaws_table_b1.FnAfterIntegerSuccessorAgreesWithFormatKey'. -/
def fnAfterIntegerSuccessorAgreesWithFormatKeyCard : Claim7 := { stood := { row := fnAfterIntegerSuccessorAgreesWithFormatKeyRow, standIns := [], harness := (true, "7f57dba499c23124e6b8431d325cffc0c4f5e24b366247c3b979fbf90c73dbc1"), looks := false }, kinds := [], alts := [], laidByText := true, laidKinds := [.data, .data, .data], laidTests := true, laidLooks := .later }
def FnAfterIntegerSuccessorAgreesWithFormatKeyCardSaid : Prop := Claim7.holds Tryd.pinned (.plain (OpenSpec.ofChange fnAfterIntegerSuccessorAgreesWithFormatKeySpec)) fnAfterIntegerSuccessorAgreesWithFormatKeyCard
end Rows
end Go.Proofs.Qxb6604573aDoor
