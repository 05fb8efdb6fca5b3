/-
  DERIVED. GIVEN WITH THE SEED: THE CARDS: each row of YtoopmpjgmgffoaaDoorRows.lean that lists a variable, with what it lists TIED to the program's text (the seventh form; the later family's looks); each row that meets fmt, with fmt's text TOLD by the authors' own Lean function (tested against real Go, not proved from fmt's source: count such statements apart). THE CARD IS WHAT COUNTS. Prove the row's statement (the work); the ties are given (YtoopmpjgmgffoaaDoorTie.lean); close each card by the builder's one call (the guide's Derived/Test/ToyasCard.lean, 'card_holds'). Laid BY PROGRAM, IN A SANDBOX (cutbox-door.mjs). By AI agents, Wed Nov 11 2026. No macro, syntax, notation, axiom, sorry.
-/
import Derived.Test.YtoopmpjgmgffoaaDoorRows
import GoSem.ClaimSeven
namespace Go.Proofs.YtoopmpjgmgffoaaDoor
namespace Rows

/-- THE TIED CARD OF 'laws.FnTransform'. -/
def fnTransformCard : Claim7 := { stood := { row := fnTransformRow, standIns := [], harness := (true, "44d7a429251d7de1ead946bd6a1df9773c13a55d4cd4ba2af1a2c502aed509a0"), looks := false }, kinds := [], alts := [], laidByText := true, laidKinds := [.data, .data, .data, .sentinel, .sentinel], laidTests := true, laidLooks := .later }
def FnTransformCardSaid : Prop := Claim7.holds Tryd.pinned (.plain (OpenSpec.ofChange fnTransformSpec)) fnTransformCard

/-- THE TIED CARD OF 'laws.FnTransformBack'. -/
def fnTransformBackCard : Claim7 := { stood := { row := fnTransformBackRow, standIns := [], harness := (true, "44d7a429251d7de1ead946bd6a1df9773c13a55d4cd4ba2af1a2c502aed509a0"), looks := false }, kinds := [], alts := [], laidByText := true, laidKinds := [.data, .data, .data, .sentinel, .sentinel], laidTests := true, laidLooks := .later }
def FnTransformBackCardSaid : Prop := Claim7.holds Tryd.pinned (.plain (OpenSpec.ofChange fnTransformBackSpec)) fnTransformBackCard

/-- THE SECOND FORM's CARD OF 'laws.FnTransform'. -/
def fnTransformUptoCard : Claim7 := { stood := { row := fnTransformUptoRow, standIns := [], harness := (true, "44d7a429251d7de1ead946bd6a1df9773c13a55d4cd4ba2af1a2c502aed509a0"), looks := false }, kinds := [], alts := [], laidByText := true, laidKinds := [.data, .data, .data, .sentinel, .sentinel], laidTests := true, laidLooks := .later }
def FnTransformUptoCardSaid : Prop := Claim7.holds Tryd.pinned (.plain (OpenSpec.upto fnTransformSpec)) fnTransformUptoCard

/-- THE SECOND FORM's CARD OF 'laws.FnTransformBack'. -/
def fnTransformBackUptoCard : Claim7 := { stood := { row := fnTransformBackUptoRow, standIns := [], harness := (true, "44d7a429251d7de1ead946bd6a1df9773c13a55d4cd4ba2af1a2c502aed509a0"), looks := false }, kinds := [], alts := [], laidByText := true, laidKinds := [.data, .data, .data, .sentinel, .sentinel], laidTests := true, laidLooks := .later }
def FnTransformBackUptoCardSaid : Prop := Claim7.holds Tryd.pinned (.plain (OpenSpec.upto fnTransformBackSpec)) fnTransformBackUptoCard
end Rows
end Go.Proofs.YtoopmpjgmgffoaaDoor
