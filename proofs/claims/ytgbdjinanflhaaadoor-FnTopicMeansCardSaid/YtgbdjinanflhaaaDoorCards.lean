/-
  DERIVED. GIVEN WITH THE SEED: THE CARDS: each row of YtgbdjinanflhaaaDoorRows.lean that lists a variable, with what it lists TIED to the program's text (the seventh form; the later family's looks); each row that meets fmt, with fmt's text TOLD by the authors' own Lean function (tested against real Go, not proved from fmt's source: count such statements apart). THE CARD IS WHAT COUNTS. Prove the row's statement (the work); the ties are given (YtgbdjinanflhaaaDoorTie.lean); close each card by the builder's one call (the guide's Derived/Test/ToyasCard.lean, 'card_holds'). Laid BY PROGRAM, IN A SANDBOX (cutbox-door.mjs). By AI agents, Wed Nov 11 2026. No macro, syntax, notation, axiom, sorry.
-/
import Derived.Test.YtgbdjinanflhaaaDoorRows
import GoSem.ClaimSeven
namespace Go.Proofs.YtgbdjinanflhaaaDoor
namespace Rows

/-- THE TIED CARD OF 'laws.FnTopicRefused'. -/
def fnTopicRefusedCard : Claim7 := { stood := { row := fnTopicRefusedRow, standIns := [], harness := (true, "14371a47e692382dd5b140bc2df0dcd1eab6bf6b6fa51d32b1b0561f9749f031"), looks := false }, kinds := [], alts := [], laidByText := true, laidKinds := [.sentinel], laidTests := true, laidLooks := .later }
def FnTopicRefusedCardSaid : Prop := Claim7.holds Tryd.pinned (.plain (OpenSpec.ofChange fnTopicRefusedSpec)) fnTopicRefusedCard

/-- THE TIED CARD OF 'laws.FnTopicBack'. -/
def fnTopicBackCard : Claim7 := { stood := { row := fnTopicBackRow, standIns := [], harness := (true, "14371a47e692382dd5b140bc2df0dcd1eab6bf6b6fa51d32b1b0561f9749f031"), looks := false }, kinds := [], alts := [], laidByText := true, laidKinds := [.sentinel], laidTests := true, laidLooks := .later }
def FnTopicBackCardSaid : Prop := Claim7.holds Tryd.pinned (.plain (OpenSpec.ofChange fnTopicBackSpec)) fnTopicBackCard

/-- THE TIED CARD OF 'laws.FnTopicMeans'. -/
def fnTopicMeansCard : Claim7 := { stood := { row := fnTopicMeansRow, standIns := [], harness := (true, "14371a47e692382dd5b140bc2df0dcd1eab6bf6b6fa51d32b1b0561f9749f031"), looks := false }, kinds := [], alts := [], laidByText := true, laidKinds := [.sentinel], laidTests := true, laidLooks := .later }
def FnTopicMeansCardSaid : Prop := Claim7.holds Tryd.pinned (.plain (OpenSpec.ofChange fnTopicMeansSpec)) fnTopicMeansCard

/-- THE SECOND FORM's CARD OF 'laws.FnTopicRefused'. -/
def fnTopicRefusedUptoCard : Claim7 := { stood := { row := fnTopicRefusedUptoRow, standIns := [], harness := (true, "14371a47e692382dd5b140bc2df0dcd1eab6bf6b6fa51d32b1b0561f9749f031"), looks := false }, kinds := [], alts := [], laidByText := true, laidKinds := [.sentinel], laidTests := true, laidLooks := .later }
def FnTopicRefusedUptoCardSaid : Prop := Claim7.holds Tryd.pinned (.plain (OpenSpec.upto fnTopicRefusedSpec)) fnTopicRefusedUptoCard

/-- THE SECOND FORM's CARD OF 'laws.FnTopicBack'. -/
def fnTopicBackUptoCard : Claim7 := { stood := { row := fnTopicBackUptoRow, standIns := [], harness := (true, "14371a47e692382dd5b140bc2df0dcd1eab6bf6b6fa51d32b1b0561f9749f031"), looks := false }, kinds := [], alts := [], laidByText := true, laidKinds := [.sentinel], laidTests := true, laidLooks := .later }
def FnTopicBackUptoCardSaid : Prop := Claim7.holds Tryd.pinned (.plain (OpenSpec.upto fnTopicBackSpec)) fnTopicBackUptoCard

/-- THE SECOND FORM's CARD OF 'laws.FnTopicMeans'. -/
def fnTopicMeansUptoCard : Claim7 := { stood := { row := fnTopicMeansUptoRow, standIns := [], harness := (true, "14371a47e692382dd5b140bc2df0dcd1eab6bf6b6fa51d32b1b0561f9749f031"), looks := false }, kinds := [], alts := [], laidByText := true, laidKinds := [.sentinel], laidTests := true, laidLooks := .later }
def FnTopicMeansUptoCardSaid : Prop := Claim7.holds Tryd.pinned (.plain (OpenSpec.upto fnTopicMeansSpec)) fnTopicMeansUptoCard
end Rows
end Go.Proofs.YtgbdjinanflhaaaDoor
