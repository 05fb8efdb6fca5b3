/-
  DERIVED. GIVEN WITH THE SEED: THE CARDS: each row of YtebgaedalbdhaaaDoorRows.lean that lists a variable, with what it lists TIED to the program's text (the seventh form; the later family's looks); each row that meets fmt, with fmt's text TOLD by the authors' own Lean function (tested against real Go, not proved from fmt's source: count such statements apart). THE CARD IS WHAT COUNTS. Prove the row's statement (the work); the ties are given (YtebgaedalbdhaaaDoorTie.lean); close each card by the builder's one call (the guide's Derived/Test/ToyasCard.lean, 'card_holds'). Laid BY PROGRAM, IN A SANDBOX (cutbox-door.mjs). By AI agents, Wed Nov 11 2026. No macro, syntax, notation, axiom, sorry.
-/
import Derived.Test.YtebgaedalbdhaaaDoorRows
import GoSem.ClaimSeven
namespace Go.Proofs.YtebgaedalbdhaaaDoor
namespace Rows

/-- THE TIED CARD OF 'laws.FnSetExists'. -/
def fnSetExistsCard : Claim7 := { stood := { row := fnSetExistsRow, standIns := [], harness := (true, "4d439b6b1072e9b65b6c52d901d07de79f1471f9e54d79262febaef2c4ccab7f"), looks := false }, kinds := [], alts := [], laidByText := true, laidKinds := [.data], laidTests := true, laidLooks := .later }
def FnSetExistsCardSaid : Prop := Claim7.holds Tryd.pinned (.plain (OpenSpec.ofChange fnSetExistsSpec)) fnSetExistsCard

/-- THE TIED CARD OF 'laws.FnSetRun'. -/
def fnSetRunCard : Claim7 := { stood := { row := fnSetRunRow, standIns := [], harness := (true, "4d439b6b1072e9b65b6c52d901d07de79f1471f9e54d79262febaef2c4ccab7f"), looks := false }, kinds := [], alts := [], laidByText := true, laidKinds := [.data], laidTests := true, laidLooks := .later }
def FnSetRunCardSaid : Prop := Claim7.holds Tryd.pinned (.plain (OpenSpec.ofChange fnSetRunSpec)) fnSetRunCard

/-- THE TIED CARD OF 'laws.FnSetEmpty'. -/
def fnSetEmptyCard : Claim7 := { stood := { row := fnSetEmptyRow, standIns := [], harness := (true, "4d439b6b1072e9b65b6c52d901d07de79f1471f9e54d79262febaef2c4ccab7f"), looks := false }, kinds := [], alts := [], laidByText := true, laidKinds := [.data], laidTests := true, laidLooks := .later }
def FnSetEmptyCardSaid : Prop := Claim7.holds Tryd.pinned (.plain (OpenSpec.ofChange fnSetEmptySpec)) fnSetEmptyCard

/-- THE TIED CARD OF 'laws.FnSetEqual'. -/
def fnSetEqualCard : Claim7 := { stood := { row := fnSetEqualRow, standIns := [], harness := (true, "4d439b6b1072e9b65b6c52d901d07de79f1471f9e54d79262febaef2c4ccab7f"), looks := false }, kinds := [], alts := [], laidByText := true, laidKinds := [.data], laidTests := true, laidLooks := .later }
def FnSetEqualCardSaid : Prop := Claim7.holds Tryd.pinned (.plain (OpenSpec.ofChange fnSetEqualSpec)) fnSetEqualCard

/-- THE TIED CARD OF 'laws.FnSetTurned'. -/
def fnSetTurnedCard : Claim7 := { stood := { row := fnSetTurnedRow, standIns := [], harness := (true, "4d439b6b1072e9b65b6c52d901d07de79f1471f9e54d79262febaef2c4ccab7f"), looks := false }, kinds := [], alts := [], laidByText := true, laidKinds := [.data], laidTests := true, laidLooks := .later }
def FnSetTurnedCardSaid : Prop := Claim7.holds Tryd.pinned (.plain (OpenSpec.ofChange fnSetTurnedSpec)) fnSetTurnedCard

/-- THE TIED CARD OF 'laws.FnSetFrom'. -/
def fnSetFromCard : Claim7 := { stood := { row := fnSetFromRow, standIns := [], harness := (true, "4d439b6b1072e9b65b6c52d901d07de79f1471f9e54d79262febaef2c4ccab7f"), looks := false }, kinds := [], alts := [], laidByText := true, laidKinds := [.data, .sentinel], laidTests := true, laidLooks := .later }
def FnSetFromCardSaid : Prop := Claim7.holds Tryd.pinned (.plain (OpenSpec.ofChange fnSetFromSpec)) fnSetFromCard

/-- THE TIED CARD OF 'laws.FnSetSpan'. -/
def fnSetSpanCard : Claim7 := { stood := { row := fnSetSpanRow, standIns := [], harness := (true, "4d439b6b1072e9b65b6c52d901d07de79f1471f9e54d79262febaef2c4ccab7f"), looks := false }, kinds := [], alts := [], laidByText := true, laidKinds := [.data], laidTests := true, laidLooks := .later }
def FnSetSpanCardSaid : Prop := Claim7.holds Tryd.pinned (.plain (OpenSpec.ofChange fnSetSpanSpec)) fnSetSpanCard

/-- THE TIED CARD OF 'laws.FnSetSpanMeans'. -/
def fnSetSpanMeansCard : Claim7 := { stood := { row := fnSetSpanMeansRow, standIns := [], harness := (true, "4d439b6b1072e9b65b6c52d901d07de79f1471f9e54d79262febaef2c4ccab7f"), looks := false }, kinds := [], alts := [], laidByText := true, laidKinds := [.data], laidTests := true, laidLooks := .later }
def FnSetSpanMeansCardSaid : Prop := Claim7.holds Tryd.pinned (.plain (OpenSpec.ofChange fnSetSpanMeansSpec)) fnSetSpanMeansCard

/-- THE TIED CARD OF 'laws.FnSetCut'. -/
def fnSetCutCard : Claim7 := { stood := { row := fnSetCutRow, standIns := [], harness := (true, "4d439b6b1072e9b65b6c52d901d07de79f1471f9e54d79262febaef2c4ccab7f"), looks := false }, kinds := [], alts := [], laidByText := true, laidKinds := [.data, .sentinel, .sentinel], laidTests := true, laidLooks := .later }
def FnSetCutCardSaid : Prop := Claim7.holds Tryd.pinned (.plain (OpenSpec.ofChange fnSetCutSpec)) fnSetCutCard

/-- THE SECOND FORM's CARD OF 'laws.FnSetExists'. -/
def fnSetExistsUptoCard : Claim7 := { stood := { row := fnSetExistsUptoRow, standIns := [], harness := (true, "4d439b6b1072e9b65b6c52d901d07de79f1471f9e54d79262febaef2c4ccab7f"), looks := false }, kinds := [], alts := [], laidByText := true, laidKinds := [.data], laidTests := true, laidLooks := .later }
def FnSetExistsUptoCardSaid : Prop := Claim7.holds Tryd.pinned (.plain (OpenSpec.upto fnSetExistsSpec)) fnSetExistsUptoCard

/-- THE SECOND FORM's CARD OF 'laws.FnSetRun'. -/
def fnSetRunUptoCard : Claim7 := { stood := { row := fnSetRunUptoRow, standIns := [], harness := (true, "4d439b6b1072e9b65b6c52d901d07de79f1471f9e54d79262febaef2c4ccab7f"), looks := false }, kinds := [], alts := [], laidByText := true, laidKinds := [.data], laidTests := true, laidLooks := .later }
def FnSetRunUptoCardSaid : Prop := Claim7.holds Tryd.pinned (.plain (OpenSpec.upto fnSetRunSpec)) fnSetRunUptoCard

/-- THE SECOND FORM's CARD OF 'laws.FnSetEmpty'. -/
def fnSetEmptyUptoCard : Claim7 := { stood := { row := fnSetEmptyUptoRow, standIns := [], harness := (true, "4d439b6b1072e9b65b6c52d901d07de79f1471f9e54d79262febaef2c4ccab7f"), looks := false }, kinds := [], alts := [], laidByText := true, laidKinds := [.data], laidTests := true, laidLooks := .later }
def FnSetEmptyUptoCardSaid : Prop := Claim7.holds Tryd.pinned (.plain (OpenSpec.upto fnSetEmptySpec)) fnSetEmptyUptoCard

/-- THE SECOND FORM's CARD OF 'laws.FnSetEqual'. -/
def fnSetEqualUptoCard : Claim7 := { stood := { row := fnSetEqualUptoRow, standIns := [], harness := (true, "4d439b6b1072e9b65b6c52d901d07de79f1471f9e54d79262febaef2c4ccab7f"), looks := false }, kinds := [], alts := [], laidByText := true, laidKinds := [.data], laidTests := true, laidLooks := .later }
def FnSetEqualUptoCardSaid : Prop := Claim7.holds Tryd.pinned (.plain (OpenSpec.upto fnSetEqualSpec)) fnSetEqualUptoCard

/-- THE SECOND FORM's CARD OF 'laws.FnSetTurned'. -/
def fnSetTurnedUptoCard : Claim7 := { stood := { row := fnSetTurnedUptoRow, standIns := [], harness := (true, "4d439b6b1072e9b65b6c52d901d07de79f1471f9e54d79262febaef2c4ccab7f"), looks := false }, kinds := [], alts := [], laidByText := true, laidKinds := [.data], laidTests := true, laidLooks := .later }
def FnSetTurnedUptoCardSaid : Prop := Claim7.holds Tryd.pinned (.plain (OpenSpec.upto fnSetTurnedSpec)) fnSetTurnedUptoCard

/-- THE SECOND FORM's CARD OF 'laws.FnSetFrom'. -/
def fnSetFromUptoCard : Claim7 := { stood := { row := fnSetFromUptoRow, standIns := [], harness := (true, "4d439b6b1072e9b65b6c52d901d07de79f1471f9e54d79262febaef2c4ccab7f"), looks := false }, kinds := [], alts := [], laidByText := true, laidKinds := [.data, .sentinel], laidTests := true, laidLooks := .later }
def FnSetFromUptoCardSaid : Prop := Claim7.holds Tryd.pinned (.plain (OpenSpec.upto fnSetFromSpec)) fnSetFromUptoCard

/-- THE SECOND FORM's CARD OF 'laws.FnSetSpan'. -/
def fnSetSpanUptoCard : Claim7 := { stood := { row := fnSetSpanUptoRow, standIns := [], harness := (true, "4d439b6b1072e9b65b6c52d901d07de79f1471f9e54d79262febaef2c4ccab7f"), looks := false }, kinds := [], alts := [], laidByText := true, laidKinds := [.data], laidTests := true, laidLooks := .later }
def FnSetSpanUptoCardSaid : Prop := Claim7.holds Tryd.pinned (.plain (OpenSpec.upto fnSetSpanSpec)) fnSetSpanUptoCard

/-- THE SECOND FORM's CARD OF 'laws.FnSetSpanMeans'. -/
def fnSetSpanMeansUptoCard : Claim7 := { stood := { row := fnSetSpanMeansUptoRow, standIns := [], harness := (true, "4d439b6b1072e9b65b6c52d901d07de79f1471f9e54d79262febaef2c4ccab7f"), looks := false }, kinds := [], alts := [], laidByText := true, laidKinds := [.data], laidTests := true, laidLooks := .later }
def FnSetSpanMeansUptoCardSaid : Prop := Claim7.holds Tryd.pinned (.plain (OpenSpec.upto fnSetSpanMeansSpec)) fnSetSpanMeansUptoCard

/-- THE SECOND FORM's CARD OF 'laws.FnSetCut'. -/
def fnSetCutUptoCard : Claim7 := { stood := { row := fnSetCutUptoRow, standIns := [], harness := (true, "4d439b6b1072e9b65b6c52d901d07de79f1471f9e54d79262febaef2c4ccab7f"), looks := false }, kinds := [], alts := [], laidByText := true, laidKinds := [.data, .sentinel, .sentinel], laidTests := true, laidLooks := .later }
def FnSetCutUptoCardSaid : Prop := Claim7.holds Tryd.pinned (.plain (OpenSpec.upto fnSetCutSpec)) fnSetCutUptoCard
end Rows
end Go.Proofs.YtebgaedalbdhaaaDoor
