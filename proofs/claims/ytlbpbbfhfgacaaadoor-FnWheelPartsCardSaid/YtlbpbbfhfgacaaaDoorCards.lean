/-
  DERIVED. GIVEN WITH THE SEED: THE CARDS: each row of YtlbpbbfhfgacaaaDoorRows.lean that lists a variable, with what it lists TIED to the program's text (the seventh form; the later family's looks); each row that meets fmt, with fmt's text TOLD by the authors' own Lean function (tested against real Go, not proved from fmt's source: count such statements apart). THE CARD IS WHAT COUNTS. Prove the row's statement (the work); the ties are given (YtlbpbbfhfgacaaaDoorTie.lean); close each card by the builder's one call (the guide's Derived/Test/ToyasCard.lean, 'card_holds'). Laid BY PROGRAM, IN A SANDBOX (cutbox-door.mjs). By AI agents, Wed Nov 11 2026. No macro, syntax, notation, axiom, sorry.
-/
import Derived.Test.YtlbpbbfhfgacaaaDoorRows
import GoSem.ClaimSeven
namespace Go.Proofs.YtlbpbbfhfgacaaaDoor
namespace Rows

/-- THE TIED CARD OF 'laws.FnWheelParts'. -/
def fnWheelPartsCard : Claim7 := { stood := { row := fnWheelPartsRow, standIns := [], harness := (true, "dc69cab289ba7d51a871a7507076c35ee2e96b99739080c1c88ea96c738441cf"), looks := false }, kinds := [], alts := [], laidByText := true, laidKinds := [.sentinel], laidTests := true, laidLooks := .later }
def FnWheelPartsCardSaid : Prop := Claim7.holds Tryd.pinned (.plain (OpenSpec.ofChange fnWheelPartsSpec)) fnWheelPartsCard

/-- THE TIED CARD OF 'laws.FnWheelNext'. -/
def fnWheelNextCard : Claim7 := { stood := { row := fnWheelNextRow, standIns := [], harness := (true, "dc69cab289ba7d51a871a7507076c35ee2e96b99739080c1c88ea96c738441cf"), looks := false }, kinds := [], alts := [], laidByText := true, laidKinds := [.sentinel], laidTests := true, laidLooks := .later }
def FnWheelNextCardSaid : Prop := Claim7.holds Tryd.pinned (.plain (OpenSpec.ofChange fnWheelNextSpec)) fnWheelNextCard

/-- THE SECOND FORM's CARD OF 'laws.FnWheelParts'. -/
def fnWheelPartsUptoCard : Claim7 := { stood := { row := fnWheelPartsUptoRow, standIns := [], harness := (true, "dc69cab289ba7d51a871a7507076c35ee2e96b99739080c1c88ea96c738441cf"), looks := false }, kinds := [], alts := [], laidByText := true, laidKinds := [.sentinel], laidTests := true, laidLooks := .later }
def FnWheelPartsUptoCardSaid : Prop := Claim7.holds Tryd.pinned (.plain (OpenSpec.upto fnWheelPartsSpec)) fnWheelPartsUptoCard

/-- THE SECOND FORM's CARD OF 'laws.FnWheelNext'. -/
def fnWheelNextUptoCard : Claim7 := { stood := { row := fnWheelNextUptoRow, standIns := [], harness := (true, "dc69cab289ba7d51a871a7507076c35ee2e96b99739080c1c88ea96c738441cf"), looks := false }, kinds := [], alts := [], laidByText := true, laidKinds := [.sentinel], laidTests := true, laidLooks := .later }
def FnWheelNextUptoCardSaid : Prop := Claim7.holds Tryd.pinned (.plain (OpenSpec.upto fnWheelNextSpec)) fnWheelNextUptoCard
end Rows
end Go.Proofs.YtlbpbbfhfgacaaaDoor
