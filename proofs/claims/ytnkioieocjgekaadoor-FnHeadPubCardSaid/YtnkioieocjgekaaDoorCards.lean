/-
  DERIVED. GIVEN WITH THE SEED: THE CARDS: each row of YtnkioieocjgekaaDoorRows.lean that lists a variable, with what it lists TIED to the program's text (the seventh form; the later family's looks); each row that meets fmt, with fmt's text TOLD by the authors' own Lean function (tested against real Go, not proved from fmt's source: count such statements apart). THE CARD IS WHAT COUNTS. Prove the row's statement (the work); the ties are given (YtnkioieocjgekaaDoorTie.lean); close each card by the builder's one call (the guide's Derived/Test/ToyasCard.lean, 'card_holds'). Laid BY PROGRAM, IN A SANDBOX (cutbox-door.mjs). By AI agents, Wed Nov 11 2026. No macro, syntax, notation, axiom, sorry.
-/
import Derived.Test.YtnkioieocjgekaaDoorRows
import GoSem.ClaimSeven
namespace Go.Proofs.YtnkioieocjgekaaDoor
namespace Rows

/-- THE TIED CARD OF 'laws.FnHeadPub'. -/
def fnHeadPubCard : Claim7 := { stood := { row := fnHeadPubRow, standIns := [], harness := (true, "a20e6335a7db1542960d1b84ebe69b365ef16e35a45141052798bbb9abbf98c6"), looks := true }, kinds := [], alts := [], laidByText := true, laidKinds := [.sentinel, .sentinel], laidTests := true, laidLooks := .later }
def FnHeadPubCardSaid : Prop := Claim7.holds Tryd.pinned (.plain (OpenSpec.ofChange fnHeadPubSpec)) fnHeadPubCard

/-- THE TIED CARD OF 'laws.FnProtoVarint'. -/
def fnProtoVarintCard : Claim7 := { stood := { row := fnProtoVarintRow, standIns := [], harness := (true, "a20e6335a7db1542960d1b84ebe69b365ef16e35a45141052798bbb9abbf98c6"), looks := true }, kinds := [], alts := [], laidByText := true, laidKinds := [.sentinel, .sentinel], laidTests := true, laidLooks := .later }
def FnProtoVarintCardSaid : Prop := Claim7.holds Tryd.pinned (.plain (OpenSpec.ofChange fnProtoVarintSpec)) fnProtoVarintCard

/-- THE TIED CARD OF 'laws.FnProtoTag'. -/
def fnProtoTagCard : Claim7 := { stood := { row := fnProtoTagRow, standIns := [], harness := (true, "a20e6335a7db1542960d1b84ebe69b365ef16e35a45141052798bbb9abbf98c6"), looks := true }, kinds := [], alts := [], laidByText := true, laidKinds := [.sentinel, .sentinel, .sentinel], laidTests := true, laidLooks := .later }
def FnProtoTagCardSaid : Prop := Claim7.holds Tryd.pinned (.plain (OpenSpec.ofChange fnProtoTagSpec)) fnProtoTagCard

/-- THE TIED CARD OF 'laws.FnProtoField'. -/
def fnProtoFieldCard : Claim7 := { stood := { row := fnProtoFieldRow, standIns := [], harness := (true, "a20e6335a7db1542960d1b84ebe69b365ef16e35a45141052798bbb9abbf98c6"), looks := true }, kinds := [], alts := [], laidByText := true, laidKinds := [.sentinel, .sentinel, .sentinel], laidTests := true, laidLooks := .later }
def FnProtoFieldCardSaid : Prop := Claim7.holds Tryd.pinned (.plain (OpenSpec.ofChange fnProtoFieldSpec)) fnProtoFieldCard

/-- THE SECOND FORM's CARD OF 'laws.FnHeadPub'. -/
def fnHeadPubUptoCard : Claim7 := { stood := { row := fnHeadPubUptoRow, standIns := [], harness := (true, "a20e6335a7db1542960d1b84ebe69b365ef16e35a45141052798bbb9abbf98c6"), looks := true }, kinds := [], alts := [], laidByText := true, laidKinds := [.sentinel, .sentinel], laidTests := true, laidLooks := .later }
def FnHeadPubUptoCardSaid : Prop := Claim7.holds Tryd.pinned (.plain (OpenSpec.upto fnHeadPubSpec)) fnHeadPubUptoCard

/-- THE SECOND FORM's CARD OF 'laws.FnProtoVarint'. -/
def fnProtoVarintUptoCard : Claim7 := { stood := { row := fnProtoVarintUptoRow, standIns := [], harness := (true, "a20e6335a7db1542960d1b84ebe69b365ef16e35a45141052798bbb9abbf98c6"), looks := true }, kinds := [], alts := [], laidByText := true, laidKinds := [.sentinel, .sentinel], laidTests := true, laidLooks := .later }
def FnProtoVarintUptoCardSaid : Prop := Claim7.holds Tryd.pinned (.plain (OpenSpec.upto fnProtoVarintSpec)) fnProtoVarintUptoCard

/-- THE SECOND FORM's CARD OF 'laws.FnProtoTag'. -/
def fnProtoTagUptoCard : Claim7 := { stood := { row := fnProtoTagUptoRow, standIns := [], harness := (true, "a20e6335a7db1542960d1b84ebe69b365ef16e35a45141052798bbb9abbf98c6"), looks := true }, kinds := [], alts := [], laidByText := true, laidKinds := [.sentinel, .sentinel, .sentinel], laidTests := true, laidLooks := .later }
def FnProtoTagUptoCardSaid : Prop := Claim7.holds Tryd.pinned (.plain (OpenSpec.upto fnProtoTagSpec)) fnProtoTagUptoCard

/-- THE SECOND FORM's CARD OF 'laws.FnProtoField'. -/
def fnProtoFieldUptoCard : Claim7 := { stood := { row := fnProtoFieldUptoRow, standIns := [], harness := (true, "a20e6335a7db1542960d1b84ebe69b365ef16e35a45141052798bbb9abbf98c6"), looks := true }, kinds := [], alts := [], laidByText := true, laidKinds := [.sentinel, .sentinel, .sentinel], laidTests := true, laidLooks := .later }
def FnProtoFieldUptoCardSaid : Prop := Claim7.holds Tryd.pinned (.plain (OpenSpec.upto fnProtoFieldSpec)) fnProtoFieldUptoCard
end Rows
end Go.Proofs.YtnkioieocjgekaaDoor
