/-
  DERIVED. GIVEN WITH THE SEED: THE CARDS: each row of YtimffhpnfdikoaaDoorRows.lean that lists a variable, with what it lists TIED to the program's text (the seventh form; the later family's looks); each row that meets fmt, with fmt's text TOLD by the authors' own Lean function (tested against real Go, not proved from fmt's source: count such statements apart). THE CARD IS WHAT COUNTS. Prove the row's statement (the work); the ties are given (YtimffhpnfdikoaaDoorTie.lean); close each card by the builder's one call (the guide's Derived/Test/ToyasCard.lean, 'card_holds'). Laid BY PROGRAM, IN A SANDBOX (cutbox-door.mjs). By AI agents, Wed Nov 11 2026. No macro, syntax, notation, axiom, sorry.
-/
import Derived.Test.YtimffhpnfdikoaaDoorRows
import GoSem.ClaimSeven
namespace Go.Proofs.YtimffhpnfdikoaaDoor
namespace Rows

/-- THE TIED CARD OF 'laws.FnListKinds'. -/
def fnListKindsCard : Claim7 := { stood := { row := fnListKindsRow, standIns := [], harness := (true, "87d212a22fa9de14b632e075fc5275e8dfca0ef469ee8ef33138b42c7cad120f"), looks := false }, kinds := [], alts := [], laidByText := true, laidKinds := [.sentinel, .sentinel], laidTests := true, laidLooks := .later }
def FnListKindsCardSaid : Prop := Claim7.holds Tryd.pinned (.plain (OpenSpec.ofChange fnListKindsSpec)) fnListKindsCard

/-- THE TIED CARD OF 'laws.FnListFull'. -/
def fnListFullCard : Claim7 := { stood := { row := fnListFullRow, standIns := [], harness := (true, "87d212a22fa9de14b632e075fc5275e8dfca0ef469ee8ef33138b42c7cad120f"), looks := false }, kinds := [], alts := [], laidByText := true, laidKinds := [.sentinel, .sentinel], laidTests := true, laidLooks := .later }
def FnListFullCardSaid : Prop := Claim7.holds Tryd.pinned (.plain (OpenSpec.ofChange fnListFullSpec)) fnListFullCard

/-- THE TIED CARD OF 'laws.FnListHas'. -/
def fnListHasCard : Claim7 := { stood := { row := fnListHasRow, standIns := [], harness := (true, "87d212a22fa9de14b632e075fc5275e8dfca0ef469ee8ef33138b42c7cad120f"), looks := false }, kinds := [], alts := [], laidByText := true, laidKinds := [.sentinel, .sentinel], laidTests := true, laidLooks := .later }
def FnListHasCardSaid : Prop := Claim7.holds Tryd.pinned (.plain (OpenSpec.ofChange fnListHasSpec)) fnListHasCard

/-- THE TIED CARD OF 'laws.FnListUndone'. -/
def fnListUndoneCard : Claim7 := { stood := { row := fnListUndoneRow, standIns := [], harness := (true, "87d212a22fa9de14b632e075fc5275e8dfca0ef469ee8ef33138b42c7cad120f"), looks := false }, kinds := [], alts := [], laidByText := true, laidKinds := [.sentinel, .sentinel], laidTests := true, laidLooks := .later }
def FnListUndoneCardSaid : Prop := Claim7.holds Tryd.pinned (.plain (OpenSpec.ofChange fnListUndoneSpec)) fnListUndoneCard

/-- THE TIED CARD OF 'laws.FnListMeans'. -/
def fnListMeansCard : Claim7 := { stood := { row := fnListMeansRow, standIns := [], harness := (true, "87d212a22fa9de14b632e075fc5275e8dfca0ef469ee8ef33138b42c7cad120f"), looks := false }, kinds := [], alts := [], laidByText := true, laidKinds := [.sentinel, .sentinel], laidTests := true, laidLooks := .later }
def FnListMeansCardSaid : Prop := Claim7.holds Tryd.pinned (.plain (OpenSpec.ofChange fnListMeansSpec)) fnListMeansCard

/-- THE SECOND FORM's CARD OF 'laws.FnListKinds'. -/
def fnListKindsUptoCard : Claim7 := { stood := { row := fnListKindsUptoRow, standIns := [], harness := (true, "87d212a22fa9de14b632e075fc5275e8dfca0ef469ee8ef33138b42c7cad120f"), looks := false }, kinds := [], alts := [], laidByText := true, laidKinds := [.sentinel, .sentinel], laidTests := true, laidLooks := .later }
def FnListKindsUptoCardSaid : Prop := Claim7.holds Tryd.pinned (.plain (OpenSpec.upto fnListKindsSpec)) fnListKindsUptoCard

/-- THE SECOND FORM's CARD OF 'laws.FnListFull'. -/
def fnListFullUptoCard : Claim7 := { stood := { row := fnListFullUptoRow, standIns := [], harness := (true, "87d212a22fa9de14b632e075fc5275e8dfca0ef469ee8ef33138b42c7cad120f"), looks := false }, kinds := [], alts := [], laidByText := true, laidKinds := [.sentinel, .sentinel], laidTests := true, laidLooks := .later }
def FnListFullUptoCardSaid : Prop := Claim7.holds Tryd.pinned (.plain (OpenSpec.upto fnListFullSpec)) fnListFullUptoCard

/-- THE SECOND FORM's CARD OF 'laws.FnListHas'. -/
def fnListHasUptoCard : Claim7 := { stood := { row := fnListHasUptoRow, standIns := [], harness := (true, "87d212a22fa9de14b632e075fc5275e8dfca0ef469ee8ef33138b42c7cad120f"), looks := false }, kinds := [], alts := [], laidByText := true, laidKinds := [.sentinel, .sentinel], laidTests := true, laidLooks := .later }
def FnListHasUptoCardSaid : Prop := Claim7.holds Tryd.pinned (.plain (OpenSpec.upto fnListHasSpec)) fnListHasUptoCard

/-- THE SECOND FORM's CARD OF 'laws.FnListUndone'. -/
def fnListUndoneUptoCard : Claim7 := { stood := { row := fnListUndoneUptoRow, standIns := [], harness := (true, "87d212a22fa9de14b632e075fc5275e8dfca0ef469ee8ef33138b42c7cad120f"), looks := false }, kinds := [], alts := [], laidByText := true, laidKinds := [.sentinel, .sentinel], laidTests := true, laidLooks := .later }
def FnListUndoneUptoCardSaid : Prop := Claim7.holds Tryd.pinned (.plain (OpenSpec.upto fnListUndoneSpec)) fnListUndoneUptoCard

/-- THE SECOND FORM's CARD OF 'laws.FnListMeans'. -/
def fnListMeansUptoCard : Claim7 := { stood := { row := fnListMeansUptoRow, standIns := [], harness := (true, "87d212a22fa9de14b632e075fc5275e8dfca0ef469ee8ef33138b42c7cad120f"), looks := false }, kinds := [], alts := [], laidByText := true, laidKinds := [.sentinel, .sentinel], laidTests := true, laidLooks := .later }
def FnListMeansUptoCardSaid : Prop := Claim7.holds Tryd.pinned (.plain (OpenSpec.upto fnListMeansSpec)) fnListMeansUptoCard
end Rows
end Go.Proofs.YtimffhpnfdikoaaDoor
