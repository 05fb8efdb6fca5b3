/-
  NARROWER THAN 'FOR EVERY INPUT', by the rows' own cells (each row's printed sentence says how): FnWheelParts: laid · FnWheelNext: laid.
  DERIVED. THE GIVEN ROWS OF THIS SEAT. 2 by the template 'for every input the law returns true; each argument reads behind the call as it read before'; 0 by the template 'total and deterministic' (their statements: YtlbpbbfhfgacaaaDoorTotals.lean).
  GIVEN WITH THE SEED: the statements are not yours to turn. If you find one false, say at which input.
  Laid BY PROGRAM, IN A SANDBOX (cutbox-rows.mjs): the forced cells as the released guide's own fill.sh prints them over the translation d4c989f2a4c4cb9e… (all of the seat's roots in one cut). By AI agents, Wed Nov 11 2026. No macro, syntax, notation, axiom, sorry.
-/
import Derived.Test.YtlbpbbfhfgacaaaDoorChecked
import GoSem.Claim
import GoSem.ClaimJoined
import GoSem.ClaimMapViews
import Derived.JoinedTies
import Derived.KernelRfl
namespace Go.Proofs.YtlbpbbfhfgacaaaDoor
/- THE CELL 'sum', in the pinned program and in every row, IS THE sha256 OF THE DUMP (.gsa) THAT YtlbpbbfhfgacaaaDoorProg.lean LOADS. Nothing in Lean hashes anything: it is a label: what it is worth is what the hold of that sum in a sandbox is worth. -/
noncomputable def Tryd.pinned : Pinned := { name := "ytlbpbbfhfgacaaadoor", sum := "d4c989f2a4c4cb9e849625c2eb33f310dd3f7e05297aed739052048c6d7745fc", checked := Tryd.checked }
namespace Rows
def none {H : Type} : Left H := { results := [], args := [] }

/- WHAT THE LISTED PACKAGE-LEVEL VARIABLES READ AS WHEN THE CALL BEGINS. Each datum BY PROGRAM (the guide's laid-datum.mjs) off the statement by which the dump's own 'gosem.cut.vars' lays the variable. In a bare row this is a premise. The card (YtlbpbbfhfgacaaaDoorCards.lean) ties it to the program's text. -/
def laid_pub_tokenroad_pub_natsserver_server_thw_ErrTaskNotFound {H : Type} : DataW H := .iface "*errors.errorString" (.ptr (.agg [.lit (.string [116, 104, 119, 58, 32, 116, 97, 115, 107, 32, 110, 111, 116, 32, 102, 111, 117, 110, 100])]))

/-- 'laws.FnWheelParts': WHATEVER THE INPUT: true; the input reads as it did. -/
def fnWheelPartsSpec : ChangeSpec := { name := "fnWheelParts", fn := fun _ => fun
  | [d1, d2, d3] => { results := [.lit (.bool true)], args := [d1, d2, d3] }
  | _ => none }
def fnWheelPartsRow : OpenClaim := { program := "ytlbpbbfhfgacaaadoor", sum := "d4c989f2a4c4cb9e849625c2eb33f310dd3f7e05297aed739052048c6d7745fc", func := "pub-tokenroad/laws.FnWheelParts", spec := "fnWheelParts", unfollowed := true, recurses := true, named := ["pub-tokenroad/pub/natsserver/server/thw.ErrTaskNotFound"], apart := false, laid := [("pub-tokenroad/pub/natsserver/server/thw.ErrTaskNotFound", laid_pub_tokenroad_pub_natsserver_server_thw_ErrTaskNotFound)] }
def FnWheelPartsSaid : Prop := fnWheelPartsRow.holds Tryd.pinned (OpenSpec.ofChange fnWheelPartsSpec)

/-- ITS FALSE NEIGHBOUR: 'it returns false'. Refute it at one input. -/
def fnWheelPartsWrong : ChangeSpec := { name := "fnWheelParts", fn := fun _ => fun
  | [d1, d2, d3] => { results := [.lit (.bool false)], args := [d1, d2, d3] }
  | _ => none }
def FnWheelPartsWrongFalsely : Prop := fnWheelPartsRow.holds Tryd.pinned (OpenSpec.ofChange fnWheelPartsWrong)

/-- 'laws.FnWheelNext': WHATEVER THE INPUT: true; the input reads as it did. -/
def fnWheelNextSpec : ChangeSpec := { name := "fnWheelNext", fn := fun _ => fun
  | [d1, d2] => { results := [.lit (.bool true)], args := [d1, d2] }
  | _ => none }
def fnWheelNextRow : OpenClaim := { program := "ytlbpbbfhfgacaaadoor", sum := "d4c989f2a4c4cb9e849625c2eb33f310dd3f7e05297aed739052048c6d7745fc", func := "pub-tokenroad/laws.FnWheelNext", spec := "fnWheelNext", unfollowed := true, recurses := true, named := ["pub-tokenroad/pub/natsserver/server/thw.ErrTaskNotFound"], apart := false, laid := [("pub-tokenroad/pub/natsserver/server/thw.ErrTaskNotFound", laid_pub_tokenroad_pub_natsserver_server_thw_ErrTaskNotFound)] }
def FnWheelNextSaid : Prop := fnWheelNextRow.holds Tryd.pinned (OpenSpec.ofChange fnWheelNextSpec)

/-- ITS FALSE NEIGHBOUR: 'it returns false'. Refute it at one input. -/
def fnWheelNextWrong : ChangeSpec := { name := "fnWheelNext", fn := fun _ => fun
  | [d1, d2] => { results := [.lit (.bool false)], args := [d1, d2] }
  | _ => none }
def FnWheelNextWrongFalsely : Prop := fnWheelNextRow.holds Tryd.pinned (OpenSpec.ofChange fnWheelNextWrong)

/- THE SECOND FORM. 'bulk': how many values and letters a reading holds, each counted each time it is reached (what is shared counts as often as it is met; a slice's spare places count too). A statement '..UptoSaid' is the law's where the arguments, and the package variables that the reading takes, are together of bulk at most 1048576: NARROWER than '..Said'. Prove '..Said' where nothing that the law and all that it calls make is longer than what came in: it says more and counts as full. Else prove '..UptoSaid'. A law counts once. -/
mutual
def uptoBulk {H : Type} : DataW H → Nat
  | .lit (.string bytes) => bytes.length + 1
  | .lit _ => 1
  | .nil => 1
  | .ptr d => uptoBulk d + 1
  | .slice elems spare => uptoBulkAll elems + uptoBulkAll spare + 1
  | .agg parts => uptoBulkAll parts + 1
  | .iface _ d => uptoBulk d + 1
  | .map entries => uptoBulkEntries entries + 1
  | .held _ => 1
def uptoBulkAll {H : Type} : List (DataW H) → Nat
  | [] => 0
  | d :: r => uptoBulk d + uptoBulkAll r
def uptoBulkEntries {H : Type} : List (Lit × DataW H) → Nat
  | [] => 0
  | x :: r => uptoBulkEntry x + uptoBulkEntries r
def uptoBulkEntry {H : Type} : Lit × DataW H → Nat
  | (.string bytes, d) => bytes.length + uptoBulk d + 1
  | (_, d) => uptoBulk d + 1
 end
def uptoSmall : (H : Type) → List (DataW H) → Bool := fun _ ds => decide (uptoBulkAll ds ≤ 1048576)
def OpenSpec.upto (s : _root_.Go.ChangeSpec) : _root_.Go.OpenSpec := { _root_.Go.OpenSpec.ofChange s with cond := some uptoSmall }

/-- 'laws.FnWheelParts', WHERE WHAT IT READS IS OF BULK AT MOST 1048576: true; the input reads as it did. -/
def fnWheelPartsUptoRow : OpenClaim := { program := "ytlbpbbfhfgacaaadoor", sum := "d4c989f2a4c4cb9e849625c2eb33f310dd3f7e05297aed739052048c6d7745fc", func := "pub-tokenroad/laws.FnWheelParts", spec := "fnWheelParts", unfollowed := true, recurses := true, named := ["pub-tokenroad/pub/natsserver/server/thw.ErrTaskNotFound"], apart := false, laid := [("pub-tokenroad/pub/natsserver/server/thw.ErrTaskNotFound", laid_pub_tokenroad_pub_natsserver_server_thw_ErrTaskNotFound)], narrowed := true }
def FnWheelPartsUptoSaid : Prop := fnWheelPartsUptoRow.holds Tryd.pinned (OpenSpec.upto fnWheelPartsSpec)

/-- 'laws.FnWheelNext', WHERE WHAT IT READS IS OF BULK AT MOST 1048576: true; the input reads as it did. -/
def fnWheelNextUptoRow : OpenClaim := { program := "ytlbpbbfhfgacaaadoor", sum := "d4c989f2a4c4cb9e849625c2eb33f310dd3f7e05297aed739052048c6d7745fc", func := "pub-tokenroad/laws.FnWheelNext", spec := "fnWheelNext", unfollowed := true, recurses := true, named := ["pub-tokenroad/pub/natsserver/server/thw.ErrTaskNotFound"], apart := false, laid := [("pub-tokenroad/pub/natsserver/server/thw.ErrTaskNotFound", laid_pub_tokenroad_pub_natsserver_server_thw_ErrTaskNotFound)], narrowed := true }
def FnWheelNextUptoSaid : Prop := fnWheelNextUptoRow.holds Tryd.pinned (OpenSpec.upto fnWheelNextSpec)

end Rows
end Go.Proofs.YtlbpbbfhfgacaaaDoor
