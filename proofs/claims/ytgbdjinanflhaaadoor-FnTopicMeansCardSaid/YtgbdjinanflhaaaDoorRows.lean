/-
  NARROWER THAN 'FOR EVERY INPUT', by the rows' own cells (each row's printed sentence says how): FnTopicRefused: laid · FnTopicBack: laid · FnTopicMeans: laid.
  DERIVED. THE GIVEN ROWS OF THIS SEAT. 3 by the template 'for every input the law returns true; each argument reads behind the call as it read before'; 0 by the template 'total and deterministic' (their statements: YtgbdjinanflhaaaDoorTotals.lean).
  GIVEN WITH THE SEED: the statements are not yours to turn. If you find one false, say at which input.
  Laid BY PROGRAM, IN A SANDBOX (cutbox-rows.mjs): the forced cells as the released guide's own fill.sh prints them over the translation f6bd568e46f07918… (all of the seat's roots in one cut). By AI agents, Wed Nov 11 2026. No macro, syntax, notation, axiom, sorry.
-/
import Derived.Test.YtgbdjinanflhaaaDoorChecked
import GoSem.Claim
import GoSem.ClaimJoined
import GoSem.ClaimMapViews
import Derived.JoinedTies
import Derived.KernelRfl
namespace Go.Proofs.YtgbdjinanflhaaaDoor
/- THE CELL 'sum', in the pinned program and in every row, IS THE sha256 OF THE DUMP (.gsa) THAT YtgbdjinanflhaaaDoorProg.lean LOADS. Nothing in Lean hashes anything: it is a label: what it is worth is what the hold of that sum in a sandbox is worth. -/
noncomputable def Tryd.pinned : Pinned := { name := "ytgbdjinanflhaaadoor", sum := "f6bd568e46f07918ba56711ef359fe01fbb91aa4d57ab0cd9d878e034c5e5bdd", checked := Tryd.checked }
namespace Rows
def none {H : Type} : Left H := { results := [], args := [] }

/- WHAT THE LISTED PACKAGE-LEVEL VARIABLES READ AS WHEN THE CALL BEGINS. Each datum BY PROGRAM (the guide's laid-datum.mjs) off the statement by which the dump's own 'gosem.cut.vars' lays the variable. In a bare row this is a premise. The card (YtgbdjinanflhaaaDoorCards.lean) ties it to the program's text. -/
def laid_pub_tokenroad_pub_natsserver_server_errMQTTUnsupportedCharacters {H : Type} : DataW H := .iface "*errors.errorString" (.ptr (.agg [.lit (.string [99, 104, 97, 114, 97, 99, 116, 101, 114, 32, 110, 111, 116, 32, 115, 117, 112, 112, 111, 114, 116, 101, 100, 32, 102, 111, 114, 32, 77, 81, 84, 84, 32, 116, 111, 112, 105, 99, 115])]))

/-- 'laws.FnTopicRefused': WHATEVER THE INPUT: true; the input reads as it did. -/
def fnTopicRefusedSpec : ChangeSpec := { name := "fnTopicRefused", fn := fun _ => fun
  | [d] => { results := [.lit (.bool true)], args := [d] }
  | _ => none }
def fnTopicRefusedRow : OpenClaim := { program := "ytgbdjinanflhaaadoor", sum := "f6bd568e46f07918ba56711ef359fe01fbb91aa4d57ab0cd9d878e034c5e5bdd", func := "pub-tokenroad/laws.FnTopicRefused", spec := "fnTopicRefused", unfollowed := true, recurses := true, named := ["pub-tokenroad/pub/natsserver/server.errMQTTUnsupportedCharacters"], apart := false, laid := [("pub-tokenroad/pub/natsserver/server.errMQTTUnsupportedCharacters", laid_pub_tokenroad_pub_natsserver_server_errMQTTUnsupportedCharacters)] }
def FnTopicRefusedSaid : Prop := fnTopicRefusedRow.holds Tryd.pinned (OpenSpec.ofChange fnTopicRefusedSpec)

/-- ITS FALSE NEIGHBOUR: 'it returns false'. Refute it at one input. -/
def fnTopicRefusedWrong : ChangeSpec := { name := "fnTopicRefused", fn := fun _ => fun
  | [d] => { results := [.lit (.bool false)], args := [d] }
  | _ => none }
def FnTopicRefusedWrongFalsely : Prop := fnTopicRefusedRow.holds Tryd.pinned (OpenSpec.ofChange fnTopicRefusedWrong)

/-- 'laws.FnTopicBack': WHATEVER THE INPUT: true; the input reads as it did. -/
def fnTopicBackSpec : ChangeSpec := { name := "fnTopicBack", fn := fun _ => fun
  | [d] => { results := [.lit (.bool true)], args := [d] }
  | _ => none }
def fnTopicBackRow : OpenClaim := { program := "ytgbdjinanflhaaadoor", sum := "f6bd568e46f07918ba56711ef359fe01fbb91aa4d57ab0cd9d878e034c5e5bdd", func := "pub-tokenroad/laws.FnTopicBack", spec := "fnTopicBack", unfollowed := true, recurses := true, named := ["pub-tokenroad/pub/natsserver/server.errMQTTUnsupportedCharacters"], apart := false, laid := [("pub-tokenroad/pub/natsserver/server.errMQTTUnsupportedCharacters", laid_pub_tokenroad_pub_natsserver_server_errMQTTUnsupportedCharacters)] }
def FnTopicBackSaid : Prop := fnTopicBackRow.holds Tryd.pinned (OpenSpec.ofChange fnTopicBackSpec)

/-- ITS FALSE NEIGHBOUR: 'it returns false'. Refute it at one input. -/
def fnTopicBackWrong : ChangeSpec := { name := "fnTopicBack", fn := fun _ => fun
  | [d] => { results := [.lit (.bool false)], args := [d] }
  | _ => none }
def FnTopicBackWrongFalsely : Prop := fnTopicBackRow.holds Tryd.pinned (OpenSpec.ofChange fnTopicBackWrong)

/-- 'laws.FnTopicMeans': WHATEVER THE INPUT: true; the input reads as it did. -/
def fnTopicMeansSpec : ChangeSpec := { name := "fnTopicMeans", fn := fun _ => fun
  | [d1, d2] => { results := [.lit (.bool true)], args := [d1, d2] }
  | _ => none }
def fnTopicMeansRow : OpenClaim := { program := "ytgbdjinanflhaaadoor", sum := "f6bd568e46f07918ba56711ef359fe01fbb91aa4d57ab0cd9d878e034c5e5bdd", func := "pub-tokenroad/laws.FnTopicMeans", spec := "fnTopicMeans", inPlace := ["internal/bytealg.abigen_runtime_cmpstring"], unfollowed := true, recurses := true, named := ["pub-tokenroad/pub/natsserver/server.errMQTTUnsupportedCharacters"], apart := false, laid := [("pub-tokenroad/pub/natsserver/server.errMQTTUnsupportedCharacters", laid_pub_tokenroad_pub_natsserver_server_errMQTTUnsupportedCharacters)] }
def FnTopicMeansSaid : Prop := fnTopicMeansRow.holds Tryd.pinned (OpenSpec.ofChange fnTopicMeansSpec)

/-- ITS FALSE NEIGHBOUR: 'it returns false'. Refute it at one input. -/
def fnTopicMeansWrong : ChangeSpec := { name := "fnTopicMeans", fn := fun _ => fun
  | [d1, d2] => { results := [.lit (.bool false)], args := [d1, d2] }
  | _ => none }
def FnTopicMeansWrongFalsely : Prop := fnTopicMeansRow.holds Tryd.pinned (OpenSpec.ofChange fnTopicMeansWrong)

/- THE SECOND FORM. 'bulk': how many values and letters a reading holds, each counted each time it is reached (what is shared counts as often as it is met; a slice's spare places count too). A statement '..UptoSaid' is the law's where the arguments, and the package variables that the reading takes, are together of bulk at most 1048576: NARROWER than '..Said'. Prove '..Said' where nothing that the law and all that it calls make is longer than what came in: it says more and counts as full. Else prove '..UptoSaid'. A law counts once. -/
mutual
def uptoBulk {H : Type} : DataW H → Nat
  | .lit (.string bytes) => bytes.length + 1
  | .lit _ => 1
  | .nil => 1
  | .ptr d => uptoBulk d + 1
  | .slice elems spare => uptoBulkAll elems + uptoBulkAll spare + 1
  | .agg parts => uptoBulkAll parts + 1
  | .iface _ d => uptoBulk d + 1
  | .map entries => uptoBulkEntries entries + 1
  | .held _ => 1
def uptoBulkAll {H : Type} : List (DataW H) → Nat
  | [] => 0
  | d :: r => uptoBulk d + uptoBulkAll r
def uptoBulkEntries {H : Type} : List (Lit × DataW H) → Nat
  | [] => 0
  | x :: r => uptoBulkEntry x + uptoBulkEntries r
def uptoBulkEntry {H : Type} : Lit × DataW H → Nat
  | (.string bytes, d) => bytes.length + uptoBulk d + 1
  | (_, d) => uptoBulk d + 1
 end
def uptoSmall : (H : Type) → List (DataW H) → Bool := fun _ ds => decide (uptoBulkAll ds ≤ 1048576)
def OpenSpec.upto (s : _root_.Go.ChangeSpec) : _root_.Go.OpenSpec := { _root_.Go.OpenSpec.ofChange s with cond := some uptoSmall }

/-- 'laws.FnTopicRefused', WHERE WHAT IT READS IS OF BULK AT MOST 1048576: true; the input reads as it did. -/
def fnTopicRefusedUptoRow : OpenClaim := { program := "ytgbdjinanflhaaadoor", sum := "f6bd568e46f07918ba56711ef359fe01fbb91aa4d57ab0cd9d878e034c5e5bdd", func := "pub-tokenroad/laws.FnTopicRefused", spec := "fnTopicRefused", unfollowed := true, recurses := true, named := ["pub-tokenroad/pub/natsserver/server.errMQTTUnsupportedCharacters"], apart := false, laid := [("pub-tokenroad/pub/natsserver/server.errMQTTUnsupportedCharacters", laid_pub_tokenroad_pub_natsserver_server_errMQTTUnsupportedCharacters)], narrowed := true }
def FnTopicRefusedUptoSaid : Prop := fnTopicRefusedUptoRow.holds Tryd.pinned (OpenSpec.upto fnTopicRefusedSpec)

/-- 'laws.FnTopicBack', WHERE WHAT IT READS IS OF BULK AT MOST 1048576: true; the input reads as it did. -/
def fnTopicBackUptoRow : OpenClaim := { program := "ytgbdjinanflhaaadoor", sum := "f6bd568e46f07918ba56711ef359fe01fbb91aa4d57ab0cd9d878e034c5e5bdd", func := "pub-tokenroad/laws.FnTopicBack", spec := "fnTopicBack", unfollowed := true, recurses := true, named := ["pub-tokenroad/pub/natsserver/server.errMQTTUnsupportedCharacters"], apart := false, laid := [("pub-tokenroad/pub/natsserver/server.errMQTTUnsupportedCharacters", laid_pub_tokenroad_pub_natsserver_server_errMQTTUnsupportedCharacters)], narrowed := true }
def FnTopicBackUptoSaid : Prop := fnTopicBackUptoRow.holds Tryd.pinned (OpenSpec.upto fnTopicBackSpec)

/-- 'laws.FnTopicMeans', WHERE WHAT IT READS IS OF BULK AT MOST 1048576: true; the input reads as it did. -/
def fnTopicMeansUptoRow : OpenClaim := { program := "ytgbdjinanflhaaadoor", sum := "f6bd568e46f07918ba56711ef359fe01fbb91aa4d57ab0cd9d878e034c5e5bdd", func := "pub-tokenroad/laws.FnTopicMeans", spec := "fnTopicMeans", inPlace := ["internal/bytealg.abigen_runtime_cmpstring"], unfollowed := true, recurses := true, named := ["pub-tokenroad/pub/natsserver/server.errMQTTUnsupportedCharacters"], apart := false, laid := [("pub-tokenroad/pub/natsserver/server.errMQTTUnsupportedCharacters", laid_pub_tokenroad_pub_natsserver_server_errMQTTUnsupportedCharacters)], narrowed := true }
def FnTopicMeansUptoSaid : Prop := fnTopicMeansUptoRow.holds Tryd.pinned (OpenSpec.upto fnTopicMeansSpec)

end Rows
end Go.Proofs.YtgbdjinanflhaaaDoor
