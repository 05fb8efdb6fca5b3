/-
  NARROWER THAN 'FOR EVERY INPUT', by the rows' own cells (each row's printed sentence says how): FnHeadPub: laid · FnProtoVarint: laid · FnProtoTag: laid · FnProtoField: laid.
  DERIVED. THE GIVEN ROWS OF THIS SEAT. 4 by the template 'for every input the law returns true; each argument reads behind the call as it read before'; 0 by the template 'total and deterministic' (their statements: YtnkioieocjgekaaDoorTotals.lean).
  GIVEN WITH THE SEED: the statements are not yours to turn. If you find one false, say at which input.
  Laid BY PROGRAM, IN A SANDBOX (cutbox-rows.mjs): the forced cells as the released guide's own fill.sh prints them over the translation d476e783416aac02… (all of the seat's roots in one cut). By AI agents, Wed Nov 11 2026. No macro, syntax, notation, axiom, sorry.
-/
import Derived.Test.YtnkioieocjgekaaDoorChecked
import GoSem.Claim
import GoSem.ClaimJoined
import GoSem.ClaimMapViews
import Derived.JoinedTies
import Derived.KernelRfl
namespace Go.Proofs.YtnkioieocjgekaaDoor
/- THE CELL 'sum', in the pinned program and in every row, IS THE sha256 OF THE DUMP (.gsa) THAT YtnkioieocjgekaaDoorProg.lean LOADS. Nothing in Lean hashes anything: it is a label: what it is worth is what the hold of that sum in a sandbox is worth. -/
noncomputable def Tryd.pinned : Pinned := { name := "ytnkioieocjgekaadoor", sum := "d476e783416aac02b6f6d006973516c2bde03286b6371ad9b59a3bebe1afd9a2", checked := Tryd.checked }
namespace Rows
def none {H : Type} : Left H := { results := [], args := [] }

/- WHAT THE LISTED PACKAGE-LEVEL VARIABLES READ AS WHEN THE CALL BEGINS. Each datum BY PROGRAM (the guide's laid-datum.mjs) off the statement by which the dump's own 'gosem.cut.vars' lays the variable. In a bare row this is a premise. The card (YtnkioieocjgekaaDoorCards.lean) ties it to the program's text. -/
def laid_pub_tokenroad_pub_natsserver_server_ErrMaxPayload {H : Type} : DataW H := .iface "*errors.errorString" (.ptr (.agg [.lit (.string [109, 97, 120, 105, 109, 117, 109, 32, 112, 97, 121, 108, 111, 97, 100, 32, 101, 120, 99, 101, 101, 100, 101, 100])]))
def laid_pub_tokenroad_pub_natsserver_server_ErrMsgHeadersNotSupported {H : Type} : DataW H := .iface "*errors.errorString" (.ptr (.agg [.lit (.string [109, 101, 115, 115, 97, 103, 101, 32, 104, 101, 97, 100, 101, 114, 115, 32, 110, 111, 116, 32, 115, 117, 112, 112, 111, 114, 116, 101, 100])]))
def laid_pub_tokenroad_pub_natsserver_server_errProtoInsufficient {H : Type} : DataW H := .iface "*errors.errorString" (.ptr (.agg [.lit (.string [105, 110, 115, 117, 102, 102, 105, 99, 105, 101, 110, 116, 32, 100, 97, 116, 97, 32, 116, 111, 32, 114, 101, 97, 100, 32, 97, 32, 118, 97, 108, 117, 101])]))
def laid_pub_tokenroad_pub_natsserver_server_errProtoOverflow {H : Type} : DataW H := .iface "*errors.errorString" (.ptr (.agg [.lit (.string [116, 111, 111, 32, 109, 117, 99, 104, 32, 100, 97, 116, 97, 32, 102, 111, 114, 32, 97, 32, 118, 97, 108, 117, 101])]))
def laid_pub_tokenroad_pub_natsserver_server_errProtoInvalidFieldNumber {H : Type} : DataW H := .iface "*errors.errorString" (.ptr (.agg [.lit (.string [105, 110, 118, 97, 108, 105, 100, 32, 102, 105, 101, 108, 100, 32, 110, 117, 109, 98, 101, 114])]))

/-- 'laws.FnHeadPub': WHATEVER THE INPUT: true; the input reads as it did. -/
def fnHeadPubSpec : ChangeSpec := { name := "fnHeadPub", fn := fun _ => fun
  | [d1, d2] => { results := [.lit (.bool true)], args := [d1, d2] }
  | _ => none }
def fnHeadPubRow : OpenClaim := { program := "ytnkioieocjgekaadoor", sum := "d476e783416aac02b6f6d006973516c2bde03286b6371ad9b59a3bebe1afd9a2", func := "pub-tokenroad/laws.FnHeadPub", spec := "fnHeadPub", inPlace := ["sync/atomic.LoadInt32"], named := ["pub-tokenroad/pub/natsserver/server.ErrMsgHeadersNotSupported", "pub-tokenroad/pub/natsserver/server.ErrMaxPayload"], apart := false, laid := [("pub-tokenroad/pub/natsserver/server.ErrMaxPayload", laid_pub_tokenroad_pub_natsserver_server_ErrMaxPayload), ("pub-tokenroad/pub/natsserver/server.ErrMsgHeadersNotSupported", laid_pub_tokenroad_pub_natsserver_server_ErrMsgHeadersNotSupported)] }
def FnHeadPubSaid : Prop := fnHeadPubRow.holds Tryd.pinned (OpenSpec.ofChange fnHeadPubSpec)

/-- ITS FALSE NEIGHBOUR: 'it returns false'. Refute it at one input. -/
def fnHeadPubWrong : ChangeSpec := { name := "fnHeadPub", fn := fun _ => fun
  | [d1, d2] => { results := [.lit (.bool false)], args := [d1, d2] }
  | _ => none }
def FnHeadPubWrongFalsely : Prop := fnHeadPubRow.holds Tryd.pinned (OpenSpec.ofChange fnHeadPubWrong)

/-- 'laws.FnProtoVarint': WHATEVER THE INPUT: true; the input reads as it did. -/
def fnProtoVarintSpec : ChangeSpec := { name := "fnProtoVarint", fn := fun _ => fun
  | [d] => { results := [.lit (.bool true)], args := [d] }
  | _ => none }
def fnProtoVarintRow : OpenClaim := { program := "ytnkioieocjgekaadoor", sum := "d476e783416aac02b6f6d006973516c2bde03286b6371ad9b59a3bebe1afd9a2", func := "pub-tokenroad/laws.FnProtoVarint", spec := "fnProtoVarint", named := ["pub-tokenroad/pub/natsserver/server.errProtoInsufficient", "pub-tokenroad/pub/natsserver/server.errProtoOverflow"], apart := false, laid := [("pub-tokenroad/pub/natsserver/server.errProtoInsufficient", laid_pub_tokenroad_pub_natsserver_server_errProtoInsufficient), ("pub-tokenroad/pub/natsserver/server.errProtoOverflow", laid_pub_tokenroad_pub_natsserver_server_errProtoOverflow)] }
def FnProtoVarintSaid : Prop := fnProtoVarintRow.holds Tryd.pinned (OpenSpec.ofChange fnProtoVarintSpec)

/-- ITS FALSE NEIGHBOUR: 'it returns false'. Refute it at one input. -/
def fnProtoVarintWrong : ChangeSpec := { name := "fnProtoVarint", fn := fun _ => fun
  | [d] => { results := [.lit (.bool false)], args := [d] }
  | _ => none }
def FnProtoVarintWrongFalsely : Prop := fnProtoVarintRow.holds Tryd.pinned (OpenSpec.ofChange fnProtoVarintWrong)

/-- 'laws.FnProtoTag': WHATEVER THE INPUT: true; the input reads as it did. -/
def fnProtoTagSpec : ChangeSpec := { name := "fnProtoTag", fn := fun _ => fun
  | [d] => { results := [.lit (.bool true)], args := [d] }
  | _ => none }
def fnProtoTagRow : OpenClaim := { program := "ytnkioieocjgekaadoor", sum := "d476e783416aac02b6f6d006973516c2bde03286b6371ad9b59a3bebe1afd9a2", func := "pub-tokenroad/laws.FnProtoTag", spec := "fnProtoTag", named := ["pub-tokenroad/pub/natsserver/server.errProtoInsufficient", "pub-tokenroad/pub/natsserver/server.errProtoOverflow", "pub-tokenroad/pub/natsserver/server.errProtoInvalidFieldNumber"], apart := false, laid := [("pub-tokenroad/pub/natsserver/server.errProtoInsufficient", laid_pub_tokenroad_pub_natsserver_server_errProtoInsufficient), ("pub-tokenroad/pub/natsserver/server.errProtoOverflow", laid_pub_tokenroad_pub_natsserver_server_errProtoOverflow), ("pub-tokenroad/pub/natsserver/server.errProtoInvalidFieldNumber", laid_pub_tokenroad_pub_natsserver_server_errProtoInvalidFieldNumber)] }
def FnProtoTagSaid : Prop := fnProtoTagRow.holds Tryd.pinned (OpenSpec.ofChange fnProtoTagSpec)

/-- ITS FALSE NEIGHBOUR: 'it returns false'. Refute it at one input. -/
def fnProtoTagWrong : ChangeSpec := { name := "fnProtoTag", fn := fun _ => fun
  | [d] => { results := [.lit (.bool false)], args := [d] }
  | _ => none }
def FnProtoTagWrongFalsely : Prop := fnProtoTagRow.holds Tryd.pinned (OpenSpec.ofChange fnProtoTagWrong)

/-- 'laws.FnProtoField': WHATEVER THE INPUT: true; the input reads as it did. -/
def fnProtoFieldSpec : ChangeSpec := { name := "fnProtoField", fn := fun _ => fun
  | [d] => { results := [.lit (.bool true)], args := [d] }
  | _ => none }
def fnProtoFieldRow : OpenClaim := { program := "ytnkioieocjgekaadoor", sum := "d476e783416aac02b6f6d006973516c2bde03286b6371ad9b59a3bebe1afd9a2", func := "pub-tokenroad/laws.FnProtoField", spec := "fnProtoField", named := ["pub-tokenroad/pub/natsserver/server.errProtoInsufficient", "pub-tokenroad/pub/natsserver/server.errProtoOverflow", "pub-tokenroad/pub/natsserver/server.errProtoInvalidFieldNumber"], apart := false, laid := [("pub-tokenroad/pub/natsserver/server.errProtoInsufficient", laid_pub_tokenroad_pub_natsserver_server_errProtoInsufficient), ("pub-tokenroad/pub/natsserver/server.errProtoOverflow", laid_pub_tokenroad_pub_natsserver_server_errProtoOverflow), ("pub-tokenroad/pub/natsserver/server.errProtoInvalidFieldNumber", laid_pub_tokenroad_pub_natsserver_server_errProtoInvalidFieldNumber)] }
def FnProtoFieldSaid : Prop := fnProtoFieldRow.holds Tryd.pinned (OpenSpec.ofChange fnProtoFieldSpec)

/-- ITS FALSE NEIGHBOUR: 'it returns false'. Refute it at one input. -/
def fnProtoFieldWrong : ChangeSpec := { name := "fnProtoField", fn := fun _ => fun
  | [d] => { results := [.lit (.bool false)], args := [d] }
  | _ => none }
def FnProtoFieldWrongFalsely : Prop := fnProtoFieldRow.holds Tryd.pinned (OpenSpec.ofChange fnProtoFieldWrong)

/- THE SECOND FORM. 'bulk': how many values and letters a reading holds, each counted each time it is reached (what is shared counts as often as it is met; a slice's spare places count too). A statement '..UptoSaid' is the law's where the arguments, and the package variables that the reading takes, are together of bulk at most 1048576: NARROWER than '..Said'. Prove '..Said' where nothing that the law and all that it calls make is longer than what came in: it says more and counts as full. Else prove '..UptoSaid'. A law counts once. -/
mutual
def uptoBulk {H : Type} : DataW H → Nat
  | .lit (.string bytes) => bytes.length + 1
  | .lit _ => 1
  | .nil => 1
  | .ptr d => uptoBulk d + 1
  | .slice elems spare => uptoBulkAll elems + uptoBulkAll spare + 1
  | .agg parts => uptoBulkAll parts + 1
  | .iface _ d => uptoBulk d + 1
  | .map entries => uptoBulkEntries entries + 1
  | .held _ => 1
def uptoBulkAll {H : Type} : List (DataW H) → Nat
  | [] => 0
  | d :: r => uptoBulk d + uptoBulkAll r
def uptoBulkEntries {H : Type} : List (Lit × DataW H) → Nat
  | [] => 0
  | x :: r => uptoBulkEntry x + uptoBulkEntries r
def uptoBulkEntry {H : Type} : Lit × DataW H → Nat
  | (.string bytes, d) => bytes.length + uptoBulk d + 1
  | (_, d) => uptoBulk d + 1
 end
def uptoSmall : (H : Type) → List (DataW H) → Bool := fun _ ds => decide (uptoBulkAll ds ≤ 1048576)
def OpenSpec.upto (s : _root_.Go.ChangeSpec) : _root_.Go.OpenSpec := { _root_.Go.OpenSpec.ofChange s with cond := some uptoSmall }

/-- 'laws.FnHeadPub', WHERE WHAT IT READS IS OF BULK AT MOST 1048576: true; the input reads as it did. -/
def fnHeadPubUptoRow : OpenClaim := { program := "ytnkioieocjgekaadoor", sum := "d476e783416aac02b6f6d006973516c2bde03286b6371ad9b59a3bebe1afd9a2", func := "pub-tokenroad/laws.FnHeadPub", spec := "fnHeadPub", inPlace := ["sync/atomic.LoadInt32"], named := ["pub-tokenroad/pub/natsserver/server.ErrMsgHeadersNotSupported", "pub-tokenroad/pub/natsserver/server.ErrMaxPayload"], apart := false, laid := [("pub-tokenroad/pub/natsserver/server.ErrMaxPayload", laid_pub_tokenroad_pub_natsserver_server_ErrMaxPayload), ("pub-tokenroad/pub/natsserver/server.ErrMsgHeadersNotSupported", laid_pub_tokenroad_pub_natsserver_server_ErrMsgHeadersNotSupported)], narrowed := true }
def FnHeadPubUptoSaid : Prop := fnHeadPubUptoRow.holds Tryd.pinned (OpenSpec.upto fnHeadPubSpec)

/-- 'laws.FnProtoVarint', WHERE WHAT IT READS IS OF BULK AT MOST 1048576: true; the input reads as it did. -/
def fnProtoVarintUptoRow : OpenClaim := { program := "ytnkioieocjgekaadoor", sum := "d476e783416aac02b6f6d006973516c2bde03286b6371ad9b59a3bebe1afd9a2", func := "pub-tokenroad/laws.FnProtoVarint", spec := "fnProtoVarint", named := ["pub-tokenroad/pub/natsserver/server.errProtoInsufficient", "pub-tokenroad/pub/natsserver/server.errProtoOverflow"], apart := false, laid := [("pub-tokenroad/pub/natsserver/server.errProtoInsufficient", laid_pub_tokenroad_pub_natsserver_server_errProtoInsufficient), ("pub-tokenroad/pub/natsserver/server.errProtoOverflow", laid_pub_tokenroad_pub_natsserver_server_errProtoOverflow)], narrowed := true }
def FnProtoVarintUptoSaid : Prop := fnProtoVarintUptoRow.holds Tryd.pinned (OpenSpec.upto fnProtoVarintSpec)

/-- 'laws.FnProtoTag', WHERE WHAT IT READS IS OF BULK AT MOST 1048576: true; the input reads as it did. -/
def fnProtoTagUptoRow : OpenClaim := { program := "ytnkioieocjgekaadoor", sum := "d476e783416aac02b6f6d006973516c2bde03286b6371ad9b59a3bebe1afd9a2", func := "pub-tokenroad/laws.FnProtoTag", spec := "fnProtoTag", named := ["pub-tokenroad/pub/natsserver/server.errProtoInsufficient", "pub-tokenroad/pub/natsserver/server.errProtoOverflow", "pub-tokenroad/pub/natsserver/server.errProtoInvalidFieldNumber"], apart := false, laid := [("pub-tokenroad/pub/natsserver/server.errProtoInsufficient", laid_pub_tokenroad_pub_natsserver_server_errProtoInsufficient), ("pub-tokenroad/pub/natsserver/server.errProtoOverflow", laid_pub_tokenroad_pub_natsserver_server_errProtoOverflow), ("pub-tokenroad/pub/natsserver/server.errProtoInvalidFieldNumber", laid_pub_tokenroad_pub_natsserver_server_errProtoInvalidFieldNumber)], narrowed := true }
def FnProtoTagUptoSaid : Prop := fnProtoTagUptoRow.holds Tryd.pinned (OpenSpec.upto fnProtoTagSpec)

/-- 'laws.FnProtoField', WHERE WHAT IT READS IS OF BULK AT MOST 1048576: true; the input reads as it did. -/
def fnProtoFieldUptoRow : OpenClaim := { program := "ytnkioieocjgekaadoor", sum := "d476e783416aac02b6f6d006973516c2bde03286b6371ad9b59a3bebe1afd9a2", func := "pub-tokenroad/laws.FnProtoField", spec := "fnProtoField", named := ["pub-tokenroad/pub/natsserver/server.errProtoInsufficient", "pub-tokenroad/pub/natsserver/server.errProtoOverflow", "pub-tokenroad/pub/natsserver/server.errProtoInvalidFieldNumber"], apart := false, laid := [("pub-tokenroad/pub/natsserver/server.errProtoInsufficient", laid_pub_tokenroad_pub_natsserver_server_errProtoInsufficient), ("pub-tokenroad/pub/natsserver/server.errProtoOverflow", laid_pub_tokenroad_pub_natsserver_server_errProtoOverflow), ("pub-tokenroad/pub/natsserver/server.errProtoInvalidFieldNumber", laid_pub_tokenroad_pub_natsserver_server_errProtoInvalidFieldNumber)], narrowed := true }
def FnProtoFieldUptoSaid : Prop := fnProtoFieldUptoRow.holds Tryd.pinned (OpenSpec.upto fnProtoFieldSpec)

end Rows
end Go.Proofs.YtnkioieocjgekaaDoor
