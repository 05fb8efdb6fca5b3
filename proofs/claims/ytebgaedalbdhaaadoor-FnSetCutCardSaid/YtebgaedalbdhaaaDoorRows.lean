/-
  NARROWER THAN 'FOR EVERY INPUT', by the rows' own cells (each row's printed sentence says how): FnSetExists: laid · FnSetRun: laid · FnSetEmpty: laid · FnSetEqual: laid · FnSetTurned: laid · FnSetFrom: laid · FnSetSpan: laid · FnSetSpanMeans: laid · FnSetCut: laid.
  DERIVED. THE GIVEN ROWS OF THIS SEAT. 9 by the template 'for every input the law returns true; each argument reads behind the call as it read before'; 0 by the template 'total and deterministic' (their statements: YtebgaedalbdhaaaDoorTotals.lean).
  GIVEN WITH THE SEED: the statements are not yours to turn. If you find one false, say at which input.
  Laid BY PROGRAM, IN A SANDBOX (cutbox-rows.mjs): the forced cells as the released guide's own fill.sh prints them over the translation e8f7be005aac935b… (all of the seat's roots in one cut). By AI agents, Wed Nov 11 2026. No macro, syntax, notation, axiom, sorry.
-/
import Derived.Test.YtebgaedalbdhaaaDoorChecked
import GoSem.Claim
import GoSem.ClaimJoined
import GoSem.ClaimMapViews
import Derived.JoinedTies
import Derived.KernelRfl
namespace Go.Proofs.YtebgaedalbdhaaaDoor
/- THE CELL 'sum', in the pinned program and in every row, IS THE sha256 OF THE DUMP (.gsa) THAT YtebgaedalbdhaaaDoorProg.lean LOADS. Nothing in Lean hashes anything: it is a label: what it is worth is what the hold of that sum in a sandbox is worth. -/
noncomputable def Tryd.pinned : Pinned := { name := "ytebgaedalbdhaaadoor", sum := "e8f7be005aac935bcc838ece484c71d3ee50bdfac9df41ca799b3278500c5fe5", checked := Tryd.checked }
namespace Rows
def none {H : Type} : Left H := { results := [], args := [] }

/- WHAT THE LISTED PACKAGE-LEVEL VARIABLES READ AS WHEN THE CALL BEGINS. Each datum BY PROGRAM (the guide's laid-datum.mjs) off the statement by which the dump's own 'gosem.cut.vars' lays the variable. In a bare row this is a premise. The card (YtebgaedalbdhaaaDoorCards.lean) ties it to the program's text. -/
def laid_math_bits_deBruijn64tab {H : Type} : DataW H := .agg [.lit (.int .u8 0), .lit (.int .u8 1), .lit (.int .u8 56), .lit (.int .u8 2), .lit (.int .u8 57), .lit (.int .u8 49), .lit (.int .u8 28), .lit (.int .u8 3), .lit (.int .u8 61), .lit (.int .u8 58), .lit (.int .u8 42), .lit (.int .u8 50), .lit (.int .u8 38), .lit (.int .u8 29), .lit (.int .u8 17), .lit (.int .u8 4), .lit (.int .u8 62), .lit (.int .u8 47), .lit (.int .u8 59), .lit (.int .u8 36), .lit (.int .u8 45), .lit (.int .u8 43), .lit (.int .u8 51), .lit (.int .u8 22), .lit (.int .u8 53), .lit (.int .u8 39), .lit (.int .u8 33), .lit (.int .u8 30), .lit (.int .u8 24), .lit (.int .u8 18), .lit (.int .u8 12), .lit (.int .u8 5), .lit (.int .u8 63), .lit (.int .u8 55), .lit (.int .u8 48), .lit (.int .u8 27), .lit (.int .u8 60), .lit (.int .u8 41), .lit (.int .u8 37), .lit (.int .u8 16), .lit (.int .u8 46), .lit (.int .u8 35), .lit (.int .u8 44), .lit (.int .u8 21), .lit (.int .u8 52), .lit (.int .u8 32), .lit (.int .u8 23), .lit (.int .u8 11), .lit (.int .u8 54), .lit (.int .u8 26), .lit (.int .u8 40), .lit (.int .u8 15), .lit (.int .u8 34), .lit (.int .u8 20), .lit (.int .u8 31), .lit (.int .u8 10), .lit (.int .u8 25), .lit (.int .u8 14), .lit (.int .u8 19), .lit (.int .u8 9), .lit (.int .u8 13), .lit (.int .u8 8), .lit (.int .u8 7), .lit (.int .u8 6)]
def laid_pub_tokenroad_pub_natsserver_server_avl_ErrSetNotEmpty {H : Type} : DataW H := .iface "*errors.errorString" (.ptr (.agg [.lit (.string [115, 115, 58, 32, 115, 101, 116, 32, 110, 111, 116, 32, 101, 109, 112, 116, 121])]))
def laid_pub_tokenroad_pub_natsserver_server_avl_ErrBadEncoding {H : Type} : DataW H := .iface "*errors.errorString" (.ptr (.agg [.lit (.string [115, 115, 58, 32, 98, 97, 100, 32, 101, 110, 99, 111, 100, 105, 110, 103])]))
def laid_pub_tokenroad_pub_natsserver_server_avl_ErrBadVersion {H : Type} : DataW H := .iface "*errors.errorString" (.ptr (.agg [.lit (.string [115, 115, 58, 32, 98, 97, 100, 32, 118, 101, 114, 115, 105, 111, 110])]))

/-- 'laws.FnSetExists': WHATEVER THE INPUT: true; the input reads as it did. -/
def fnSetExistsSpec : ChangeSpec := { name := "fnSetExists", fn := fun _ => fun
  | [d1, d2] => { results := [.lit (.bool true)], args := [d1, d2] }
  | _ => none }
def fnSetExistsRow : OpenClaim := { program := "ytebgaedalbdhaaadoor", sum := "e8f7be005aac935bcc838ece484c71d3ee50bdfac9df41ca799b3278500c5fe5", func := "pub-tokenroad/laws.FnSetExists", spec := "fnSetExists", unfollowed := true, recurses := true, named := ["math/bits.deBruijn64tab"], apart := false, laid := [("math/bits.deBruijn64tab", laid_math_bits_deBruijn64tab)] }
def FnSetExistsSaid : Prop := fnSetExistsRow.holds Tryd.pinned (OpenSpec.ofChange fnSetExistsSpec)

/-- ITS FALSE NEIGHBOUR: 'it returns false'. Refute it at one input. -/
def fnSetExistsWrong : ChangeSpec := { name := "fnSetExists", fn := fun _ => fun
  | [d1, d2] => { results := [.lit (.bool false)], args := [d1, d2] }
  | _ => none }
def FnSetExistsWrongFalsely : Prop := fnSetExistsRow.holds Tryd.pinned (OpenSpec.ofChange fnSetExistsWrong)

/-- 'laws.FnSetRun': WHATEVER THE INPUT: true; the input reads as it did. -/
def fnSetRunSpec : ChangeSpec := { name := "fnSetRun", fn := fun _ => fun
  | [d] => { results := [.lit (.bool true)], args := [d] }
  | _ => none }
def fnSetRunRow : OpenClaim := { program := "ytebgaedalbdhaaadoor", sum := "e8f7be005aac935bcc838ece484c71d3ee50bdfac9df41ca799b3278500c5fe5", func := "pub-tokenroad/laws.FnSetRun", spec := "fnSetRun", unfollowed := true, recurses := true, named := ["math/bits.deBruijn64tab"], apart := false, laid := [("math/bits.deBruijn64tab", laid_math_bits_deBruijn64tab)] }
def FnSetRunSaid : Prop := fnSetRunRow.holds Tryd.pinned (OpenSpec.ofChange fnSetRunSpec)

/-- ITS FALSE NEIGHBOUR: 'it returns false'. Refute it at one input. -/
def fnSetRunWrong : ChangeSpec := { name := "fnSetRun", fn := fun _ => fun
  | [d] => { results := [.lit (.bool false)], args := [d] }
  | _ => none }
def FnSetRunWrongFalsely : Prop := fnSetRunRow.holds Tryd.pinned (OpenSpec.ofChange fnSetRunWrong)

/-- 'laws.FnSetEmpty': WHATEVER THE INPUT: true; the input reads as it did. -/
def fnSetEmptySpec : ChangeSpec := { name := "fnSetEmpty", fn := fun _ => fun
  | [d1, d2] => { results := [.lit (.bool true)], args := [d1, d2] }
  | _ => none }
def fnSetEmptyRow : OpenClaim := { program := "ytebgaedalbdhaaadoor", sum := "e8f7be005aac935bcc838ece484c71d3ee50bdfac9df41ca799b3278500c5fe5", func := "pub-tokenroad/laws.FnSetEmpty", spec := "fnSetEmpty", unfollowed := true, recurses := true, named := ["math/bits.deBruijn64tab"], apart := false, laid := [("math/bits.deBruijn64tab", laid_math_bits_deBruijn64tab)] }
def FnSetEmptySaid : Prop := fnSetEmptyRow.holds Tryd.pinned (OpenSpec.ofChange fnSetEmptySpec)

/-- ITS FALSE NEIGHBOUR: 'it returns false'. Refute it at one input. -/
def fnSetEmptyWrong : ChangeSpec := { name := "fnSetEmpty", fn := fun _ => fun
  | [d1, d2] => { results := [.lit (.bool false)], args := [d1, d2] }
  | _ => none }
def FnSetEmptyWrongFalsely : Prop := fnSetEmptyRow.holds Tryd.pinned (OpenSpec.ofChange fnSetEmptyWrong)

/-- 'laws.FnSetEqual': WHATEVER THE INPUT: true; the input reads as it did. -/
def fnSetEqualSpec : ChangeSpec := { name := "fnSetEqual", fn := fun _ => fun
  | [d1, d2] => { results := [.lit (.bool true)], args := [d1, d2] }
  | _ => none }
def fnSetEqualRow : OpenClaim := { program := "ytebgaedalbdhaaadoor", sum := "e8f7be005aac935bcc838ece484c71d3ee50bdfac9df41ca799b3278500c5fe5", func := "pub-tokenroad/laws.FnSetEqual", spec := "fnSetEqual", unfollowed := true, recurses := true, named := ["math/bits.deBruijn64tab"], apart := false, laid := [("math/bits.deBruijn64tab", laid_math_bits_deBruijn64tab)] }
def FnSetEqualSaid : Prop := fnSetEqualRow.holds Tryd.pinned (OpenSpec.ofChange fnSetEqualSpec)

/-- ITS FALSE NEIGHBOUR: 'it returns false'. Refute it at one input. -/
def fnSetEqualWrong : ChangeSpec := { name := "fnSetEqual", fn := fun _ => fun
  | [d1, d2] => { results := [.lit (.bool false)], args := [d1, d2] }
  | _ => none }
def FnSetEqualWrongFalsely : Prop := fnSetEqualRow.holds Tryd.pinned (OpenSpec.ofChange fnSetEqualWrong)

/-- 'laws.FnSetTurned': WHATEVER THE INPUT: true; the input reads as it did. -/
def fnSetTurnedSpec : ChangeSpec := { name := "fnSetTurned", fn := fun _ => fun
  | [d1, d2, d3] => { results := [.lit (.bool true)], args := [d1, d2, d3] }
  | _ => none }
def fnSetTurnedRow : OpenClaim := { program := "ytebgaedalbdhaaadoor", sum := "e8f7be005aac935bcc838ece484c71d3ee50bdfac9df41ca799b3278500c5fe5", func := "pub-tokenroad/laws.FnSetTurned", spec := "fnSetTurned", unfollowed := true, recurses := true, named := ["math/bits.deBruijn64tab"], apart := false, laid := [("math/bits.deBruijn64tab", laid_math_bits_deBruijn64tab)] }
def FnSetTurnedSaid : Prop := fnSetTurnedRow.holds Tryd.pinned (OpenSpec.ofChange fnSetTurnedSpec)

/-- ITS FALSE NEIGHBOUR: 'it returns false'. Refute it at one input. -/
def fnSetTurnedWrong : ChangeSpec := { name := "fnSetTurned", fn := fun _ => fun
  | [d1, d2, d3] => { results := [.lit (.bool false)], args := [d1, d2, d3] }
  | _ => none }
def FnSetTurnedWrongFalsely : Prop := fnSetTurnedRow.holds Tryd.pinned (OpenSpec.ofChange fnSetTurnedWrong)

/-- 'laws.FnSetFrom': WHATEVER THE INPUT: true; the input reads as it did. -/
def fnSetFromSpec : ChangeSpec := { name := "fnSetFrom", fn := fun _ => fun
  | [d1, d2] => { results := [.lit (.bool true)], args := [d1, d2] }
  | _ => none }
def fnSetFromRow : OpenClaim := { program := "ytebgaedalbdhaaadoor", sum := "e8f7be005aac935bcc838ece484c71d3ee50bdfac9df41ca799b3278500c5fe5", func := "pub-tokenroad/laws.FnSetFrom", spec := "fnSetFrom", unfollowed := true, recurses := true, named := ["math/bits.deBruijn64tab", "pub-tokenroad/pub/natsserver/server/avl.ErrSetNotEmpty"], apart := false, laid := [("math/bits.deBruijn64tab", laid_math_bits_deBruijn64tab), ("pub-tokenroad/pub/natsserver/server/avl.ErrSetNotEmpty", laid_pub_tokenroad_pub_natsserver_server_avl_ErrSetNotEmpty)] }
def FnSetFromSaid : Prop := fnSetFromRow.holds Tryd.pinned (OpenSpec.ofChange fnSetFromSpec)

/-- ITS FALSE NEIGHBOUR: 'it returns false'. Refute it at one input. -/
def fnSetFromWrong : ChangeSpec := { name := "fnSetFrom", fn := fun _ => fun
  | [d1, d2] => { results := [.lit (.bool false)], args := [d1, d2] }
  | _ => none }
def FnSetFromWrongFalsely : Prop := fnSetFromRow.holds Tryd.pinned (OpenSpec.ofChange fnSetFromWrong)

/-- 'laws.FnSetSpan': WHATEVER THE INPUT: true; the input reads as it did. -/
def fnSetSpanSpec : ChangeSpec := { name := "fnSetSpan", fn := fun _ => fun
  | [d1, d2] => { results := [.lit (.bool true)], args := [d1, d2] }
  | _ => none }
def fnSetSpanRow : OpenClaim := { program := "ytebgaedalbdhaaadoor", sum := "e8f7be005aac935bcc838ece484c71d3ee50bdfac9df41ca799b3278500c5fe5", func := "pub-tokenroad/laws.FnSetSpan", spec := "fnSetSpan", unfollowed := true, recurses := true, named := ["math/bits.deBruijn64tab"], apart := false, laid := [("math/bits.deBruijn64tab", laid_math_bits_deBruijn64tab)] }
def FnSetSpanSaid : Prop := fnSetSpanRow.holds Tryd.pinned (OpenSpec.ofChange fnSetSpanSpec)

/-- ITS FALSE NEIGHBOUR: 'it returns false'. Refute it at one input. -/
def fnSetSpanWrong : ChangeSpec := { name := "fnSetSpan", fn := fun _ => fun
  | [d1, d2] => { results := [.lit (.bool false)], args := [d1, d2] }
  | _ => none }
def FnSetSpanWrongFalsely : Prop := fnSetSpanRow.holds Tryd.pinned (OpenSpec.ofChange fnSetSpanWrong)

/-- 'laws.FnSetSpanMeans': WHATEVER THE INPUT: true; the input reads as it did. -/
def fnSetSpanMeansSpec : ChangeSpec := { name := "fnSetSpanMeans", fn := fun _ => fun
  | [d1, d2] => { results := [.lit (.bool true)], args := [d1, d2] }
  | _ => none }
def fnSetSpanMeansRow : OpenClaim := { program := "ytebgaedalbdhaaadoor", sum := "e8f7be005aac935bcc838ece484c71d3ee50bdfac9df41ca799b3278500c5fe5", func := "pub-tokenroad/laws.FnSetSpanMeans", spec := "fnSetSpanMeans", unfollowed := true, recurses := true, named := ["math/bits.deBruijn64tab"], apart := false, laid := [("math/bits.deBruijn64tab", laid_math_bits_deBruijn64tab)] }
def FnSetSpanMeansSaid : Prop := fnSetSpanMeansRow.holds Tryd.pinned (OpenSpec.ofChange fnSetSpanMeansSpec)

/-- ITS FALSE NEIGHBOUR: 'it returns false'. Refute it at one input. -/
def fnSetSpanMeansWrong : ChangeSpec := { name := "fnSetSpanMeans", fn := fun _ => fun
  | [d1, d2] => { results := [.lit (.bool false)], args := [d1, d2] }
  | _ => none }
def FnSetSpanMeansWrongFalsely : Prop := fnSetSpanMeansRow.holds Tryd.pinned (OpenSpec.ofChange fnSetSpanMeansWrong)

/-- 'laws.FnSetCut': WHATEVER THE INPUT: true; the input reads as it did. -/
def fnSetCutSpec : ChangeSpec := { name := "fnSetCut", fn := fun _ => fun
  | [d1, d2] => { results := [.lit (.bool true)], args := [d1, d2] }
  | _ => none }
def fnSetCutRow : OpenClaim := { program := "ytebgaedalbdhaaadoor", sum := "e8f7be005aac935bcc838ece484c71d3ee50bdfac9df41ca799b3278500c5fe5", func := "pub-tokenroad/laws.FnSetCut", spec := "fnSetCut", unfollowed := true, recurses := true, named := ["math/bits.deBruijn64tab", "encoding/binary.LittleEndian", "pub-tokenroad/pub/natsserver/server/avl.ErrBadEncoding", "pub-tokenroad/pub/natsserver/server/avl.ErrBadVersion"], apart := false, laid := [("math/bits.deBruijn64tab", laid_math_bits_deBruijn64tab), ("pub-tokenroad/pub/natsserver/server/avl.ErrBadEncoding", laid_pub_tokenroad_pub_natsserver_server_avl_ErrBadEncoding), ("pub-tokenroad/pub/natsserver/server/avl.ErrBadVersion", laid_pub_tokenroad_pub_natsserver_server_avl_ErrBadVersion)] }
def FnSetCutSaid : Prop := fnSetCutRow.holds Tryd.pinned (OpenSpec.ofChange fnSetCutSpec)

/-- ITS FALSE NEIGHBOUR: 'it returns false'. Refute it at one input. -/
def fnSetCutWrong : ChangeSpec := { name := "fnSetCut", fn := fun _ => fun
  | [d1, d2] => { results := [.lit (.bool false)], args := [d1, d2] }
  | _ => none }
def FnSetCutWrongFalsely : Prop := fnSetCutRow.holds Tryd.pinned (OpenSpec.ofChange fnSetCutWrong)

/- THE SECOND FORM. 'bulk': how many values and letters a reading holds, each counted each time it is reached (what is shared counts as often as it is met; a slice's spare places count too). A statement '..UptoSaid' is the law's where the arguments, and the package variables that the reading takes, are together of bulk at most 1048576: NARROWER than '..Said'. Prove '..Said' where nothing that the law and all that it calls make is longer than what came in: it says more and counts as full. Else prove '..UptoSaid'. A law counts once. -/
mutual
def uptoBulk {H : Type} : DataW H → Nat
  | .lit (.string bytes) => bytes.length + 1
  | .lit _ => 1
  | .nil => 1
  | .ptr d => uptoBulk d + 1
  | .slice elems spare => uptoBulkAll elems + uptoBulkAll spare + 1
  | .agg parts => uptoBulkAll parts + 1
  | .iface _ d => uptoBulk d + 1
  | .map entries => uptoBulkEntries entries + 1
  | .held _ => 1
def uptoBulkAll {H : Type} : List (DataW H) → Nat
  | [] => 0
  | d :: r => uptoBulk d + uptoBulkAll r
def uptoBulkEntries {H : Type} : List (Lit × DataW H) → Nat
  | [] => 0
  | x :: r => uptoBulkEntry x + uptoBulkEntries r
def uptoBulkEntry {H : Type} : Lit × DataW H → Nat
  | (.string bytes, d) => bytes.length + uptoBulk d + 1
  | (_, d) => uptoBulk d + 1
 end
def uptoSmall : (H : Type) → List (DataW H) → Bool := fun _ ds => decide (uptoBulkAll ds ≤ 1048576)
def OpenSpec.upto (s : _root_.Go.ChangeSpec) : _root_.Go.OpenSpec := { _root_.Go.OpenSpec.ofChange s with cond := some uptoSmall }

/-- 'laws.FnSetExists', WHERE WHAT IT READS IS OF BULK AT MOST 1048576: true; the input reads as it did. -/
def fnSetExistsUptoRow : OpenClaim := { program := "ytebgaedalbdhaaadoor", sum := "e8f7be005aac935bcc838ece484c71d3ee50bdfac9df41ca799b3278500c5fe5", func := "pub-tokenroad/laws.FnSetExists", spec := "fnSetExists", unfollowed := true, recurses := true, named := ["math/bits.deBruijn64tab"], apart := false, laid := [("math/bits.deBruijn64tab", laid_math_bits_deBruijn64tab)], narrowed := true }
def FnSetExistsUptoSaid : Prop := fnSetExistsUptoRow.holds Tryd.pinned (OpenSpec.upto fnSetExistsSpec)

/-- 'laws.FnSetRun', WHERE WHAT IT READS IS OF BULK AT MOST 1048576: true; the input reads as it did. -/
def fnSetRunUptoRow : OpenClaim := { program := "ytebgaedalbdhaaadoor", sum := "e8f7be005aac935bcc838ece484c71d3ee50bdfac9df41ca799b3278500c5fe5", func := "pub-tokenroad/laws.FnSetRun", spec := "fnSetRun", unfollowed := true, recurses := true, named := ["math/bits.deBruijn64tab"], apart := false, laid := [("math/bits.deBruijn64tab", laid_math_bits_deBruijn64tab)], narrowed := true }
def FnSetRunUptoSaid : Prop := fnSetRunUptoRow.holds Tryd.pinned (OpenSpec.upto fnSetRunSpec)

/-- 'laws.FnSetEmpty', WHERE WHAT IT READS IS OF BULK AT MOST 1048576: true; the input reads as it did. -/
def fnSetEmptyUptoRow : OpenClaim := { program := "ytebgaedalbdhaaadoor", sum := "e8f7be005aac935bcc838ece484c71d3ee50bdfac9df41ca799b3278500c5fe5", func := "pub-tokenroad/laws.FnSetEmpty", spec := "fnSetEmpty", unfollowed := true, recurses := true, named := ["math/bits.deBruijn64tab"], apart := false, laid := [("math/bits.deBruijn64tab", laid_math_bits_deBruijn64tab)], narrowed := true }
def FnSetEmptyUptoSaid : Prop := fnSetEmptyUptoRow.holds Tryd.pinned (OpenSpec.upto fnSetEmptySpec)

/-- 'laws.FnSetEqual', WHERE WHAT IT READS IS OF BULK AT MOST 1048576: true; the input reads as it did. -/
def fnSetEqualUptoRow : OpenClaim := { program := "ytebgaedalbdhaaadoor", sum := "e8f7be005aac935bcc838ece484c71d3ee50bdfac9df41ca799b3278500c5fe5", func := "pub-tokenroad/laws.FnSetEqual", spec := "fnSetEqual", unfollowed := true, recurses := true, named := ["math/bits.deBruijn64tab"], apart := false, laid := [("math/bits.deBruijn64tab", laid_math_bits_deBruijn64tab)], narrowed := true }
def FnSetEqualUptoSaid : Prop := fnSetEqualUptoRow.holds Tryd.pinned (OpenSpec.upto fnSetEqualSpec)

/-- 'laws.FnSetTurned', WHERE WHAT IT READS IS OF BULK AT MOST 1048576: true; the input reads as it did. -/
def fnSetTurnedUptoRow : OpenClaim := { program := "ytebgaedalbdhaaadoor", sum := "e8f7be005aac935bcc838ece484c71d3ee50bdfac9df41ca799b3278500c5fe5", func := "pub-tokenroad/laws.FnSetTurned", spec := "fnSetTurned", unfollowed := true, recurses := true, named := ["math/bits.deBruijn64tab"], apart := false, laid := [("math/bits.deBruijn64tab", laid_math_bits_deBruijn64tab)], narrowed := true }
def FnSetTurnedUptoSaid : Prop := fnSetTurnedUptoRow.holds Tryd.pinned (OpenSpec.upto fnSetTurnedSpec)

/-- 'laws.FnSetFrom', WHERE WHAT IT READS IS OF BULK AT MOST 1048576: true; the input reads as it did. -/
def fnSetFromUptoRow : OpenClaim := { program := "ytebgaedalbdhaaadoor", sum := "e8f7be005aac935bcc838ece484c71d3ee50bdfac9df41ca799b3278500c5fe5", func := "pub-tokenroad/laws.FnSetFrom", spec := "fnSetFrom", unfollowed := true, recurses := true, named := ["math/bits.deBruijn64tab", "pub-tokenroad/pub/natsserver/server/avl.ErrSetNotEmpty"], apart := false, laid := [("math/bits.deBruijn64tab", laid_math_bits_deBruijn64tab), ("pub-tokenroad/pub/natsserver/server/avl.ErrSetNotEmpty", laid_pub_tokenroad_pub_natsserver_server_avl_ErrSetNotEmpty)], narrowed := true }
def FnSetFromUptoSaid : Prop := fnSetFromUptoRow.holds Tryd.pinned (OpenSpec.upto fnSetFromSpec)

/-- 'laws.FnSetSpan', WHERE WHAT IT READS IS OF BULK AT MOST 1048576: true; the input reads as it did. -/
def fnSetSpanUptoRow : OpenClaim := { program := "ytebgaedalbdhaaadoor", sum := "e8f7be005aac935bcc838ece484c71d3ee50bdfac9df41ca799b3278500c5fe5", func := "pub-tokenroad/laws.FnSetSpan", spec := "fnSetSpan", unfollowed := true, recurses := true, named := ["math/bits.deBruijn64tab"], apart := false, laid := [("math/bits.deBruijn64tab", laid_math_bits_deBruijn64tab)], narrowed := true }
def FnSetSpanUptoSaid : Prop := fnSetSpanUptoRow.holds Tryd.pinned (OpenSpec.upto fnSetSpanSpec)

/-- 'laws.FnSetSpanMeans', WHERE WHAT IT READS IS OF BULK AT MOST 1048576: true; the input reads as it did. -/
def fnSetSpanMeansUptoRow : OpenClaim := { program := "ytebgaedalbdhaaadoor", sum := "e8f7be005aac935bcc838ece484c71d3ee50bdfac9df41ca799b3278500c5fe5", func := "pub-tokenroad/laws.FnSetSpanMeans", spec := "fnSetSpanMeans", unfollowed := true, recurses := true, named := ["math/bits.deBruijn64tab"], apart := false, laid := [("math/bits.deBruijn64tab", laid_math_bits_deBruijn64tab)], narrowed := true }
def FnSetSpanMeansUptoSaid : Prop := fnSetSpanMeansUptoRow.holds Tryd.pinned (OpenSpec.upto fnSetSpanMeansSpec)

/-- 'laws.FnSetCut', WHERE WHAT IT READS IS OF BULK AT MOST 1048576: true; the input reads as it did. -/
def fnSetCutUptoRow : OpenClaim := { program := "ytebgaedalbdhaaadoor", sum := "e8f7be005aac935bcc838ece484c71d3ee50bdfac9df41ca799b3278500c5fe5", func := "pub-tokenroad/laws.FnSetCut", spec := "fnSetCut", unfollowed := true, recurses := true, named := ["math/bits.deBruijn64tab", "encoding/binary.LittleEndian", "pub-tokenroad/pub/natsserver/server/avl.ErrBadEncoding", "pub-tokenroad/pub/natsserver/server/avl.ErrBadVersion"], apart := false, laid := [("math/bits.deBruijn64tab", laid_math_bits_deBruijn64tab), ("pub-tokenroad/pub/natsserver/server/avl.ErrBadEncoding", laid_pub_tokenroad_pub_natsserver_server_avl_ErrBadEncoding), ("pub-tokenroad/pub/natsserver/server/avl.ErrBadVersion", laid_pub_tokenroad_pub_natsserver_server_avl_ErrBadVersion)], narrowed := true }
def FnSetCutUptoSaid : Prop := fnSetCutUptoRow.holds Tryd.pinned (OpenSpec.upto fnSetCutSpec)

end Rows
end Go.Proofs.YtebgaedalbdhaaaDoor
