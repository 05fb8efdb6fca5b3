/-
  No cell of these rows narrows 'for every input' (looked for: loops, veiled, ifaces, maps, wideKeys, modest, calm, conditions, laid).
  DERIVED. THE GIVEN ROWS OF THIS SEAT. 6 by the template 'for every input the law returns true; each argument reads behind the call as it read before'; 0 by the template 'total and deterministic' (their statements: YtpgjcelglimpcaaTotals.lean).
  GIVEN WITH THE SEED: the statements are not yours to turn. If you find one false, say at which input.
  Laid BY PROGRAM, IN A SANDBOX (cutbox-rows.mjs): the forced cells as the released guide's own fill.sh prints them over the translation 05b01b09c35e5640… (all of the seat's roots in one cut). By AI agents, Wed Nov 11 2026. No macro, syntax, notation, axiom, sorry.
-/
import Derived.Test.YtpgjcelglimpcaaChecked
import GoSem.Claim
import GoSem.ClaimJoined
import GoSem.ClaimMapViews
import Derived.JoinedTies
import Derived.KernelRfl
namespace Go.Proofs.Ytpgjcelglimpcaa
/- THE CELL 'sum', in the pinned program and in every row, IS THE sha256 OF THE DUMP (.gsa) THAT YtpgjcelglimpcaaProg.lean LOADS. Nothing in Lean hashes anything: it is a label: what it is worth is what the hold of that sum in a sandbox is worth. -/
noncomputable def Try.pinned : Pinned := { name := "ytpgjcelglimpcaa", sum := "05b01b09c35e56402f63140f0eb93fb3eb58ac35dbd9c8352326b9e32ccd5ff2", checked := Try.checked }
namespace Rows
def none {H : Type} : Left H := { results := [], args := [] }

/-- 'laws.FnNumTokens': WHATEVER THE INPUT: true; the input reads as it did. -/
def fnNumTokensSpec : ChangeSpec := { name := "fnNumTokens", fn := fun _ => fun
  | [d] => { results := [.lit (.bool true)], args := [d] }
  | _ => none }
def fnNumTokensRow : OpenClaim := { program := "ytpgjcelglimpcaa", sum := "05b01b09c35e56402f63140f0eb93fb3eb58ac35dbd9c8352326b9e32ccd5ff2", func := "pub-tokenroad/laws.FnNumTokens", spec := "fnNumTokens", apart := false }
def FnNumTokensSaid : Prop := fnNumTokensRow.holds Try.pinned (OpenSpec.ofChange fnNumTokensSpec)

/-- ITS FALSE NEIGHBOUR: 'it returns false'. Refute it at one input. -/
def fnNumTokensWrong : ChangeSpec := { name := "fnNumTokens", fn := fun _ => fun
  | [d] => { results := [.lit (.bool false)], args := [d] }
  | _ => none }
def FnNumTokensWrongFalsely : Prop := fnNumTokensRow.holds Try.pinned (OpenSpec.ofChange fnNumTokensWrong)

/-- 'laws.FnParseInt64': WHATEVER THE INPUT: true; the input reads as it did. -/
def fnParseInt64Spec : ChangeSpec := { name := "fnParseInt64", fn := fun _ => fun
  | [d] => { results := [.lit (.bool true)], args := [d] }
  | _ => none }
def fnParseInt64Row : OpenClaim := { program := "ytpgjcelglimpcaa", sum := "05b01b09c35e56402f63140f0eb93fb3eb58ac35dbd9c8352326b9e32ccd5ff2", func := "pub-tokenroad/laws.FnParseInt64", spec := "fnParseInt64", apart := false }
def FnParseInt64Said : Prop := fnParseInt64Row.holds Try.pinned (OpenSpec.ofChange fnParseInt64Spec)

/-- ITS FALSE NEIGHBOUR: 'it returns false'. Refute it at one input. -/
def fnParseInt64Wrong : ChangeSpec := { name := "fnParseInt64", fn := fun _ => fun
  | [d] => { results := [.lit (.bool false)], args := [d] }
  | _ => none }
def FnParseInt64WrongFalsely : Prop := fnParseInt64Row.holds Try.pinned (OpenSpec.ofChange fnParseInt64Wrong)

/-- 'laws.FnSplitArg': WHATEVER THE INPUT: true; the input reads as it did. -/
def fnSplitArgSpec : ChangeSpec := { name := "fnSplitArg", fn := fun _ => fun
  | [d] => { results := [.lit (.bool true)], args := [d] }
  | _ => none }
def fnSplitArgRow : OpenClaim := { program := "ytpgjcelglimpcaa", sum := "05b01b09c35e56402f63140f0eb93fb3eb58ac35dbd9c8352326b9e32ccd5ff2", func := "pub-tokenroad/laws.FnSplitArg", spec := "fnSplitArg", apart := false }
def FnSplitArgSaid : Prop := fnSplitArgRow.holds Try.pinned (OpenSpec.ofChange fnSplitArgSpec)

/-- ITS FALSE NEIGHBOUR: 'it returns false'. Refute it at one input. -/
def fnSplitArgWrong : ChangeSpec := { name := "fnSplitArg", fn := fun _ => fun
  | [d] => { results := [.lit (.bool false)], args := [d] }
  | _ => none }
def FnSplitArgWrongFalsely : Prop := fnSplitArgRow.holds Try.pinned (OpenSpec.ofChange fnSplitArgWrong)

/-- 'laws.FnMask': WHATEVER THE INPUT: true; the input reads as it did. -/
def fnMaskSpec : ChangeSpec := { name := "fnMask", fn := fun _ => fun
  | [d1, d2, d3] => { results := [.lit (.bool true)], args := [d1, d2, d3] }
  | _ => none }
def fnMaskRow : OpenClaim := { program := "ytpgjcelglimpcaa", sum := "05b01b09c35e56402f63140f0eb93fb3eb58ac35dbd9c8352326b9e32ccd5ff2", func := "pub-tokenroad/laws.FnMask", spec := "fnMask", named := ["encoding/binary.BigEndian"], apart := false }
def FnMaskSaid : Prop := fnMaskRow.holds Try.pinned (OpenSpec.ofChange fnMaskSpec)

/-- ITS FALSE NEIGHBOUR: 'it returns false'. Refute it at one input. -/
def fnMaskWrong : ChangeSpec := { name := "fnMask", fn := fun _ => fun
  | [d1, d2, d3] => { results := [.lit (.bool false)], args := [d1, d2, d3] }
  | _ => none }
def FnMaskWrongFalsely : Prop := fnMaskRow.holds Try.pinned (OpenSpec.ofChange fnMaskWrong)

/-- 'laws.FnFrameHead': WHATEVER THE INPUT: true; the input reads as it did. -/
def fnFrameHeadSpec : ChangeSpec := { name := "fnFrameHead", fn := fun _ => fun
  | [d1, d2, d3, d4, d5] => { results := [.lit (.bool true)], args := [d1, d2, d3, d4, d5] }
  | _ => none }
def fnFrameHeadRow : OpenClaim := { program := "ytpgjcelglimpcaa", sum := "05b01b09c35e56402f63140f0eb93fb3eb58ac35dbd9c8352326b9e32ccd5ff2", func := "pub-tokenroad/laws.FnFrameHead", spec := "fnFrameHead", named := ["encoding/binary.BigEndian"], apart := false }
def FnFrameHeadSaid : Prop := fnFrameHeadRow.holds Try.pinned (OpenSpec.ofChange fnFrameHeadSpec)

/-- ITS FALSE NEIGHBOUR: 'it returns false'. Refute it at one input. -/
def fnFrameHeadWrong : ChangeSpec := { name := "fnFrameHead", fn := fun _ => fun
  | [d1, d2, d3, d4, d5] => { results := [.lit (.bool false)], args := [d1, d2, d3, d4, d5] }
  | _ => none }
def FnFrameHeadWrongFalsely : Prop := fnFrameHeadRow.holds Try.pinned (OpenSpec.ofChange fnFrameHeadWrong)

/-- 'laws.FnLiteral': WHATEVER THE INPUT: true; the input reads as it did. -/
def fnLiteralSpec : ChangeSpec := { name := "fnLiteral", fn := fun _ => fun
  | [d] => { results := [.lit (.bool true)], args := [d] }
  | _ => none }
def fnLiteralRow : OpenClaim := { program := "ytpgjcelglimpcaa", sum := "05b01b09c35e56402f63140f0eb93fb3eb58ac35dbd9c8352326b9e32ccd5ff2", func := "pub-tokenroad/laws.FnLiteral", spec := "fnLiteral", unfollowed := true, recurses := true, apart := false }
def FnLiteralSaid : Prop := fnLiteralRow.holds Try.pinned (OpenSpec.ofChange fnLiteralSpec)

/-- ITS FALSE NEIGHBOUR: 'it returns false'. Refute it at one input. -/
def fnLiteralWrong : ChangeSpec := { name := "fnLiteral", fn := fun _ => fun
  | [d] => { results := [.lit (.bool false)], args := [d] }
  | _ => none }
def FnLiteralWrongFalsely : Prop := fnLiteralRow.holds Try.pinned (OpenSpec.ofChange fnLiteralWrong)

/- THE SECOND FORM. 'bulk': how many values and letters a reading holds, each counted each time it is reached (what is shared counts as often as it is met; a slice's spare places count too). A statement '..UptoSaid' is the law's where the arguments, and the package variables that the reading takes, are together of bulk at most 1048576: NARROWER than '..Said'. Prove '..Said' where nothing that the law and all that it calls make is longer than what came in: it says more and counts as full. Else prove '..UptoSaid'. A law counts once. -/
mutual
def uptoBulk {H : Type} : DataW H → Nat
  | .lit (.string bytes) => bytes.length + 1
  | .lit _ => 1
  | .nil => 1
  | .ptr d => uptoBulk d + 1
  | .slice elems spare => uptoBulkAll elems + uptoBulkAll spare + 1
  | .agg parts => uptoBulkAll parts + 1
  | .iface _ d => uptoBulk d + 1
  | .map entries => uptoBulkEntries entries + 1
  | .held _ => 1
def uptoBulkAll {H : Type} : List (DataW H) → Nat
  | [] => 0
  | d :: r => uptoBulk d + uptoBulkAll r
def uptoBulkEntries {H : Type} : List (Lit × DataW H) → Nat
  | [] => 0
  | x :: r => uptoBulkEntry x + uptoBulkEntries r
def uptoBulkEntry {H : Type} : Lit × DataW H → Nat
  | (.string bytes, d) => bytes.length + uptoBulk d + 1
  | (_, d) => uptoBulk d + 1
 end
def uptoSmall : (H : Type) → List (DataW H) → Bool := fun _ ds => decide (uptoBulkAll ds ≤ 1048576)
def OpenSpec.upto (s : _root_.Go.ChangeSpec) : _root_.Go.OpenSpec := { _root_.Go.OpenSpec.ofChange s with cond := some uptoSmall }

/-- 'laws.FnNumTokens', WHERE WHAT IT READS IS OF BULK AT MOST 1048576: true; the input reads as it did. -/
def fnNumTokensUptoRow : OpenClaim := { program := "ytpgjcelglimpcaa", sum := "05b01b09c35e56402f63140f0eb93fb3eb58ac35dbd9c8352326b9e32ccd5ff2", func := "pub-tokenroad/laws.FnNumTokens", spec := "fnNumTokens", apart := false, narrowed := true }
def FnNumTokensUptoSaid : Prop := fnNumTokensUptoRow.holds Try.pinned (OpenSpec.upto fnNumTokensSpec)

/-- 'laws.FnParseInt64', WHERE WHAT IT READS IS OF BULK AT MOST 1048576: true; the input reads as it did. -/
def fnParseInt64UptoRow : OpenClaim := { program := "ytpgjcelglimpcaa", sum := "05b01b09c35e56402f63140f0eb93fb3eb58ac35dbd9c8352326b9e32ccd5ff2", func := "pub-tokenroad/laws.FnParseInt64", spec := "fnParseInt64", apart := false, narrowed := true }
def FnParseInt64UptoSaid : Prop := fnParseInt64UptoRow.holds Try.pinned (OpenSpec.upto fnParseInt64Spec)

/-- 'laws.FnSplitArg', WHERE WHAT IT READS IS OF BULK AT MOST 1048576: true; the input reads as it did. -/
def fnSplitArgUptoRow : OpenClaim := { program := "ytpgjcelglimpcaa", sum := "05b01b09c35e56402f63140f0eb93fb3eb58ac35dbd9c8352326b9e32ccd5ff2", func := "pub-tokenroad/laws.FnSplitArg", spec := "fnSplitArg", apart := false, narrowed := true }
def FnSplitArgUptoSaid : Prop := fnSplitArgUptoRow.holds Try.pinned (OpenSpec.upto fnSplitArgSpec)

/-- 'laws.FnMask', WHERE WHAT IT READS IS OF BULK AT MOST 1048576: true; the input reads as it did. -/
def fnMaskUptoRow : OpenClaim := { program := "ytpgjcelglimpcaa", sum := "05b01b09c35e56402f63140f0eb93fb3eb58ac35dbd9c8352326b9e32ccd5ff2", func := "pub-tokenroad/laws.FnMask", spec := "fnMask", named := ["encoding/binary.BigEndian"], apart := false, narrowed := true }
def FnMaskUptoSaid : Prop := fnMaskUptoRow.holds Try.pinned (OpenSpec.upto fnMaskSpec)

/-- 'laws.FnFrameHead', WHERE WHAT IT READS IS OF BULK AT MOST 1048576: true; the input reads as it did. -/
def fnFrameHeadUptoRow : OpenClaim := { program := "ytpgjcelglimpcaa", sum := "05b01b09c35e56402f63140f0eb93fb3eb58ac35dbd9c8352326b9e32ccd5ff2", func := "pub-tokenroad/laws.FnFrameHead", spec := "fnFrameHead", named := ["encoding/binary.BigEndian"], apart := false, narrowed := true }
def FnFrameHeadUptoSaid : Prop := fnFrameHeadUptoRow.holds Try.pinned (OpenSpec.upto fnFrameHeadSpec)

/-- 'laws.FnLiteral', WHERE WHAT IT READS IS OF BULK AT MOST 1048576: true; the input reads as it did. -/
def fnLiteralUptoRow : OpenClaim := { program := "ytpgjcelglimpcaa", sum := "05b01b09c35e56402f63140f0eb93fb3eb58ac35dbd9c8352326b9e32ccd5ff2", func := "pub-tokenroad/laws.FnLiteral", spec := "fnLiteral", unfollowed := true, recurses := true, apart := false, narrowed := true }
def FnLiteralUptoSaid : Prop := fnLiteralUptoRow.holds Try.pinned (OpenSpec.upto fnLiteralSpec)

end Rows
end Go.Proofs.Ytpgjcelglimpcaa
