/-
  No cell of these rows narrows 'for every input' (looked for: loops, veiled, ifaces, maps, wideKeys, modest, calm, conditions, laid).
  DERIVED. THE GIVEN ROWS OF THIS SEAT. 6 by the template 'for every input the law returns true; each argument reads behind the call as it read before'; 0 by the template 'total and deterministic' (their statements: YtjhmpcbpbdkddaaGreatTotals.lean).
  GIVEN WITH THE SEED: the statements are not yours to turn. If you find one false, say at which input.
  Laid BY PROGRAM, IN A SANDBOX (cutbox-rows.mjs): the forced cells as the released guide's own fill.sh prints them over the translation 015d22cdc7358d29… (all of the seat's roots in one cut). By AI agents, Wed Nov 11 2026. No macro, syntax, notation, axiom, sorry.
-/
import Derived.Test.YtjhmpcbpbdkddaaGreatChecked
import GoSem.Claim
import GoSem.ClaimJoined
import GoSem.ClaimMapViews
import Derived.JoinedTies
import Derived.KernelRfl
namespace Go.Proofs.YtjhmpcbpbdkddaaGreat
/- THE CELL 'sum', in the pinned program and in every row, IS THE sha256 OF THE DUMP (.gsa) THAT YtjhmpcbpbdkddaaGreatProg.lean LOADS. Nothing in Lean hashes anything: it is a label: what it is worth is what the hold of that sum in a sandbox is worth. -/
noncomputable def Tryz.pinned : Pinned := { name := "ytjhmpcbpbdkddaagreat", sum := "015d22cdc7358d294673bd11c3c64e6346345ec5c3d28b4f695baa0d3c6a9114", checked := Tryz.checked }
namespace Rows
def none {H : Type} : Left H := { results := [], args := [] }

/-- 'laws.FnTreeRun': WHATEVER THE INPUT: true; the input reads as it did. -/
def fnTreeRunSpec : ChangeSpec := { name := "fnTreeRun", fn := fun _ => fun
  | [d] => { results := [.lit (.bool true)], args := [d] }
  | _ => none }
def fnTreeRunRow : OpenClaim := { program := "ytjhmpcbpbdkddaagreat", sum := "015d22cdc7358d294673bd11c3c64e6346345ec5c3d28b4f695baa0d3c6a9114", func := "pub-tokenroad/laws.FnTreeRun", spec := "fnTreeRun", inPlace := ["internal/bytealg.IndexByte"], unfollowed := true, recurses := true, apart := false }
def FnTreeRunSaid : Prop := fnTreeRunRow.holds Tryz.pinned (OpenSpec.ofChange fnTreeRunSpec)

/-- ITS FALSE NEIGHBOUR: 'it returns false'. Refute it at one input. -/
def fnTreeRunWrong : ChangeSpec := { name := "fnTreeRun", fn := fun _ => fun
  | [d] => { results := [.lit (.bool false)], args := [d] }
  | _ => none }
def FnTreeRunWrongFalsely : Prop := fnTreeRunRow.holds Tryz.pinned (OpenSpec.ofChange fnTreeRunWrong)

/-- 'laws.FnTreeEmpty': WHATEVER THE INPUT: true; the input reads as it did. -/
def fnTreeEmptySpec : ChangeSpec := { name := "fnTreeEmpty", fn := fun _ => fun
  | [d1, d2] => { results := [.lit (.bool true)], args := [d1, d2] }
  | _ => none }
def fnTreeEmptyRow : OpenClaim := { program := "ytjhmpcbpbdkddaagreat", sum := "015d22cdc7358d294673bd11c3c64e6346345ec5c3d28b4f695baa0d3c6a9114", func := "pub-tokenroad/laws.FnTreeEmpty", spec := "fnTreeEmpty", inPlace := ["internal/bytealg.IndexByte"], unfollowed := true, recurses := true, apart := false }
def FnTreeEmptySaid : Prop := fnTreeEmptyRow.holds Tryz.pinned (OpenSpec.ofChange fnTreeEmptySpec)

/-- ITS FALSE NEIGHBOUR: 'it returns false'. Refute it at one input. -/
def fnTreeEmptyWrong : ChangeSpec := { name := "fnTreeEmpty", fn := fun _ => fun
  | [d1, d2] => { results := [.lit (.bool false)], args := [d1, d2] }
  | _ => none }
def FnTreeEmptyWrongFalsely : Prop := fnTreeEmptyRow.holds Tryz.pinned (OpenSpec.ofChange fnTreeEmptyWrong)

/-- 'laws.FnTreeFast': WHATEVER THE INPUT: true; the input reads as it did. -/
def fnTreeFastSpec : ChangeSpec := { name := "fnTreeFast", fn := fun _ => fun
  | [d] => { results := [.lit (.bool true)], args := [d] }
  | _ => none }
def fnTreeFastRow : OpenClaim := { program := "ytjhmpcbpbdkddaagreat", sum := "015d22cdc7358d294673bd11c3c64e6346345ec5c3d28b4f695baa0d3c6a9114", func := "pub-tokenroad/laws.FnTreeFast", spec := "fnTreeFast", inPlace := ["internal/bytealg.IndexByte", "internal/bytealg.abigen_runtime_cmpstring"], unfollowed := true, recurses := true, apart := false }
def FnTreeFastSaid : Prop := fnTreeFastRow.holds Tryz.pinned (OpenSpec.ofChange fnTreeFastSpec)

/-- ITS FALSE NEIGHBOUR: 'it returns false'. Refute it at one input. -/
def fnTreeFastWrong : ChangeSpec := { name := "fnTreeFast", fn := fun _ => fun
  | [d] => { results := [.lit (.bool false)], args := [d] }
  | _ => none }
def FnTreeFastWrongFalsely : Prop := fnTreeFastRow.holds Tryz.pinned (OpenSpec.ofChange fnTreeFastWrong)

/-- 'laws.FnTreeUndone': WHATEVER THE INPUT: true; the input reads as it did. -/
def fnTreeUndoneSpec : ChangeSpec := { name := "fnTreeUndone", fn := fun _ => fun
  | [d1, d2] => { results := [.lit (.bool true)], args := [d1, d2] }
  | _ => none }
def fnTreeUndoneRow : OpenClaim := { program := "ytjhmpcbpbdkddaagreat", sum := "015d22cdc7358d294673bd11c3c64e6346345ec5c3d28b4f695baa0d3c6a9114", func := "pub-tokenroad/laws.FnTreeUndone", spec := "fnTreeUndone", inPlace := ["internal/bytealg.IndexByte", "internal/bytealg.abigen_runtime_cmpstring"], unfollowed := true, recurses := true, apart := false }
def FnTreeUndoneSaid : Prop := fnTreeUndoneRow.holds Tryz.pinned (OpenSpec.ofChange fnTreeUndoneSpec)

/-- ITS FALSE NEIGHBOUR: 'it returns false'. Refute it at one input. -/
def fnTreeUndoneWrong : ChangeSpec := { name := "fnTreeUndone", fn := fun _ => fun
  | [d1, d2] => { results := [.lit (.bool false)], args := [d1, d2] }
  | _ => none }
def FnTreeUndoneWrongFalsely : Prop := fnTreeUndoneRow.holds Tryz.pinned (OpenSpec.ofChange fnTreeUndoneWrong)

/-- 'laws.FnTreeMatch': WHATEVER THE INPUT: true; the input reads as it did. -/
def fnTreeMatchSpec : ChangeSpec := { name := "fnTreeMatch", fn := fun _ => fun
  | [d1, d2] => { results := [.lit (.bool true)], args := [d1, d2] }
  | _ => none }
def fnTreeMatchRow : OpenClaim := { program := "ytjhmpcbpbdkddaagreat", sum := "015d22cdc7358d294673bd11c3c64e6346345ec5c3d28b4f695baa0d3c6a9114", func := "pub-tokenroad/laws.FnTreeMatch", spec := "fnTreeMatch", inPlace := ["internal/bytealg.IndexByte", "internal/bytealg.IndexByteString"], unfollowed := true, recurses := true, apart := false }
def FnTreeMatchSaid : Prop := fnTreeMatchRow.holds Tryz.pinned (OpenSpec.ofChange fnTreeMatchSpec)

/-- ITS FALSE NEIGHBOUR: 'it returns false'. Refute it at one input. -/
def fnTreeMatchWrong : ChangeSpec := { name := "fnTreeMatch", fn := fun _ => fun
  | [d1, d2] => { results := [.lit (.bool false)], args := [d1, d2] }
  | _ => none }
def FnTreeMatchWrongFalsely : Prop := fnTreeMatchRow.holds Tryz.pinned (OpenSpec.ofChange fnTreeMatchWrong)

/-- 'laws.FnTreeMeans': WHATEVER THE INPUT: true; the input reads as it did. -/
def fnTreeMeansSpec : ChangeSpec := { name := "fnTreeMeans", fn := fun _ => fun
  | [d1, d2, d3] => { results := [.lit (.bool true)], args := [d1, d2, d3] }
  | _ => none }
def fnTreeMeansRow : OpenClaim := { program := "ytjhmpcbpbdkddaagreat", sum := "015d22cdc7358d294673bd11c3c64e6346345ec5c3d28b4f695baa0d3c6a9114", func := "pub-tokenroad/laws.FnTreeMeans", spec := "fnTreeMeans", inPlace := ["internal/bytealg.IndexByte", "internal/bytealg.abigen_runtime_cmpstring", "internal/bytealg.IndexByteString"], unfollowed := true, recurses := true, apart := false }
def FnTreeMeansSaid : Prop := fnTreeMeansRow.holds Tryz.pinned (OpenSpec.ofChange fnTreeMeansSpec)

/-- ITS FALSE NEIGHBOUR: 'it returns false'. Refute it at one input. -/
def fnTreeMeansWrong : ChangeSpec := { name := "fnTreeMeans", fn := fun _ => fun
  | [d1, d2, d3] => { results := [.lit (.bool false)], args := [d1, d2, d3] }
  | _ => none }
def FnTreeMeansWrongFalsely : Prop := fnTreeMeansRow.holds Tryz.pinned (OpenSpec.ofChange fnTreeMeansWrong)

/- THE SECOND FORM. 'bulk': how many values and letters a reading holds, each counted each time it is reached (what is shared counts as often as it is met; a slice's spare places count too). A statement '..UptoSaid' is the law's where the arguments, and the package variables that the reading takes, are together of bulk at most 1048576: NARROWER than '..Said'. Prove '..Said' where nothing that the law and all that it calls make is longer than what came in: it says more and counts as full. Else prove '..UptoSaid'. A law counts once. -/
mutual
def uptoBulk {H : Type} : DataW H → Nat
  | .lit (.string bytes) => bytes.length + 1
  | .lit _ => 1
  | .nil => 1
  | .ptr d => uptoBulk d + 1
  | .slice elems spare => uptoBulkAll elems + uptoBulkAll spare + 1
  | .agg parts => uptoBulkAll parts + 1
  | .iface _ d => uptoBulk d + 1
  | .map entries => uptoBulkEntries entries + 1
  | .held _ => 1
def uptoBulkAll {H : Type} : List (DataW H) → Nat
  | [] => 0
  | d :: r => uptoBulk d + uptoBulkAll r
def uptoBulkEntries {H : Type} : List (Lit × DataW H) → Nat
  | [] => 0
  | x :: r => uptoBulkEntry x + uptoBulkEntries r
def uptoBulkEntry {H : Type} : Lit × DataW H → Nat
  | (.string bytes, d) => bytes.length + uptoBulk d + 1
  | (_, d) => uptoBulk d + 1
 end
def uptoSmall : (H : Type) → List (DataW H) → Bool := fun _ ds => decide (uptoBulkAll ds ≤ 1048576)
def OpenSpec.upto (s : _root_.Go.ChangeSpec) : _root_.Go.OpenSpec := { _root_.Go.OpenSpec.ofChange s with cond := some uptoSmall }

/-- 'laws.FnTreeRun', WHERE WHAT IT READS IS OF BULK AT MOST 1048576: true; the input reads as it did. -/
def fnTreeRunUptoRow : OpenClaim := { program := "ytjhmpcbpbdkddaagreat", sum := "015d22cdc7358d294673bd11c3c64e6346345ec5c3d28b4f695baa0d3c6a9114", func := "pub-tokenroad/laws.FnTreeRun", spec := "fnTreeRun", inPlace := ["internal/bytealg.IndexByte"], unfollowed := true, recurses := true, apart := false, narrowed := true }
def FnTreeRunUptoSaid : Prop := fnTreeRunUptoRow.holds Tryz.pinned (OpenSpec.upto fnTreeRunSpec)

/-- 'laws.FnTreeEmpty', WHERE WHAT IT READS IS OF BULK AT MOST 1048576: true; the input reads as it did. -/
def fnTreeEmptyUptoRow : OpenClaim := { program := "ytjhmpcbpbdkddaagreat", sum := "015d22cdc7358d294673bd11c3c64e6346345ec5c3d28b4f695baa0d3c6a9114", func := "pub-tokenroad/laws.FnTreeEmpty", spec := "fnTreeEmpty", inPlace := ["internal/bytealg.IndexByte"], unfollowed := true, recurses := true, apart := false, narrowed := true }
def FnTreeEmptyUptoSaid : Prop := fnTreeEmptyUptoRow.holds Tryz.pinned (OpenSpec.upto fnTreeEmptySpec)

/-- 'laws.FnTreeFast', WHERE WHAT IT READS IS OF BULK AT MOST 1048576: true; the input reads as it did. -/
def fnTreeFastUptoRow : OpenClaim := { program := "ytjhmpcbpbdkddaagreat", sum := "015d22cdc7358d294673bd11c3c64e6346345ec5c3d28b4f695baa0d3c6a9114", func := "pub-tokenroad/laws.FnTreeFast", spec := "fnTreeFast", inPlace := ["internal/bytealg.IndexByte", "internal/bytealg.abigen_runtime_cmpstring"], unfollowed := true, recurses := true, apart := false, narrowed := true }
def FnTreeFastUptoSaid : Prop := fnTreeFastUptoRow.holds Tryz.pinned (OpenSpec.upto fnTreeFastSpec)

/-- 'laws.FnTreeUndone', WHERE WHAT IT READS IS OF BULK AT MOST 1048576: true; the input reads as it did. -/
def fnTreeUndoneUptoRow : OpenClaim := { program := "ytjhmpcbpbdkddaagreat", sum := "015d22cdc7358d294673bd11c3c64e6346345ec5c3d28b4f695baa0d3c6a9114", func := "pub-tokenroad/laws.FnTreeUndone", spec := "fnTreeUndone", inPlace := ["internal/bytealg.IndexByte", "internal/bytealg.abigen_runtime_cmpstring"], unfollowed := true, recurses := true, apart := false, narrowed := true }
def FnTreeUndoneUptoSaid : Prop := fnTreeUndoneUptoRow.holds Tryz.pinned (OpenSpec.upto fnTreeUndoneSpec)

/-- 'laws.FnTreeMatch', WHERE WHAT IT READS IS OF BULK AT MOST 1048576: true; the input reads as it did. -/
def fnTreeMatchUptoRow : OpenClaim := { program := "ytjhmpcbpbdkddaagreat", sum := "015d22cdc7358d294673bd11c3c64e6346345ec5c3d28b4f695baa0d3c6a9114", func := "pub-tokenroad/laws.FnTreeMatch", spec := "fnTreeMatch", inPlace := ["internal/bytealg.IndexByte", "internal/bytealg.IndexByteString"], unfollowed := true, recurses := true, apart := false, narrowed := true }
def FnTreeMatchUptoSaid : Prop := fnTreeMatchUptoRow.holds Tryz.pinned (OpenSpec.upto fnTreeMatchSpec)

/-- 'laws.FnTreeMeans', WHERE WHAT IT READS IS OF BULK AT MOST 1048576: true; the input reads as it did. -/
def fnTreeMeansUptoRow : OpenClaim := { program := "ytjhmpcbpbdkddaagreat", sum := "015d22cdc7358d294673bd11c3c64e6346345ec5c3d28b4f695baa0d3c6a9114", func := "pub-tokenroad/laws.FnTreeMeans", spec := "fnTreeMeans", inPlace := ["internal/bytealg.IndexByte", "internal/bytealg.abigen_runtime_cmpstring", "internal/bytealg.IndexByteString"], unfollowed := true, recurses := true, apart := false, narrowed := true }
def FnTreeMeansUptoSaid : Prop := fnTreeMeansUptoRow.holds Tryz.pinned (OpenSpec.upto fnTreeMeansSpec)

end Rows
end Go.Proofs.YtjhmpcbpbdkddaaGreat
