/-
  No cell of these rows narrows 'for every input' (looked for: loops, veiled, ifaces, maps, wideKeys, modest, calm, conditions, laid).
  DERIVED. THE GIVEN ROWS OF THIS SEAT. 4 by the template 'for every input the law returns true; each argument reads behind the call as it read before'; 0 by the template 'total and deterministic' (their statements: YtgbdjinanflhaaaTotals.lean).
  GIVEN WITH THE SEED: the statements are not yours to turn. If you find one false, say at which input.
  Laid BY PROGRAM, IN A SANDBOX (cutbox-rows.mjs): the forced cells as the released guide's own fill.sh prints them over the translation d9d4c9d08eb1fc3c… (all of the seat's roots in one cut). By AI agents, Wed Nov 11 2026. No macro, syntax, notation, axiom, sorry.
-/
import Derived.Test.YtgbdjinanflhaaaChecked
import GoSem.Claim
import GoSem.ClaimJoined
import GoSem.ClaimMapViews
import Derived.JoinedTies
import Derived.KernelRfl
namespace Go.Proofs.Ytgbdjinanflhaaa
/- THE CELL 'sum', in the pinned program and in every row, IS THE sha256 OF THE DUMP (.gsa) THAT YtgbdjinanflhaaaProg.lean LOADS. Nothing in Lean hashes anything: it is a label: what it is worth is what the hold of that sum in a sandbox is worth. -/
noncomputable def Try.pinned : Pinned := { name := "ytgbdjinanflhaaa", sum := "d9d4c9d08eb1fc3cebe1b37ba116f3cd19c840b7d29d66409761f25d90e24075", checked := Try.checked }
namespace Rows
def none {H : Type} : Left H := { results := [], args := [] }

/-- 'laws.FnMatches': WHATEVER THE INPUT: true; the input reads as it did. -/
def fnMatchesSpec : ChangeSpec := { name := "fnMatches", fn := fun _ => fun
  | [d1, d2] => { results := [.lit (.bool true)], args := [d1, d2] }
  | _ => none }
def fnMatchesRow : OpenClaim := { program := "ytgbdjinanflhaaa", sum := "d9d4c9d08eb1fc3cebe1b37ba116f3cd19c840b7d29d66409761f25d90e24075", func := "pub-tokenroad/laws.FnMatches", spec := "fnMatches", inPlace := ["internal/bytealg.abigen_runtime_cmpstring"], apart := false }
def FnMatchesSaid : Prop := fnMatchesRow.holds Try.pinned (OpenSpec.ofChange fnMatchesSpec)

/-- ITS FALSE NEIGHBOUR: 'it returns false'. Refute it at one input. -/
def fnMatchesWrong : ChangeSpec := { name := "fnMatches", fn := fun _ => fun
  | [d1, d2] => { results := [.lit (.bool false)], args := [d1, d2] }
  | _ => none }
def FnMatchesWrongFalsely : Prop := fnMatchesRow.holds Try.pinned (OpenSpec.ofChange fnMatchesWrong)

/-- 'laws.FnMatchLiteral': WHATEVER THE INPUT: true; the input reads as it did. -/
def fnMatchLiteralSpec : ChangeSpec := { name := "fnMatchLiteral", fn := fun _ => fun
  | [d1, d2] => { results := [.lit (.bool true)], args := [d1, d2] }
  | _ => none }
def fnMatchLiteralRow : OpenClaim := { program := "ytgbdjinanflhaaa", sum := "d9d4c9d08eb1fc3cebe1b37ba116f3cd19c840b7d29d66409761f25d90e24075", func := "pub-tokenroad/laws.FnMatchLiteral", spec := "fnMatchLiteral", apart := false }
def FnMatchLiteralSaid : Prop := fnMatchLiteralRow.holds Try.pinned (OpenSpec.ofChange fnMatchLiteralSpec)

/-- ITS FALSE NEIGHBOUR: 'it returns false'. Refute it at one input. -/
def fnMatchLiteralWrong : ChangeSpec := { name := "fnMatchLiteral", fn := fun _ => fun
  | [d1, d2] => { results := [.lit (.bool false)], args := [d1, d2] }
  | _ => none }
def FnMatchLiteralWrongFalsely : Prop := fnMatchLiteralRow.holds Try.pinned (OpenSpec.ofChange fnMatchLiteralWrong)

/-- 'laws.FnCollideMeans': WHATEVER THE INPUT: true; the input reads as it did. -/
def fnCollideMeansSpec : ChangeSpec := { name := "fnCollideMeans", fn := fun _ => fun
  | [d1, d2, d3] => { results := [.lit (.bool true)], args := [d1, d2, d3] }
  | _ => none }
def fnCollideMeansRow : OpenClaim := { program := "ytgbdjinanflhaaa", sum := "d9d4c9d08eb1fc3cebe1b37ba116f3cd19c840b7d29d66409761f25d90e24075", func := "pub-tokenroad/laws.FnCollideMeans", spec := "fnCollideMeans", inPlace := ["internal/bytealg.abigen_runtime_cmpstring", "internal/bytealg.IndexByte"], apart := false }
def FnCollideMeansSaid : Prop := fnCollideMeansRow.holds Try.pinned (OpenSpec.ofChange fnCollideMeansSpec)

/-- ITS FALSE NEIGHBOUR: 'it returns false'. Refute it at one input. -/
def fnCollideMeansWrong : ChangeSpec := { name := "fnCollideMeans", fn := fun _ => fun
  | [d1, d2, d3] => { results := [.lit (.bool false)], args := [d1, d2, d3] }
  | _ => none }
def FnCollideMeansWrongFalsely : Prop := fnCollideMeansRow.holds Try.pinned (OpenSpec.ofChange fnCollideMeansWrong)

/-- 'laws.FnSubsetMeans': WHATEVER THE INPUT: true; the input reads as it did. -/
def fnSubsetMeansSpec : ChangeSpec := { name := "fnSubsetMeans", fn := fun _ => fun
  | [d1, d2] => { results := [.lit (.bool true)], args := [d1, d2] }
  | _ => none }
def fnSubsetMeansRow : OpenClaim := { program := "ytgbdjinanflhaaa", sum := "d9d4c9d08eb1fc3cebe1b37ba116f3cd19c840b7d29d66409761f25d90e24075", func := "pub-tokenroad/laws.FnSubsetMeans", spec := "fnSubsetMeans", inPlace := ["internal/bytealg.abigen_runtime_cmpstring", "internal/bytealg.IndexByte"], apart := false }
def FnSubsetMeansSaid : Prop := fnSubsetMeansRow.holds Try.pinned (OpenSpec.ofChange fnSubsetMeansSpec)

/-- ITS FALSE NEIGHBOUR: 'it returns false'. Refute it at one input. -/
def fnSubsetMeansWrong : ChangeSpec := { name := "fnSubsetMeans", fn := fun _ => fun
  | [d1, d2] => { results := [.lit (.bool false)], args := [d1, d2] }
  | _ => none }
def FnSubsetMeansWrongFalsely : Prop := fnSubsetMeansRow.holds Try.pinned (OpenSpec.ofChange fnSubsetMeansWrong)

/- THE SECOND FORM. 'bulk': how many values and letters a reading holds, each counted each time it is reached (what is shared counts as often as it is met; a slice's spare places count too). A statement '..UptoSaid' is the law's where the arguments, and the package variables that the reading takes, are together of bulk at most 1048576: NARROWER than '..Said'. Prove '..Said' where nothing that the law and all that it calls make is longer than what came in: it says more and counts as full. Else prove '..UptoSaid'. A law counts once. -/
mutual
def uptoBulk {H : Type} : DataW H → Nat
  | .lit (.string bytes) => bytes.length + 1
  | .lit _ => 1
  | .nil => 1
  | .ptr d => uptoBulk d + 1
  | .slice elems spare => uptoBulkAll elems + uptoBulkAll spare + 1
  | .agg parts => uptoBulkAll parts + 1
  | .iface _ d => uptoBulk d + 1
  | .map entries => uptoBulkEntries entries + 1
  | .held _ => 1
def uptoBulkAll {H : Type} : List (DataW H) → Nat
  | [] => 0
  | d :: r => uptoBulk d + uptoBulkAll r
def uptoBulkEntries {H : Type} : List (Lit × DataW H) → Nat
  | [] => 0
  | x :: r => uptoBulkEntry x + uptoBulkEntries r
def uptoBulkEntry {H : Type} : Lit × DataW H → Nat
  | (.string bytes, d) => bytes.length + uptoBulk d + 1
  | (_, d) => uptoBulk d + 1
 end
def uptoSmall : (H : Type) → List (DataW H) → Bool := fun _ ds => decide (uptoBulkAll ds ≤ 1048576)
def OpenSpec.upto (s : _root_.Go.ChangeSpec) : _root_.Go.OpenSpec := { _root_.Go.OpenSpec.ofChange s with cond := some uptoSmall }

/-- 'laws.FnMatches', WHERE WHAT IT READS IS OF BULK AT MOST 1048576: true; the input reads as it did. -/
def fnMatchesUptoRow : OpenClaim := { program := "ytgbdjinanflhaaa", sum := "d9d4c9d08eb1fc3cebe1b37ba116f3cd19c840b7d29d66409761f25d90e24075", func := "pub-tokenroad/laws.FnMatches", spec := "fnMatches", inPlace := ["internal/bytealg.abigen_runtime_cmpstring"], apart := false, narrowed := true }
def FnMatchesUptoSaid : Prop := fnMatchesUptoRow.holds Try.pinned (OpenSpec.upto fnMatchesSpec)

/-- 'laws.FnMatchLiteral', WHERE WHAT IT READS IS OF BULK AT MOST 1048576: true; the input reads as it did. -/
def fnMatchLiteralUptoRow : OpenClaim := { program := "ytgbdjinanflhaaa", sum := "d9d4c9d08eb1fc3cebe1b37ba116f3cd19c840b7d29d66409761f25d90e24075", func := "pub-tokenroad/laws.FnMatchLiteral", spec := "fnMatchLiteral", apart := false, narrowed := true }
def FnMatchLiteralUptoSaid : Prop := fnMatchLiteralUptoRow.holds Try.pinned (OpenSpec.upto fnMatchLiteralSpec)

/-- 'laws.FnCollideMeans', WHERE WHAT IT READS IS OF BULK AT MOST 1048576: true; the input reads as it did. -/
def fnCollideMeansUptoRow : OpenClaim := { program := "ytgbdjinanflhaaa", sum := "d9d4c9d08eb1fc3cebe1b37ba116f3cd19c840b7d29d66409761f25d90e24075", func := "pub-tokenroad/laws.FnCollideMeans", spec := "fnCollideMeans", inPlace := ["internal/bytealg.abigen_runtime_cmpstring", "internal/bytealg.IndexByte"], apart := false, narrowed := true }
def FnCollideMeansUptoSaid : Prop := fnCollideMeansUptoRow.holds Try.pinned (OpenSpec.upto fnCollideMeansSpec)

/-- 'laws.FnSubsetMeans', WHERE WHAT IT READS IS OF BULK AT MOST 1048576: true; the input reads as it did. -/
def fnSubsetMeansUptoRow : OpenClaim := { program := "ytgbdjinanflhaaa", sum := "d9d4c9d08eb1fc3cebe1b37ba116f3cd19c840b7d29d66409761f25d90e24075", func := "pub-tokenroad/laws.FnSubsetMeans", spec := "fnSubsetMeans", inPlace := ["internal/bytealg.abigen_runtime_cmpstring", "internal/bytealg.IndexByte"], apart := false, narrowed := true }
def FnSubsetMeansUptoSaid : Prop := fnSubsetMeansUptoRow.holds Try.pinned (OpenSpec.upto fnSubsetMeansSpec)

end Rows
end Go.Proofs.Ytgbdjinanflhaaa
