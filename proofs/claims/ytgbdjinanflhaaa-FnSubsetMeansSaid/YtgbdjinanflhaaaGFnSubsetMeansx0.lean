/- A walk of Go functions (plain functions of theirs, and that the machine's calls do what these say), written by a program of this session's. -/
import Derived.Test.YtgbdjinanflhaaaProg
import Derived.Below
import Derived.Deep.Draws
import Derived.Deep.AppendLies
import Derived.Maps.AppendAt
import Derived.OwnWalk
import Derived.Laws.BytesArg
import Derived.Laws.MakeOwn
import Derived.Laws.OwnMore
import Derived.Deep.OwnRows
import Derived.Tactics
import Derived.Lib.ConvBytes
import Derived.Laws.Slices
import Derived.WalkKit
import Derived.KernelRfl
import Derived.RowKit3
import Derived.Deep.LoopGhost
import Derived.Deep.QuietTactic
import Derived.BigQuiet
import Derived.WideLaws
import Derived.Deep.DeepCutAuto
import Derived.Deep.CutBlock
import Derived.Deep.RegionHeld3
import Derived.Laws.Rows
import Derived.Lib.AppendStr
import Derived.ArgAppend
import Derived.Laws.IdiomCopy
import Derived.OrdersHeld
import Derived.Laws.BitsLemmas
import Derived.RowKit
import Derived.Test.YtgbdjinanflhaaaShelf
import Derived.Test.YtgbdjinanflhaaaPlWalk
import Derived.Test.YtgbdjinanflhaaaPlWalk
import Derived.Test.YtgbdjinanflhaaaPlWalk
import Derived.Test.YtgbdjinanflhaaaPlWalk
import Derived.Test.YtgbdjinanflhaaaPlWalk
import Derived.Test.YtgbdjinanflhaaaWWords
import Derived.Test.YtgbdjinanflhaaaWLast
import Derived.Test.YtgbdjinanflhaaaWTab
import Derived.Test.YtgbdjinanflhaaaWFour
import Derived.Test.YtgbdjinanflhaaaWQPut
import Derived.Test.YtgbdjinanflhaaaWApart
import Derived.Test.YtgbdjinanflhaaaWArr
import Derived.Test.YtgbdjinanflhaaaWZeros
import Derived.Test.YtgbdjinanflhaaaWFoot
import Derived.Test.YtgbdjinanflhaaaWKept
import Derived.Test.YtgbdjinanflhaaaWShare
import Derived.Test.YtgbdjinanflhaaaWN
import Derived.Test.YtgbdjinanflhaaaWFootNe
import Derived.Test.YtgbdjinanflhaaaWAt
import Derived.Test.YtgbdjinanflhaaaWEqStruct
import Derived.Test.YtgbdjinanflhaaaWRepsOne
import Derived.Test.YtgbdjinanflhaaaWInv
import Derived.Test.YtgbdjinanflhaaaWInvWords
import Derived.Test.YtgbdjinanflhaaaWGuard
import Derived.Test.YtgbdjinanflhaaaWNEv
import Derived.Test.YtgbdjinanflhaaaWMore
namespace Go.Proofs.Ytgbdjinanflhaaa.GFnSubsetMeans
open Go.RowKit Go.Proofs.YtgbdjinanflhaaaW.PrintWords Go.Proofs.YtgbdjinanflhaaaW.PrintLast Go.Proofs.YtgbdjinanflhaaaW.PrintMore
attribute [local go_sem] max2_int min2_int max_two min_two max_three min_three max_four min_four   -- for this text's walks alone
set_option linter.unusedVariables false
set_option linter.unusedSimpArgs false



def errW : Option Int → Value
  | none => .nilIface
  | some c => .iface 0 (.int .i64 c)
theorem errW_none : errW none = .nilIface := rfl
theorem errW_some (c : Int) : errW (some c) = .iface 0 (.int .i64 c) := rfl

theorem info9 : (Try.prog.info? 9).map (fun i => (i.zero, i.size, i.bytes)) = some (some (.string ⟨#[]⟩), 1, 16) := by kernel_rfl
-- the values' own types

end Go.Proofs.Ytgbdjinanflhaaa.GFnSubsetMeans
