/- A walk of Go functions (plain functions of theirs, and that the machine's calls do what these say), written by a program of this session's. -/
import Derived.Test.YtnkioieocjgekaaDoorProg
import Derived.Below
import Derived.Deep.Draws
import Derived.Deep.AppendLies
import Derived.Maps.AppendAt
import Derived.OwnWalk
import Derived.Laws.BytesArg
import Derived.Laws.MakeOwn
import Derived.Laws.OwnMore
import Derived.Deep.OwnRows
import Derived.Tactics
import Derived.Lib.ConvBytes
import Derived.Laws.Slices
import Derived.WalkKit
import Derived.KernelRfl
import Derived.RowKit3
import Derived.Deep.LoopGhost
import Derived.Deep.QuietTactic
import Derived.BigQuiet
import Derived.WideLaws
import Derived.Deep.DeepCutAuto
import Derived.Deep.CutBlock
import Derived.Deep.RegionHeld3
import Derived.Laws.Rows
import Derived.Lib.AppendStr
import Derived.ArgAppend
import Derived.Laws.IdiomCopy
import Derived.OrdersHeld
import Derived.Laws.BitsLemmas
import Derived.RowKit
import Derived.Test.YtnkioieocjgekaaDoorWWords
import Derived.Test.YtnkioieocjgekaaDoorWLast
import Derived.Test.YtnkioieocjgekaaDoorWTab
import Derived.Test.YtnkioieocjgekaaDoorWFour
import Derived.Test.YtnkioieocjgekaaDoorWQPut
import Derived.Test.YtnkioieocjgekaaDoorWApart
import Derived.Test.YtnkioieocjgekaaDoorWArr
import Derived.Test.YtnkioieocjgekaaDoorWZeros
import Derived.Test.YtnkioieocjgekaaDoorWFoot
import Derived.Test.YtnkioieocjgekaaDoorWKept
import Derived.Test.YtnkioieocjgekaaDoorWShare
import Derived.Test.YtnkioieocjgekaaDoorWN
import Derived.Test.YtnkioieocjgekaaDoorWFootNe
import Derived.Test.YtnkioieocjgekaaDoorWAt
import Derived.Test.YtnkioieocjgekaaDoorWEqStruct
import Derived.Test.YtnkioieocjgekaaDoorWRepsOne
import Derived.Test.YtnkioieocjgekaaDoorWInv
import Derived.Test.YtnkioieocjgekaaDoorWInvWords
import Derived.Test.YtnkioieocjgekaaDoorWGuard
import Derived.Test.YtnkioieocjgekaaDoorWNEv
import Derived.Test.YtnkioieocjgekaaDoorWMore
namespace Go.Proofs.YtnkioieocjgekaaDoor.GFnHeadPub
open Go.RowKit Go.Proofs.YtnkioieocjgekaaDoorW.PrintWords Go.Proofs.YtnkioieocjgekaaDoorW.PrintLast Go.Proofs.YtnkioieocjgekaaDoorW.PrintMore
attribute [local go_sem] max2_int min2_int max_two min_two max_three min_three max_four min_four   -- for this text's walks alone
set_option linter.unusedVariables false
set_option linter.unusedSimpArgs false



def errW : Option Int → Value
  | none => .nilIface
  | some c => .iface 0 (.int .i64 c)
theorem errW_none : errW none = .nilIface := rfl
theorem errW_some (c : Int) : errW (some c) = .iface 0 (.int .i64 c) := rfl

theorem info5 : (Tryd.prog.info? 5).map (fun i => (i.zero, i.size, i.bytes)) = some (some (.int .u8 0), 1, 1) := by kernel_rfl
theorem info9 : (Tryd.prog.info? 9).map (fun i => (i.zero, i.size, i.bytes)) = some (some (.string ⟨#[]⟩), 1, 16) := by kernel_rfl
-- the values' own types

end Go.Proofs.YtnkioieocjgekaaDoor.GFnHeadPub
