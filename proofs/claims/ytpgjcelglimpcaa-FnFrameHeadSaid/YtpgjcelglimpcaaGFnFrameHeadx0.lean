/- A walk of Go functions (plain functions of theirs, and that the machine's calls do what these say), written by a program of this session's. -/
import Derived.Test.YtpgjcelglimpcaaProg
import Derived.Below
import Derived.Deep.Draws
import Derived.Deep.AppendLies
import Derived.Maps.AppendAt
import Derived.OwnWalk
import Derived.Laws.BytesArg
import Derived.Laws.MakeOwn
import Derived.Laws.OwnMore
import Derived.Deep.OwnRows
import Derived.Tactics
import Derived.Lib.ConvBytes
import Derived.Laws.Slices
import Derived.WalkKit
import Derived.KernelRfl
import Derived.RowKit3
import Derived.Deep.LoopGhost
import Derived.Deep.QuietTactic
import Derived.BigQuiet
import Derived.WideLaws
import Derived.Deep.DeepCutAuto
import Derived.Deep.CutBlock
import Derived.Deep.RegionHeld3
import Derived.Laws.Rows
import Derived.Lib.AppendStr
import Derived.ArgAppend
import Derived.Laws.IdiomCopy
import Derived.OrdersHeld
import Derived.Laws.BitsLemmas
import Derived.RowKit
import Derived.Test.YtpgjcelglimpcaaPlWalk
import Derived.Test.YtpgjcelglimpcaaWWords
import Derived.Test.YtpgjcelglimpcaaWLast
import Derived.Test.YtpgjcelglimpcaaWTab
import Derived.Test.YtpgjcelglimpcaaWFour
import Derived.Test.YtpgjcelglimpcaaWQPut
import Derived.Test.YtpgjcelglimpcaaWApart
import Derived.Test.YtpgjcelglimpcaaWArr
import Derived.Test.YtpgjcelglimpcaaWZeros
import Derived.Test.YtpgjcelglimpcaaWFoot
import Derived.Test.YtpgjcelglimpcaaWKept
import Derived.Test.YtpgjcelglimpcaaWShare
import Derived.Test.YtpgjcelglimpcaaWN
import Derived.Test.YtpgjcelglimpcaaWFootNe
import Derived.Test.YtpgjcelglimpcaaWAt
import Derived.Test.YtpgjcelglimpcaaWEqStruct
import Derived.Test.YtpgjcelglimpcaaWRepsOne
import Derived.Test.YtpgjcelglimpcaaWInv
import Derived.Test.YtpgjcelglimpcaaWInvWords
import Derived.Test.YtpgjcelglimpcaaWGuard
import Derived.Test.YtpgjcelglimpcaaWNEv
import Derived.Test.YtpgjcelglimpcaaWMore
namespace Go.Proofs.Ytpgjcelglimpcaa.GFnFrameHead
open Go.RowKit Go.Proofs.YtpgjcelglimpcaaW.PrintWords Go.Proofs.YtpgjcelglimpcaaW.PrintLast Go.Proofs.YtpgjcelglimpcaaW.PrintMore
attribute [local go_sem] max2_int min2_int max_two min_two max_three min_three max_four min_four   -- for this text's walks alone
set_option linter.unusedVariables false
set_option linter.unusedSimpArgs false



def errW : Option Int → Value
  | none => .nilIface
  | some c => .iface 0 (.int .i64 c)
theorem errW_none : errW none = .nilIface := rfl
theorem errW_some (c : Int) : errW (some c) = .iface 0 (.int .i64 c) := rfl

theorem info5 : (Try.prog.info? 5).map (fun i => (i.zero, i.size, i.bytes)) = some (some (.int .u8 0), 1, 1) := by kernel_rfl
-- the values' own types

end Go.Proofs.Ytpgjcelglimpcaa.GFnFrameHead
