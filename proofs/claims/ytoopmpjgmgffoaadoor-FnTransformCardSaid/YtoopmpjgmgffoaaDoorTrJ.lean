/- Match, impl.Transform: a subject that the source matches. -/
import Derived.Test.YtoopmpjgmgffoaaDoorTrI
namespace Go.Proofs.YtoopmpjgmgffoaaDoor.Tr
open Go.RowKit Go.Proofs.YtoopmpjgmgffoaaDoor.Pl Go.Proofs.YtoopmpjgmgffoaaDoor.Bs Go.Proofs.YtoopmpjgmgffoaaDoorW.PrintWords Go.Proofs.YtoopmpjgmgffoaaDoorW.PrintLast Go.Proofs.YtoopmpjgmgffoaaDoorW.PrintMore Go.Proofs.YtoopmpjgmgffoaaDoor.GFnTransformBack Go.Proofs.YtoopmpjgmgffoaaDoor.PlFnTransformBack
set_option linter.unusedVariables false
set_option linter.unusedSimpArgs false
theorem toList_beq (s : ByteArray) (l : List UInt8) : (s.toList == l) = decide (s.data.toList = l) := by
  rw [ByteArray.toList_eq]
  by_cases h : s.data.toList = l
  · rw [decide_eq_true h, beq_iff_eq]; exact h
  rw [decide_eq_false h, beq_eq_false_iff_ne]; exact h
def MatchPost (w : World) (r : ByteArray) (e : Ending) (w' : World) : Prop := e = .returned (.tuple #[.string r, .nilIface]) ∧ Same w w'
section
set_option maxHeartbeats 8000000
set_option maxRecDepth 100000
def XPost (w : World) (r : ByteArray) (e : Ending) (w' : World) : Prop := e = .returned (.tuple #[.string r, .int .i64 0]) ∧ Same w w'
theorem one_calls {w : World} : Calls Tryd.prog 28 #[.nilIface] w fun e w' => e = .returned (.int .i64 0) ∧ w' = w := by
  go_enter Tryd.func28, Tryd.ntmps28
  go_wp2_with fail
  go_ret
  exact ⟨rfl, rfl⟩
end
end Go.Proofs.YtoopmpjgmgffoaaDoor.Tr
