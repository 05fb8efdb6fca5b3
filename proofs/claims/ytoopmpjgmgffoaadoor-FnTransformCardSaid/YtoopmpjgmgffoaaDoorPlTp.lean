/- The way back of a mapping, plainly. -/
import Derived.Test.YtoopmpjgmgffoaaDoorPlTo
namespace Go.Proofs.YtoopmpjgmgffoaaDoor.PlFnTransformBack
open Go.RowKit Go.Proofs.YtoopmpjgmgffoaaDoorW.PrintWords Go.Proofs.YtoopmpjgmgffoaaDoorW.PrintLast Go.Proofs.YtoopmpjgmgffoaaDoorW.PrintMore Go.Proofs.YtoopmpjgmgffoaaDoor.Pl Go.Proofs.YtoopmpjgmgffoaaDoor.Bs Go.Proofs.YtoopmpjgmgffoaaDoor.GFnTransformBack Go.Proofs.YtoopmpjgmgffoaaDoor.Tr
set_option linter.unusedVariables false
set_option linter.unusedSimpArgs false
section
variable {sl : List UInt8} {L : List S42} {T : List (List UInt8)}
end
end Go.Proofs.YtoopmpjgmgffoaaDoor.PlFnTransformBack
