/- FnTransform's row, its call. -/
import Derived.Test.YtoopmpjgmgffoaaDoorTrM
import Derived.Test.YtoopmpjgmgffoaaDoorTrL
namespace Go.Proofs.YtoopmpjgmgffoaaDoor.Tr
open Go.RowKit Go.Deep Go.Proofs.YtoopmpjgmgffoaaDoor.Bs Go.Proofs.YtoopmpjgmgffoaaDoorW.PrintWords Go.Proofs.YtoopmpjgmgffoaaDoorW.PrintLast Go.Proofs.YtoopmpjgmgffoaaDoorW.PrintMore Go.Proofs.YtoopmpjgmgffoaaDoor.GFnTransformBack
theorem transform_row {w : World} {s0 s2 : ByteArray} {L : List S42} {A : Option Addr} {c : Nat} (hC : Kd.C k42 w A L.length L) (hc : L.length ≤ c) (hg : GlT w) :
  Calls Tryd.prog 3 #[.string s0, .slice A L.length c, .string s2] w fun e w' => e = .returned (.bool true) ∧ Below w.heap.size w w' := lawx_calls (sl := s0.data.toList) (ul := s2.data.toList) hC hc hg
end Go.Proofs.YtoopmpjgmgffoaaDoor.Tr
