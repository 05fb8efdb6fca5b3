/- A walk of Go functions (plain functions of theirs, and that the machine's calls do what these say), written by a program of this session's. -/
import Derived.Test.YtnkioieocjgekaaDoorProg
import Derived.Below
import Derived.Deep.Draws
import Derived.Deep.AppendLies
import Derived.Maps.AppendAt
import Derived.OwnWalk
import Derived.Laws.BytesArg
import Derived.Laws.MakeOwn
import Derived.Laws.OwnMore
import Derived.Deep.OwnRows
import Derived.Tactics
import Derived.Lib.ConvBytes
import Derived.Laws.Slices
import Derived.WalkKit
import Derived.KernelRfl
import Derived.RowKit3
import Derived.Deep.LoopGhost
import Derived.Deep.QuietTactic
import Derived.BigQuiet
import Derived.WideLaws
import Derived.Deep.DeepCutAuto
import Derived.Deep.CutBlock
import Derived.Deep.RegionHeld3
import Derived.Laws.Rows
import Derived.Lib.AppendStr
import Derived.ArgAppend
import Derived.Laws.IdiomCopy
import Derived.OrdersHeld
import Derived.Laws.BitsLemmas
import Derived.RowKit
import Derived.Test.YtnkioieocjgekaaDoorWWords
import Derived.Test.YtnkioieocjgekaaDoorWLast
import Derived.Test.YtnkioieocjgekaaDoorWTab
import Derived.Test.YtnkioieocjgekaaDoorWFour
import Derived.Test.YtnkioieocjgekaaDoorWQPut
import Derived.Test.YtnkioieocjgekaaDoorWApart
import Derived.Test.YtnkioieocjgekaaDoorWArr
import Derived.Test.YtnkioieocjgekaaDoorWZeros
import Derived.Test.YtnkioieocjgekaaDoorWFoot
import Derived.Test.YtnkioieocjgekaaDoorWKept
import Derived.Test.YtnkioieocjgekaaDoorWShare
import Derived.Test.YtnkioieocjgekaaDoorWN
import Derived.Test.YtnkioieocjgekaaDoorWFootNe
import Derived.Test.YtnkioieocjgekaaDoorWAt
import Derived.Test.YtnkioieocjgekaaDoorWEqStruct
import Derived.Test.YtnkioieocjgekaaDoorWRepsOne
import Derived.Test.YtnkioieocjgekaaDoorWInv
import Derived.Test.YtnkioieocjgekaaDoorWInvWords
import Derived.Test.YtnkioieocjgekaaDoorWGuard
import Derived.Test.YtnkioieocjgekaaDoorWNEv
import Derived.Test.YtnkioieocjgekaaDoorWMore
namespace Go.Proofs.YtnkioieocjgekaaDoor.GFnProtoField
open Go.RowKit Go.Proofs.YtnkioieocjgekaaDoorW.PrintWords Go.Proofs.YtnkioieocjgekaaDoorW.PrintLast Go.Proofs.YtnkioieocjgekaaDoorW.PrintMore
attribute [local go_sem] max2_int min2_int max_two min_two max_three min_three max_four min_four   -- for this text's walks alone
set_option linter.unusedVariables false
set_option linter.unusedSimpArgs false

variable {E : Int → TypeId × Value}


def errW (E : Int → TypeId × Value) : Option Int → Value
  | none => .nilIface
  | some c => .iface (E c).1 (E c).2
theorem errW_none : errW E none = .nilIface := rfl
theorem errW_some (c : Int) : errW E (some c) = .iface (E c).1 (E c).2 := rfl
/-- What the package's own variables hold. -/
def GlE (E : Int → TypeId × Value) (w : World) : Prop := w.cell? ⟨2, 0, none⟩ = some (.iface (E 2).1 (E 2).2) ∧ w.cell? ⟨3, 0, none⟩ = some (.iface (E 3).1 (E 3).2) ∧ w.cell? ⟨4, 0, none⟩ = some (.iface (E 4).1 (E 4).2) ∧ True
theorem GlE.g2 {w : World} (h : GlE E w) : w.cell? ⟨2, 0, none⟩ = some (.iface (E 2).1 (E 2).2) := h.1
theorem GlE.g3 {w : World} (h : GlE E w) : w.cell? ⟨3, 0, none⟩ = some (.iface (E 3).1 (E 3).2) := h.2.1
theorem GlE.g4 {w : World} (h : GlE E w) : w.cell? ⟨4, 0, none⟩ = some (.iface (E 4).1 (E 4).2) := h.2.2.1
theorem GlE.of {w W : World} (h : GlE E w) (hc : ∀ a v, w.cell? a = some v → W.cell? a = some v) : GlE E W := ⟨hc _ _ (GlE.g2 h), hc _ _ (GlE.g3 h), hc _ _ (GlE.g4 h), trivial⟩
theorem GlE.below {w W : World} (h : GlE E w) (hb : Below w.heap.size w W) : GlE E W := h.of fun a v hc => (hb.cell (World.block_lt_of_cell? w _ hc)).trans hc
theorem GlE.drew {w : World} (h : GlE E w) : GlE E w.drew := h
theorem GlE.drewN {w : World} (h : GlE E w) (n : Nat) : GlE E (w.drewN n) := h.below (pw_below_drewN (Below.refl _ _) n)
theorem GlE.alloc {w : World} (h : GlE E w) (o : Obj) : GlE E (w.alloc o) := h.below (below_alloc (Below.refl _ _) o)

theorem info5 : (Tryd.prog.info? 5).map (fun i => (i.zero, i.size, i.bytes)) = some (some (.int .u8 0), 1, 1) := by kernel_rfl
-- the values' own types

end Go.Proofs.YtnkioieocjgekaaDoor.GFnProtoField
