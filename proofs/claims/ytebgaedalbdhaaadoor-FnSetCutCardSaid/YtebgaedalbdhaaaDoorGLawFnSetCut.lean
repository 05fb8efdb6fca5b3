/- The law FnSetCut: its row over what the library's own variables hold, and its card. Written by a program of this session's. -/
import Derived.Test.YtebgaedalbdhaaaDoorRows
import Derived.Test.YtebgaedalbdhaaaDoorCards
import Derived.Test.YtebgaedalbdhaaaDoorTie
import Derived.Test.YtebgaedalbdhaaaDoorSaU
import Derived.Test.YtebgaedalbdhaaaDoorSaL
import Derived.SevenTiedAt
import Derived.Stop.LaidErr
import Derived.LaidLaws
import Derived.LaidHandle
import Derived.ChangeVars
import Derived.WalkKit
import Derived.ProofKit
import Derived.OpenShut
import Derived.ShutString
import Derived.ChangeOld
import Derived.Below
import Derived.SizedLaws
import Derived.Test.YtebgaedalbdhaaaDoorWSized
namespace Go.Proofs.YtebgaedalbdhaaaDoor.fnSetCut
open Go.ChangeShapes Go.WideShapes Go.ChangeAt Go.RowKit
set_option linter.unusedVariables false
theorem own : ownKnob Tryd.prog.godebug = none := by kernel_rfl
theorem laidOut : laidOutB Tryd.prog = true := by kernel_rfl
/-! The package's own variables, as their initialisers lay them. -/
noncomputable def low : Nat := (World.holding Tryd.prog default ⟨#[], #[], []⟩).heap.size
noncomputable def laidWorld (os : Os) : World :=
  let w0 := World.holding Tryd.prog os ⟨#[.cells #[.string { data := #[115, 115, 58, 32, 98, 97, 100, 32, 101, 110, 99, 111, 100, 105, 110, 103] }] 123, .cells #[.string { data := #[115, 115, 58, 32, 98, 97, 100, 32, 118, 101, 114, 115, 105, 111, 110] }] 123], #[], []⟩
  let w0 := { w0 with heap := w0.heap.modify 4 fun
      | .cells _ t frozen => .cells (Av.tab64.map (Value.int .u8)).toArray t frozen
      | o => o }
  let w0 := { w0 with heap := w0.heap.modify 2 fun
      | .cells _ t frozen => .cells #[.iface 106 (.pointer (some ⟨low + 0, 0, none⟩))] t frozen
      | o => o }
  let w0 := { w0 with heap := w0.heap.modify 3 fun
      | .cells _ t frozen => .cells #[.iface 106 (.pointer (some ⟨low + 1, 0, none⟩))] t frozen
      | o => o }
  w0
set_option maxRecDepth 100000 in
theorem laid_met (os : Os) (args : Array Value) : laidMet Tryd.prog Rows.fnSetCutRow.laid ((laidWorld os).forCall (fun _ _ => 0) ⟨#[], args, []⟩).memory :=
  laidMet_of_run (ps := [.cell 4 0, .cell 4 1, .cell 4 2, .cell 4 3, .cell 4 4, .cell 4 5, .cell 4 6, .cell 4 7, .cell 4 8, .cell 4 9, .cell 4 10, .cell 4 11, .cell 4 12, .cell 4 13, .cell 4 14, .cell 4 15, .cell 4 16, .cell 4 17, .cell 4 18, .cell 4 19, .cell 4 20, .cell 4 21, .cell 4 22, .cell 4 23, .cell 4 24, .cell 4 25, .cell 4 26, .cell 4 27, .cell 4 28, .cell 4 29, .cell 4 30, .cell 4 31, .cell 4 32, .cell 4 33, .cell 4 34, .cell 4 35, .cell 4 36, .cell 4 37, .cell 4 38, .cell 4 39, .cell 4 40, .cell 4 41, .cell 4 42, .cell 4 43, .cell 4 44, .cell 4 45, .cell 4 46, .cell 4 47, .cell 4 48, .cell 4 49, .cell 4 50, .cell 4 51, .cell 4 52, .cell 4 53, .cell 4 54, .cell 4 55, .cell 4 56, .cell 4 57, .cell 4 58, .cell 4 59, .cell 4 60, .cell 4 61, .cell 4 62, .cell 4 63, .cell 2 0, .cell (low + 0) 0, .cell 3 0, .cell (low + 1) 0]) 8 (by kernel_rfl) (by kernel_rfl) (by kernel_rfl)
theorem laidH (W : World) (h : laidMetH Tryd.prog Rows.fnSetCutRow.laid W) : laidMet Tryd.prog Rows.fnSetCutRow.laid W := h
set_option maxRecDepth 100000 in
theorem laidT (W : World) (h : laidMetH Tryd.prog Rows.fnSetCutRow.laid W) : Av.TabAt W := Av.tab_of_laid (laidH W h)
theorem star : "*" ++ "errors.errorString" = "*errors.errorString" := by decide
theorem rowOf (u : TypeId) (h : Tryd.prog.typeName? 3 u = some "*errors.errorString") : u = 106 :=
  typeName_ptr_named (nm := "errors.errorString") (by rw [star]; kernel_rfl) (by kernel_rfl) (by decide) u (by rw [star]; exact h)
set_option maxRecDepth 100000 in
theorem lifted (os : Os) (started : os.Started) (H : Type) (enc : TypeId × Value → H) :
    ReturnsInHanded {} Tryd.checked os 11 .any (fun w args => (Rows.fnSetCutSpec.pre enc Tryd.prog Tryd.f11 Rows.fnSetCutRow.domain false w args ∧ laidMetH Tryd.prog Rows.fnSetCutRow.laid w) ∧ sizedMet enc Tryd.prog Tryd.f11 (OpenSpec.ofChange Rows.fnSetCutSpec) false w args) (Rows.fnSetCutSpec.post enc Tryd.prog Tryd.f11 false true false false) := by
  refine returnsInHanded_of_change_and (C := Tryd.checked) (X := fun w _ => laidMetH Tryd.prog Rows.fnSetCutRow.laid w) (fun _ _ _ hh h => h.of_heap hh) own started (by kernel_rfl) Tryd.func11
    (ChangeSpec.witness_at (enc := enc) (C := Tryd.checked) (os := os) (X := fun w _ => laidMetH Tryd.prog Rows.fnSetCutRow.laid w) false (laidWorld os) #[.slice none 0 0, .int .i64 0] 8 rfl (by kernel_rfl) (by kernel_rfl) (by kernel_rfl) (by kernel_rfl) (by kernel_rfl) (laid_met os _)) ?_
  intro W base args ds gs before hval0 hW hcnd hsz0 hL _
  have hval : ∀ (j : Nat) t v, Tryd.f11.params[j]? = some t → args[j]? = some v → Value.okWide Tryd.prog W .any base t v := hval0
  have hW' := hW
  obtain ⟨p, q, hA0, hV, rfl, hfz, hnd⟩ := hW
  have hA : DataW.TrodAll enc Tryd.prog W 0 (fun _ => true) true Tryd.f11.params.toList args.toList ds p := hA0
  rw [Tryd.params11] at hA hval
  obtain ⟨v0, vs0, d0, ds0, p0, q0, hargs, rfl, rfl, h0, r0⟩ := trodAll_cons hA
  obtain ⟨v1, vs1, d1, ds1, p1, q1, rfl, rfl, rfl, h1, r1⟩ := trodAll_cons r0
  obtain ⟨rfl, rfl, rfl⟩ := trodAll_nil r1
  obtain rfl : args = #[v0, v1] := by cases args; simp_all
  obtain ⟨rfl, rfl⟩ := trodVars_none hV
  obtain ⟨a0, len0, cap0, rfl⟩ := okWide_slice Tryd.underlying22 (hval 0 22 v0 rfl rfl)
  have k0 := h0
  have lt0 : ∀ x ∈ p0, x.block < W.heap.size := by obtain ⟨m, hm⟩ := k0; exact DataW.trod_lt m _ _ _ hm
  obtain ⟨acts0, rfl, ha0, hp0, hn0⟩ : ∃ acts : List Av.Deed, acts.length = len0 ∧ Av.ActsR W a0 acts ∧ (∀ p ∈ acts, 0 ≤ p.2) ∧ acts.length ≤ maxLen := by
    obtain ⟨fuel, hf⟩ := h0
    exact Av.acts_of_trod hf
  obtain ⟨a1, rfl, rfl, rfl, w1⟩ := open_int Tryd.underlying3 (hval 1 3 v1 rfl rfl) h1
  obtain ⟨ga2, gs2, gv2, -, -, -⟩ := laid_sentinel ((laidH W hL)).tail (show Tryd.prog.globalNamed "pub-tokenroad/pub/natsserver/server/avl.ErrBadEncoding" = some 2 by kernel_rfl) (show (Tryd.prog.globals[2]?).map (·.type) = some 68 by kernel_rfl) Tryd.underlying68 rowOf Tryd.underlying106 Tryd.underlying123 rfl rfl Tryd.underlying9 (by kernel_rfl) (by kernel_rfl)
  have gc2 : W.cell? ⟨2, 0, none⟩ = some (.iface 106 (.pointer (some ga2))) := by simpa using World.var?_cell (show Tryd.prog.globalNamed "pub-tokenroad/pub/natsserver/server/avl.ErrBadEncoding" = some 2 by kernel_rfl) gv2 0
  obtain ⟨ga3, gs3, gv3, -, -, -⟩ := laid_sentinel (((laidH W hL)).tail).tail (show Tryd.prog.globalNamed "pub-tokenroad/pub/natsserver/server/avl.ErrBadVersion" = some 3 by kernel_rfl) (show (Tryd.prog.globals[3]?).map (·.type) = some 68 by kernel_rfl) Tryd.underlying68 rowOf Tryd.underlying106 Tryd.underlying123 rfl rfl Tryd.underlying9 (by kernel_rfl) (by kernel_rfl)
  have gc3 : W.cell? ⟨3, 0, none⟩ = some (.iface 106 (.pointer (some ga3))) := by simpa using World.var?_cell (show Tryd.prog.globalNamed "pub-tokenroad/pub/natsserver/server/avl.ErrBadVersion" = some 3 by kernel_rfl) gv3 0
  clear hA0 hval0 hsz0
  refine (Av.cut_law a1 ha0 hp0 hn0 w1 (laidT W hL) gc2 gc3).mono fun e W' ⟨he, hfr⟩ => ?_
  have bel := hfr.below
  subst he
  exact ⟨_, rfl, _, _, _, [], _, [], hW', trodAll_mk1 (shut_bool Tryd.underlying4 _), (trodAll_cons_mk (Below.trod laidOut (by kernel_rfl) (of_decide_eq_true (by kernel_rfl)) k0 bel lt0) (trodAll_cons_mk (shut_int Tryd.underlying3 w1) trodAll_mk0)), rfl, bel.frame _, fun h => by cases h⟩
theorem over : Rows.fnSetCutRow.holds Tryd.pinned (OpenSpec.ofChange Rows.fnSetCutSpec) :=
  OpenClaim.holds_of_wide 11 Tryd.f11 rfl rfl rfl rfl rfl rfl rfl ⟨rfl, rfl, rfl, rfl, rfl⟩ rfl rfl rfl rfl rfl (by kernel_rfl) Tryd.func11 (by kernel_rfl)
    (of_decide_eq_true (by kernel_rfl)) (by unfold Func.isWrapper; first | (rw [if_pos (by decide +kernel)]; kernel_rfl) | (rw [if_neg (by decide +kernel)]; exact ⟨rfl, rfl⟩))
    (fun os started H enc _ => lifted os started H enc)
theorem proved : Rows.FnSetCutSaid := over
#print axioms proved
end Go.Proofs.YtebgaedalbdhaaaDoor.fnSetCut
namespace Go.Proofs.YtebgaedalbdhaaaDoor
/-- The tied card. -/
theorem fnSetCutCard_holds : Rows.FnSetCutCardSaid :=
  Claim7.holds_tied_plain_at .later [] [.data, .sentinel, .sentinel] true (true, "4d439b6b1072e9b65b6c52d901d07de79f1471f9e54d79262febaef2c4ccab7f") false
    fnSetCut.proved (fun _ h => by cases h) (by kernel_rfl) (fun _ h => by cases h) fnSetCut_row_tie rfl ⟨rfl, rfl⟩ (by kernel_rfl) rfl
    (fun f fn hf hfn => by
      obtain rfl : f = 11 := Option.some.inj ((show Tryd.prog.funcNamed "pub-tokenroad/laws.FnSetCut" = some 11 by kernel_rfl).symm.trans hf) |>.symm
      obtain rfl : fn = Tryd.f11 := (Option.some.inj (Tryd.func11.symm.trans hfn)).symm
      exact ⟨by kernel_rfl, fun j t ht => by
        rw [Tryd.params11] at ht
        have h3 : t = 3 ∨ t = 22 := by
          rcases j with _ | _ | j
          · first | (simpa using ht.symm) | (simp at ht; subst ht; simp)
          · first | (simpa using ht.symm) | (simp at ht; subst ht; simp)
          · simp at ht
        rcases h3 with rfl | rfl
        · exact (show Tryd.prog.wantsStandIn 3 = false by kernel_rfl)
        · exact (show Tryd.prog.wantsStandIn 22 = false by kernel_rfl)⟩)
    (by kernel_rfl)
#print axioms fnSetCutCard_holds
end Go.Proofs.YtebgaedalbdhaaaDoor
