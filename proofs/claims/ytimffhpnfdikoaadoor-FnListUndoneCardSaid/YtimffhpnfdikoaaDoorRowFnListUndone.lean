/- The law FnListUndone: its row over what the walk shows, and its tied card. Written by a program of this session's. -/
import Derived.Test.YtimffhpnfdikoaaDoorRows
import Derived.Test.YtimffhpnfdikoaaDoorCards
import Derived.Test.YtimffhpnfdikoaaDoorTie
import Derived.Test.YtimffhpnfdikoaaDoorLsUb
import Derived.SevenTiedAt
import Derived.Stop.LaidErr
import Derived.LaidLaws
import Derived.LaidHandle
import Derived.ChangeVars
import Derived.WalkKit
import Derived.ProofKit
import Derived.OpenShut
import Derived.ShutString
import Derived.ChangeOld
import Derived.Below
import Derived.SizedLaws
namespace Go.Proofs.YtimffhpnfdikoaaDoor.fnListUndone
open Go.ChangeShapes Go.WideShapes Go.ChangeAt Go.RowKit Go.Proofs.YtimffhpnfdikoaaDoorW.PrintWords Go.Proofs.YtimffhpnfdikoaaDoorW.PrintLast Go.Proofs.YtimffhpnfdikoaaDoorW.PrintMore Go.Proofs.YtimffhpnfdikoaaDoor.GFnListKinds
open Go.ChangeMaps (open_string shut_string)
set_option linter.unusedVariables false
set_option linter.unusedSimpArgs false
theorem own : ownKnob Tryd.prog.godebug = none := by kernel_rfl
theorem laidOut : laidOutB Tryd.prog = true := by kernel_rfl
/-! The package's own variables, as their initialisers lay them. -/
noncomputable def low : Nat := (World.holding Tryd.prog default ⟨#[], #[], []⟩).heap.size
noncomputable def laidWorld (os : Os) : World :=
  let w0 := World.holding Tryd.prog os ⟨#[.cells #[.string { data := #[103, 115, 108, 58, 32, 105, 110, 118, 97, 108, 105, 100, 32, 115, 117, 98, 106, 101, 99, 116] }] 147, .cells #[.string { data := #[103, 115, 108, 58, 32, 110, 111, 32, 109, 97, 116, 99, 104, 101, 115, 32, 102, 111, 117, 110, 100] }] 147], #[], []⟩
  let w0 := { w0 with heap := w0.heap.modify 0 fun
      | .cells _ t frozen => .cells #[.iface 130 (.pointer (some ⟨low + 0, 0, none⟩))] t frozen
      | o => o }
  let w0 := { w0 with heap := w0.heap.modify 1 fun
      | .cells _ t frozen => .cells #[.iface 130 (.pointer (some ⟨low + 1, 0, none⟩))] t frozen
      | o => o }
  w0
set_option maxRecDepth 100000 in
theorem laid_met (os : Os) (args : Array Value) : laidMet Tryd.prog Rows.fnListUndoneRow.laid ((laidWorld os).forCall (fun _ _ => 0) ⟨#[], args, []⟩).memory :=
  laidMet_of_run (ps := [.cell 0 0, .cell (low + 0) 0, .cell 1 0, .cell (low + 1) 0]) 8 (by kernel_rfl) (by kernel_rfl) (by kernel_rfl)
theorem laidH (W : World) (h : laidMetH Tryd.prog Rows.fnListUndoneRow.laid W) : laidMet Tryd.prog Rows.fnListUndoneRow.laid W := h
theorem star : "*" ++ "errors.errorString" = "*errors.errorString" := by decide
theorem rowOf (u : TypeId) (h : Tryd.prog.typeName? 3 u = some "*errors.errorString") : u = 130 :=
  typeName_ptr_named (nm := "errors.errorString") (by rw [star]; kernel_rfl) (by kernel_rfl) (by decide) u (by rw [star]; exact h)
set_option maxRecDepth 100000 in
theorem lifted (os : Os) (started : os.Started) (H : Type) (enc : TypeId × Value → H) :
    ReturnsInHanded {} Tryd.checked os 6 .any (fun w args => (Rows.fnListUndoneSpec.pre enc Tryd.prog Tryd.f6 Rows.fnListUndoneRow.domain false w args ∧ laidMetH Tryd.prog Rows.fnListUndoneRow.laid w) ∧ sizedMet enc Tryd.prog Tryd.f6 (OpenSpec.ofChange Rows.fnListUndoneSpec) false w args) (Rows.fnListUndoneSpec.post enc Tryd.prog Tryd.f6 false true false false) := by
  refine returnsInHanded_of_change_and (C := Tryd.checked) (X := fun w _ => laidMetH Tryd.prog Rows.fnListUndoneRow.laid w) (fun _ _ _ hh h => h.of_heap hh) own started (by kernel_rfl) Tryd.func6
    (ChangeSpec.witness_at (enc := enc) (C := Tryd.checked) (os := os) (X := fun w _ => laidMetH Tryd.prog Rows.fnListUndoneRow.laid w) false (laidWorld os) #[.slice none 0 0, .slice none 0 0, .string ⟨#[]⟩] 8 rfl (by kernel_rfl) (by kernel_rfl) (by kernel_rfl) (by kernel_rfl) (by kernel_rfl) (laid_met os _)) ?_
  intro W base args ds gs before hval0 hW hcnd hsz0 hL _
  have hval : ∀ (j : Nat) t v, Tryd.f6.params[j]? = some t → args[j]? = some v → Value.okWide Tryd.prog W .any base t v := hval0
  have hW' := hW
  obtain ⟨p, q, hA0, hV, rfl, hfz, hnd⟩ := hW
  have hA : DataW.TrodAll enc Tryd.prog W 0 (fun _ => true) true Tryd.f6.params.toList args.toList ds p := hA0
  rw [Tryd.params6] at hA hval
  obtain ⟨v0, vs0, d0, ds0, p0, q0, hargs, rfl, rfl, h0, r0⟩ := trodAll_cons hA
  obtain ⟨v1, vs1, d1, ds1, p1, q1, rfl, rfl, rfl, h1, r1⟩ := trodAll_cons r0
  obtain ⟨v2, vs2, d2, ds2, p2, q2, rfl, rfl, rfl, h2, r2⟩ := trodAll_cons r1
  obtain ⟨rfl, rfl, rfl⟩ := trodAll_nil r2
  obtain rfl : args = #[v0, v1, v2] := by cases args; simp_all
  obtain ⟨rfl, rfl⟩ := trodVars_none hV
  have k0 := h0
  have lt0 : ∀ x ∈ p0, x.block < W.heap.size := by obtain ⟨m, hm⟩ := k0; exact DataW.trod_lt m _ _ _ hm
  obtain ⟨a0, len0, cap0, rfl⟩ := okWide_slice Tryd.underlying22 (hval 0 22 v0 rfl rfl)
  obtain ⟨T0, hl0, hc0, hT0, hU0⟩ : ∃ T : List S46, T.length = len0 ∧ T.length ≤ cap0 ∧ Kd.C k46 W a0 T.length T ∧ ∀ t ∈ T, (Lit.int .i64 t.f2).wf = true := by
    obtain ⟨fuel, hf⟩ := h0
    exact Ls.deeds_of_trod hf
  subst hl0
  have k1 := h1
  have lt1 : ∀ x ∈ p1, x.block < W.heap.size := by obtain ⟨m, hm⟩ := k1; exact DataW.trod_lt m _ _ _ hm
  obtain ⟨a1, len1, cap1, rfl⟩ := okWide_slice Tryd.underlying22 (hval 1 22 v1 rfl rfl)
  obtain ⟨T1, hl1, hc1, hT1, hU1⟩ : ∃ T : List S46, T.length = len1 ∧ T.length ≤ cap1 ∧ Kd.C k46 W a1 T.length T ∧ ∀ t ∈ T, (Lit.int .i64 t.f2).wf = true := by
    obtain ⟨fuel, hf⟩ := h1
    exact Ls.deeds_of_trod hf
  subst hl1
  have k2 := h2
  have lt2 : ∀ x ∈ p2, x.block < W.heap.size := by obtain ⟨m, hm⟩ := k2; exact DataW.trod_lt m _ _ _ hm
  obtain ⟨s2, rfl⟩ := okWide_string Tryd.underlying9 (hval 2 9 v2 rfl rfl)
  obtain ⟨ga0, gs0, gv0, gz0, -, -⟩ := laid_sentinel (laidH W hL) (show Tryd.prog.globalNamed "pub-tokenroad/pub/natsserver/server/gsl.ErrInvalidSubject" = some 0 by kernel_rfl) (show (Tryd.prog.globals[0]?).map (·.type) = some 66 by kernel_rfl) Tryd.underlying66 rowOf Tryd.underlying130 Tryd.underlying147 rfl rfl Tryd.underlying9 (by kernel_rfl) (by kernel_rfl)
  have gc0 : W.cell? ⟨0, 0, none⟩ = some (.iface 130 (.pointer (some ga0))) := by simpa using World.var?_cell (show Tryd.prog.globalNamed "pub-tokenroad/pub/natsserver/server/gsl.ErrInvalidSubject" = some 0 by kernel_rfl) gv0 0
  obtain ⟨ga1, gs1, gv1, gz1, -, -⟩ := laid_sentinel ((laidH W hL)).tail (show Tryd.prog.globalNamed "pub-tokenroad/pub/natsserver/server/gsl.ErrNotFound" = some 1 by kernel_rfl) (show (Tryd.prog.globals[1]?).map (·.type) = some 66 by kernel_rfl) Tryd.underlying66 rowOf Tryd.underlying130 Tryd.underlying147 rfl rfl Tryd.underlying9 (by kernel_rfl) (by kernel_rfl)
  have gc1 : W.cell? ⟨1, 0, none⟩ = some (.iface 130 (.pointer (some ga1))) := by simpa using World.var?_cell (show Tryd.prog.globalNamed "pub-tokenroad/pub/natsserver/server/gsl.ErrNotFound" = some 1 by kernel_rfl) gv1 0
  clear hA0 hval0 hsz0
  have hgl : Ls.GlL W := ⟨⟨_, _, gc0⟩, ⟨_, _, gc1⟩⟩
  refine (Ls.undone_row (s := s2) hT0 hU0 hc0 hT1 hU1 hc1 hgl).mono fun e W' ⟨he, bel⟩ => ?_
  subst he
  exact ⟨_, rfl, _, _, _, [], _, [], hW', trodAll_mk1 (shut_bool Tryd.underlying4 _), (trodAll_cons_mk (Below.trod laidOut (by kernel_rfl) (of_decide_eq_true (by kernel_rfl)) k0 bel lt0) (trodAll_cons_mk (Below.trod laidOut (by kernel_rfl) (of_decide_eq_true (by kernel_rfl)) k1 bel lt1) (trodAll_cons_mk (Below.trod laidOut (by kernel_rfl) (of_decide_eq_true (by kernel_rfl)) k2 bel lt2) trodAll_mk0))), rfl, bel.frame _, fun h => by cases h⟩
theorem over : Rows.fnListUndoneRow.holds Tryd.pinned (OpenSpec.ofChange Rows.fnListUndoneSpec) :=
  OpenClaim.holds_of_wide 6 Tryd.f6 rfl rfl rfl rfl rfl rfl rfl ⟨rfl, rfl, rfl, rfl, rfl⟩ rfl rfl rfl rfl rfl (by kernel_rfl) Tryd.func6 (by kernel_rfl)
    (of_decide_eq_true (by kernel_rfl)) (by unfold Func.isWrapper; first | (rw [if_pos (by decide +kernel)]; kernel_rfl) | (rw [if_neg (by decide +kernel)]; exact ⟨rfl, rfl⟩))
    (fun os started H enc _ => lifted os started H enc)
theorem proved : Rows.FnListUndoneSaid := over
end Go.Proofs.YtimffhpnfdikoaaDoor.fnListUndone
namespace Go.Proofs.YtimffhpnfdikoaaDoor
/-- The tied card. -/
theorem fnListUndoneCard_holds : Rows.FnListUndoneCardSaid :=
  Claim7.holds_tied_plain_at .later [] [.sentinel, .sentinel] true (true, "87d212a22fa9de14b632e075fc5275e8dfca0ef469ee8ef33138b42c7cad120f") false
    fnListUndone.proved (fun _ h => by cases h) (by kernel_rfl) (fun _ h => by cases h) fnListUndone_row_tie rfl ⟨rfl, rfl⟩ (by kernel_rfl) rfl
    (fun f fn hf hfn => by
      obtain rfl : f = 6 := Option.some.inj ((show Tryd.prog.funcNamed "pub-tokenroad/laws.FnListUndone" = some 6 by kernel_rfl).symm.trans hf) |>.symm
      obtain rfl : fn = Tryd.f6 := (Option.some.inj (Tryd.func6.symm.trans hfn)).symm
      exact ⟨by kernel_rfl, fun j t ht => by
        rw [Tryd.params6] at ht
        have h3 : t = 9 ∨ t = 22 := by
          rcases j with _ | _ | _ | j
          · first | (simpa using ht.symm) | (simp at ht; subst ht; simp)
          · first | (simpa using ht.symm) | (simp at ht; subst ht; simp)
          · first | (simpa using ht.symm) | (simp at ht; subst ht; simp)
          · simp at ht
        rcases h3 with rfl | rfl
        · exact (show Tryd.prog.wantsStandIn 9 = false by kernel_rfl)
        · exact (show Tryd.prog.wantsStandIn 22 = false by kernel_rfl)⟩)
    (by kernel_rfl)
#print axioms fnListUndoneCard_holds
end Go.Proofs.YtimffhpnfdikoaaDoor
