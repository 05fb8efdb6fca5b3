/- The law FnTransform: its row over what the walk shows, and its tied card. Written by a program of this session's. -/
import Derived.Test.YtoopmpjgmgffoaaDoorRows
import Derived.Test.YtoopmpjgmgffoaaDoorCards
import Derived.Test.YtoopmpjgmgffoaaDoorTie
import Derived.Test.YtoopmpjgmgffoaaDoorTrN
import Derived.SevenTiedAt
import Derived.Stop.LaidErr
import Derived.LaidLaws
import Derived.LaidHandle
import Derived.ChangeVars
import Derived.WalkKit
import Derived.ProofKit
import Derived.OpenShut
import Derived.ShutString
import Derived.ChangeOld
import Derived.Below
import Derived.SizedLaws
import Derived.Deep.DeepLaidRun
namespace Go.Proofs.YtoopmpjgmgffoaaDoor.fnTransform
open Go.ChangeShapes Go.WideShapes Go.ChangeAt Go.RowKit Go.Proofs.YtoopmpjgmgffoaaDoorW.PrintWords Go.Proofs.YtoopmpjgmgffoaaDoorW.PrintLast Go.Proofs.YtoopmpjgmgffoaaDoorW.PrintMore Go.Proofs.YtoopmpjgmgffoaaDoor.GFnTransformBack
open Go.ChangeMaps (open_string shut_string)
set_option linter.unusedVariables false
set_option linter.unusedSimpArgs false
theorem own : ownKnob Tryd.prog.godebug = none := by kernel_rfl
theorem laidOut : laidOutB Tryd.prog = true := by kernel_rfl
noncomputable def low : Nat := (World.holding Tryd.prog default ⟨#[], #[], []⟩).heap.size
noncomputable def laidWorld (os : Os) : World :=
 let w0 := World.holding Tryd.prog os ⟨#[.cells #[.string { data := #[105, 110, 118, 97, 108, 105, 100, 32, 115, 117, 98, 106, 101, 99, 116] }] 143, .cells #[.string { data := #[110, 111, 32, 109, 97, 116, 99, 104, 105, 110, 103, 32, 116, 114, 97, 110, 115, 102, 111, 114, 109, 115, 32, 97, 118, 97, 105, 108, 97, 98, 108, 101] }] 143], #[], []⟩
 let w0 := { w0 with heap := w0.heap.modify 0 fun
   | .cells _ t frozen => .cells #[.iface 126 (.pointer (some ⟨low + 0, 0, none⟩))] t frozen
   | o => o }
 let w0 := { w0 with heap := w0.heap.modify 1 fun
   | .cells _ t frozen => .cells #[.iface 126 (.pointer (some ⟨low + 1, 0, none⟩))] t frozen
   | o => o }
 let w0 := { w0 with heap := w0.heap.modify 4 fun
   | .cells _ t frozen => .cells #[Value.int IntKind.u8 0, Value.int IntKind.u8 1, Value.int IntKind.u8 28, Value.int IntKind.u8 2, Value.int IntKind.u8 29, Value.int IntKind.u8 14, Value.int IntKind.u8 24, Value.int IntKind.u8 3, Value.int IntKind.u8 30, Value.int IntKind.u8 22, Value.int IntKind.u8 20, Value.int IntKind.u8 15, Value.int IntKind.u8 25, Value.int IntKind.u8 17, Value.int IntKind.u8 4, Value.int IntKind.u8 8, Value.int IntKind.u8 31, Value.int IntKind.u8 27, Value.int IntKind.u8 13, Value.int IntKind.u8 23, Value.int IntKind.u8 21, Value.int IntKind.u8 19, Value.int IntKind.u8 16, Value.int IntKind.u8 7, Value.int IntKind.u8 26, Value.int IntKind.u8 12, Value.int IntKind.u8 18, Value.int IntKind.u8 6, Value.int IntKind.u8 11, Value.int IntKind.u8 5, Value.int IntKind.u8 10, Value.int IntKind.u8 9] t frozen
   | o => o }
 let w0 := { w0 with heap := w0.heap.modify 5 fun
   | .cells _ t frozen => .cells #[Value.int IntKind.u8 0, Value.int IntKind.u8 1, Value.int IntKind.u8 56, Value.int IntKind.u8 2, Value.int IntKind.u8 57, Value.int IntKind.u8 49, Value.int IntKind.u8 28, Value.int IntKind.u8 3, Value.int IntKind.u8 61, Value.int IntKind.u8 58, Value.int IntKind.u8 42, Value.int IntKind.u8 50, Value.int IntKind.u8 38, Value.int IntKind.u8 29, Value.int IntKind.u8 17, Value.int IntKind.u8 4, Value.int IntKind.u8 62, Value.int IntKind.u8 47, Value.int IntKind.u8 59, Value.int IntKind.u8 36, Value.int IntKind.u8 45, Value.int IntKind.u8 43, Value.int IntKind.u8 51, Value.int IntKind.u8 22, Value.int IntKind.u8 53, Value.int IntKind.u8 39, Value.int IntKind.u8 33, Value.int IntKind.u8 30, Value.int IntKind.u8 24, Value.int IntKind.u8 18, Value.int IntKind.u8 12, Value.int IntKind.u8 5, Value.int IntKind.u8 63, Value.int IntKind.u8 55, Value.int IntKind.u8 48, Value.int IntKind.u8 27, Value.int IntKind.u8 60, Value.int IntKind.u8 41, Value.int IntKind.u8 37, Value.int IntKind.u8 16, Value.int IntKind.u8 46, Value.int IntKind.u8 35, Value.int IntKind.u8 44, Value.int IntKind.u8 21, Value.int IntKind.u8 52, Value.int IntKind.u8 32, Value.int IntKind.u8 23, Value.int IntKind.u8 11, Value.int IntKind.u8 54, Value.int IntKind.u8 26, Value.int IntKind.u8 40, Value.int IntKind.u8 15, Value.int IntKind.u8 34, Value.int IntKind.u8 20, Value.int IntKind.u8 31, Value.int IntKind.u8 10, Value.int IntKind.u8 25, Value.int IntKind.u8 14, Value.int IntKind.u8 19, Value.int IntKind.u8 9, Value.int IntKind.u8 13, Value.int IntKind.u8 8, Value.int IntKind.u8 7, Value.int IntKind.u8 6] t frozen
   | o => o }
 let w0 := { w0 with heap := w0.heap.modify 3 fun
   | .cells _ t frozen => .cells #[Value.int IntKind.u64 1, Value.int IntKind.u64 10, Value.int IntKind.u64 100, Value.int IntKind.u64 1000, Value.int IntKind.u64 10000, Value.int IntKind.u64 100000, Value.int IntKind.u64 1000000, Value.int IntKind.u64 10000000, Value.int IntKind.u64 100000000, Value.int IntKind.u64 1000000000, Value.int IntKind.u64 10000000000, Value.int IntKind.u64 100000000000, Value.int IntKind.u64 1000000000000, Value.int IntKind.u64 10000000000000, Value.int IntKind.u64 100000000000000, Value.int IntKind.u64 1000000000000000, Value.int IntKind.u64 10000000000000000, Value.int IntKind.u64 100000000000000000, Value.int IntKind.u64 1000000000000000000, Value.int IntKind.u64 10000000000000000000] t frozen
   | o => o }
 w0
set_option maxRecDepth 100000 in
theorem laid_met (os : Os) (args : Array Value) : laidMet Tryd.prog Rows.fnTransformRow.laid ((laidWorld os).forCall (fun _ _ => 0) ⟨#[], args, []⟩).memory :=
 laidMet_of_run3 8 (by kernel_rfl) (by kernel_rfl) (by kernel_rfl)
theorem laidH (W : World) (h : laidMetH Tryd.prog Rows.fnTransformRow.laid W) : laidMet Tryd.prog Rows.fnTransformRow.laid W := h
theorem star : "*" ++ "errors.errorString" = "*errors.errorString" := by decide
theorem rowOf (u : TypeId) (h : Tryd.prog.typeName? 3 u = some "*errors.errorString") : u = 126 :=
 typeName_ptr_named (nm := "errors.errorString") (by rw [star]; kernel_rfl) (by kernel_rfl) (by decide) u (by rw [star]; exact h)
set_option maxRecDepth 100000 in
theorem lifted (os : Os) (started : os.Started) (H : Type) (enc : TypeId × Value → H) :
  ReturnsInHanded {} Tryd.checked os 3 .any (fun w args => (Rows.fnTransformSpec.pre enc Tryd.prog Tryd.f3 Rows.fnTransformRow.domain false w args ∧ laidMetH Tryd.prog Rows.fnTransformRow.laid w) ∧ sizedMet enc Tryd.prog Tryd.f3 (OpenSpec.ofChange Rows.fnTransformSpec) false w args) (Rows.fnTransformSpec.post enc Tryd.prog Tryd.f3 false true false false) := by
 refine returnsInHanded_of_change_and (C := Tryd.checked) (X := fun w _ => laidMetH Tryd.prog Rows.fnTransformRow.laid w) (fun _ _ _ hh h => h.of_heap hh) own started (by kernel_rfl) Tryd.func3
  (ChangeSpec.witness_at (enc := enc) (C := Tryd.checked) (os := os) (X := fun w _ => laidMetH Tryd.prog Rows.fnTransformRow.laid w) false (laidWorld os) #[.string ⟨#[]⟩, .slice none 0 0, .string ⟨#[]⟩] 8 rfl (by kernel_rfl) (by kernel_rfl) (by kernel_rfl) (by kernel_rfl) (by kernel_rfl) (laid_met os _)) ?_
 intro W base args ds gs before hval0 hW hcnd hsz0 hL _
 have hval : ∀ (j : Nat) t v, Tryd.f3.params[j]? = some t → args[j]? = some v → Value.okWide Tryd.prog W .any base t v := hval0
 have hW' := hW
 obtain ⟨p, q, hA0, hV, rfl, hfz, hnd⟩ := hW
 have hA : DataW.TrodAll enc Tryd.prog W 0 (fun _ => true) true Tryd.f3.params.toList args.toList ds p := hA0
 rw [Tryd.params3] at hA hval
 obtain ⟨v0, vs0, d0, ds0, p0, q0, hargs, rfl, rfl, h0, r0⟩ := trodAll_cons hA
 obtain ⟨v1, vs1, d1, ds1, p1, q1, rfl, rfl, rfl, h1, r1⟩ := trodAll_cons r0
 obtain ⟨v2, vs2, d2, ds2, p2, q2, rfl, rfl, rfl, h2, r2⟩ := trodAll_cons r1
 obtain ⟨rfl, rfl, rfl⟩ := trodAll_nil r2
 obtain rfl : args = #[v0, v1, v2] := by cases args; simp_all
 obtain ⟨rfl, rfl⟩ := trodVars_none hV
 have k0 := h0
 have lt0 : ∀ x ∈ p0, x.block < W.heap.size := by obtain ⟨m, hm⟩ := k0; exact DataW.trod_lt m _ _ _ hm
 obtain ⟨s0, rfl⟩ := okWide_string Tryd.underlying9 (hval 0 9 v0 rfl rfl)
 have k1 := h1
 have lt1 : ∀ x ∈ p1, x.block < W.heap.size := by obtain ⟨m, hm⟩ := k1; exact DataW.trod_lt m _ _ _ hm
 obtain ⟨a1, len1, cap1, rfl⟩ := okWide_slice Tryd.underlying22 (hval 1 22 v1 rfl rfl)
 obtain ⟨T1, hl1, hc1, hT1⟩ : ∃ T : List S42, T.length = len1 ∧ T.length ≤ cap1 ∧ Kd.C k42 W a1 T.length T := by
  obtain ⟨fuel, hf⟩ := h1
  exact Tr.parts_of_trod hf
 subst hl1
 have k2 := h2
 have lt2 : ∀ x ∈ p2, x.block < W.heap.size := by obtain ⟨m, hm⟩ := k2; exact DataW.trod_lt m _ _ _ hm
 obtain ⟨s2, rfl⟩ := okWide_string Tryd.underlying9 (hval 2 9 v2 rfl rfl)
 obtain ⟨ga0, gs0, gv0, gz0, -, -⟩ := laid_sentinel ((((laidH W hL)).tail).tail).tail (show Tryd.prog.globalNamed "pub-tokenroad/pub/natsserver/server.ErrBadSubject" = some 0 by kernel_rfl) (show (Tryd.prog.globals[0]?).map (·.type) = some 46 by kernel_rfl) Tryd.underlying46 rowOf Tryd.underlying126 Tryd.underlying143 rfl rfl Tryd.underlying9 (by kernel_rfl) (by kernel_rfl)
 have gc0 : W.cell? ⟨0, 0, none⟩ = some (.iface 126 (.pointer (some ga0))) := by simpa using World.var?_cell (show Tryd.prog.globalNamed "pub-tokenroad/pub/natsserver/server.ErrBadSubject" = some 0 by kernel_rfl) gv0 0
 obtain ⟨ga1, gs1, gv1, gz1, -, -⟩ := laid_sentinel (((((laidH W hL)).tail).tail).tail).tail (show Tryd.prog.globalNamed "pub-tokenroad/pub/natsserver/server.ErrNoTransforms" = some 1 by kernel_rfl) (show (Tryd.prog.globals[1]?).map (·.type) = some 46 by kernel_rfl) Tryd.underlying46 rowOf Tryd.underlying126 Tryd.underlying143 rfl rfl Tryd.underlying9 (by kernel_rfl) (by kernel_rfl)
 have gc1 : W.cell? ⟨1, 0, none⟩ = some (.iface 126 (.pointer (some ga1))) := by simpa using World.var?_cell (show Tryd.prog.globalNamed "pub-tokenroad/pub/natsserver/server.ErrNoTransforms" = some 1 by kernel_rfl) gv1 0
 clear hA0 hval0 hsz0
 have hgl : Tr.GlT W := ⟨⟨_, _, gc1⟩⟩
 refine (Tr.transform_row (s0 := s0) (s2 := s2) hT1 hc1 hgl).mono fun e W' ⟨he, bel⟩ => ?_
 subst he
 exact ⟨_, rfl, _, _, _, [], _, [], hW', trodAll_mk1 (shut_bool Tryd.underlying4 _), (trodAll_cons_mk (Below.trod laidOut (by kernel_rfl) (of_decide_eq_true (by kernel_rfl)) k0 bel lt0) (trodAll_cons_mk (Below.trod laidOut (by kernel_rfl) (of_decide_eq_true (by kernel_rfl)) k1 bel lt1) (trodAll_cons_mk (Below.trod laidOut (by kernel_rfl) (of_decide_eq_true (by kernel_rfl)) k2 bel lt2) trodAll_mk0))), rfl, bel.frame _, fun h => by cases h⟩
theorem over : Rows.fnTransformRow.holds Tryd.pinned (OpenSpec.ofChange Rows.fnTransformSpec) :=
 OpenClaim.holds_of_wide 3 Tryd.f3 rfl rfl rfl rfl rfl rfl rfl ⟨rfl, rfl, rfl, rfl, rfl⟩ rfl rfl rfl rfl rfl (by kernel_rfl) Tryd.func3 (by kernel_rfl)
  (of_decide_eq_true (by kernel_rfl)) (by unfold Func.isWrapper; first | (rw [if_pos (by decide +kernel)]; kernel_rfl) | (rw [if_neg (by decide +kernel)]; exact ⟨rfl, rfl⟩))
  (fun os started H enc _ => lifted os started H enc)
theorem proved : Rows.FnTransformSaid := over
end Go.Proofs.YtoopmpjgmgffoaaDoor.fnTransform
namespace Go.Proofs.YtoopmpjgmgffoaaDoor
theorem fnTransformCard_holds : Rows.FnTransformCardSaid :=
 Claim7.holds_tied_plain_at .later [] [.data, .data, .data, .sentinel, .sentinel] true (true, "44d7a429251d7de1ead946bd6a1df9773c13a55d4cd4ba2af1a2c502aed509a0") false
  fnTransform.proved (fun _ h => by cases h) (by kernel_rfl) (fun _ h => by cases h) fnTransform_row_tie rfl ⟨rfl, rfl⟩ (by kernel_rfl) rfl
  (fun f fn hf hfn => by
   obtain rfl : f = 3 := Option.some.inj ((show Tryd.prog.funcNamed "pub-tokenroad/laws.FnTransform" = some 3 by kernel_rfl).symm.trans hf) |>.symm
   obtain rfl : fn = Tryd.f3 := (Option.some.inj (Tryd.func3.symm.trans hfn)).symm
   exact ⟨by kernel_rfl, fun j t ht => by
    rw [Tryd.params3] at ht
    have h3 : t = 9 ∨ t = 22 := by
     rcases j with _ | _ | _ | j
     ·
      first | (simpa using ht.symm) | (simp at ht; subst ht; simp)
     ·
      first | (simpa using ht.symm) | (simp at ht; subst ht; simp)
     ·
      first | (simpa using ht.symm) | (simp at ht; subst ht; simp)
     simp at ht
    rcases h3 with rfl | rfl
    ·
     exact (show Tryd.prog.wantsStandIn 9 = false by kernel_rfl)
    exact (show Tryd.prog.wantsStandIn 22 = false by kernel_rfl)⟩)
  (by kernel_rfl)
#print axioms fnTransformCard_holds
end Go.Proofs.YtoopmpjgmgffoaaDoor
