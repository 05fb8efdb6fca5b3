/- A walk of Go functions (plain functions of theirs, and that the machine's calls do what these say), written by a program of this session's. -/
import Derived.Test.YtnkioieocjgekaaDoorRows
import Derived.Test.YtnkioieocjgekaaDoorGFnProtoFieldx3
import Derived.Test.YtnkioieocjgekaaDoorGPureFnProtoField
import Derived.Test.YtnkioieocjgekaaDoorCards
import Derived.Test.YtnkioieocjgekaaDoorTie
import Derived.SevenTiedAt
import Derived.Stop.LaidErr
import Derived.LaidLaws
import Derived.LaidHandle
import Derived.ChangeVars
import Derived.WalkKit
import Derived.ProofKit
import Derived.OpenShut
import Derived.ShutString
import Derived.ChangeOld
import Derived.Below
import Derived.SizedLaws
import Derived.Test.YtnkioieocjgekaaDoorWSized
namespace Go.Proofs.YtnkioieocjgekaaDoor.fnProtoField
open Go.ChangeShapes Go.WideShapes Go.ChangeAt Go.RowKit
open Go.ChangeMaps (open_string shut_string)
set_option linter.unusedVariables false
theorem own : ownKnob Tryd.prog.godebug = none := by kernel_rfl
theorem laidOut : laidOutB Tryd.prog = true := by kernel_rfl
def IsRow (k : IntKind) (w : World) (a : Option Addr) (len cap : Nat) (zs : List Int) : Prop :=
  (a = none ∧ len = 0 ∧ cap = 0 ∧ zs = []) ∨
  ∃ x, a = some x ∧ len ≤ cap ∧ cap ≤ maxLen ∧ zs.length = cap ∧ (∀ i, i < zs.length → w.cell? (x.add i) = some (.int k (zs.getD i 0))) ∧ ∀ n ∈ zs, (Lit.int k n).wf = true
/-! The package's own variables, as their initialisers lay them. -/
noncomputable def low : Nat := (World.holding Tryd.prog default ⟨#[], #[], []⟩).heap.size
noncomputable def laidWorld (os : Os) : World :=
  let w0 := World.holding Tryd.prog os ⟨#[.cells #[.string { data := #[105, 110, 115, 117, 102, 102, 105, 99, 105, 101, 110, 116, 32, 100, 97, 116, 97, 32, 116, 111, 32, 114, 101, 97, 100, 32, 97, 32, 118, 97, 108, 117, 101] }] 75, .cells #[.string { data := #[116, 111, 111, 32, 109, 117, 99, 104, 32, 100, 97, 116, 97, 32, 102, 111, 114, 32, 97, 32, 118, 97, 108, 117, 101] }] 75, .cells #[.string { data := #[105, 110, 118, 97, 108, 105, 100, 32, 102, 105, 101, 108, 100, 32, 110, 117, 109, 98, 101, 114] }] 75], #[], []⟩
  let w0 := { w0 with heap := w0.heap.modify 2 fun
      | .cells _ t frozen => .cells #[.iface 73 (.pointer (some ⟨low + 0, 0, none⟩))] t frozen
      | o => o }
  let w0 := { w0 with heap := w0.heap.modify 3 fun
      | .cells _ t frozen => .cells #[.iface 73 (.pointer (some ⟨low + 1, 0, none⟩))] t frozen
      | o => o }
  let w0 := { w0 with heap := w0.heap.modify 4 fun
      | .cells _ t frozen => .cells #[.iface 73 (.pointer (some ⟨low + 2, 0, none⟩))] t frozen
      | o => o }
  w0
theorem laid_met (os : Os) (args : Array Value) : laidMet Tryd.prog Rows.fnProtoFieldRow.laid ((laidWorld os).forCall (fun _ _ => 0) ⟨#[], args, []⟩).memory :=
  laidMet_of_run (ps := [.cell 2 0, .cell (low + 0) 0, .cell 3 0, .cell (low + 1) 0, .cell 4 0, .cell (low + 2) 0]) 8 (by kernel_rfl) (by kernel_rfl) (by kernel_rfl)
theorem laidH (W : World) (h : laidMetH Tryd.prog Rows.fnProtoFieldRow.laid W) : laidMet Tryd.prog Rows.fnProtoFieldRow.laid W := h
theorem star : "*" ++ "errors.errorString" = "*errors.errorString" := by decide
theorem rowOf (u : TypeId) (h : Tryd.prog.typeName? 3 u = some "*errors.errorString") : u = 73 :=
  typeName_ptr_named (nm := "errors.errorString") (by rw [star]; kernel_rfl) (by kernel_rfl) (by decide) u (by rw [star]; exact h)
set_option maxRecDepth 100000 in
theorem lifted (os : Os) (started : os.Started) (H : Type) (enc : TypeId × Value → H) :
    ReturnsInHanded {} Tryd.checked os 6 .any (fun w args => (Rows.fnProtoFieldSpec.pre enc Tryd.prog Tryd.f6 Rows.fnProtoFieldRow.domain false w args ∧ laidMetH Tryd.prog Rows.fnProtoFieldRow.laid w) ∧ sizedMet enc Tryd.prog Tryd.f6 (OpenSpec.ofChange Rows.fnProtoFieldSpec) false w args) (Rows.fnProtoFieldSpec.post enc Tryd.prog Tryd.f6 false true false false) := by
  refine returnsInHanded_of_change_and (C := Tryd.checked) (X := fun w _ => laidMetH Tryd.prog Rows.fnProtoFieldRow.laid w) (fun _ _ _ hh h => h.of_heap hh) own started (by kernel_rfl) Tryd.func6
    (ChangeSpec.witness_at (enc := enc) (C := Tryd.checked) (os := os) (X := fun w _ => laidMetH Tryd.prog Rows.fnProtoFieldRow.laid w) false (laidWorld os) #[.slice none 0 0] 8 rfl (by kernel_rfl) (by kernel_rfl) (by kernel_rfl) (by kernel_rfl) (by kernel_rfl) (laid_met os _)) ?_
  intro W base args ds gs before hval0 hW hcnd hsz0 hL _
  have hsz : (DataW.weightsEach Tryd.prog (Tryd.f6.params.toList ++ Rows.fnProtoFieldSpec.plain.varTypes Tryd.prog) (ds ++ gs)).all (· ≤ reachBytes) = true := hsz0
  have hval : ∀ (j : Nat) t v, Tryd.f6.params[j]? = some t → args[j]? = some v → Value.okWide Tryd.prog W .any base t v := hval0
  have hW' := hW
  obtain ⟨p, q, hA0, hV, rfl, hfz, hnd⟩ := hW
  have hA : DataW.TrodAll enc Tryd.prog W 0 (fun _ => true) true Tryd.f6.params.toList args.toList ds p := hA0
  rw [Tryd.params6] at hA hval hsz
  obtain ⟨v0, vs0, d0, ds0, p0, q0, hargs, rfl, rfl, h0, r0⟩ := trodAll_cons hA
  obtain ⟨rfl, rfl, rfl⟩ := trodAll_nil r0
  obtain rfl : args = #[v0] := by cases args; simp_all
  obtain ⟨rfl, rfl⟩ := trodVars_none hV
  obtain ⟨a0, len0, cap0, rfl⟩ := okWide_slice Tryd.underlying22 (hval 0 22 v0 rfl rfl)
  have k0 := h0
  have lt0 : ∀ x ∈ p0, x.block < W.heap.size := by obtain ⟨m, hm⟩ := k0; exact DataW.trod_lt m _ _ _ hm
  obtain ⟨z0, w0⟩ : ∃ zs, IsRow .u8 W a0 len0 cap0 zs := by
    obtain ⟨fuel, hf⟩ := h0
    rcases open_ints Tryd.underlying22 Tryd.underlying5 (by kernel_rfl) hf with ⟨hcs, _⟩ | ⟨x, l, c, zs, hcs, _, hl, hm, hz, _, hcell, hwz⟩
    · simp [Value.cells] at hcs
      obtain ⟨rfl, rfl, rfl⟩ := hcs
      exact ⟨[], .inl ⟨rfl, rfl, rfl, rfl⟩⟩
    · simp [Value.cells] at hcs
      obtain ⟨rfl, rfl, rfl⟩ := hcs
      exact ⟨zs, .inr ⟨_, rfl, hl, hm, by simpa using hz, hcell, hwz⟩⟩
  have y0 : len0 * 1 ≤ 140737488351232 := Go.Proofs.YtnkioieocjgekaaDoorW.PrintWords.sized_ints hsz (j := 0) (t := 22) rfl rfl Tryd.underlying22 Tryd.underlying5 (by kernel_rfl) (by kernel_rfl) h0
  clear hA0 hval0 hsz0 hsz
  obtain ⟨ga0, gs0, gv0, -, -, -⟩ := laid_sentinel (laidH W hL) (show Tryd.prog.globalNamed "pub-tokenroad/pub/natsserver/server.errProtoInsufficient" = some 2 by kernel_rfl) (show (Tryd.prog.globals[2]?).map (·.type) = some 45 by kernel_rfl) Tryd.underlying45 rowOf Tryd.underlying73 Tryd.underlying75 rfl rfl Tryd.underlying9 (by kernel_rfl) (by kernel_rfl)
  have gc0 : W.cell? ⟨2, 0, none⟩ = some (.iface 73 (.pointer (some ga0))) := by simpa using World.var?_cell (show Tryd.prog.globalNamed "pub-tokenroad/pub/natsserver/server.errProtoInsufficient" = some 2 by kernel_rfl) gv0 0
  obtain ⟨ga1, gs1, gv1, -, -, -⟩ := laid_sentinel ((laidH W hL)).tail (show Tryd.prog.globalNamed "pub-tokenroad/pub/natsserver/server.errProtoOverflow" = some 3 by kernel_rfl) (show (Tryd.prog.globals[3]?).map (·.type) = some 45 by kernel_rfl) Tryd.underlying45 rowOf Tryd.underlying73 Tryd.underlying75 rfl rfl Tryd.underlying9 (by kernel_rfl) (by kernel_rfl)
  have gc1 : W.cell? ⟨3, 0, none⟩ = some (.iface 73 (.pointer (some ga1))) := by simpa using World.var?_cell (show Tryd.prog.globalNamed "pub-tokenroad/pub/natsserver/server.errProtoOverflow" = some 3 by kernel_rfl) gv1 0
  obtain ⟨ga2, gs2, gv2, -, -, -⟩ := laid_sentinel (((laidH W hL)).tail).tail (show Tryd.prog.globalNamed "pub-tokenroad/pub/natsserver/server.errProtoInvalidFieldNumber" = some 4 by kernel_rfl) (show (Tryd.prog.globals[4]?).map (·.type) = some 45 by kernel_rfl) Tryd.underlying45 rowOf Tryd.underlying73 Tryd.underlying75 rfl rfl Tryd.underlying9 (by kernel_rfl) (by kernel_rfl)
  have gc2 : W.cell? ⟨4, 0, none⟩ = some (.iface 73 (.pointer (some ga2))) := by simpa using World.var?_cell (show Tryd.prog.globalNamed "pub-tokenroad/pub/natsserver/server.errProtoInvalidFieldNumber" = some 4 by kernel_rfl) gv2 0
  have hG : GFnProtoField.GlE (fun g => if g = 2 then (73, .pointer (some ga0)) else if g = 3 then (73, .pointer (some ga1)) else if g = 4 then (73, .pointer (some ga2)) else (0, .nilIface)) W := ⟨gc0, gc1, gc2, trivial⟩
  refine (GFnProtoField.laws_FnProtoField.walk Pure.FnProtoField a0 len0 cap0 z0 W hG w0 y0).mono fun e W' ⟨he, bel⟩ => ?_
  subst he
  exact ⟨_, rfl, _, _, _, [], _, [], hW', trodAll_mk1 (shut_bool Tryd.underlying4 _), (trodAll_cons_mk (Below.trod laidOut (by kernel_rfl) (of_decide_eq_true (by kernel_rfl)) k0 bel lt0) trodAll_mk0), rfl, bel.frame _, fun h => by cases h⟩
theorem over : Rows.fnProtoFieldRow.holds Tryd.pinned (OpenSpec.ofChange Rows.fnProtoFieldSpec) :=
  OpenClaim.holds_of_wide 6 Tryd.f6 rfl rfl rfl rfl rfl rfl rfl ⟨rfl, rfl, rfl, rfl, rfl⟩ rfl rfl rfl rfl rfl (by kernel_rfl) Tryd.func6 (by kernel_rfl)
    (of_decide_eq_true (by kernel_rfl)) (by unfold Func.isWrapper; first | (rw [if_pos (by decide +kernel)]; kernel_rfl) | (rw [if_neg (by decide +kernel)]; exact ⟨rfl, rfl⟩))
    (fun os started H enc _ => lifted os started H enc)
theorem proved : Rows.FnProtoFieldSaid := over
#print axioms proved
end Go.Proofs.YtnkioieocjgekaaDoor.fnProtoField
namespace Go.Proofs.YtnkioieocjgekaaDoor
/-- The tied card. -/
theorem fnProtoFieldCard_holds : Rows.FnProtoFieldCardSaid :=
  Claim7.holds_tied_plain_at .later [] [.sentinel, .sentinel, .sentinel] true (true, "a20e6335a7db1542960d1b84ebe69b365ef16e35a45141052798bbb9abbf98c6") true
    fnProtoField.proved (fun _ h => by cases h) (by kernel_rfl) (fun _ h => by cases h) fnProtoField_row_tie rfl ⟨rfl, rfl⟩ (by kernel_rfl) rfl
    (fun f fn hf hfn => by
      obtain rfl : f = 6 := Option.some.inj ((show Tryd.prog.funcNamed "pub-tokenroad/laws.FnProtoField" = some 6 by kernel_rfl).symm.trans hf) |>.symm
      obtain rfl : fn = Tryd.f6 := (Option.some.inj (Tryd.func6.symm.trans hfn)).symm
      exact ⟨by kernel_rfl, fun j t ht => by
        rw [Tryd.params6] at ht
        have h3 : t = 22 := by
          rcases j with _ | j
          · simpa using ht.symm
          · simp at ht
        subst h3
        exact (show Tryd.prog.wantsStandIn 22 = false by kernel_rfl)⟩)
    (by kernel_rfl)
#print axioms fnProtoFieldCard_holds
end Go.Proofs.YtnkioieocjgekaaDoor
