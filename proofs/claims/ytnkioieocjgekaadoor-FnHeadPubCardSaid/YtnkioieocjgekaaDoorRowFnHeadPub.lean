/- The law FnHeadPub: its row over what the walk shows, and its tied card. Written by a program of this session's. -/
import Derived.Test.YtnkioieocjgekaaDoorRows
import Derived.Test.YtnkioieocjgekaaDoorCards
import Derived.Test.YtnkioieocjgekaaDoorTie
import Derived.Test.YtnkioieocjgekaaDoorPlHdB
import Derived.SevenTiedAt
import Derived.Stop.LaidErr
import Derived.LaidLaws
import Derived.LaidHandle
import Derived.ChangeVars
import Derived.WalkKit
import Derived.ProofKit
import Derived.OpenShut
import Derived.ShutString
import Derived.ChangeOld
import Derived.Below
import Derived.SizedLaws
namespace Go.Proofs.YtnkioieocjgekaaDoor.fnHeadPub
open Go.ChangeShapes Go.WideShapes Go.ChangeAt Go.RowKit Go.Proofs.YtnkioieocjgekaaDoorW.PrintWords Go.Proofs.YtnkioieocjgekaaDoorW.PrintLast Go.Proofs.YtnkioieocjgekaaDoorW.PrintMore
open Go.ChangeMaps (open_string shut_string)
set_option linter.unusedVariables false
set_option linter.unusedSimpArgs false
theorem own : ownKnob Tryd.prog.godebug = none := by kernel_rfl
theorem laidOut : laidOutB Tryd.prog = true := by kernel_rfl
theorem u8_wf {z : Int} (h : (Lit.int .u8 z).wf = true) : 0 ≤ z ∧ z < 256 := by
  have := bounds_u8 h
  omega
theorem open_bytes22 {H : Type} {enc : TypeId × Value → H} {W : World} {base : Nat} {sp : Nat → Bool} {held : Bool} {a : Option Addr} {len cap : Nat} {d : DataW H} {ps : List MemPlace}
    (h : DataW.Trod enc Tryd.prog W base sp held 22 (.slice a len cap) d ps) : ∃ L : List UInt8, len ≤ cap ∧ Kd.C (Kd.int .u8) W a len (PlHd.nm L) := by
  obtain ⟨fuel, hf⟩ := h
  rcases open_ints Tryd.underlying22 Tryd.underlying5 (by kernel_rfl) hf with ⟨hcs, _⟩ | ⟨x, l, c, zs, hcs, _, hl, hm, hz, _, hcell, hwz⟩
  · simp [Value.cells] at hcs
    obtain ⟨rfl, rfl, rfl⟩ := hcs
    exact ⟨[], Nat.le_refl _, Kd.C_nil _ _⟩
  · simp [Value.cells] at hcs
    obtain ⟨rfl, rfl, rfl⟩ := hcs
    have hz : zs.length = if sp x.block = true then cap else len := by simpa using hz
    have hz2 : len ≤ zs.length := by rw [hz]; split <;> omega
    obtain ⟨L, hL⟩ := Pl.nums_surj (zs.take len) (fun z hz => hwz z (List.mem_of_mem_take hz))
    refine ⟨L, by omega, ?_⟩
    have hln : (zs.take len).length = len := by rw [List.length_take]; omega
    rw [show PlHd.nm L = zs.take len from hL.symm]
    refine ⟨hln, by unfold maxLen at hm; omega, fun _ => ⟨x, rfl, fun j p hj => ⟨[.int .u8 p], rfl, rfl, fun i u hu => ?_⟩⟩⟩
    cases i with
    | succ i => simp at hu
    | zero =>
      simp only [List.getElem?_cons_zero, Option.some.injEq] at hu
      subst hu
      have e1 : j * (Kd.int .u8).sz + 0 = j := Nat.mul_one j
      rw [e1]
      have hj1 := (List.getElem?_eq_some_iff.1 hj).1
      rw [List.getElem?_take] at hj
      split at hj
      · have hj2 := (List.getElem?_eq_some_iff.1 hj).1
        have e2 := hcell j hj2
        rw [List.getD_eq_getElem?_getD, hj] at e2
        exact e2
      · cases hj
theorem nm_bytes (L : List UInt8) : ∀ x ∈ PlHd.nm L, 0 ≤ x ∧ x < 256 := fun x hx => by
  obtain ⟨b, -, rfl⟩ := List.mem_map.1 hx
  have := b.toNat_lt
  omega
/-! The package's own variables, as their initialisers lay them. -/
noncomputable def low : Nat := (World.holding Tryd.prog default ⟨#[], #[], []⟩).heap.size
noncomputable def laidWorld (os : Os) : World :=
  let w0 := World.holding Tryd.prog os ⟨#[.cells #[.string { data := #[109, 97, 120, 105, 109, 117, 109, 32, 112, 97, 121, 108, 111, 97, 100, 32, 101, 120, 99, 101, 101, 100, 101, 100] }] 75, .cells #[.string { data := #[109, 101, 115, 115, 97, 103, 101, 32, 104, 101, 97, 100, 101, 114, 115, 32, 110, 111, 116, 32, 115, 117, 112, 112, 111, 114, 116, 101, 100] }] 75], #[], []⟩
  let w0 := { w0 with heap := w0.heap.modify 0 fun
      | .cells _ t frozen => .cells #[.iface 73 (.pointer (some ⟨low + 0, 0, none⟩))] t frozen
      | o => o }
  let w0 := { w0 with heap := w0.heap.modify 1 fun
      | .cells _ t frozen => .cells #[.iface 73 (.pointer (some ⟨low + 1, 0, none⟩))] t frozen
      | o => o }
  w0
set_option maxRecDepth 100000 in
theorem laid_met (os : Os) (args : Array Value) : laidMet Tryd.prog Rows.fnHeadPubRow.laid ((laidWorld os).forCall (fun _ _ => 0) ⟨#[], args, []⟩).memory :=
  laidMet_of_run (ps := [.cell 0 0, .cell (low + 0) 0, .cell 1 0, .cell (low + 1) 0]) 8 (by kernel_rfl) (by kernel_rfl) (by kernel_rfl)
theorem laidH (W : World) (h : laidMetH Tryd.prog Rows.fnHeadPubRow.laid W) : laidMet Tryd.prog Rows.fnHeadPubRow.laid W := h
theorem star : "*" ++ "errors.errorString" = "*errors.errorString" := by decide
theorem rowOf (u : TypeId) (h : Tryd.prog.typeName? 3 u = some "*errors.errorString") : u = 73 :=
  typeName_ptr_named (nm := "errors.errorString") (by rw [star]; kernel_rfl) (by kernel_rfl) (by decide) u (by rw [star]; exact h)
set_option maxRecDepth 100000 in
theorem lifted (os : Os) (started : os.Started) (H : Type) (enc : TypeId × Value → H) :
    ReturnsInHanded {} Tryd.checked os 3 .any (fun w args => (Rows.fnHeadPubSpec.pre enc Tryd.prog Tryd.f3 Rows.fnHeadPubRow.domain false w args ∧ laidMetH Tryd.prog Rows.fnHeadPubRow.laid w) ∧ sizedMet enc Tryd.prog Tryd.f3 (OpenSpec.ofChange Rows.fnHeadPubSpec) false w args) (Rows.fnHeadPubSpec.post enc Tryd.prog Tryd.f3 false true false false) := by
  refine returnsInHanded_of_change_and (C := Tryd.checked) (X := fun w _ => laidMetH Tryd.prog Rows.fnHeadPubRow.laid w) (fun _ _ _ hh h => h.of_heap hh) own started (by kernel_rfl) Tryd.func3
    (ChangeSpec.witness_at (enc := enc) (C := Tryd.checked) (os := os) (X := fun w _ => laidMetH Tryd.prog Rows.fnHeadPubRow.laid w) false (laidWorld os) #[.slice none 0 0, .int .i64 0] 8 rfl (by kernel_rfl) (by kernel_rfl) (by kernel_rfl) (by kernel_rfl) (by kernel_rfl) (laid_met os _)) ?_
  intro W base args ds gs before hval0 hW hcnd hsz0 hL _
  have hval : ∀ (j : Nat) t v, Tryd.f3.params[j]? = some t → args[j]? = some v → Value.okWide Tryd.prog W .any base t v := hval0
  have hW' := hW
  obtain ⟨p, q, hA0, hV, rfl, hfz, hnd⟩ := hW
  have hA : DataW.TrodAll enc Tryd.prog W 0 (fun _ => true) true Tryd.f3.params.toList args.toList ds p := hA0
  rw [Tryd.params3] at hA hval
  obtain ⟨v0, vs0, d0, ds0, p0, q0, hargs, rfl, rfl, h0, r0⟩ := trodAll_cons hA
  obtain ⟨v1, vs1, d1, ds1, p1, q1, rfl, rfl, rfl, h1, r1⟩ := trodAll_cons r0
  obtain ⟨rfl, rfl, rfl⟩ := trodAll_nil r1
  obtain rfl : args = #[v0, v1] := by cases args; simp_all
  obtain ⟨rfl, rfl⟩ := trodVars_none hV
  have k0 := h0
  have lt0 : ∀ x ∈ p0, x.block < W.heap.size := by obtain ⟨m, hm⟩ := k0; exact DataW.trod_lt m _ _ _ hm
  obtain ⟨a0, len0, cap0, rfl⟩ := okWide_slice Tryd.underlying22 (hval 0 22 v0 rfl rfl)
  obtain ⟨L0, hc0, hC0⟩ := open_bytes22 h0
  have k1 := h1
  have lt1 : ∀ x ∈ p1, x.block < W.heap.size := by obtain ⟨m, hm⟩ := k1; exact DataW.trod_lt m _ _ _ hm
  obtain ⟨n1, rfl⟩ := okWide_int Tryd.underlying3 (hval 1 3 v1 rfl rfl)
  obtain ⟨ga0, gs0, gv0, gz0, -, -⟩ := laid_sentinel (laidH W hL) (show Tryd.prog.globalNamed "pub-tokenroad/pub/natsserver/server.ErrMaxPayload" = some 0 by kernel_rfl) (show (Tryd.prog.globals[0]?).map (·.type) = some 45 by kernel_rfl) Tryd.underlying45 rowOf Tryd.underlying73 Tryd.underlying75 rfl rfl Tryd.underlying9 (by kernel_rfl) (by kernel_rfl)
  have gc0 : W.cell? ⟨0, 0, none⟩ = some (.iface 73 (.pointer (some ga0))) := by simpa using World.var?_cell (show Tryd.prog.globalNamed "pub-tokenroad/pub/natsserver/server.ErrMaxPayload" = some 0 by kernel_rfl) gv0 0
  obtain ⟨ga1, gs1, gv1, gz1, -, -⟩ := laid_sentinel ((laidH W hL)).tail (show Tryd.prog.globalNamed "pub-tokenroad/pub/natsserver/server.ErrMsgHeadersNotSupported" = some 1 by kernel_rfl) (show (Tryd.prog.globals[1]?).map (·.type) = some 45 by kernel_rfl) Tryd.underlying45 rowOf Tryd.underlying73 Tryd.underlying75 rfl rfl Tryd.underlying9 (by kernel_rfl) (by kernel_rfl)
  have gc1 : W.cell? ⟨1, 0, none⟩ = some (.iface 73 (.pointer (some ga1))) := by simpa using World.var?_cell (show Tryd.prog.globalNamed "pub-tokenroad/pub/natsserver/server.ErrMsgHeadersNotSupported" = some 1 by kernel_rfl) gv1 0
  clear hA0 hval0 hsz0
  obtain ⟨k, hk⟩ := PlHd.plain L0 n1
  refine (Hd.law_calls k hC0 hc0 (nm_bytes L0) ⟨gc0, gz0⟩ hk).mono fun e W' ⟨he, bel⟩ => ?_
  subst he
  exact ⟨_, rfl, _, _, _, [], _, [], hW', trodAll_mk1 (shut_bool Tryd.underlying4 _), (trodAll_cons_mk (Below.trod laidOut (by kernel_rfl) (of_decide_eq_true (by kernel_rfl)) k0 bel lt0) (trodAll_cons_mk (Below.trod laidOut (by kernel_rfl) (of_decide_eq_true (by kernel_rfl)) k1 bel lt1) trodAll_mk0)), rfl, bel.frame _, fun h => by cases h⟩
theorem over : Rows.fnHeadPubRow.holds Tryd.pinned (OpenSpec.ofChange Rows.fnHeadPubSpec) :=
  OpenClaim.holds_of_wide 3 Tryd.f3 rfl rfl rfl rfl rfl rfl rfl ⟨rfl, rfl, rfl, rfl, rfl⟩ rfl rfl rfl rfl rfl (by kernel_rfl) Tryd.func3 (by kernel_rfl)
    (of_decide_eq_true (by kernel_rfl)) (by unfold Func.isWrapper; first | (rw [if_pos (by decide +kernel)]; kernel_rfl) | (rw [if_neg (by decide +kernel)]; exact ⟨rfl, rfl⟩))
    (fun os started H enc _ => lifted os started H enc)
theorem proved : Rows.FnHeadPubSaid := over
end Go.Proofs.YtnkioieocjgekaaDoor.fnHeadPub
namespace Go.Proofs.YtnkioieocjgekaaDoor
/-- The tied card. -/
theorem fnHeadPubCard_holds : Rows.FnHeadPubCardSaid :=
  Claim7.holds_tied_plain_at .later [] [.sentinel, .sentinel] true (true, "a20e6335a7db1542960d1b84ebe69b365ef16e35a45141052798bbb9abbf98c6") true
    fnHeadPub.proved (fun _ h => by cases h) (by kernel_rfl) (fun _ h => by cases h) fnHeadPub_row_tie rfl ⟨rfl, rfl⟩ (by kernel_rfl) rfl
    (fun f fn hf hfn => by
      obtain rfl : f = 3 := Option.some.inj ((show Tryd.prog.funcNamed "pub-tokenroad/laws.FnHeadPub" = some 3 by kernel_rfl).symm.trans hf) |>.symm
      obtain rfl : fn = Tryd.f3 := (Option.some.inj (Tryd.func3.symm.trans hfn)).symm
      exact ⟨by kernel_rfl, fun j t ht => by
        rw [Tryd.params3] at ht
        have h3 : t = 3 ∨ t = 22 := by
          rcases j with _ | _ | j
          · first | (simpa using ht.symm) | (simp at ht; subst ht; simp)
          · first | (simpa using ht.symm) | (simp at ht; subst ht; simp)
          · simp at ht
        rcases h3 with rfl | rfl
        · exact (show Tryd.prog.wantsStandIn 3 = false by kernel_rfl)
        · exact (show Tryd.prog.wantsStandIn 22 = false by kernel_rfl)⟩)
    (by kernel_rfl)
#print axioms fnHeadPubCard_holds
end Go.Proofs.YtnkioieocjgekaaDoor
