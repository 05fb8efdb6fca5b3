/- The row of FnHeaderRemovePrefix, over the hand walk. -/
import Derived.Test.YtnkioieocjgekaaRows
import Derived.Test.YtnkioieocjgekaaPlHqJ
import Derived.WalkKit
import Derived.ProofKit
import Derived.OpenShut
import Derived.ShutString
import Derived.Below
import Derived.SizedLaws
import Derived.Deep.SlicePairs
namespace Go.Proofs.Ytnkioieocjgekaa.fnHeaderRemovePrefix
open Go.ChangeShapes Go.WideShapes Go.ChangeAt Go.RowKit Go.Proofs.YtnkioieocjgekaaW.PrintWords Go.Proofs.YtnkioieocjgekaaW.PrintLast Go.Proofs.YtnkioieocjgekaaW.PrintMore Go.Proofs.Ytnkioieocjgekaa.GFnHeaderRemovePrefix
open Go.ChangeMaps (open_string shut_string)
set_option linter.unusedVariables false
theorem own : ownKnob Try.prog.godebug = none := by kernel_rfl
theorem laidOut : laidOutB Try.prog = true := by kernel_rfl
theorem choose_lt {α : Type} {len : Nat} {p : Nat → α → Prop} [Inhabited α] (h : ∀ i, i < len → ∃ q, p i q) : ∃ f : Nat → α, ∀ i, i < len → p i (f i) := by
  refine ⟨fun i => if hi : i < len then Classical.choose (h i hi) else default, fun i hi => ?_⟩
  simp only [hi, dite_true]
  exact Classical.choose_spec (h i hi)
instance : Inhabited S34 := ⟨z34⟩
set_option maxRecDepth 100000 in
theorem lines_of_trod {H : Type} {enc : TypeId × Value → H} {W : World} {base : Nat} {sp : Nat → Bool} {held : Bool} {fuel : Nat} {a : Option Addr} {len cap : Nat} {x : DataW H × List MemPlace} (h : DataW.trod enc Try.prog W base sp held fuel 22 [.slice a len cap] = some x) :
    ∃ ls : List S34, ls.length = len ∧ len ≤ cap ∧ Kd.C k34 W a ls.length ls := by
  rcases Go.Deep.open_slice_pairs (e := 34) (by kernel_rfl) Try.underlying34 (by kernel_rfl) rfl rfl (by kernel_rfl) (by kernel_rfl) h with ⟨hcs, _⟩ | ⟨ad, l, c, m, n, V0, V1, D0, D1, P0, P1, hcs, hb, hl, hm, hmm, hx, hall⟩
  · injection hcs with hcs _
    injection hcs with e1 e2 e3
    subst e1 e2 e3
    exact ⟨[], rfl, Nat.le_refl _, rfl, Nat.zero_le _, fun h => absurd h (Nat.lt_irrefl 0)⟩
  · injection hcs with hcs _
    injection hcs with e1 e2 e3
    subst e1 e2 e3
    have hlm : len ≤ m := by rw [hmm]; split <;> omega
    have each : ∀ i, i < len → ∃ q : S34, W.cell? (ad.add (i * 2)) = some (.string q.f0) ∧ W.cell? (ad.add (i * 2 + 1)) = some (.string q.f1) := fun i hi => by
      obtain ⟨c0, c1, h0, h1⟩ := hall i (by omega)
      obtain ⟨z0, e0, -, -⟩ := DataW.trod_string (by kernel_rfl) h0
      obtain ⟨z1, e1, -, -⟩ := DataW.trod_string (by kernel_rfl) h1
      injection e0 with e0 _
      injection e1 with e1 _
      exact ⟨⟨z0, z1⟩, by rw [c0, e0], by rw [c1, e1]⟩
    obtain ⟨f, hf⟩ := choose_lt (α := S34) each
    have hln : ((List.range len).map f).length = len := by simp
    refine ⟨(List.range len).map f, hln, by omega, ?_⟩
    rw [hln]
    refine ⟨hln, by unfold maxLen at hm; omega, fun h0 => ⟨ad, rfl, fun i q hq => ?_⟩⟩
    rw [List.getElem?_map] at hq
    have hi : i < len := by
      rcases Nat.lt_or_ge i len with h' | h'
      · exact h'
      · rw [List.getElem?_eq_none (by simpa using h')] at hq; cases hq
    rw [List.getElem?_range hi] at hq
    injection hq with hq
    subst hq
    refine ⟨[.string (f i).f0, .string (f i).f1], rfl, ⟨[.string (f i).f0], [.string (f i).f1], rfl, rfl, rfl⟩, fun j u hu => ?_⟩
    match j with
    | 0 => simp at hu; subst hu; exact (hf i hi).1
    | 1 => simp at hu; subst hu; exact (hf i hi).2
    | j + 2 => simp at hu
set_option maxRecDepth 100000 in
theorem lifted (os : Os) (started : os.Started) (H : Type) (enc : TypeId × Value → H) :
    ReturnsInHanded {} Try.checked os 4 .any (Rows.fnHeaderRemovePrefixSpec.pre6 enc Try.prog Try.f4 Rows.fnHeaderRemovePrefixRow.domain false) (Rows.fnHeaderRemovePrefixSpec.post enc Try.prog Try.f4 false true false false) := by
  refine returnsInHanded_of_change_sized (C := Try.checked) own started (by kernel_rfl) Try.func4
    (ChangeSpec.witness6 (enc := enc) (C := Try.checked) false ⟨#[], #[.slice none 0 0, .string ⟨#[]⟩], []⟩ 8 (by kernel_rfl) (by kernel_rfl) (by kernel_rfl) (by kernel_rfl)) ?_
  intro W base args ds gs before hval0 hW hcnd hsz0 _
  have hval : ∀ (j : Nat) t v, Try.f4.params[j]? = some t → args[j]? = some v → Value.okWide Try.prog W .any base t v := hval0
  have hW' := hW
  obtain ⟨p, q, hA0, hV, rfl, hfz, hnd⟩ := hW
  have hA : DataW.TrodAll enc Try.prog W 0 (fun _ => true) true Try.f4.params.toList args.toList ds p := hA0
  rw [Try.params4] at hA hval
  obtain ⟨v0, vs0, d0, ds0, p0, q0, hargs, rfl, rfl, h0, r0⟩ := trodAll_cons hA
  obtain ⟨v1, vs1, d1, ds1, p1, q1, rfl, rfl, rfl, h1, r1⟩ := trodAll_cons r0
  obtain ⟨rfl, rfl, rfl⟩ := trodAll_nil r1
  obtain rfl : args = #[v0, v1] := by cases args; simp_all
  obtain ⟨rfl, rfl⟩ := trodVars_none hV
  have k0 := h0
  have k1 := h1
  have lt0 : ∀ x ∈ p0, x.block < W.heap.size := by obtain ⟨m, hm⟩ := k0; exact DataW.trod_lt m _ _ _ hm
  have lt1 : ∀ x ∈ p1, x.block < W.heap.size := by obtain ⟨m, hm⟩ := k1; exact DataW.trod_lt m _ _ _ hm
  obtain ⟨a0, len0, cap0, rfl⟩ := okWide_slice Try.underlying22 (hval 0 22 v0 rfl rfl)
  obtain ⟨s1, rfl⟩ := okWide_string Try.underlying9 (hval 1 9 v1 rfl rfl)
  obtain ⟨ls, rfl, hc, hC⟩ : ∃ ls : List S34, ls.length = len0 ∧ len0 ≤ cap0 ∧ Kd.C k34 W a0 ls.length ls := by
    obtain ⟨fuel, hf⟩ := h0
    exact lines_of_trod hf
  clear hA0 hval0 hsz0
  obtain ⟨k, hk⟩ := PlHq.plain ls s1
  refine (Hq.law_calls k hC hc hk).mono fun e W' ⟨he, bel⟩ => ?_
  subst he
  exact ⟨_, rfl, _, _, _, [], _, [], hW', trodAll_mk1 (shut_bool Try.underlying4 _),
    (trodAll_cons_mk (Below.trod laidOut (by kernel_rfl) (of_decide_eq_true (by kernel_rfl)) k0 bel lt0)
      (trodAll_cons_mk (Below.trod laidOut (by kernel_rfl) (of_decide_eq_true (by kernel_rfl)) k1 bel lt1) trodAll_mk0)), rfl, bel.frame _, fun h => by cases h⟩
theorem over : Rows.fnHeaderRemovePrefixRow.holds Try.pinned (OpenSpec.ofChange Rows.fnHeaderRemovePrefixSpec) :=
  OpenClaim.holds_of_wide 4 Try.f4 rfl rfl rfl rfl rfl rfl rfl ⟨rfl, rfl, rfl, rfl, rfl⟩ rfl rfl rfl rfl rfl (by kernel_rfl) Try.func4 (by kernel_rfl)
    (of_decide_eq_true (by kernel_rfl)) (by unfold Func.isWrapper; first | (rw [if_pos (by decide +kernel)]; kernel_rfl) | (rw [if_neg (by decide +kernel)]; exact ⟨rfl, rfl⟩))
    (fun os started H enc _ => lifted os started H enc)
theorem proved : Rows.FnHeaderRemovePrefixSaid := over
#print axioms proved
end Go.Proofs.Ytnkioieocjgekaa.fnHeaderRemovePrefix
namespace Go.Proofs.Ytnkioieocjgekaa
/-- The row, under a short name, for the claim. -/
theorem fnHeaderRemovePrefix_holds : Rows.FnHeaderRemovePrefixSaid := fnHeaderRemovePrefix.proved
end Go.Proofs.Ytnkioieocjgekaa
