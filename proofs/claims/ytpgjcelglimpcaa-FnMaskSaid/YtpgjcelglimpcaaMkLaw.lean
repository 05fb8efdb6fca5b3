/- The row of FnMask, over the hand walk. -/
import Derived.Test.YtpgjcelglimpcaaRows
import Derived.Test.YtpgjcelglimpcaaMkG
import Derived.WalkKit
import Derived.ProofKit
import Derived.OpenShut
import Derived.Below
import Derived.SizedLaws
import Derived.Laws.IdiomArrays
import Derived.WideKeyArr2
namespace Go.Proofs.Ytpgjcelglimpcaa.fnMask
open Go.ChangeShapes Go.WideShapes Go.ChangeAt Go.RowKit Go.Proofs.Ytpgjcelglimpcaa.Mk Go.Proofs.Ytpgjcelglimpcaa.Bs
set_option linter.unusedVariables false
theorem own : ownKnob Try.prog.godebug = none := by kernel_rfl
theorem laidOut : laidOutB Try.prog = true := by kernel_rfl
theorem arr33 : WideMaps.ArrKey Try.prog 33 5 4 := ⟨Try.underlying33, by kernel_rfl, by kernel_rfl, by kernel_rfl⟩
theorem u8_nat {z : Int} (h : (Lit.int .u8 z).wf = true) : ∃ n : Nat, z = (n : Int) ∧ n < 256 := by
  have := bounds_u8 h
  exact ⟨z.toNat, by omega, by omega⟩
theorem getD_at {zs : List Int} {i : Nat} {u : Int} (h : zs[i]? = some u) : zs.getD i 0 = u := by rw [List.getD_eq_getElem?_getD, h]; rfl
/-- A slice of bytes, opened. -/
theorem open_bytes {H : Type} {enc : TypeId × Value → H} {W : World} {base : Nat} {sp : Nat → Bool} {held : Bool} {a : Option Addr} {len cap : Nat} {d : DataW H} {ps : List MemPlace}
    (h : DataW.Trod enc Try.prog W base sp held 24 (.slice a len cap) d ps) : ∃ bs : List Nat, len = bs.length ∧ Byt bs ∧ bs.length ≤ maxLen ∧ BytR W a bs := by
  obtain ⟨fuel, hf⟩ := h
  rcases open_ints Try.underlying24 Try.underlying5 (by kernel_rfl) hf with ⟨hcs, _⟩ | ⟨x, l, c, zs, hcs, _, hl, hm, hz, _, hcell, hwz⟩
  · simp [Value.cells] at hcs
    obtain ⟨rfl, rfl, rfl⟩ := hcs
    exact ⟨[], rfl, fun b hb => by simp at hb, Nat.zero_le _, rfl, fun u hu => by simp [bC] at hu, fun h => by simp [bC] at h⟩
  · simp [Value.cells] at hcs
    obtain ⟨rfl, rfl, rfl⟩ := hcs
    have hz : len ≤ zs.length := by
      have hz : zs.length = if sp x.block = true then cap else len := by simpa using hz
      rw [hz]; split <;> omega
    have hlen : ((zs.take len).map Int.toNat).length = len := by rw [List.length_map, List.length_take]; omega
    have hbyt : Byt ((zs.take len).map Int.toNat) := by
      intro b hb
      obtain ⟨z, hz1, rfl⟩ := List.mem_map.1 hb
      have := bounds_u8 (hwz z (List.mem_of_mem_take hz1))
      omega
    refine ⟨(zs.take len).map Int.toNat, hlen.symm, hbyt, by omega, by rw [bC_len]; omega, bC_one _, fun h0 => ⟨_, rfl, fun j u hu => ?_⟩⟩
    rw [bC, List.map_map, List.getElem?_map, Option.map_eq_some_iff] at hu
    obtain ⟨z, hz1, rfl⟩ := hu
    have hj := (List.getElem?_eq_some_iff.1 hz1).1
    rw [List.getElem?_take] at hz1
    split at hz1
    · have hj2 := (List.getElem?_eq_some_iff.1 hz1).1
      have e1 := hcell j hj2
      rw [getD_at hz1] at e1
      have e2 := bounds_u8 (hwz z (List.mem_of_getElem? hz1))
      rw [e1]
      simp only [Function.comp]
      rw [Int.toNat_of_nonneg e2.1]
    · cases hz1
/-- An array of four bytes, opened. -/
theorem open_four {H : Type} {enc : TypeId × Value → H} {W : World} {base r : Nat} {rr : Reach} {sp : Nat → Bool} {held : Bool} {v : Value} {d : DataW H} {ps : List MemPlace}
    (hv : Value.okWide Try.prog W rr r 33 v) (h : DataW.Trod enc Try.prog W base sp held 33 v d ps) :
    ∃ a b c e : Nat, v = .agg #[.int .u8 (a : Int), .int .u8 (b : Int), .int .u8 (c : Int), .int .u8 (e : Int)] ∧ Key [a, b, c, e] := by
  obtain ⟨xs, rfl, hn⟩ := WideMaps.okWide_arr arr33 hv
  obtain ⟨fuel, hf⟩ := h
  obtain ⟨l⟩ := xs
  match l, hn with
  | [c0, c1, c2, c3], _ =>
    obtain ⟨y0, y1, y2, y3, n, _, h0, h1, h2, h3⟩ := trod_array4 Try.underlying33 (by kernel_rfl) (show DataW.trod enc Try.prog W base sp held fuel 33 [c0, c1, c2, c3] = some (d, ps) from hf)
    obtain ⟨z0, e0, _, w0⟩ := DataW.trod_int Try.underlying5 h0
    obtain ⟨z1, e1, _, w1⟩ := DataW.trod_int Try.underlying5 h1
    obtain ⟨z2, e2, _, w2⟩ := DataW.trod_int Try.underlying5 h2
    obtain ⟨z3, e3, _, w3⟩ := DataW.trod_int Try.underlying5 h3
    obtain ⟨n0, rfl, b0⟩ := u8_nat w0
    obtain ⟨n1, rfl, b1⟩ := u8_nat w1
    obtain ⟨n2, rfl, b2⟩ := u8_nat w2
    obtain ⟨n3, rfl, b3⟩ := u8_nat w3
    obtain rfl : c0 = _ := (List.cons.inj e0).1
    obtain rfl : c1 = _ := (List.cons.inj e1).1
    obtain rfl : c2 = _ := (List.cons.inj e2).1
    obtain rfl : c3 = _ := (List.cons.inj e3).1
    refine ⟨n0, n1, n2, n3, rfl, rfl, fun b hb => ?_⟩
    simp only [List.mem_cons, List.not_mem_nil, or_false] at hb
    rcases hb with rfl | rfl | rfl | rfl <;> assumption
set_option maxRecDepth 100000 in
theorem lifted (os : Os) (started : os.Started) (H : Type) (enc : TypeId × Value → H) :
    ReturnsInHanded {} Try.checked os 6 .any (Rows.fnMaskSpec.pre6 enc Try.prog Try.f6 Rows.fnMaskRow.domain false) (Rows.fnMaskSpec.post enc Try.prog Try.f6 false true false false) := by
  refine returnsInHanded_of_change_sized (C := Try.checked) own started (by kernel_rfl) Try.func6
    (ChangeSpec.witness6 (enc := enc) (C := Try.checked) false ⟨#[], #[.agg #[.int .u8 0, .int .u8 0, .int .u8 0, .int .u8 0], .int .i64 0, .slice none 0 0], []⟩ 8 (by kernel_rfl) (by kernel_rfl) (by kernel_rfl) (by kernel_rfl)) ?_
  intro W base args ds gs before hval0 hW hcnd hsz0 _
  have hval : ∀ (j : Nat) t v, Try.f6.params[j]? = some t → args[j]? = some v → Value.okWide Try.prog W .any base t v := hval0
  have hW' := hW
  obtain ⟨p, q, hA0, hV, rfl, hfz, hnd⟩ := hW
  have hA : DataW.TrodAll enc Try.prog W 0 (fun _ => true) true Try.f6.params.toList args.toList ds p := hA0
  rw [Try.params6] at hA hval
  obtain ⟨v0, vs0, d0, ds0, p0, q0, hargs, rfl, rfl, h0, r0⟩ := trodAll_cons hA
  obtain ⟨v1, vs1, d1, ds1, p1, q1, rfl, rfl, rfl, h1, r1⟩ := trodAll_cons r0
  obtain ⟨v2, vs2, d2, ds2, p2, q2, rfl, rfl, rfl, h2, r2⟩ := trodAll_cons r1
  obtain ⟨rfl, rfl, rfl⟩ := trodAll_nil r2
  obtain rfl : args = #[v0, v1, v2] := by cases args; simp_all
  obtain ⟨rfl, rfl⟩ := trodVars_none hV
  have k0 := h0
  have k1 := h1
  have k2 := h2
  have lt0 : ∀ x ∈ p0, x.block < W.heap.size := by obtain ⟨m, hm⟩ := k0; exact DataW.trod_lt m _ _ _ hm
  have lt1 : ∀ x ∈ p1, x.block < W.heap.size := by obtain ⟨m, hm⟩ := k1; exact DataW.trod_lt m _ _ _ hm
  have lt2 : ∀ x ∈ p2, x.block < W.heap.size := by obtain ⟨m, hm⟩ := k2; exact DataW.trod_lt m _ _ _ hm
  obtain ⟨a, b, c, e, rfl, hk⟩ := open_four (hval 0 33 v0 rfl rfl) h0
  obtain ⟨n1, rfl⟩ := okWide_int Try.underlying3 (hval 1 3 v1 rfl rfl)
  obtain ⟨a2, len2, cap2, rfl⟩ := okWide_slice Try.underlying24 (hval 2 24 v2 rfl rfl)
  obtain ⟨bs, rfl, hb, hl, hR⟩ := open_bytes h2
  clear hA0 hval0 hsz0
  refine (mask_law a b c e n1 (c := cap2) hk hR hb hl).mono fun e W' ⟨he, fr⟩ => ?_
  subst he
  have bel := below_of_fr fr
  exact ⟨_, rfl, _, _, _, [], _, [], hW', trodAll_mk1 (shut_bool Try.underlying4 _),
    (trodAll_cons_mk (Below.trod laidOut (by kernel_rfl) (of_decide_eq_true (by kernel_rfl)) k0 bel lt0)
      (trodAll_cons_mk (Below.trod laidOut (by kernel_rfl) (of_decide_eq_true (by kernel_rfl)) k1 bel lt1)
        (trodAll_cons_mk (Below.trod laidOut (by kernel_rfl) (of_decide_eq_true (by kernel_rfl)) k2 bel lt2) trodAll_mk0))), rfl, bel.frame _, fun h => by cases h⟩
theorem over : Rows.fnMaskRow.holds Try.pinned (OpenSpec.ofChange Rows.fnMaskSpec) :=
  OpenClaim.holds_of_wide 6 Try.f6 rfl rfl rfl rfl rfl rfl rfl ⟨rfl, rfl, rfl, rfl, rfl⟩ rfl rfl rfl rfl rfl (by kernel_rfl) Try.func6 (by kernel_rfl)
    (of_decide_eq_true (by kernel_rfl)) (by unfold Func.isWrapper; first | (rw [if_pos (by decide +kernel)]; kernel_rfl) | (rw [if_neg (by decide +kernel)]; exact ⟨rfl, rfl⟩))
    (fun os started H enc _ => lifted os started H enc)
theorem proved : Rows.FnMaskSaid := over
#print axioms proved
end Go.Proofs.Ytpgjcelglimpcaa.fnMask
namespace Go.Proofs.Ytpgjcelglimpcaa
/-- The row, under a short name, for the claim. -/
theorem fnMask_holds : Rows.FnMaskSaid := fnMask.proved
end Go.Proofs.Ytpgjcelglimpcaa
