/- The law FnTransformBack, plainly. -/
import Derived.Test.YtoopmpjgmgffoaaDoorPlTp
namespace Go.Proofs.YtoopmpjgmgffoaaDoor.PlFnTransformBack
open Go.RowKit Go.Proofs.YtoopmpjgmgffoaaDoorW.PrintWords Go.Proofs.YtoopmpjgmgffoaaDoorW.PrintLast Go.Proofs.YtoopmpjgmgffoaaDoorW.PrintMore Go.Proofs.YtoopmpjgmgffoaaDoor.Pl Go.Proofs.YtoopmpjgmgffoaaDoor.Bs Go.Proofs.YtoopmpjgmgffoaaDoor.GFnTransformBack Go.Proofs.YtoopmpjgmgffoaaDoor.Tr
set_option linter.unusedVariables false
set_option linter.unusedSimpArgs false
theorem toksA_nodot : ∀ (l p : List UInt8), (46 : UInt8) ∉ p → ∀ t ∈ toksA p l, (46 : UInt8) ∉ t
  | [], p, h, t, ht => by
    have : t = p := by simpa [toksA] using ht
    rw [this]; exact h
  | c :: l, p, h, t, ht => by
    by_cases e : c = 46
    · subst e
      rw [toksA_dot] at ht
      rcases List.mem_cons.1 ht with rfl | ht
      · exact h
      exact toksA_nodot l [] (by simp) t ht
    rw [toksA_other _ e] at ht
    exact toksA_nodot l _ (fun hm => by
      rcases List.mem_append.1 hm with hm | hm
      · exact h hm
      exact e (List.mem_singleton.1 hm).symm) t ht
theorem toksA_bytes : ∀ (l p : List UInt8), ∀ t ∈ toksA p l, ∀ c ∈ t, c ∈ p ∨ c ∈ l
  | [], p, t, ht, c, hc => by
    have : t = p := by simpa [toksA] using ht
    rw [this] at hc
    exact .inl hc
  | d :: l, p, t, ht, c, hc => by
    by_cases e : d = 46
    · subst e
      rw [toksA_dot] at ht
      rcases List.mem_cons.1 ht with rfl | ht
      · exact .inl hc
      rcases toksA_bytes l [] t ht c hc with h | h
      · cases h
      exact .inr (List.mem_cons_of_mem _ h)
    rw [toksA_other _ e] at ht
    rcases toksA_bytes l _ t ht c hc with h | h
    · rcases List.mem_append.1 h with h | h
      · exact .inl h
      exact .inr (by rw [List.mem_singleton.1 h]; exact List.mem_cons_self)
    exact .inr (List.mem_cons_of_mem _ h)
abbrev PlainF (ul : List UInt8) : Prop := ((ul.length ≤ 400 ∧ ul.all cleanB = true) ∧ validB ul = true ∧ (toks ul).all tameT = true) ∧ (toks ul).all litT = true
theorem toks_count (ul : List UInt8) (h : ul.length ≤ 400) : (toks ul).length ≤ 401 ∧ ∀ t ∈ toks ul, t.length ≤ 400 := by
  refine ⟨?_, fun t ht => Nat.le_trans (toks_short ul t ht) h⟩
  rw [toks_len]
  have := List.count_le_length (a := (46 : UInt8)) (l := ul)
  omega
theorem fits_plain {sl ul : List UInt8} {L : List S42} (hM : MapF sl L) (hP : PlainF ul) (hx : matchT (toks ul) (toks sl) = true) : Fits (toks sl) (toks ul) := by
  obtain ⟨⟨⟨h1, h2⟩, h3, h4⟩, h5⟩ := hP
  have hc := toks_count ul h1
  refine ⟨validB_formed hM.sound.valid, hx, fun t ht => ⟨formed_ne _ (validB_formed h3) t ht, toksA_nodot ul [] (by simp) t ht, fun c hc => ?_, List.all_eq_true.1 h5 t ht, List.all_eq_true.1 h4 t ht⟩, by omega, fun t ht => by have := hc.2 t ht; omega⟩
  rcases toksA_bytes ul [] t ht c hc with h | h
  · cases h
  have := List.all_eq_true.1 h2 c h
  unfold cleanB at this
  rw [Bool.and_eq_true, decide_eq_true_iff, decide_eq_true_iff] at this
  exact UInt8.lt_iff_toNat_lt.1 this.1
end Go.Proofs.YtoopmpjgmgffoaaDoor.PlFnTransformBack
