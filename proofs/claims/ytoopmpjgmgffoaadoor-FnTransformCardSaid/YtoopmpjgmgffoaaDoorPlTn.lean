/- What a mapping of words and wildcards makes of a subject, plainly. -/
import Derived.Test.YtoopmpjgmgffoaaDoorPlTm
import Derived.Test.YtoopmpjgmgffoaaDoorTrJ
namespace Go.Proofs.YtoopmpjgmgffoaaDoor.PlFnTransformBack
open Go.RowKit Go.Proofs.YtoopmpjgmgffoaaDoorW.PrintWords Go.Proofs.YtoopmpjgmgffoaaDoorW.PrintLast Go.Proofs.YtoopmpjgmgffoaaDoorW.PrintMore Go.Proofs.YtoopmpjgmgffoaaDoor.Pl Go.Proofs.YtoopmpjgmgffoaaDoor.Bs Go.Proofs.YtoopmpjgmgffoaaDoor.GFnTransformBack Go.Proofs.YtoopmpjgmgffoaaDoor.Tr
set_option linter.unusedVariables false
set_option linter.unusedSimpArgs false
theorem subT_lit : ∀ (L P : List (List UInt8)), L.all litT = true → subT L P = matchT L P
  | [], [], _ => rfl
  | [], _ :: _, _ => rfl
  | _ :: _, [], _ => rfl
  | t :: L, p :: P, h => by
    rw [List.all_cons, Bool.and_eq_true] at h
    have ht : t ≠ [62] := by
      intro e
      rw [e] at h
      exact absurd h.1 (by decide)
    rw [subT, matchT, if_neg ht, subT_lit L P h.2]
    by_cases c1 : p = [62]
    · rw [if_pos c1, if_pos c1]
    rw [if_neg c1, if_neg c1]
    by_cases c2 : p = [42] ∨ t = p
    · rw [if_pos c2, if_pos (c2.imp id Eq.symm)]
    rw [if_neg c2, if_neg (fun h => c2 (h.imp id Eq.symm))]
theorem jn_app : ∀ (r : List (List UInt8)) (acc : List UInt8) (t : List UInt8), jn acc (r ++ [t]) = jn acc r ++ 46 :: t
  | [], acc, t => rfl
  | u :: r, acc, t => by rw [List.cons_append, jn, jn_app r, jn]
theorem join_snoc (C : List (List UInt8)) (t : List UInt8) (h : C ≠ []) : join (C ++ [t]) = join C ++ 46 :: t := by
  rcases C with _ | ⟨c, r⟩
  · exact absurd rfl h
  rw [List.cons_append, join, join, jn_app]
theorem join_one (t : List UInt8) : join [t] = t := rfl
theorem join_app : ∀ (D C : List (List UInt8)), C ≠ [] → D ≠ [] → join (C ++ D) = join C ++ 46 :: join D := by
  intro D
  suffices h : ∀ n (D : List (List UInt8)), D.length = n → ∀ C, C ≠ [] → D ≠ [] → join (C ++ D) = join C ++ 46 :: join D from fun C => h _ D rfl C
  intro n
  induction n with
  | zero => intro D hD C _ h; exact absurd (List.length_eq_zero_iff.1 hD) h
  | succ n ih =>
    intro D hD C hC _
    rcases List.eq_nil_or_concat D with e | ⟨E, t, e⟩
    · rw [e] at hD; cases hD
    rw [e, List.concat_eq_append] at hD ⊢
    by_cases hE : E = []
    · subst hE
      rw [List.nil_append, join_one, join_snoc _ _ hC]
    rw [← List.append_assoc, join_snoc _ _ (by simp [hC]), ih E (by simpa using hD) C hC hE, join_snoc _ _ hE]
    simp
theorem join_toksA : ∀ (l p : List UInt8), join (toksA p l) = p ++ l
  | [], p => by simp [toksA, join, jn]
  | c :: l, p => by
    by_cases e : c = 46
    · subst e
      have hne : toksA [] l ≠ [] := toks_ne l
      rw [toksA_dot]
      have := join_app (toksA [] l) [p] (by simp) hne
      rw [List.singleton_append] at this
      rw [this, join_one, join_toksA l []]
      rfl
    rw [toksA_other _ e, join_toksA l]
    simp
theorem join_toks (l : List UInt8) : join (toks l) = l := by rw [toks, join_toksA]; rfl
def sepB (D : List (List UInt8)) (n : Nat) : Nat → List UInt8
  | 0 => []
  | k + 1 => sepB D n k ++ (D.getD k [] ++ (if k + 1 < n then [46] else []))
theorem sepB_take (D : List (List UInt8)) : ∀ k, 1 ≤ k → k ≤ D.length → sepB D D.length k = join (D.take k) ++ (if k < D.length then [46] else [])
  | 0, h, _ => by omega
  | 1, _, h => by
    obtain ⟨t, ht⟩ : ∃ t, D[0]? = some t := ⟨_, List.getElem?_eq_getElem (by omega)⟩
    have e : D.take 1 = [t] := by rw [List.take_add_one, ht]; rfl
    rw [sepB, sepB, List.nil_append, e, join_one, List.getD_eq_getElem?_getD, ht]
    rfl
  | k + 2, _, h => by
    obtain ⟨t, ht⟩ : ∃ t, D[k + 1]? = some t := ⟨_, List.getElem?_eq_getElem (by omega)⟩
    have e : D.take (k + 1 + 1) = D.take (k + 1) ++ [t] := by rw [List.take_add_one, ht]; rfl
    have hne : D.take (k + 1) ≠ [] := by
      intro h2
      have h3 := congrArg List.length h2
      rw [List.length_take] at h3
      have h3 : min (k + 1) D.length = 0 := h3
      omega
    rw [sepB, sepB_take D (k + 1) (by omega) (by omega), if_pos (by omega), show k + 2 = k + 1 + 1 by omega, e, join_snoc _ _ hne, List.getD_eq_getElem?_getD, ht]
    simp
theorem sepB_join (D : List (List UInt8)) : sepB D D.length D.length = join D := by
  by_cases h : D = []
  · subst h; rfl
  rw [sepB_take D _ (by rcases D with _ | ⟨t, r⟩; exact absurd rfl h; simp) (Nat.le_refl _), List.take_length, if_neg (Nat.lt_irrefl _), List.append_nil]
theorem accB_sep (n : Nat) (pc : Nat → ByteArray) (D : List (List UInt8)) (h : ∀ i, (pc i).data.toList = D.getD i []) : ∀ i, accB n pc i = sepB D n i
  | 0 => rfl
  | i + 1 => by rw [accB, sepB, accB_sep n pc D h i, h i]
theorem restB_sep (T : List (List UInt8)) (fr : Nat) : ∀ i, restB (T.map ba) fr i = sepB (T.drop fr) (T.length - fr) i
  | 0 => rfl
  | i + 1 => by
    rw [restB, sepB, restB_sep T fr i, List.length_map]
    congr 1
    congr 1
    · rw [List.getElem?_map, List.getD_eq_getElem?_getD, List.getElem?_drop]
      cases T[fr + i]? <;> rfl
    by_cases h : fr + i + 1 < T.length
    · rw [if_pos h, if_pos (by omega)]
    rw [if_neg h, if_neg (by omega)]
theorem restB_join (T : List (List UInt8)) (fr : Nat) : restB (T.map ba) fr (T.length - fr) = join (T.drop fr) := by
  rw [restB_sep, ← List.length_drop, sepB_join]
structure PubT (t : List UInt8) : Prop where
  ne : t ≠ []
  dot : (46 : UInt8) ∉ t
  clean : ∀ c ∈ t, 32 < c.toNat
  lit : litT t = true
  tame : tameT t = true
theorem formed_cons {t : List UInt8} {S : List (List UInt8)} (h : formedB (t :: S) = true) : t ≠ [] ∧ (t ≠ [62] ∨ S = []) ∧ formedB S = true := by
  rw [formedB, Bool.and_eq_true, Bool.and_eq_true, Bool.or_eq_true, decide_eq_true_iff, decide_eq_true_iff, List.isEmpty_iff] at h
  exact ⟨h.1.1, h.1.2, h.2⟩
theorem match_at : ∀ (T S : List (List UInt8)), formedB S = true → matchT T S = true → S.length ≤ T.length ∧ (S.getLast? ≠ some [62] → T.length = S.length) ∧ ∀ (i : Nat) s, S[i]? = some s → s ≠ [62] → ∃ t, T[i]? = some t ∧ (s = [42] ∨ s = t)
  | [], [], _, _ => ⟨Nat.le_refl _, fun _ => rfl, fun i s h => by simp at h⟩
  | _ :: _, [], _, h => by cases h
  | [], _ :: _, _, h => by cases h
  | t :: T, s :: S, hf, h => by
    obtain ⟨h0, h1, h2⟩ := formed_cons hf
    rw [matchT] at h
    by_cases c1 : s = [62]
    · subst c1
      have hS : S = [] := h1.resolve_left (fun h => h rfl)
      subst hS
      refine ⟨by simp, fun h => absurd rfl h, fun i s hi hs => ?_⟩
      cases i with
      | zero => exact absurd (Option.some.inj hi).symm hs
      | succ i => simp at hi
    rw [if_neg c1] at h
    by_cases c2 : s = [42] ∨ s = t
    · rw [if_pos c2] at h
      obtain ⟨g1, g2, g3⟩ := match_at T S h2 h
      refine ⟨by simp; omega, fun hl => ?_, fun i u hi hu => ?_⟩
      · rcases S with _ | ⟨x, S⟩
        · rw [List.length_cons, g2 (by simp)]; rfl
        rw [List.length_cons, g2 (by simpa using hl)]; rfl
      cases i with
      | zero =>
        have hi : s = u := Option.some.inj hi
        exact ⟨t, rfl, hi ▸ c2⟩
      | succ i => exact g3 i u hi hu
    rw [if_neg c2] at h; cases h
end Go.Proofs.YtoopmpjgmgffoaaDoor.PlFnTransformBack
