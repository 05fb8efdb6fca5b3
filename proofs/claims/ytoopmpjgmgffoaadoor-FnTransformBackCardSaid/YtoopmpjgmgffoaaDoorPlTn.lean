/- What a mapping of words and wildcards makes of a subject, plainly. -/
import Derived.Test.YtoopmpjgmgffoaaDoorPlTm
import Derived.Test.YtoopmpjgmgffoaaDoorTrJ
namespace Go.Proofs.YtoopmpjgmgffoaaDoor.PlFnTransformBack
open Go.RowKit Go.Proofs.YtoopmpjgmgffoaaDoorW.PrintWords Go.Proofs.YtoopmpjgmgffoaaDoorW.PrintLast Go.Proofs.YtoopmpjgmgffoaaDoorW.PrintMore Go.Proofs.YtoopmpjgmgffoaaDoor.Pl Go.Proofs.YtoopmpjgmgffoaaDoor.Bs Go.Proofs.YtoopmpjgmgffoaaDoor.GFnTransformBack Go.Proofs.YtoopmpjgmgffoaaDoor.Tr
set_option linter.unusedVariables false
set_option linter.unusedSimpArgs false
theorem subT_lit : ∀ (L P : List (List UInt8)), L.all litT = true → subT L P = matchT L P
  | [], [], _ => rfl
  | [], _ :: _, _ => rfl
  | _ :: _, [], _ => rfl
  | t :: L, p :: P, h => by
    rw [List.all_cons, Bool.and_eq_true] at h
    have ht : t ≠ [62] := by
      intro e
      rw [e] at h
      exact absurd h.1 (by decide)
    rw [subT, matchT, if_neg ht, subT_lit L P h.2]
    by_cases c1 : p = [62]
    · rw [if_pos c1, if_pos c1]
    rw [if_neg c1, if_neg c1]
    by_cases c2 : p = [42] ∨ t = p
    · rw [if_pos c2, if_pos (c2.imp id Eq.symm)]
    rw [if_neg c2, if_neg (fun h => c2 (h.imp id Eq.symm))]
/-! ### joining -/
theorem jn_app : ∀ (r : List (List UInt8)) (acc : List UInt8) (t : List UInt8), jn acc (r ++ [t]) = jn acc r ++ 46 :: t
  | [], acc, t => rfl
  | u :: r, acc, t => by rw [List.cons_append, jn, jn_app r, jn]
theorem join_snoc (C : List (List UInt8)) (t : List UInt8) (h : C ≠ []) : join (C ++ [t]) = join C ++ 46 :: t := by
  rcases C with _ | ⟨c, r⟩
  · exact absurd rfl h
  rw [List.cons_append, join, join, jn_app]
theorem join_one (t : List UInt8) : join [t] = t := rfl
theorem join_app : ∀ (D C : List (List UInt8)), C ≠ [] → D ≠ [] → join (C ++ D) = join C ++ 46 :: join D := by
  intro D
  suffices h : ∀ n (D : List (List UInt8)), D.length = n → ∀ C, C ≠ [] → D ≠ [] → join (C ++ D) = join C ++ 46 :: join D from fun C => h _ D rfl C
  intro n
  induction n with
  | zero => intro D hD C _ h; exact absurd (List.length_eq_zero_iff.1 hD) h
  | succ n ih =>
    intro D hD C hC _
    rcases List.eq_nil_or_concat D with e | ⟨E, t, e⟩
    · rw [e] at hD; cases hD
    rw [e, List.concat_eq_append] at hD ⊢
    by_cases hE : E = []
    · subst hE
      rw [List.nil_append, join_one, join_snoc _ _ hC]
    rw [← List.append_assoc, join_snoc _ _ (by simp [hC]), ih E (by simpa using hD) C hC hE, join_snoc _ _ hE]
    simp
theorem join_toksA : ∀ (l p : List UInt8), join (toksA p l) = p ++ l
  | [], p => by simp [toksA, join, jn]
  | c :: l, p => by
    by_cases e : c = 46
    · subst e
      have hne : toksA [] l ≠ [] := toks_ne l
      rw [toksA_dot]
      have := join_app (toksA [] l) [p] (by simp) hne
      rw [List.singleton_append] at this
      rw [this, join_one, join_toksA l []]
      rfl
    rw [toksA_other _ e, join_toksA l]
    simp
theorem join_toks (l : List UInt8) : join (toks l) = l := by rw [toks, join_toksA]; rfl
/-- Pieces with points between, piece by piece. -/
def sepB (D : List (List UInt8)) (n : Nat) : Nat → List UInt8
  | 0 => []
  | k + 1 => sepB D n k ++ (D.getD k [] ++ (if k + 1 < n then [46] else []))
theorem sepB_take (D : List (List UInt8)) : ∀ k, 1 ≤ k → k ≤ D.length → sepB D D.length k = join (D.take k) ++ (if k < D.length then [46] else [])
  | 0, h, _ => by omega
  | 1, _, h => by
    obtain ⟨t, ht⟩ : ∃ t, D[0]? = some t := ⟨_, List.getElem?_eq_getElem (by omega)⟩
    have e : D.take 1 = [t] := by rw [List.take_add_one, ht]; rfl
    rw [sepB, sepB, List.nil_append, e, join_one, List.getD_eq_getElem?_getD, ht]
    rfl
  | k + 2, _, h => by
    obtain ⟨t, ht⟩ : ∃ t, D[k + 1]? = some t := ⟨_, List.getElem?_eq_getElem (by omega)⟩
    have e : D.take (k + 1 + 1) = D.take (k + 1) ++ [t] := by rw [List.take_add_one, ht]; rfl
    have hne : D.take (k + 1) ≠ [] := by
      intro h2
      have h3 := congrArg List.length h2
      rw [List.length_take] at h3
      have h3 : min (k + 1) D.length = 0 := h3
      omega
    rw [sepB, sepB_take D (k + 1) (by omega) (by omega), if_pos (by omega), show k + 2 = k + 1 + 1 by omega, e, join_snoc _ _ hne, List.getD_eq_getElem?_getD, ht]
    simp
theorem sepB_join (D : List (List UInt8)) : sepB D D.length D.length = join D := by
  by_cases h : D = []
  · subst h; rfl
  rw [sepB_take D _ (by rcases D with _ | ⟨t, r⟩; exact absurd rfl h; simp) (Nat.le_refl _), List.take_length, if_neg (Nat.lt_irrefl _), List.append_nil]
theorem accB_sep (n : Nat) (pc : Nat → ByteArray) (D : List (List UInt8)) (h : ∀ i, (pc i).data.toList = D.getD i []) : ∀ i, accB n pc i = sepB D n i
  | 0 => rfl
  | i + 1 => by rw [accB, sepB, accB_sep n pc D h i, h i]
theorem restB_sep (T : List (List UInt8)) (fr : Nat) : ∀ i, restB (T.map ba) fr i = sepB (T.drop fr) (T.length - fr) i
  | 0 => rfl
  | i + 1 => by
    rw [restB, sepB, restB_sep T fr i, List.length_map]
    congr 1
    congr 1
    · rw [List.getElem?_map, List.getD_eq_getElem?_getD, List.getElem?_drop]
      cases T[fr + i]? <;> rfl
    by_cases h : fr + i + 1 < T.length
    · rw [if_pos h, if_pos (by omega)]
    rw [if_neg h, if_neg (by omega)]
theorem restB_join (T : List (List UInt8)) (fr : Nat) : restB (T.map ba) fr (T.length - fr) = join (T.drop fr) := by
  rw [restB_sep, ← List.length_drop, sepB_join]
/-! ### what becomes of a subject -/
/-- A token that can be published to. -/
structure PubT (t : List UInt8) : Prop where
  ne : t ≠ []
  dot : (46 : UInt8) ∉ t
  clean : ∀ c ∈ t, 32 < c.toNat
  lit : litT t = true
  tame : tameT t = true
def pcL (S T : List (List UInt8)) (p : S42) : List UInt8 := if p.f0 = 0 then p.f1.data.toList else if p.f0 = 11 then [] else T.getD ((plc 0 S).getD (p.f2 - 1).toNat 0).toNat []
def outP (S T : List (List UInt8)) (p : S42) : List (List UInt8) := if p.f0 = 11 then T.drop (S.length - 1) else [pcL S T p]
def outT (S T : List (List UInt8)) (L : List S42) : List (List UInt8) := L.flatMap (outP S T)
theorem formed_cons {t : List UInt8} {S : List (List UInt8)} (h : formedB (t :: S) = true) : t ≠ [] ∧ (t ≠ [62] ∨ S = []) ∧ formedB S = true := by
  rw [formedB, Bool.and_eq_true, Bool.and_eq_true, Bool.or_eq_true, decide_eq_true_iff, decide_eq_true_iff, List.isEmpty_iff] at h
  exact ⟨h.1.1, h.1.2, h.2⟩
theorem match_at : ∀ (T S : List (List UInt8)), formedB S = true → matchT T S = true → S.length ≤ T.length ∧ (S.getLast? ≠ some [62] → T.length = S.length) ∧ ∀ (i : Nat) s, S[i]? = some s → s ≠ [62] → ∃ t, T[i]? = some t ∧ (s = [42] ∨ s = t)
  | [], [], _, _ => ⟨Nat.le_refl _, fun _ => rfl, fun i s h => by simp at h⟩
  | _ :: _, [], _, h => by cases h
  | [], _ :: _, _, h => by cases h
  | t :: T, s :: S, hf, h => by
    obtain ⟨h0, h1, h2⟩ := formed_cons hf
    rw [matchT] at h
    by_cases c1 : s = [62]
    · subst c1
      have hS : S = [] := h1.resolve_left (fun h => h rfl)
      subst hS
      refine ⟨by simp, fun h => absurd rfl h, fun i s hi hs => ?_⟩
      cases i with
      | zero => exact absurd (Option.some.inj hi).symm hs
      | succ i => simp at hi
    rw [if_neg c1] at h
    by_cases c2 : s = [42] ∨ s = t
    · rw [if_pos c2] at h
      obtain ⟨g1, g2, g3⟩ := match_at T S h2 h
      refine ⟨by simp; omega, fun hl => ?_, fun i u hi hu => ?_⟩
      · rcases S with _ | ⟨x, S⟩
        · rw [List.length_cons, g2 (by simp)]; rfl
        rw [List.length_cons, g2 (by simpa using hl)]; rfl
      cases i with
      | zero =>
        have hi : s = u := Option.some.inj hi
        exact ⟨t, rfl, hi ▸ c2⟩
      | succ i => exact g3 i u hi hu
    rw [if_neg c2] at h; cases h
theorem match_of : ∀ (T S : List (List UInt8)), formedB S = true → S.length ≤ T.length → (S.getLast? ≠ some [62] → T.length = S.length) → (∀ (i : Nat) s t, S[i]? = some s → T[i]? = some t → s ≠ [62] → (s = [42] ∨ s = t)) → matchT T S = true
  | [], [], _, _, _, _ => rfl
  | _ :: _, [], _, _, h, _ => by have := h (by simp); cases this
  | [], _ :: _, _, h, _, _ => by cases h
  | t :: T, s :: S, hf, h1, h2, h3 => by
    obtain ⟨k0, k1, k2⟩ := formed_cons hf
    rw [matchT]
    by_cases c1 : s = [62]
    · rw [if_pos c1]
    rw [if_neg c1, if_pos (h3 0 s t rfl rfl c1)]
    refine match_of T S k2 (by simp at h1; omega) (fun hl => ?_) (fun i a b ha hb hn => h3 (i + 1) a b ha hb hn)
    rcases S with _ | ⟨x, S⟩
    · have := h2 (by simpa using c1)
      simpa using this
    have := h2 (by simpa using hl)
    simpa using this
theorem plc_at : ∀ (S : List (List UInt8)) (o i : Nat), S[i]? = some [42] → (plc o S)[(S.take i).count [42]]? = some ((o + i : Nat) : Int)
  | [], o, i, h => by simp at h
  | t :: S, o, 0, h => by
    have h : t = [42] := Option.some.inj h
    rw [h, plc_star]
    rfl
  | t :: S, o, i + 1, h => by
    have IH := plc_at S (o + 1) i h
    rw [show o + 1 + i = o + (i + 1) by omega] at IH
    rw [List.take_succ_cons]
    by_cases e : t = [42]
    · rw [e, List.count_cons_self, plc_star]
      exact IH
    rw [List.count_cons_of_ne (fun h => e h), plc_other _ e]
    exact IH
theorem fw_wild {p : S42} (h : wildK p) : fw p = [42] := by
  unfold fw
  rcases h with h | h <;> rw [if_neg (by omega), if_neg (by omega)]
theorem bk_spec : ∀ (r : List S42) (at_ : List Int) (m o : Nat), (∀ p ∈ r, p.f0 = 0 ∨ p.f0 = 11 ∨ wildK p) → (∀ p ∈ r, ¬ wildK p → fw p ≠ [42]) → ∀ N : Nat, N < at_.length →
    ((∀ p ∈ r, wildK p → p.f2.toNat ≠ N) → (bk r at_ m)[N]? = at_[N]?) ∧
    ((∃ p ∈ r, wildK p ∧ p.f2.toNat = N) → ∃ (c j : Nat) (p : S42), (bk r at_ m)[N]? = some ((m + c + 1 : Nat) : Int) ∧ (plc o (r.map fw))[c]? = some ((o + j : Nat) : Int) ∧ r[j]? = some p ∧ wildK p ∧ p.f2.toNat = N)
  | [], at_, m, o, hk, hw, N, hN => ⟨fun _ => rfl, fun ⟨p, hp, _⟩ => by cases hp⟩
  | p :: r, at_, m, o, hk, hw, N, hN => by
    have hk' := fun q hq => hk q (List.mem_cons_of_mem p hq)
    have hw' := fun q hq => hw q (List.mem_cons_of_mem p hq)
    by_cases e : p.f0 = 0 ∨ p.f0 = 11
    · have hnw : ¬ wildK p := fun h => by rcases h with h | h <;> omega
      obtain ⟨g1, g2⟩ := bk_spec r at_ m (o + 1) hk' hw' N hN
      rw [bk, if_pos e, List.map_cons, plc_other _ (hw p List.mem_cons_self hnw)]
      refine ⟨fun h => g1 fun q hq => h q (List.mem_cons_of_mem _ hq), fun ⟨q, hq, h1, h2⟩ => ?_⟩
      rcases List.mem_cons.1 hq with rfl | hq
      · exact absurd h1 hnw
      obtain ⟨c, j, q', k1, k2, k3, k4⟩ := g2 ⟨q, hq, h1, h2⟩
      exact ⟨c, j + 1, q', k1, by rw [k2]; congr 2; omega, k3, k4⟩
    have hwp : wildK p := by rcases hk p List.mem_cons_self with h | h | h; exact absurd (.inl h) e; exact absurd (.inr h) e; exact h
    obtain ⟨g1, g2⟩ := bk_spec r (at_.set p.f2.toNat ((m + 1 : Nat) : Int)) (m + 1) (o + 1) hk' hw' N (by rw [List.length_set]; exact hN)
    rw [bk, if_neg e, List.map_cons, fw_wild hwp, plc_star]
    refine ⟨fun h => ?_, fun ⟨q, hq, h1, h2⟩ => ?_⟩
    · rw [g1 fun q hq => h q (List.mem_cons_of_mem _ hq), List.getElem?_set_ne (h p List.mem_cons_self hwp)]
    by_cases hr : ∃ q ∈ r, wildK q ∧ q.f2.toNat = N
    · obtain ⟨c, j, q', k1, k2, k3, k4⟩ := g2 hr
      exact ⟨c + 1, j + 1, q', by rw [k1]; congr 2; omega, by rw [List.getElem?_cons_succ, k2]; congr 2; omega, k3, k4⟩
    have hpN : p.f2.toNat = N := by
      rcases List.mem_cons.1 hq with rfl | hq
      · exact h2
      exact absurd ⟨q, hq, h1, h2⟩ hr
    refine ⟨0, 0, p, ?_, rfl, rfl, hwp, hpN⟩
    rw [g1 fun q hq h1 h2 => hr ⟨q, hq, h1, h2⟩, hpN, List.getElem?_set_self hN]
end Go.Proofs.YtoopmpjgmgffoaaDoor.PlFnTransformBack
