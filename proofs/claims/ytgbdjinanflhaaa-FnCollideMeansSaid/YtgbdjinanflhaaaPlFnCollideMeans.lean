/- What the printed functions of FnCollideMeans come to, as plain functions on lists. -/
import Derived.Test.YtgbdjinanflhaaaPlTok
import Derived.Test.YtgbdjinanflhaaaGFnCollideMeansx11
import Derived.Test.YtgbdjinanflhaaaPlCollide
import Derived.Test.YtgbdjinanflhaaaPlPublish
import Derived.Test.YtgbdjinanflhaaaPlCommon
namespace Go.Proofs.Ytgbdjinanflhaaa.PlFnCollideMeans
open Go.RowKit Go.Proofs.YtgbdjinanflhaaaW.PrintWords Go.Proofs.YtgbdjinanflhaaaW.PrintLast Go.Proofs.YtgbdjinanflhaaaW.PrintMore Go.Proofs.Ytgbdjinanflhaaa.Pl Go.Proofs.Ytgbdjinanflhaaa.GFnCollideMeans
set_option linter.unusedVariables false
set_option linter.unusedSimpArgs false

theorem toksA_mem : ∀ (l p : List UInt8), ∀ t ∈ toksA p l, ∀ c ∈ t, (c ∈ p ∨ c ∈ l) ∧ (c ∈ p ∨ c ≠ 46)
  | [], p => by
    intro t ht c hc
    simp only [toksA, List.mem_singleton] at ht
    subst ht
    exact ⟨.inl hc, .inl hc⟩
  | d :: l, p => by
    intro t ht c hc
    by_cases h : d = 46
    · subst h
      rw [toksA_dot] at ht
      rcases List.mem_cons.1 ht with rfl | ht
      · exact ⟨.inl hc, .inl hc⟩
      · have := toksA_mem l [] t ht c hc
        simp at this
        exact ⟨.inr (List.mem_cons_of_mem _ this.1), .inr this.2⟩
    · rw [toksA_other _ h] at ht
      have := toksA_mem l _ t ht c hc
      simp only [List.mem_append, List.mem_singleton] at this
      refine ⟨?_, ?_⟩
      · rcases this.1 with (q | q) | q
        · exact .inl q
        · exact .inr (by rw [q]; exact List.mem_cons_self)
        · exact .inr (List.mem_cons_of_mem _ q)
      · rcases this.2 with (q | q) | q
        · exact .inl q
        · exact .inr (by rw [q]; exact h)
        · exact .inr q
theorem toks_mem (l : List UInt8) : ∀ t ∈ toks l, ∀ c ∈ t, c ∈ l ∧ c ≠ 46 := by
  intro t ht c hc
  have := toksA_mem l [] t ht c hc
  simpa using this
theorem formed_of : ∀ C : List (List UInt8), (∀ t ∈ C, t ≠ [] ∧ t ≠ [62]) → formedB C = true
  | [], _ => rfl
  | t :: C, h => by
    have h1 := h t List.mem_cons_self
    rw [formedB, formed_of C (fun t q => h t (List.mem_cons_of_mem _ q))]
    simp [h1.1, h1.2]
/-- A word that may stand in a subject: no wildcard, no point, no white space. -/
def wordT (t : List UInt8) : Prop := t ≠ [] ∧ litT t = true ∧ (46 : UInt8) ∉ t ∧ (∀ c ∈ t, 32 < c.toNat) ∧ t.length ≤ 400 ∧ tameT t = true
theorem words_of (l : List UInt8) (h1 : l.length ≤ 400) (h2 : l.all cleanB = true) (h3 : formedB (toks l) = true) (h4 : (toks l).all tameT = true) : ∀ t ∈ toks l, t = [62] ∨ t = [42] ∨ wordT t := by
  intro t ht
  by_cases c1 : t = [62]
  · exact .inl c1
  by_cases c2 : t = [42]
  · exact .inr (.inl c2)
  refine .inr (.inr ⟨formed_ne _ h3 t ht, by simp [litT, c1, c2], fun hc => (toks_mem l t ht _ hc).2 rfl, fun c hc => ?_, ?_, List.all_eq_true.1 h4 t ht⟩)
  · have := List.all_eq_true.1 h2 c (toks_mem l t ht c hc).1
    simp only [cleanB, Bool.and_eq_true, decide_eq_true_eq] at this
    have h := this.1
    rw [UInt8.lt_iff_toNat_lt] at h
    exact h
  · have := toks_short l t ht; omega
theorem word_w : wordT [119] := ⟨by simp, by decide, by decide, by decide, by decide, by decide⟩
theorem join_words (C : List (List UInt8)) (h0 : C ≠ []) (hw : ∀ t ∈ C, wordT t) (hn : C.length ≤ 401) : toks (join C) = C ∧ (join C).length ≤ 160801 ∧ join C ≠ [] ∧ formedB C = true ∧ C.all litT = true ∧ C.all tameT = true := by
  have h1 := toks_join C h0 (fun t q => (hw t q).2.2.1)
  refine ⟨h1, ?_, ?_, formed_of C (fun t q => ⟨(hw t q).1, ?_⟩), List.all_eq_true.2 (fun t q => (hw t q).2.1), List.all_eq_true.2 (fun t q => (hw t q).2.2.2.2.2)⟩
  · rcases C with _ | ⟨t, r⟩
    · exact absurd rfl h0
    · have := jn_len 400 r t (fun t q => (hw t (List.mem_cons_of_mem _ q)).2.2.2.2.1)
      have h2 := (hw t List.mem_cons_self).2.2.2.2.1
      rw [List.length_cons] at hn
      rw [join]; omega
  · intro e
    rw [e] at h1
    have h2 : toks [] = [[]] := rfl
    rw [h2] at h1
    subst h1
    exact (hw [] List.mem_cons_self).1 rfl
  · intro e
    have := (hw t q).2.1
    rw [e] at this
    exact absurd this (by decide)
theorem awake_ev : Ev (fun k => laws_awakeSubject.f k) true := by
  refine Ev.congr (fun k => by rw [laws_awakeSubject.f]) ?_
  refine Ev.bind (a := true) (Ev.det' (impl_Matches_ev [97, 46, 98] [97, 46, 42] (by simp) (by simp) (by decide) (by decide) (by decide) (by decide)) (by decide)) ?_
  refine Ev.pos rfl ?_
  refine Ev.bind (a := true) (Ev.of (fun k => impl_MatchLiteral.mono _ _ k) (k := 30) (by kernel_rfl)) ?_
  refine Ev.pos rfl ?_
  refine Ev.bind (a := true) (Publish_ev [97, 46, 98] (by simp) (by simp) (by decide) (by decide)) ?_
  refine Ev.pos rfl ?_
  refine Ev.bind (a := true) (Ev.det' (Collide_ev [97, 46, 42] [42, 46, 98] (by simp) (by simp) (by decide) (by decide) (by decide) (by decide)) (by decide)) ?_
  exact Ev.now _
theorem pure : laws_FnCollideMeans.Pure := by
  intro s p u hs hp hu
  obtain ⟨l, rfl⟩ := ba_surj s
  obtain ⟨q, rfl⟩ := ba_surj p
  obtain ⟨z, rfl⟩ := ba_surj u
  have hsz : (ba l).size = l.length := ba_size l
  have hpz : (ba q).size = q.length := ba_size q
  have huz : (ba z).size = z.length := ba_size z
  apply Ev.rounds
  have J1 : Ev (fun k => laws_FnCollideMeans.j0 k (ba l) (ba q) (ba z) true) true := by
    refine Ev.step (fun k => by rw [laws_FnCollideMeans.j0, if_pos rfl]) ?_
    exact Ev.now _
  have J2 : Ev (fun k => laws_FnCollideMeans.j1 k (ba l) (ba q) (ba z) true) true := by
    refine Ev.step (fun k => by rw [laws_FnCollideMeans.j1, if_pos rfl]) ?_
    exact Ev.now _
  refine Ev.congr (fun k => by rw [laws_FnCollideMeans.f]) ?_
  by_cases hb : ((ba l).size : Int) > 2147483647
  · exact Ev.pos hb J1
  refine Ev.neg hb ?_
  by_cases hb2 : ((ba q).size : Int) > 2147483647
  · exact Ev.pos hb2 J1
  refine Ev.neg hb2 ?_
  by_cases hb3 : ((ba z).size : Int) > 2147483647
  · rw [decide_eq_true hb3]; exact J1
  rw [decide_eq_false hb3]
  refine Ev.step (fun k => by rw [laws_FnCollideMeans.j0, if_neg (by simp)]) ?_
  refine Ev.bind awake_ev (Ev.pos rfl ?_)
  obtain ⟨b1, ev1, if1⟩ := valid_ev l (by omega)
  refine Ev.bind ev1 ?_
  cases b1 with
  | false => exact Ev.neg (by simp) J2
  | true =>
  refine Ev.pos rfl ?_
  obtain ⟨b2, ev2, if2⟩ := valid_ev q (by omega)
  refine Ev.bind ev2 ?_
  cases b2 with
  | false => exact Ev.neg (by simp) J2
  | true =>
  refine Ev.pos rfl ?_
  obtain ⟨b3, ev3, if3⟩ := plain_ev z (by omega)
  refine Ev.bind ev3 ?_
  cases b3 with
  | false => exact J2
  | true =>
  obtain ⟨⟨l1, l2⟩, hv1, ht1⟩ := if1.1 rfl
  obtain ⟨⟨q1, q2⟩, hv2, ht2⟩ := if2.1 rfl
  obtain ⟨⟨-, hv3, ht3⟩, hlit⟩ := if3.1 rfl
  simp only [validB, Bool.and_eq_true] at hv1 hv2 hv3
  refine Ev.step (fun k => by rw [laws_FnCollideMeans.j1, if_neg (by simp)]) ?_
  have C1 := Collide_ev l q (by omega) (by omega) hv1.1 hv2.1 ht1 ht2
  have C2 := Collide_ev q l (by omega) (by omega) hv2.1 hv1.1 ht2 ht1
  refine Ev.bind C1 (Ev.bind C2 ?_)
  rw [colT_comm (toks q) (toks l)]
  refine Ev.neg (by simp) ?_
  refine Ev.bind C1 ?_
  cases hc : colT (toks l) (toks q) with
  | true =>
    refine Ev.pos rfl ?_
    have hA : (toks l).length ≤ 401 := by rw [toks_len]; have := List.count_le_length (a := (46 : UInt8)) (l := l); omega
    have hB : (toks q).length ≤ 401 := by rw [toks_len]; have := List.count_le_length (a := (46 : UInt8)) (l := q); omega
    have hlen := comT_len (toks l) (toks q)
    have hne : comT (toks l) (toks q) ≠ [] := by
      intro e
      rw [e] at hlen
      have : 0 < (toks l).length := List.length_pos_iff.2 (toksA_ne _ _)
      simp at hlen
      omega
    have hw := comT_all (P := wordT) word_w (toks l) (toks q) (words_of l l1 l2 hv1.1 ht1) (words_of q q1 q2 hv2.1 ht2)
    obtain ⟨t1, t2, t3, t4, t5, t6⟩ := join_words _ hne hw (by omega)
    have S1 := com_sub1 _ _ hv1.1 hv2.1 hc
    have S2 := com_sub2 _ _ hv1.1 hv2.1 hc
    refine Ev.bind (Common_ev l q (by omega) (by omega) (by omega)) ?_
    generalize comT (toks l) (toks q) = C at *
    refine Ev.bind (Publish_ev (join C) (by omega) t3 (by rw [t1]; exact t5) (fun t m => by rw [t1] at m; exact ⟨(hw t m).1, (hw t m).2.2.2.1⟩)) ?_
    refine Ev.pos rfl ?_
    have M1 := impl_Matches_ev (join C) l (by omega) (by omega) (by rw [t1]; exact t4) hv1.1 (by rw [t1]; exact t6) ht1
    have M2 := impl_Matches_ev (join C) q (by omega) (by omega) (by rw [t1]; exact t4) hv2.1 (by rw [t1]; exact t6) ht2
    rw [t1, S1] at M1
    rw [t1, S2] at M2
    exact Ev.bind M1 (Ev.pos rfl (Ev.bind M2 (Ev.now _)))
  | false =>
    refine Ev.neg (by simp) ?_
    have M1 := impl_Matches_ev z l (by omega) (by omega) hv3.1 hv1.1 ht3 ht1
    have M2 := impl_Matches_ev z q (by omega) (by omega) hv3.1 hv2.1 ht3 ht2
    refine Ev.bind M1 ?_
    cases m1 : subT (toks z) (toks l) with
    | false => exact Ev.neg (by simp) (Ev.now _)
    | true =>
      refine Ev.pos rfl (Ev.bind M2 ?_)
      cases m2 : subT (toks z) (toks q) with
      | false => exact Ev.now _
      | true =>
        have := col_of_lit _ _ _ hlit m1 m2
        rw [hc] at this
        cases this

end Go.Proofs.Ytgbdjinanflhaaa.PlFnCollideMeans
