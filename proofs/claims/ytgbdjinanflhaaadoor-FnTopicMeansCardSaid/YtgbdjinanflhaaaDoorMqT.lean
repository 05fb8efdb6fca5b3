/- A filter's subject matches a topic's just as the rules say. Plain. -/
import Derived.Test.YtgbdjinanflhaaaDoorMqS
namespace Go.Proofs.YtgbdjinanflhaaaDoor.Mq
open Go.RowKit Go.Proofs.YtgbdjinanflhaaaDoorW.PrintWords Go.Proofs.YtgbdjinanflhaaaDoorW.PrintLast Go.Proofs.YtgbdjinanflhaaaDoorW.PrintMore Go.Proofs.YtgbdjinanflhaaaDoor.Pl Go.Proofs.YtgbdjinanflhaaaDoor.GFnTopicMeans
set_option linter.unusedVariables false
set_option linter.unusedSimpArgs false

/-- A topic's level. -/
def pl (x : List UInt8) : Prop := ∀ c ∈ x, tcb c ∧ c ≠ 47
theorem wv_tcb {c : UInt8} (h : tcb c) : wv c = c := by unfold wv; rw [if_neg h.2.2.1, if_neg h.2.2.2.1]
theorem leC_tcb {c : UInt8} (h : tcb c) : leC c = if c = 46 then [47, 47] else [c] := by unfold leC; rw [wv_tcb h]
theorem fl_inj : ∀ (x y : List UInt8), pl x → pl y → x.flatMap leC = y.flatMap leC → x = y
  | [], [], _, _, _ => rfl
  | [], d :: y, _, hy, h => by
    rw [List.flatMap_cons, leC_tcb (hy d List.mem_cons_self).1] at h
    split at h <;> simp at h
  | c :: x, [], hx, _, h => by
    rw [List.flatMap_cons, leC_tcb (hx c List.mem_cons_self).1] at h
    split at h <;> simp at h
  | c :: x, d :: y, hx, hy, h => by
    have ih := fl_inj x y (fun e he => hx e (List.mem_cons_of_mem _ he)) (fun e he => hy e (List.mem_cons_of_mem _ he))
    have c47 := (hx c List.mem_cons_self).2
    have d47 := (hy d List.mem_cons_self).2
    rw [List.flatMap_cons, List.flatMap_cons, leC_tcb (hx c List.mem_cons_self).1, leC_tcb (hy d List.mem_cons_self).1] at h
    by_cases hc : c = 46
    · rw [if_pos hc] at h
      by_cases hd : d = 46
      · rw [if_pos hd] at h
        rw [hc, hd, ih (by simpa using h)]
      · rw [if_neg hd] at h
        simp at h
        exact absurd h.1.symm d47
    · rw [if_neg hc] at h
      by_cases hd : d = 46
      · rw [if_pos hd] at h
        simp at h
        exact absurd h.1 c47
      · rw [if_neg hd] at h
        simp at h
        rw [h.1, ih h.2]
theorem fl_one (x : List UInt8) (hx : pl x) : x.flatMap leC ≠ [47] := by
  cases x with
  | nil => simp
  | cons c x =>
    have c47 := (hx c List.mem_cons_self).2
    rw [List.flatMap_cons, leC_tcb (hx c List.mem_cons_self).1]
    split
    · simp
    · simp
      exact fun h => absurd h c47
theorem le_inj {x y : List UInt8} (hx : pl x) (hy : pl y) (h : le x = le y) : x = y := by
  unfold le at h
  by_cases h1 : x = []
  · by_cases h2 : y = []
    · rw [h1, h2]
    · rw [if_pos h1, if_neg h2] at h
      exact absurd h.symm (fl_one y hy)
  · by_cases h2 : y = []
    · rw [if_neg h1, if_pos h2] at h
      exact absurd h (fl_one x hx)
    · rw [if_neg h1, if_neg h2] at h
      exact fl_inj x y hx hy h
theorem le_ne (x : List UInt8) : le x ≠ [] := by
  unfold le
  split
  · simp
  · cases x with
    | nil => contradiction
    | cons c x => rw [List.flatMap_cons]; unfold leC; split <;> simp
theorem le_mem {x : List UInt8} (hx : pl x) : ∀ c ∈ le x, c ≠ 42 ∧ c ≠ 62 := by
  intro c hc
  unfold le at hc
  split at hc
  · rw [List.mem_singleton.1 hc]; decide
  · obtain ⟨d, hd, hcd⟩ := List.mem_flatMap.1 hc
    have ht := (hx d hd).1
    rw [leC_tcb ht] at hcd
    split at hcd
    · have : c = 47 := by simpa using hcd
      rw [this]; decide
    · rw [List.mem_singleton.1 hcd]
      exact ⟨ht.2.2.2.2.1, ht.2.2.2.2.2⟩
theorem le_42 {x : List UInt8} (hx : pl x) : le x ≠ [42] := fun h => (le_mem hx 42 (by rw [h]; simp)).1 rfl
theorem le_62 {x : List UInt8} (hx : pl x) : le x ≠ [62] := fun h => (le_mem hx 62 (by rw [h]; simp)).2 rfl
theorem le_tame {x : List UInt8} (hx : pl x) : tameT (le x) = true := by
  unfold tameT
  rw [Bool.or_eq_true, Bool.not_eq_true']
  right
  rw [List.any_eq_false]
  intro c hc
  have := le_mem hx c hc
  unfold wildB
  simp [this.1, this.2]
/-- A filter's level. -/
def fl (x : List UInt8) : Prop := x = [43] ∨ x = [35] ∨ pl x
theorem fl_ne62 {x : List UInt8} (h : fl x) (hn : x ≠ [35]) : le x ≠ [62] := by
  rcases h with rfl | rfl | h
  · decide
  · exact absurd rfl hn
  · exact le_62 h
theorem fl_tame {x : List UInt8} (h : fl x) : tameT (le x) = true := by
  rcases h with rfl | rfl | h
  · decide
  · decide
  · exact le_tame h
theorem sub_head {f t : List UInt8} (hf : fl f) (hn : f ≠ [35]) (ht : pl t) (l ps : List (List UInt8)) : subT (le t :: l) (le f :: ps) = if f = [43] ∨ f = t then subT l ps else false := by
  rw [subT, if_neg (fl_ne62 hf hn), if_neg (le_62 ht)]
  by_cases h : f = [43] ∨ f = t
  · rw [if_pos h, if_pos]
    rcases h with rfl | rfl
    · exact .inl rfl
    · exact .inr rfl
  · rw [if_neg h, if_neg]
    rintro (h1 | h1)
    · rcases hf with rfl | rfl | hf
      · exact h (.inl rfl)
      · exact hn rfl
      · exact le_42 hf h1
    · rcases hf with rfl | rfl | hf
      · exact h (.inl rfl)
      · exact hn rfl
      · exact h (.inr (le_inj ht hf h1).symm)
theorem match_plain : ∀ (F T : List (List UInt8)), (∀ x ∈ F, fl x ∧ x ≠ [35]) → (∀ x ∈ T, pl x) → subT (T.map le) (F.map le) = filB F T
  | [], [], _, _ => rfl
  | [], t :: T, _, _ => rfl
  | f :: F, [], hF, _ => by rw [filB, decide_eq_false (hF f List.mem_cons_self).2]; rfl
  | f :: F, t :: T, hF, hT => by
    have h := hF f List.mem_cons_self
    rw [List.map_cons, List.map_cons, sub_head h.1 h.2 (hT t List.mem_cons_self), filB, if_neg h.2, match_plain F T (fun x hx => hF x (List.mem_cons_of_mem _ hx)) (fun x hx => hT x (List.mem_cons_of_mem _ hx))]
theorem match_open : ∀ (G T : List (List UInt8)), (∀ x ∈ G, fl x ∧ x ≠ [35]) → (∀ x ∈ T, pl x) → filB (G ++ [[35]]) T = (subT (T.map le) ((G ++ [[35]]).map le) || subT (T.map le) (G.map le))
  | [], [], _, _ => rfl
  | [], t :: T, _, _ => by
    rw [List.nil_append, filB, if_pos rfl]
    rw [show (([[35]] : List (List UInt8)).map le) = [[62]] from rfl, List.map_cons, subT, if_pos rfl]
    rfl
  | f :: F, [], hF, _ => by rw [List.cons_append, filB, decide_eq_false (hF f List.mem_cons_self).2]; rfl
  | f :: F, t :: T, hF, hT => by
    have h := hF f List.mem_cons_self
    rw [List.cons_append, List.map_cons, List.map_cons, List.map_cons, sub_head h.1 h.2 (hT t List.mem_cons_self), sub_head h.1 h.2 (hT t List.mem_cons_self), filB, if_neg h.2]
    split
    · exact match_open F T (fun x hx => hF x (List.mem_cons_of_mem _ hx)) (fun x hx => hT x (List.mem_cons_of_mem _ hx))
    · rfl
theorem fOk_shape : ∀ (F : List (List UInt8)), fOk F → (∀ x ∈ F, (47 : UInt8) ∉ x) → (∀ x ∈ F, fl x) ∧ ((∀ x ∈ F, x ≠ [35]) ∨ ∃ G, F = G ++ [[35]] ∧ ∀ x ∈ G, x ≠ [35])
  | [], _, _ => ⟨by simp, .inl (by simp)⟩
  | x :: xs, ⟨h1, h2⟩, h47 => by
    obtain ⟨i1, i2⟩ := fOk_shape xs h2 (fun y hy => h47 y (List.mem_cons_of_mem _ hy))
    have hx47 := h47 x List.mem_cons_self
    have hfl : fl x := by
      rcases h1 with rfl | h | ⟨h, -⟩ | h
      · exact .inr (.inr (fun c hc => by cases hc))
      · exact .inl h
      · exact .inr (.inl h)
      · exact .inr (.inr (fun c hc => ⟨h.2 c hc, fun e => hx47 (e ▸ hc)⟩))
    refine ⟨fun y hy => ?_, ?_⟩
    · rcases List.mem_cons.1 hy with rfl | hy
      · exact hfl
      · exact i1 y hy
    · by_cases h35 : x = [35]
      · subst h35
        rcases h1 with h | h | ⟨-, rfl⟩ | h
        · cases h
        · cases h
        · exact .inr ⟨[], rfl, by simp⟩
        · exact absurd rfl (h.2 35 (by simp)).2.2.2.1
      · rcases i2 with h | ⟨G, rfl, h⟩
        · left
          intro y hy
          rcases List.mem_cons.1 hy with rfl | hy
          · exact h35
          · exact h y hy
        · right
          refine ⟨x :: G, rfl, fun y hy => ?_⟩
          rcases List.mem_cons.1 hy with rfl | hy
          · exact h35
          · exact h y hy
theorem topic_levels {t : List UInt8} (h : tp t) : ∀ x ∈ lv t, pl x := fun x hx c hc => by
  obtain ⟨h1, h2⟩ := lvA_sub t [] (by simp) x hx
  exact ⟨h.2 c ((h1 c hc).resolve_left (by simp)), fun e => h2 (e ▸ hc)⟩
theorem filter_bytes {f : List UInt8} (h : ∀ x ∈ lv f, fl x) : ∀ c ∈ f, okb true c := fun c hc => by
  rcases lvA_mem f [] c (.inr hc) with rfl | ⟨x, hx, hcx⟩
  · exact ⟨by decide, by decide, by simp⟩
  · rcases h x hx with rfl | rfl | h
    · rw [List.mem_singleton.1 hcx]; exact ⟨by decide, by decide, by simp⟩
    · rw [List.mem_singleton.1 hcx]; exact ⟨by decide, by decide, by simp⟩
    · exact ⟨(h c hcx).1.1, (h c hcx).1.2.1, by simp⟩
theorem match_ev {t f : List UInt8} (ht : t.length ≤ 100) (hf : f.length ≤ 100) (h1 : ∀ x ∈ lv t, pl x) (h2 : ∀ x ∈ lv f, fl x) :
    Ev (fun k => impl_Matches.f k (ba (encW t true)) (ba (encW f true))) (subT ((lv t).map le) ((lv f).map le)) := by
  have e1 := toks_encW t
  have e2 := toks_encW f
  have l1 := encW_len t true
  have l2 := encW_len f true
  have h := impl_Matches_ev (encW t true) (encW f true) (by omega) (by omega) (fun x hx => by
      rw [e1] at hx; obtain ⟨y, -, rfl⟩ := List.mem_map.1 hx; exact le_ne y) (fun x hx => by
      rw [e2] at hx; obtain ⟨y, -, rfl⟩ := List.mem_map.1 hx; exact le_ne y) (by
      rw [e1, List.all_eq_true]; intro x hx; obtain ⟨y, hy, rfl⟩ := List.mem_map.1 hx; exact le_tame (h1 y hy)) (by
      rw [e2, List.all_eq_true]; intro x hx; obtain ⟨y, hy, rfl⟩ := List.mem_map.1 hx; exact fl_tame (h2 y hy))
  rw [e1, e2] at h
  exact h
/-- All that the law asks. -/
theorem means_plain (t f : List UInt8) (ht : t.length ≤ 100) (hf : f.length ≤ 100) (htp : tp t) (hfo : fOk (lv f)) (hf0 : f ≠ []) :
    ∃ g0 nd, Ev (fun k => impl_Matches.f k (ba (encW t true)) (ba (encW f true))) g0 ∧ impl_NeedsUp.f (ba (encW f true)) = some nd ∧
      (nd = false → Ev (fun k => spec_Filters.f k (ba f) (ba t)) g0) ∧
      (nd = true → ∃ y g1, y.length ≤ 100 ∧ (∀ c ∈ y, okb true c) ∧ Ev (fun k => spec_Above.f k (ba f)) (ba y) ∧ Ev (fun k => impl_Matches.f k (ba (encW t true)) (ba (encW y true))) g1 ∧ Ev (fun k => spec_Filters.f k (ba f) (ba t)) (g0 || g1)) := by
  have hT := topic_levels htp
  have h47 : ∀ x ∈ lv f, (47 : UInt8) ∉ x := fun x hx => (lvA_sub f [] (by simp) x hx).2
  obtain ⟨hfl, hs⟩ := fOk_shape (lv f) hfo h47
  have hM := match_ev ht hf hT hfl
  have hF := Filters_ev f t (by omega) (by omega)
  have hbl := encW_len f true
  have htk : toksA [] (encW f true) = (lv f).map le := toks_encW f
  have hnf : (∀ y, encW f true ≠ y ++ [46, 62]) → impl_NeedsUp.f (ba (encW f true)) = some false := fun h => needs_false _ (by omega) h
  have htn : ∀ y, toksA [] y ≠ [] := fun y h => by have := toksA_len y []; rw [h] at this; simp at this
  rcases hs with hA | ⟨G, hG, hG35⟩
  · refine ⟨_, false, hM, hnf (fun y hy => ?_), fun _ => ?_, fun h => by cases h⟩
    · rw [hy, show y ++ [46, 62] = y ++ 46 :: [62] from rfl, toksA_app] at htk
      have hm : ([62] : List UInt8) ∈ (lv f).map le := by rw [← htk]; simp [toksA]
      obtain ⟨x, hx, hxl⟩ := List.mem_map.1 hm
      exact fl_ne62 (hfl x hx) (hA x hx) hxl
    · rw [match_plain (lv f) (lv t) (fun x hx => ⟨hfl x hx, hA x hx⟩) hT]
      exact hF
  · have hGf : ∀ x ∈ G, fl x ∧ x ≠ [35] := fun x hx => ⟨hfl x (by rw [hG]; simp [hx]), hG35 x hx⟩
    have hopen := match_open G (lv t) hGf hT
    by_cases hG0 : G = []
    · subst hG0
      refine ⟨_, false, hM, hnf (fun y hy => ?_), fun _ => ?_, fun h => by cases h⟩
      · rw [hy, show y ++ [46, 62] = y ++ 46 :: [62] from rfl, toksA_app, hG] at htk
        have := congrArg List.length htk
        have hn := List.length_pos_iff.2 (htn y)
        simp [toksA] at this
        rw [this] at hn
        simp at hn
      · rw [← hG] at hopen
        have hlt : lv t ≠ [] := lvA_ne t []
        cases hlv : lv t with
        | nil => exact absurd hlv hlt
        | cons x xs =>
          refine Ev.det' hF ?_
          rw [hlv, hG, List.nil_append, filB, if_pos rfl, List.map_cons, show (([[35]] : List (List UInt8)).map le) = [[62]] from rfl, subT, if_pos rfl]
    · obtain ⟨y, hy, hyG⟩ := lvA_last f [] G [35] hG hG0
      have hyl : y.length ≤ 100 := by rw [hy, List.length_append] at hf; omega
      rw [hG, List.map_append, show (([[35]] : List (List UInt8)).map le) = [[62]] from rfl] at htk
      obtain ⟨z, hz, hzt⟩ := toksA_last _ _ _ _ htk (by simpa using hG0)
      have hz0 : z ≠ [] := by
        rintro rfl
        have hm : ([] : List UInt8) ∈ G.map le := by rw [← hzt]; simp [toksA]
        obtain ⟨x, -, hx⟩ := List.mem_map.1 hm
        exact le_ne x hx
      have hyfl : ∀ x ∈ lv y, fl x := fun x hx => (hGf x (by rw [← hyG]; exact hx)).1
      refine ⟨_, true, hM, ?_, fun h => (by cases h), fun _ => ⟨y, _, hyl, filter_bytes hyfl, Above_ev f G [35] y (by omega) hG hy hyG, match_ev ht hyl hT hyfl, ?_⟩⟩
      · rw [hz, show z ++ 46 :: [62] = z ++ [46, 62] from rfl]
        refine needs_true z hz0 ?_
        rw [hz, List.length_append] at hbl
        omega
      · rw [← hG] at hopen
        rw [show lv y = G from hyG, ← hopen]
        exact hF
end Go.Proofs.YtgbdjinanflhaaaDoor.Mq
