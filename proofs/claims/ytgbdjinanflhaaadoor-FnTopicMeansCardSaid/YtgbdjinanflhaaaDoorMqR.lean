/- What the printed functions of FnTopicMeans answer. Plain. -/
import Derived.Test.YtgbdjinanflhaaaDoorMqN
namespace Go.Proofs.YtgbdjinanflhaaaDoor.Mq
open Go.RowKit Go.Proofs.YtgbdjinanflhaaaDoorW.PrintWords Go.Proofs.YtgbdjinanflhaaaDoorW.PrintLast Go.Proofs.YtgbdjinanflhaaaDoorW.PrintMore Go.Proofs.YtgbdjinanflhaaaDoor.Pl Go.Proofs.YtgbdjinanflhaaaDoor.GFnTopicMeans
set_option linter.unusedVariables false
set_option linter.unusedSimpArgs false

theorem lvA_cut (q l : List UInt8) : lvA q (47 :: l) = q :: lvA [] l := by rw [lvA, if_pos rfl]
theorem lvA_other (q : List UInt8) {c : UInt8} (h : c ≠ 47) (l : List UInt8) : lvA q (c :: l) = lvA (q ++ [c]) l := by rw [lvA, if_neg h]
theorem lvA_ne : ∀ (l q : List UInt8), lvA q l ≠ []
  | [], q => by simp [lvA]
  | c :: l, q => by
    by_cases h : c = 47
    · subst h; rw [lvA_cut]; simp
    · rw [lvA_other q h]; exact lvA_ne l _
theorem lvA_len : ∀ (l q : List UInt8), (lvA q l).length ≤ l.length + 1
  | [], q => by simp [lvA]
  | c :: l, q => by
    by_cases h : c = 47
    · subst h; rw [lvA_cut]; have := lvA_len l []; simp; omega
    · rw [lvA_other q h]; have := lvA_len l (q ++ [c]); simp; omega
theorem lvA_mem : ∀ (l q : List UInt8) (c : UInt8), (c ∈ q ∨ c ∈ l) → c = 47 ∨ ∃ x ∈ lvA q l, c ∈ x
  | [], q, c, h => .inr ⟨q, by simp [lvA], h.resolve_right (by simp)⟩
  | d :: l, q, c, h => by
    by_cases hd : d = 47
    · subst hd
      rw [lvA_cut]
      rcases h with h | h
      · exact .inr ⟨q, List.mem_cons_self, h⟩
      · rcases List.mem_cons.1 h with rfl | h
        · exact .inl rfl
        · rcases lvA_mem l [] c (.inr h) with h | ⟨x, hx, hc⟩
          · exact .inl h
          · exact .inr ⟨x, List.mem_cons_of_mem _ hx, hc⟩
    · rw [lvA_other q hd]
      refine lvA_mem l _ c ?_
      rcases h with h | h
      · exact .inl (by simp [h])
      · rcases List.mem_cons.1 h with rfl | h
        · exact .inl (by simp)
        · exact .inr h
theorem lvA_sub : ∀ (l q : List UInt8), (47 : UInt8) ∉ q → ∀ x ∈ lvA q l, (∀ c ∈ x, c ∈ q ∨ c ∈ l) ∧ (47 : UInt8) ∉ x
  | [], q, hq => fun x hx => by
    obtain rfl := List.mem_singleton.1 hx
    exact ⟨fun c hc => .inl hc, hq⟩
  | d :: l, q, hq => fun x hx => by
    by_cases hd : d = 47
    · subst hd
      rw [lvA_cut] at hx
      rcases List.mem_cons.1 hx with rfl | hx
      · exact ⟨fun c hc => .inl hc, hq⟩
      · obtain ⟨h1, h2⟩ := lvA_sub l [] (by simp) x hx
        exact ⟨fun c hc => .inr (List.mem_cons_of_mem _ ((h1 c hc).resolve_left (by simp))), h2⟩
    · rw [lvA_other q hd] at hx
      obtain ⟨h1, h2⟩ := lvA_sub l (q ++ [d]) (by simp [hq]; exact fun h => hd h.symm) x hx
      refine ⟨fun c hc => ?_, h2⟩
      rcases h1 c hc with h | h
      · rcases List.mem_append.1 h with h | h
        · exact .inl h
        · exact .inr (by rw [List.mem_singleton.1 h]; exact List.mem_cons_self)
      · exact .inr (List.mem_cons_of_mem _ h)
theorem lvA_short : ∀ (l q : List UInt8), ∀ t ∈ lvA q l, t.length ≤ q.length + l.length
  | [], q => by simp [lvA]
  | c :: l, q => by
    intro t ht
    by_cases h : c = 47
    · subst h
      rw [lvA_cut] at ht
      rcases List.mem_cons.1 ht with rfl | ht
      · omega
      · have := lvA_short l [] t ht; simp at this ⊢; omega
    · rw [lvA_other q h] at ht
      have := lvA_short l _ t ht; simp at this ⊢; omega
theorem toks47_short (l : List UInt8) : ∀ t ∈ lv l, t.length ≤ l.length := fun t ht => by have := lvA_short l [] t ht; simpa using this
theorem levels_l0 (s : ByteArray) (hs : s.size < 8796093022208) : ∀ (rest pre p : List UInt8) (out : List ByteArray) (fr i : Int), s = ba (pre ++ p ++ rest) → fr = (pre.length : Int) → i = (pre.length : Int) + p.length → out.length ≤ pre.length →
    Ev (fun k => spec_levels.l0 k s out fr i) (out ++ (lvA p rest).map ba) := by
  intro rest
  induction rest with
  | nil =>
    intro pre p out fr i h hf hi ho
    have hz : (s.size : Int) = pre.length + p.length := by rw [h, ba_size]; simp
    have he : s.extract fr.toNat s.size = ba p := ext_end pre p (by rw [h, List.append_nil]) hf
    refine Ev.step (fun k => by rw [spec_levels.l0, if_neg (by omega), if_pos (by omega), if_pos (by omega), if_pos (by omega), he]) ?_
    exact Ev.now _
  | cons c rest ih =>
    intro pre p out fr i h hf hi ho
    have hz : (s.size : Int) = pre.length + p.length + rest.length + 1 := by rw [h, ba_size]; simp; omega
    have hb : bt s i = (c.toNat : Int) := bt_mid (pre ++ p) c rest h (by simp; omega)
    have hw : wrap64 (i + 1) = i + 1 := w64 (by omega) (by omega)
    have he : s.extract fr.toNat i.toNat = ba p := ext_mid pre p (c :: rest) h hf hi
    by_cases hc : c = 47
    · subst hc
      refine Ev.step (fun k => by rw [spec_levels.l0, if_pos (by omega), if_pos (by omega), hb, if_pos (by decide), if_pos (by omega), if_pos (by omega), if_pos (by omega), if_pos (by omega), he, hw]) ?_
      refine Ev.det' (ih (pre ++ p ++ [47]) [] (out ++ [ba p]) (i + 1) (i + 1) (by rw [h]; simp) (by simp; omega) (by simp; omega) (by simp; omega)) ?_
      rw [lvA_cut]; simp
    · have hne : ¬ ((c.toNat : Int) = 47) := fun e => hc ((toNat_eq (n := 47) (by omega)).1 e)
      refine Ev.step (fun k => by rw [spec_levels.l0, if_pos (by omega), if_pos (by omega), hb, if_neg hne, hw]) ?_
      refine Ev.det' (ih pre (p ++ [c]) out fr (i + 1) (by rw [h]; simp) hf (by simp; omega) ho) ?_
      rw [lvA_other _ hc]
theorem levels_ev (l : List UInt8) (hs : l.length < 8796093022208) : Ev (fun k => spec_levels.f k (ba l)) ((lv l).map ba) := by
  have := levels_l0 (ba l) hs l [] [] [] 0 0 (by simp) (by simp) (by simp) (by simp)
  exact this
/-- A byte of a topic; a topic. -/
def tcb (c : UInt8) : Prop := 33 ≤ c.toNat ∧ c.toNat ≤ 126 ∧ c ≠ 43 ∧ c ≠ 35 ∧ c ≠ 42 ∧ c ≠ 62
theorem Top_l0 (L : List UInt8) (hs : L.length ≤ 2147483647) (h0 : L ≠ []) : ∀ (rest pre : List UInt8) (i : Int), L = pre ++ rest → i = (pre.length : Int) →
    ∃ b, Ev (fun k => spec_Topical.l0 k (ba L) i) b ∧ (b = true → ∀ c ∈ rest, tcb c) := by
  intro rest
  induction rest with
  | nil =>
    intro pre i h hi
    have hz : (ba L).size = pre.length := by rw [h, ba_size]; simp
    exact ⟨_, Ev.step (fun k => by rw [spec_Topical.l0, if_neg (by omega)]) (Ev.now _), fun _ c hc => by cases hc⟩
  | cons c rest ih =>
    intro pre i h hi
    have hz : (ba L).size = pre.length + rest.length + 1 := by rw [h, ba_size]; simp; omega
    have hlz : (ba L).size = L.length := ba_size L
    have hb : bt (ba L) i = (c.toNat : Int) := bt_mid pre c rest (by rw [h]) hi
    have hw : wrap64 (i + 1) = i + 1 := w64 (by omega) (by omega)
    obtain ⟨b, he, hp⟩ := ih (pre ++ [c]) (i + 1) (by rw [h]; simp) (by simp; omega)
    by_cases c1 : (c.toNat : Int) < 33
    · exact ⟨false, Ev.step (fun k => by rw [spec_Topical.l0, if_pos (by omega), if_pos (by omega), hb, if_pos c1]) (Ev.now _), fun h => by cases h⟩
    by_cases c2 : (c.toNat : Int) > 126
    · exact ⟨false, Ev.step (fun k => by rw [spec_Topical.l0, if_pos (by omega), if_pos (by omega), hb, if_neg c1, if_pos c2]) (Ev.now _), fun h => by cases h⟩
    by_cases c3 : (c.toNat : Int) = 43
    · exact ⟨false, Ev.step (fun k => by rw [spec_Topical.l0, if_pos (by omega), if_pos (by omega), hb, if_neg c1, if_neg c2, if_pos c3]) (Ev.now _), fun h => by cases h⟩
    by_cases c4 : (c.toNat : Int) = 35
    · exact ⟨false, Ev.step (fun k => by rw [spec_Topical.l0, if_pos (by omega), if_pos (by omega), hb, if_neg c1, if_neg c2, if_neg c3, if_pos c4]) (Ev.now _), fun h => by cases h⟩
    by_cases c5 : (c.toNat : Int) = 42
    · exact ⟨false, Ev.step (fun k => by rw [spec_Topical.l0, if_pos (by omega), if_pos (by omega), hb, if_neg c1, if_neg c2, if_neg c3, if_neg c4, if_pos c5]) (Ev.now _), fun h => by cases h⟩
    by_cases c6 : (c.toNat : Int) = 62
    · exact ⟨false, Ev.step (fun k => by rw [spec_Topical.l0, if_pos (by omega), if_pos (by omega), hb, if_neg c1, if_neg c2, if_neg c3, if_neg c4, if_neg c5, if_pos c6]) (Ev.now _), fun h => by cases h⟩
    refine ⟨b, Ev.step (fun k => by rw [spec_Topical.l0, if_pos (by omega), if_pos (by omega), hb, if_neg c1, if_neg c2, if_neg c3, if_neg c4, if_neg c5, if_neg c6, hw]) he, fun hbt x hx => ?_⟩
    rcases List.mem_cons.1 hx with rfl | hx
    · exact ⟨by omega, by omega, fun h => c3 ((toNat_eq (n := 43) (by omega)).2 h), fun h => c4 ((toNat_eq (n := 35) (by omega)).2 h), fun h => c5 ((toNat_eq (n := 42) (by omega)).2 h), fun h => c6 ((toNat_eq (n := 62) (by omega)).2 h)⟩
    · exact hp hbt x hx
def tp (x : List UInt8) : Prop := x ≠ [] ∧ ∀ c ∈ x, tcb c
theorem Top_ev (L : List UInt8) (hs : L.length ≤ 2147483647) : ∃ b, Ev (fun k => spec_Topical.f k (ba L)) b ∧ (b = true → tp L) := by
  by_cases h0 : L = []
  · subst h0
    refine ⟨false, (?_ : Ev (fun k => spec_Topical.l0 k (ba []) 0) false), fun h => by cases h⟩
    exact Ev.step (fun k => by rw [spec_Topical.l0, if_neg (by simp [ba_size]), ba_toList]; rfl) (Ev.now _)
  · obtain ⟨b, he, hp⟩ := Top_l0 L hs h0 L [] 0 rfl rfl
    exact ⟨b, he, fun hb => ⟨h0, hp hb⟩⟩
theorem topicM_ev (L : List UInt8) (hs : L.length ≤ 2147483647) : ∃ b, Ev (fun k => laws_topic.f k (ba L)) b ∧ (b = true → L.length ≤ 100 ∧ tp L) := by
  have hlz : (ba L).size = L.length := ba_size L
  by_cases h : ((ba L).size : Int) ≤ 100
  · obtain ⟨b, he, hp⟩ := Top_ev L hs
    refine ⟨b, Ev.congr (f := fun k => (spec_Topical.f k (ba L)).bind fun t => some t) (fun k => by rw [laws_topic.f, if_pos h]) ?_, fun hb => ⟨by omega, hp hb⟩⟩
    exact Ev.bind he (Ev.now _)
  · exact ⟨false, Ev.congr (fun k => by rw [laws_topic.f, if_neg h]) (Ev.now _), fun h => by cases h⟩
/-- The levels of a filter. -/
def fOk : List (List UInt8) → Prop
  | [] => True
  | x :: xs => (x = [] ∨ x = [43] ∨ (x = [35] ∧ xs = []) ∨ tp x) ∧ fOk xs
theorem Filtering_l0 (s : List UInt8) (L : List (List UInt8)) (hL : L.length ≤ 1000000) (hx : ∀ x ∈ L, x.length ≤ 1000000) : ∀ (rest pre : List (List UInt8)) (i : Int), L = pre ++ rest → i = (pre.length : Int) →
    ∃ b, Ev (fun k => spec_Filtering.l0 k (ba s) (L.map ba) i) b ∧ (b = true → fOk rest ∧ s ≠ []) := by
  intro rest
  induction rest with
  | nil =>
    intro pre i h hi
    have hz : ((L.map ba).length : Int) = pre.length := by rw [h]; simp
    refine ⟨_, Ev.step (fun k => by rw [spec_Filtering.l0, if_neg (by omega)]) (Ev.now _), fun hb => ⟨trivial, ?_⟩⟩
    rw [ba_toList] at hb
    simpa using hb
  | cons x rest ih =>
    intro pre i h hi
    have hz : ((L.map ba).length : Int) = pre.length + rest.length + 1 := by rw [h]; simp; omega
    have hz2 : (L.length : Int) = pre.length + rest.length + 1 := by rw [h]; simp; omega
    have hr : rdOf ByteArray.empty (L.map ba) i = ba x := rdOf_mid _ (pre.map ba) (ba x) (rest.map ba) (by rw [h]; simp) (by simp; omega)
    have hw : wrap64 (i + 1) = i + 1 := w64 (by omega) (by omega)
    obtain ⟨b, he, hp⟩ := ih (pre ++ [x]) (i + 1) (by rw [h]; simp) (by simp; omega)
    obtain ⟨bt, ht, htp⟩ := Top_ev x (by have := hx x (by rw [h]; simp); omega)
    by_cases c1 : x = []
    · exact ⟨b, Ev.step (fun k => by rw [spec_Filtering.l0, if_pos (by omega), if_pos (by omega), hr, ba_toList, if_pos c1, hw]) he, fun hb => ⟨⟨.inl c1, (hp hb).1⟩, (hp hb).2⟩⟩
    by_cases c2 : x = [43]
    · exact ⟨b, Ev.step (fun k => by rw [spec_Filtering.l0, if_pos (by omega), if_pos (by omega), hr, ba_toList, if_neg c1, if_pos c2, hw]) he, fun hb => ⟨⟨.inr (.inl c2), (hp hb).1⟩, (hp hb).2⟩⟩
    have hT : ∀ (g : Nat → Option Bool), (∀ k, g (k + 1) = (spec_Topical.f k (ba x)).bind fun t => if t = true then spec_Filtering.l0 k (ba s) (L.map ba) (i + 1) else some false) → ∃ b, Ev g b ∧ (b = true → fOk (x :: rest) ∧ s ≠ []) := fun g hg => by
      cases bt with
      | true => exact ⟨b, Ev.step hg (Ev.bind ht (Ev.pos rfl he)), fun hb => ⟨⟨.inr (.inr (.inr (htp rfl))), (hp hb).1⟩, (hp hb).2⟩⟩
      | false => exact ⟨false, Ev.step hg (Ev.bind ht (Ev.neg (by simp) (Ev.now _))), fun h => by cases h⟩
    by_cases c3 : x = [35]
    · by_cases c4 : i + 1 = ((L.map ba).length : Int)
      · refine ⟨b, Ev.step (fun k => by rw [spec_Filtering.l0, if_pos (by omega), if_pos (by omega), hr, ba_toList, if_neg c1, if_neg c2, if_pos c3, hw, if_pos c4]) he, fun hb => ⟨⟨.inr (.inr (.inl ⟨c3, ?_⟩)), (hp hb).1⟩, (hp hb).2⟩⟩
        exact List.length_eq_zero_iff.1 (by omega)
      · exact hT _ (fun k => by rw [spec_Filtering.l0, if_pos (by omega), if_pos (by omega), hr, ba_toList, if_neg c1, if_neg c2, if_pos c3, hw, if_neg c4])
    · exact hT _ (fun k => by rw [spec_Filtering.l0, if_pos (by omega), if_pos (by omega), hr, ba_toList, if_neg c1, if_neg c2, if_neg c3, hw])
theorem filterM_ev (L : List UInt8) (hs : L.length ≤ 2147483647) : ∃ b, Ev (fun k => laws_filter.f k (ba L)) b ∧ (b = true → L.length ≤ 100 ∧ fOk (lv L) ∧ L ≠ []) := by
  have hlz : (ba L).size = L.length := ba_size L
  by_cases h : ((ba L).size : Int) ≤ 100
  · obtain ⟨b, he, hp⟩ := Filtering_l0 L (lv L) (by have := lvA_len L []; unfold lv; omega) (fun x hx => by
      have := (toks47_short L x hx); omega) (lv L) [] 0 rfl rfl
    refine ⟨b, Ev.congr (f := fun k => (spec_Filtering.f k (ba L)).bind fun t => some t) (fun k => by rw [laws_filter.f, if_pos h]) ?_, fun hb => ⟨by omega, hp hb⟩⟩
    exact Ev.bind (show Ev (fun k => spec_Filtering.f k (ba L)) b from Ev.bind (levels_ev L (by omega)) he) (Ev.now _)
  · exact ⟨false, Ev.congr (fun k => by rw [laws_filter.f, if_neg h]) (Ev.now _), fun h => by cases h⟩
end Go.Proofs.YtgbdjinanflhaaaDoor.Mq
