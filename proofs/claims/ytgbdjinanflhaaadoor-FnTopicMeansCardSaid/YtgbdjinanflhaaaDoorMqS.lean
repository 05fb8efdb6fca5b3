/- The level above, what needs it, and what matches. Plain. -/
import Derived.Test.YtgbdjinanflhaaaDoorMqR
namespace Go.Proofs.YtgbdjinanflhaaaDoor.Mq
open Go.RowKit Go.Proofs.YtgbdjinanflhaaaDoorW.PrintWords Go.Proofs.YtgbdjinanflhaaaDoorW.PrintLast Go.Proofs.YtgbdjinanflhaaaDoorW.PrintMore Go.Proofs.YtgbdjinanflhaaaDoor.Pl Go.Proofs.YtgbdjinanflhaaaDoor.GFnTopicMeans
set_option linter.unusedVariables false
set_option linter.unusedSimpArgs false

/-- Levels put together again; the flag: behind another one. -/
def jf : Bool → List (List UInt8) → List UInt8
  | _, [] => []
  | b, x :: g => (if b = true then [47] else []) ++ x ++ jf true g
theorem jf_lvA : ∀ (l q : List UInt8), jf false (lvA q l) = q ++ l ∧ jf true (lvA q l) = 47 :: (q ++ l)
  | [], q => by simp [lvA, jf]
  | c :: l, q => by
    by_cases h : c = 47
    · subst h
      rw [lvA_cut, jf, jf, (jf_lvA l []).2]
      simp
    · rw [lvA_other q h, (jf_lvA l _).1, (jf_lvA l _).2]
      simp
theorem lvA_one : ∀ (l q t : List UInt8), lvA q l = [t] → q ++ l = t
  | l, q, t, h => by
    have := (jf_lvA l q).1
    rw [h, jf] at this
    simpa [jf] using this.symm
theorem lvA_last : ∀ (l q : List UInt8) (G : List (List UInt8)) (t : List UInt8), lvA q l = G ++ [t] → G ≠ [] → ∃ y, l = y ++ 47 :: t ∧ lvA q y = G
  | [], q, G, t, h, hG => by
    rw [lvA] at h
    cases G with
    | nil => exact absurd rfl hG
    | cons g G => cases G <;> cases h
  | c :: l, q, G, t, h, hG => by
    by_cases hc : c = 47
    · subst hc
      rw [lvA_cut] at h
      cases G with
      | nil => exact absurd rfl hG
      | cons g G =>
        rw [List.cons_append, List.cons.injEq] at h
        obtain ⟨rfl, h⟩ := h
        cases G with
        | nil =>
          have := lvA_one l [] t h
          exact ⟨[], by simpa using this, rfl⟩
        | cons g' G =>
          obtain ⟨y, rfl, hy⟩ := lvA_last l [] (g' :: G) t h (by simp)
          exact ⟨47 :: y, by simp, by rw [lvA_cut, hy]⟩
    · rw [lvA_other q hc] at h
      obtain ⟨y, rfl, hy⟩ := lvA_last l _ G t h hG
      exact ⟨c :: y, by simp, by rw [lvA_other q hc, hy]⟩
theorem toksA_app : ∀ (y q z : List UInt8), toksA q (y ++ 46 :: z) = toksA q y ++ toksA [] z
  | [], q, z => by rw [List.nil_append, toksA_dot]; rfl
  | c :: y, q, z => by
    by_cases h : c = 46
    · subst h; rw [List.cons_append, toksA_dot, toksA_dot, toksA_app y [] z]; rfl
    · rw [List.cons_append, toksA_other q h, toksA_other q h, toksA_app y _ z]
theorem toksA_one : ∀ (l q t : List UInt8), toksA q l = [t] → q ++ l = t
  | [], q, t, h => by rw [toksA] at h; simpa using h
  | c :: l, q, t, h => by
    by_cases hc : c = 46
    · subst hc
      rw [toksA_dot] at h
      have : (toksA [] l).length = 0 := by
        rw [List.cons.injEq] at h
        rw [h.2]; rfl
      rw [toksA_len] at this
      omega
    · rw [toksA_other q hc] at h
      simpa using toksA_one l _ t h
theorem toksA_last : ∀ (l q : List UInt8) (G : List (List UInt8)) (t : List UInt8), toksA q l = G ++ [t] → G ≠ [] → ∃ y, l = y ++ 46 :: t ∧ toksA q y = G
  | [], q, G, t, h, hG => by
    rw [toksA] at h
    cases G with
    | nil => exact absurd rfl hG
    | cons g G => cases G <;> cases h
  | c :: l, q, G, t, h, hG => by
    by_cases hc : c = 46
    · subst hc
      rw [toksA_dot] at h
      cases G with
      | nil => exact absurd rfl hG
      | cons g G =>
        rw [List.cons_append, List.cons.injEq] at h
        obtain ⟨rfl, h⟩ := h
        cases G with
        | nil =>
          have := toksA_one l [] t h
          exact ⟨[], by simpa using this, rfl⟩
        | cons g' G =>
          obtain ⟨y, rfl, hy⟩ := toksA_last l [] (g' :: G) t h (by simp)
          exact ⟨46 :: y, by simp, by rw [toksA_dot, hy]⟩
    · rw [toksA_other q hc] at h
      obtain ⟨y, rfl, hy⟩ := toksA_last l _ G t h hG
      exact ⟨c :: y, by simp, by rw [toksA_other q hc, hy]⟩
theorem Above_l0 (G : List (List UInt8)) (t : List UInt8) (hG : G.length ≤ 1000000) (hsz : (jf false G).length ≤ 1000000) : ∀ (rest pre : List (List UInt8)) (acc : List UInt8) (i : Int), G = pre ++ rest → i = (pre.length : Int) → acc ++ jf (decide (0 < i)) rest = jf false G →
    Ev (fun k => spec_Above.l0 k ((G ++ [t]).map ba) (ba acc) i) (ba (jf false G)) := by
  intro rest
  induction rest with
  | nil =>
    intro pre acc i h hi ha
    have hz : (((G ++ [t]).map ba).length : Int) = pre.length + 1 := by rw [h]; simp
    have hz2 : (G.length : Int) = pre.length := by rw [h]; simp
    have hw : wrap64 (i + 1) = i + 1 := w64 (by omega) (by omega)
    rw [jf, List.append_nil] at ha
    subst ha
    exact Ev.step (fun k => by rw [spec_Above.l0, hw, if_neg (by omega)]) (Ev.now _)
  | cons x rest ih =>
    intro pre acc i h hi ha
    have hz : (((G ++ [t]).map ba).length : Int) = pre.length + rest.length + 2 := by rw [h]; simp; omega
    have hz2 : (G.length : Int) = pre.length + rest.length + 1 := by rw [h]; simp; omega
    have hw : wrap64 (i + 1) = i + 1 := w64 (by omega) (by omega)
    have hr : rdOf ByteArray.empty ((G ++ [t]).map ba) i = ba x := rdOf_mid _ (pre.map ba) (ba x) ((rest ++ [t]).map ba) (by rw [h]; simp) (by simp; omega)
    have hlen : (acc ++ jf (decide (0 < i)) (x :: rest)).length ≤ 1000000 := by rw [ha]; exact hsz
    rw [jf] at hlen ha
    have hd1 : decide (0 < i + 1) = true := decide_eq_true (by omega)
    by_cases hp : i > 0
    · rw [decide_eq_true hp, if_pos rfl] at hlen ha
      simp only [List.length_append, List.length_cons, List.length_nil] at hlen
      refine Ev.step (fun k => by rw [spec_Above.l0, hw, if_pos (by omega), if_pos hp, if_pos (by rw [ba_size]; omega), if_pos (by omega), if_pos (by omega), hr, show (⟨#[47]⟩ : ByteArray) = ba [47] from rfl, ba_append, if_pos (by rw [ba_size, ba_size, List.length_append]; simp only [List.length_cons, List.length_nil]; omega), ba_append]) ?_
      exact ih (pre ++ [x]) _ (i + 1) (by rw [h]; simp) (by simp; omega) (by rw [hd1, ← ha]; simp)
    · rw [decide_eq_false hp, if_neg (by simp)] at hlen ha
      simp only [List.length_append, List.length_nil] at hlen
      refine Ev.step (fun k => by rw [spec_Above.l0, hw, if_pos (by omega), if_neg hp, if_pos (by omega), if_pos (by omega), hr, if_pos (by rw [ba_size, ba_size]; omega), ba_append]) ?_
      exact ih (pre ++ [x]) _ (i + 1) (by rw [h]; simp) (by simp; omega) (by rw [hd1, ← ha]; simp)
theorem Above_ev (l : List UInt8) (G : List (List UInt8)) (t : List UInt8) (y : List UInt8) (hs : l.length ≤ 100000) (h : lv l = G ++ [t]) (hy : l = y ++ 47 :: t) (hG : lv y = G) : Ev (fun k => spec_Above.f k (ba l)) (ba y) := by
  have hj : jf false G = y := by rw [← hG]; exact (jf_lvA y []).1
  have hyl : y.length ≤ 100000 := by rw [hy, List.length_append] at hs; omega
  have hGl : G.length ≤ 1000000 := by rw [← hG]; have := lvA_len y []; unfold lv; omega
  have h1 := Above_l0 G t hGl (by rw [hj]; omega) G [] [] 0 rfl rfl (by simp)
  rw [hj] at h1
  exact Ev.bind (levels_ev l (by omega)) (by rw [h]; exact h1)
theorem needs_true (y : List UInt8) (h0 : y ≠ []) (hs : y.length ≤ 1000000) : impl_NeedsUp.f (ba (y ++ [46, 62])) = some true := by
  have hp : 0 < y.length := List.length_pos_iff.2 h0
  have hz : ((ba (y ++ [46, 62])).size : Int) = y.length + 2 := by rw [ba_size]; simp
  have w1 : wrap64 ((y.length : Int) + 2 - 2) = y.length := by rw [w64 (by omega) (by omega)]; omega
  have w2 : wrap64 ((y.length : Int) + 2 - 1) = y.length + 1 := by rw [w64 (by omega) (by omega)]; omega
  have b1 : bt (ba (y ++ [46, 62])) (y.length : Int) = 46 := bt_mid y 46 [62] rfl rfl
  have b2 : bt (ba (y ++ [46, 62])) ((y.length : Int) + 1) = 62 := bt_mid (y ++ [46]) 62 [] (by simp) (by simp)
  rw [impl_NeedsUp.f, server_NeedsLevelUp.f, server_mqttNeedSubForLevelUp.f, hz, if_neg (by omega), w1, if_pos (by omega), if_pos (by omega), b1, if_pos rfl, w2, if_pos (by omega), if_pos (by omega), b2, if_pos rfl]
  rfl
theorem needs_false (b : List UInt8) (hs : b.length ≤ 1000000) (h : ∀ y, b ≠ y ++ [46, 62]) : impl_NeedsUp.f (ba b) = some false := by
  have hz : ((ba b).size : Int) = b.length := by rw [ba_size]
  rw [impl_NeedsUp.f, server_NeedsLevelUp.f, server_mqttNeedSubForLevelUp.f, hz]
  by_cases h3 : (b.length : Int) < 3
  · rw [if_pos h3]; rfl
  obtain ⟨y, c, d, rfl⟩ : ∃ y c d, b = y ++ [c, d] := by
    have hl : 2 ≤ b.length := by omega
    refine ⟨b.take (b.length - 2), b[b.length - 2], b[b.length - 1], ?_⟩
    have e1 : b.drop (b.length - 2) = [b[b.length - 2], b[b.length - 1]] := by
      rw [List.drop_eq_getElem_cons (by omega), List.drop_eq_getElem_cons (by omega), List.drop_of_length_le (by omega)]
      congr 2
      congr 1
      omega
    rw [← e1, List.take_append_drop]
  have hl : ((y ++ [c, d]).length : Int) = y.length + 2 := by simp
  rw [hl] at h3 ⊢
  have hlN : y.length + 2 ≤ 1000000 := by simpa using hs
  have w1 : wrap64 ((y.length : Int) + 2 - 2) = y.length := by rw [w64 (by omega) (by omega)]; omega
  have w2 : wrap64 ((y.length : Int) + 2 - 1) = y.length + 1 := by rw [w64 (by omega) (by omega)]; omega
  have b1 : bt (ba (y ++ [c, d])) (y.length : Int) = c.toNat := bt_mid y c [d] rfl rfl
  have b2 : bt (ba (y ++ [c, d])) ((y.length : Int) + 1) = d.toNat := bt_mid (y ++ [c]) d [] (by simp) (by simp)
  rw [if_neg h3, w1, if_pos (by omega), if_pos (by omega), b1]
  by_cases hc : (c.toNat : Int) = 46
  · rw [if_pos hc, w2, if_pos (by omega), if_pos (by omega), b2, if_neg]
    · rfl
    · intro hd
      have e1 : c = 46 := (toNat_eq (n := 46) (by omega)).1 hc
      have e2 : d = 62 := (toNat_eq (n := 62) (by omega)).1 hd
      exact h y (by rw [e1, e2])
  · rw [if_neg hc]; rfl
/-- Level by level. -/
def filB : List (List UInt8) → List (List UInt8) → Bool
  | [], [] => true
  | [], _ :: _ => false
  | f :: fs, [] => decide (f = [35])
  | f :: fs, t :: ts => if f = [35] then true else if f = [43] ∨ f = t then filB fs ts else false
theorem Filters_l0 (F T : List (List UInt8)) (hF : F.length ≤ 1000000) (hT : T.length ≤ 1000000) : ∀ (f t preF preT : List (List UInt8)) (i : Int), F = preF ++ f → T = preT ++ t → i = (preF.length : Int) → preT.length = preF.length →
    Ev (fun k => spec_Filters.l0 k (F.map ba) (T.map ba) i) (filB f t) := by
  intro f
  induction f with
  | nil =>
    intro t preF preT i h1 h2 hi he
    have hz : ((F.map ba).length : Int) = preF.length := by rw [h1]; simp
    have hz2 : ((T.map ba).length : Int) = preT.length + t.length := by rw [h2]; simp
    refine Ev.step (fun k => by rw [spec_Filters.l0, if_neg (by omega)]) ?_
    refine Ev.const ?_
    cases t with
    | nil => simp only [filB]; congr 1; rw [beq_iff_eq]; simp only [List.length_nil] at hz2; omega
    | cons t l => simp only [filB]; congr 1; rw [beq_eq_false_iff_ne]; simp only [List.length_cons] at hz2; omega
  | cons f fs ih =>
    intro t preF preT i h1 h2 hi he
    have hz : ((F.map ba).length : Int) = preF.length + fs.length + 1 := by rw [h1]; simp; omega
    have hz3 : (F.length : Int) = preF.length + fs.length + 1 := by rw [h1]; simp; omega
    have hz2 : ((T.map ba).length : Int) = preT.length + t.length := by rw [h2]; simp
    have hrf : rdOf ByteArray.empty (F.map ba) i = ba f := rdOf_mid _ (preF.map ba) (ba f) (fs.map ba) (by rw [h1]; simp) (by simp; omega)
    have hw : wrap64 (i + 1) = i + 1 := w64 (by omega) (by omega)
    by_cases c1 : f = [35]
    · refine Ev.step (fun k => by rw [spec_Filters.l0, if_pos (by omega), if_pos (by omega), hrf, ba_toList, if_pos c1]) ?_
      refine Ev.const ?_
      cases t with
      | nil => rw [filB, decide_eq_true c1]
      | cons t ts => rw [filB, if_pos c1]
    cases t with
    | nil =>
      simp only [List.length_nil] at hz2
      refine Ev.step (fun k => by rw [spec_Filters.l0, if_pos (by omega), if_pos (by omega), hrf, ba_toList, if_neg c1, if_pos (by omega)]) ?_
      rw [filB, decide_eq_false c1]
      exact Ev.now _
    | cons t ts =>
      simp only [List.length_cons] at hz2
      have hrt : rdOf ByteArray.empty (T.map ba) i = ba t := rdOf_mid _ (preT.map ba) (ba t) (ts.map ba) (by rw [h2]; simp) (by simp; omega)
      have IH := ih ts (preF ++ [f]) (preT ++ [t]) (i + 1) (by rw [h1]; simp) (by rw [h2]; simp) (by simp; omega) (by simp [he])
      rw [filB, if_neg c1]
      by_cases c2 : f = [43]
      · rw [if_pos (.inl c2)]
        exact Ev.step (fun k => by rw [spec_Filters.l0, if_pos (by omega), if_pos (by omega), hrf, ba_toList, if_neg c1, if_neg (by omega), if_pos c2, hw]) IH
      by_cases c3 : f = t
      · rw [if_pos (.inr c3)]
        exact Ev.step (fun k => by rw [spec_Filters.l0, if_pos (by omega), if_pos (by omega), hrf, ba_toList, if_neg c1, if_neg (by omega), if_neg c2, if_pos (by omega), hrt, ba_toList, if_pos c3, hw]) IH
      · rw [if_neg (by simp [c2, c3])]
        exact Ev.step (fun k => by rw [spec_Filters.l0, if_pos (by omega), if_pos (by omega), hrf, ba_toList, if_neg c1, if_neg (by omega), if_neg c2, if_pos (by omega), hrt, ba_toList, if_neg c3]) (Ev.now _)
theorem Filters_ev (f t : List UInt8) (hf : f.length ≤ 100000) (ht : t.length ≤ 100000) : Ev (fun k => spec_Filters.f k (ba f) (ba t)) (filB (lv f) (lv t)) := by
  refine Ev.bind (levels_ev f (by omega)) ?_
  refine Ev.bind (levels_ev t (by omega)) ?_
  exact Filters_l0 _ _ (by have := lvA_len f []; unfold lv; omega) (by have := lvA_len t []; unfold lv; omega) _ _ [] [] 0 rfl rfl rfl rfl
end Go.Proofs.YtgbdjinanflhaaaDoor.Mq
