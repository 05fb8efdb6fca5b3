/- laws.FnTopicBack: what a topic's subject is, and that it leads back. -/
import Derived.Test.YtgbdjinanflhaaaDoorMqD
import Derived.Test.YtgbdjinanflhaaaDoorMqP
namespace Go.Proofs.YtgbdjinanflhaaaDoor.Mq
open Go.RowKit Go.Proofs.YtgbdjinanflhaaaDoorW.PrintWords Go.Proofs.YtgbdjinanflhaaaDoorW.PrintLast Go.Proofs.YtgbdjinanflhaaaDoorW.PrintMore Go.Proofs.YtgbdjinanflhaaaDoor.Pl Go.Proofs.YtgbdjinanflhaaaDoor.GFnTopicBack
set_option linter.unusedVariables false
set_option linter.unusedSimpArgs false

/-- What is written for what is left; the flag: at the begin, or behind a point. -/
def enc : List Int → Bool → List Int
  | [], true => [47]
  | [], false => []
  | c :: r, st =>
    if c = 47 then (if st = true then 47 :: 46 :: enc r true else if r = [] ∨ r.head? = some 47 then 46 :: 47 :: enc r false else 46 :: enc r true)
    else if c = 46 then 47 :: 47 :: enc r false
    else c :: enc r false
/-- A byte of a topic. -/
def tch (c : Int) : Prop := 33 ≤ c ∧ c ≤ 126 ∧ c ≠ 43 ∧ c ≠ 35
theorem last_app (out ys : List Int) (z : Int) : (out ++ (ys ++ [z])).getLast? = some z := by rw [← List.append_assoc, List.getLast?_append]; rfl
theorem cv_enc : ∀ (rest : List Int) (i : Nat) (out : List Int) (cp : Bool), (∀ x ∈ rest, tch x) → (cp = false → out.getLast? ≠ some 46) → (cp = true → out ≠ []) → (rest = [] → i ≠ 0) →
    cv false rest i out cp = some (some (out ++ enc rest (decide (i = 0 ∨ out.getLast? = some 46))))
  | [], i, out, cp, _, h1, h2, h3 => by
    have hi := h3 rfl
    rw [cv]
    cases cp with
    | false => rw [if_neg (by simp), decide_eq_false (by simp [hi]; exact h1 rfl), enc, List.append_nil]
    | true =>
      rw [if_pos rfl]
      by_cases hl : out.getLast? = some 46
      · rw [if_pos hl, decide_eq_true (.inr hl), enc]
      · rw [if_neg hl, if_neg (h2 rfl), decide_eq_false (by simp [hi, hl]), enc, List.append_nil]
  | c :: r, i, out, cp, ht, h1, h2, h3 => by
    have hc := ht c List.mem_cons_self
    have hr : ∀ x ∈ r, tch x := fun x hx => ht x (List.mem_cons_of_mem _ hx)
    rw [cv, enc]
    by_cases h47 : c = 47
    · subst h47
      rw [if_pos rfl, if_pos rfl]
      by_cases hA : i = 0 ∨ out.getLast? = some 46
      · rw [if_pos hA, if_pos, decide_eq_true hA, if_pos rfl, cv_enc r _ _ _ hr (by simp) (by simp) (by simp)]
        · rw [decide_eq_true (.inr (show (out ++ [47, 46]).getLast? = some (46 : Int) from last_app out [47] 46))]
          simp
        · cases cp with
          | true => exact .inl rfl
          | false => exact .inr (hA.resolve_right (h1 rfl))
      · rw [if_neg hA, decide_eq_false hA, if_neg (show ¬ (false = true) by simp)]
        by_cases hE : r = [] ∨ r.head? = some 47
        · rw [if_pos hE, if_pos hE, cv_enc r _ _ _ hr (by simp) (by simp) (by simp), decide_eq_false (show ¬ (i + 1 = 0 ∨ (out ++ [(46 : Int), 47]).getLast? = some (46 : Int)) by rw [show (out ++ [(46 : Int), 47]).getLast? = some (47 : Int) from last_app out [46] 47]; simp)]
          simp
        · rw [if_neg hE, if_neg hE, cv_enc r _ _ _ hr (by simp) (by simp) (by simp), decide_eq_true (.inr (show (out ++ [46]).getLast? = some (46 : Int) from last_app out [] 46))]
          simp
    rw [if_neg h47, if_neg h47, if_neg (by unfold badc; unfold tch at hc; omega)]
    by_cases h46 : c = 46
    · subst h46
      rw [if_pos rfl, if_pos rfl, cv_enc r _ _ _ hr (by simp) (by simp) (by simp), decide_eq_false (show ¬ (i + 1 = 0 ∨ (out ++ [(47 : Int), 47]).getLast? = some (46 : Int)) by rw [show (out ++ [(47 : Int), 47]).getLast? = some (47 : Int) from last_app out [47] 47]; simp)]
      simp
    rw [if_neg h46, if_neg h46, if_neg (by unfold tch at hc; omega), cv_enc r _ _ _ hr (fun _ => by rw [show (out ++ [c]).getLast? = some c from last_app out [] c]; simp; exact h46) (by simp) (by simp), decide_eq_false (by rw [show (out ++ [c]).getLast? = some c from last_app out [] c]; simp; exact h46)]
    simp
/-- The way back. -/
def dec : List Int → List Int
  | [] => []
  | [c] => if c = 47 then [] else if c = 46 then [47] else [c]
  | c :: d :: r => if c = 47 then (if d = 46 then 47 :: dec r else if d = 47 then 46 :: dec r else dec (d :: r)) else if c = 46 then 47 :: dec (d :: r) else c :: dec (d :: r)
theorem dec_pt (l : List Int) : dec (46 :: l) = 47 :: dec l := by
  cases l with
  | nil => rfl
  | cons d r => rw [dec, if_neg (by decide), if_pos rfl]
theorem dec_ch {c : Int} (l : List Int) (h1 : c ≠ 47) (h2 : c ≠ 46) : dec (c :: l) = c :: dec l := by
  cases l with
  | nil => simp [dec, h1, h2]
  | cons d r => rw [dec, if_neg h1, if_neg h2]
theorem dec_sp (l : List Int) : dec (47 :: 46 :: l) = 47 :: dec l := by rw [dec, if_pos rfl, if_pos rfl]
theorem dec_ss (l : List Int) : dec (47 :: 47 :: l) = 46 :: dec l := by rw [dec, if_pos rfl, if_neg (by decide), if_pos rfl]
theorem dec_enc : ∀ (r : List Int), (∀ st, dec (enc r st) = r) ∧ ((r = [] ∨ r.head? = some 47) → dec (47 :: enc r false) = r)
  | [] => ⟨fun st => by cases st <;> rfl, fun _ => rfl⟩
  | c :: r => by
    obtain ⟨ih1, ih2⟩ := dec_enc r
    refine ⟨fun st => ?_, fun h => ?_⟩
    · rw [enc]
      by_cases h47 : c = 47
      · subst h47
        rw [if_pos rfl]
        cases st with
        | true => rw [if_pos rfl, dec_sp, ih1]
        | false =>
          rw [if_neg (by simp)]
          by_cases hE : r = [] ∨ r.head? = some 47
          · rw [if_pos hE, dec_pt, ih2 hE]
          · rw [if_neg hE, dec_pt, ih1]
      rw [if_neg h47]
      by_cases h46 : c = 46
      · subst h46
        rw [if_pos rfl, dec_ss, ih1]
      · rw [if_neg h46, dec_ch _ h47 h46, ih1]
    · obtain rfl : c = 47 := by
        rcases h with h | h
        · cases h
        · exact Option.some.inj h
      rw [enc, if_pos rfl, if_neg (by simp)]
      by_cases hE : r = [] ∨ r.head? = some 47
      · rw [if_pos hE, dec_sp, ih2 hE]
      · rw [if_neg hE, dec_sp, ih1]
/-- The printed way back. -/
theorem Dec_l0 (E : List Int) (hE : E.length ≤ 1000000) : ∀ (n : Nat) (rest pre done zs : List Int) (i j : Int), rest.length ≤ n → E = pre ++ rest → i = (pre.length : Int) → j = (done.length : Int) → done.length ≤ pre.length → done.length + zs.length = E.length →
    Ev (fun k => server_natsSubjectToMQTTTopic.l0 k E (done ++ zs) ((E.length : Int) - 1) j i) (done ++ dec rest) := by
  intro n
  induction n with
  | zero =>
    intro rest pre done zs i j hn h hi hj hd hz
    obtain rfl : rest = [] := List.length_eq_zero_iff.1 (by omega)
    have hz1 : E.length = pre.length := by rw [h]; simp
    refine Ev.step (f := fun _ => some (done ++ dec [])) (fun k => ?_) (Ev.now _)
    rw [server_natsSubjectToMQTTTopic.l0, if_neg (by omega), if_pos (by omega), if_pos (by rw [List.length_append]; omega), hj, Int.toNat_natCast, List.take_left' rfl]
    rw [dec, List.append_nil]
  | succ n ih =>
    intro rest pre done zs i j hn h hi hj hd hz
    cases rest with
    | nil => exact ih [] pre done zs i j (by simp) h hi hj hd hz
    | cons c r =>
    have hz1 : E.length = pre.length + r.length + 1 := by rw [h]; simp; omega
    have hc : rd E i = c := rd_mid pre c r h hi
    have hw : wrap64 (i + 1) = i + 1 := w64 (by omega) (by omega)
    have hw2 : wrap64 (i + 1 + 1) = i + 1 + 1 := w64 (by omega) (by omega)
    have hwj : wrap64 (j + 1) = j + 1 := w64 (by omega) (by omega)
    obtain ⟨z, zs', rfl⟩ : ∃ z zs', zs = z :: zs' := by
      cases zs with
      | nil => simp at hz; omega
      | cons z zs' => exact ⟨z, zs', rfl⟩
    have hset : ∀ y : Int, (done ++ z :: zs').set j.toNat y = (done ++ [y]) ++ zs' := fun y => by
      rw [hj, Int.toNat_natCast, List.set_append, if_neg (by omega), Nat.sub_self]
      simp
    have hlen : (j : Int) < ((done ++ z :: zs').length : Int) := by rw [List.length_append, List.length_cons]; omega
    have hzl : (z :: zs').length = zs'.length + 1 := rfl
    by_cases h47 : c = 47
    · subst h47
      cases r with
      | nil =>
        refine Ev.step (fun k => by rw [server_natsSubjectToMQTTTopic.l0, if_pos (by omega), if_pos (by omega), hc, if_pos rfl, if_neg (by simp at hz1; omega), hw]) ?_
        refine Ev.det' (ih [] (pre ++ [47]) done (z :: zs') (i + 1) j (by simp) (by rw [h]; simp) (by simp; omega) hj (by simp; omega) hz) ?_
        rfl
      | cons d r =>
        have hd2 : rd E (i + 1) = d := rd_mid (pre ++ [47]) d r (by rw [h]; simp) (by simp; omega)
        simp only [List.length_cons] at hz1 hn
        by_cases h46 : d = 46
        · subst h46
          refine Ev.step (fun k => by rw [server_natsSubjectToMQTTTopic.l0, if_pos (by omega), if_pos (by omega), hc, if_pos rfl, if_pos (by omega), hw, if_pos (by omega), if_pos (by omega), hd2, if_pos rfl]) ?_
          refine Ev.step (fun k => by rw [server_natsSubjectToMQTTTopic.j1, if_pos (by decide), if_pos rfl, if_pos (by omega), if_pos hlen, hset, hwj, hw, hw2]) ?_
          refine Ev.det' (ih r (pre ++ [47, 46]) (done ++ [47]) zs' (i + 1 + 1) (j + 1) (by omega) (by rw [h]; simp) (by simp; omega) (by simp; omega) (by simp; omega) (by simp; omega)) ?_
          rw [dec_sp]; simp
        · by_cases h47d : d = 47
          · subst h47d
            refine Ev.step (fun k => by rw [server_natsSubjectToMQTTTopic.l0, if_pos (by omega), if_pos (by omega), hc, if_pos rfl, if_pos (by omega), hw, if_pos (by omega), if_pos (by omega), hd2, if_neg (by decide)]) ?_
            refine Ev.step (fun k => by rw [server_natsSubjectToMQTTTopic.j1, if_pos (by decide), if_neg (by decide), if_pos (by omega), if_pos hlen, hset, hwj, hw, hw2]) ?_
            refine Ev.det' (ih r (pre ++ [47, 47]) (done ++ [46]) zs' (i + 1 + 1) (j + 1) (by omega) (by rw [h]; simp) (by simp; omega) (by simp; omega) (by simp; omega) (by simp; omega)) ?_
            rw [dec_ss]; simp
          · refine Ev.step (fun k => by rw [server_natsSubjectToMQTTTopic.l0, if_pos (by omega), if_pos (by omega), hc, if_pos rfl, if_pos (by omega), hw, if_pos (by omega), if_pos (by omega), hd2, if_neg h46]) ?_
            refine Ev.step (fun k => by rw [server_natsSubjectToMQTTTopic.j1, if_neg (by simpa using h47d), hw]) ?_
            refine Ev.det' (ih (d :: r) (pre ++ [47]) done (z :: zs') (i + 1) j (by simp; omega) (by rw [h]; simp) (by simp; omega) hj (by simp; omega) hz) ?_
            rw [dec, if_pos rfl, if_neg h46, if_neg h47d]
    · by_cases h46 : c = 46
      · subst h46
        refine Ev.step (fun k => by rw [server_natsSubjectToMQTTTopic.l0, if_pos (by omega), if_pos (by omega), hc, if_neg (by decide), if_pos rfl, if_pos (by omega), if_pos hlen, hset, hwj, hw]) ?_
        refine Ev.det' (ih r (pre ++ [46]) (done ++ [47]) zs' (i + 1) (j + 1) (by simp at hn; omega) (by rw [h]; simp) (by simp; omega) (by simp; omega) (by simp; omega) (by simp; omega)) ?_
        rw [dec_pt]; simp
      · refine Ev.step (fun k => by rw [server_natsSubjectToMQTTTopic.l0, if_pos (by omega), if_pos (by omega), hc, if_neg h47, if_neg h46, if_pos (by omega), if_pos hlen, hset, hwj, hw]) ?_
        refine Ev.det' (ih r (pre ++ [c]) (done ++ [c]) zs' (i + 1) (j + 1) (by simp at hn; omega) (by rw [h]; simp) (by simp; omega) (by simp; omega) (by simp; omega) (by simp; omega)) ?_
        rw [dec_ch _ h47 h46]; simp
theorem Dec_ev (E : List Int) (hE : E.length ≤ 1000000) : Ev (fun k => impl_SubjectTopic.f k E) (dec E) := by
  have h1 := Dec_l0 E hE E.length E [] [] (List.replicate E.length 0) 0 0 (Nat.le_refl _) rfl rfl rfl (Nat.le_refl _) (by simp)
  have hw : wrap64 ((E.length : Int) - 1) = (E.length : Int) - 1 := w64 (by omega) (by omega)
  have h2 : Ev (fun k => server_natsSubjectToMQTTTopic.f k E) (dec E) := Ev.congr (fun k => by rw [server_natsSubjectToMQTTTopic.f, if_pos (by omega), if_pos (by omega), hw, Int.toNat_natCast]; rfl) h1
  refine Ev.congr (f := fun k => (server_SubjectToTopic.f k E).bind fun t138 => some t138) (fun k => by
    rw [impl_SubjectTopic.f, impl_copied.f, Option.bind_some, List.nil_append, List.length_nil, Nat.zero_add, if_pos (by omega), Option.bind_some]) ?_
  refine Ev.bind (?_ : Ev (fun k => server_SubjectToTopic.f k E) (dec E)) (Ev.now _)
  exact Ev.bind h2 (Ev.now _)
theorem Topical_l0 (L : List UInt8) (hs : L.length ≤ 2147483647) (h0 : L ≠ []) : ∀ (rest pre : List UInt8) (i : Int), L = pre ++ rest → i = (pre.length : Int) →
    ∃ b, Ev (fun k => spec_Topical.l0 k (ba L) i) b ∧ (b = true → ∀ c ∈ rest, tch (c.toNat : Int)) := by
  intro rest
  induction rest with
  | nil =>
    intro pre i h hi
    have hz : (ba L).size = pre.length := by rw [h, ba_size]; simp
    exact ⟨_, Ev.step (fun k => by rw [spec_Topical.l0, if_neg (by omega)]) (Ev.now _), fun _ c hc => by cases hc⟩
  | cons c rest ih =>
    intro pre i h hi
    have hz : (ba L).size = pre.length + rest.length + 1 := by rw [h, ba_size]; simp; omega
    have hlz : (ba L).size = L.length := ba_size L
    have hb : bt (ba L) i = (c.toNat : Int) := bt_mid pre c rest (by rw [h]) hi
    have hw : wrap64 (i + 1) = i + 1 := w64 (by omega) (by omega)
    obtain ⟨b, he, hp⟩ := ih (pre ++ [c]) (i + 1) (by rw [h]; simp) (by simp; omega)
    by_cases c1 : (c.toNat : Int) < 33
    · exact ⟨false, Ev.step (fun k => by rw [spec_Topical.l0, if_pos (by omega), if_pos (by omega), hb, if_pos c1]) (Ev.now _), fun h => by cases h⟩
    by_cases c2 : (c.toNat : Int) > 126
    · exact ⟨false, Ev.step (fun k => by rw [spec_Topical.l0, if_pos (by omega), if_pos (by omega), hb, if_neg c1, if_pos c2]) (Ev.now _), fun h => by cases h⟩
    by_cases c3 : (c.toNat : Int) = 43
    · exact ⟨false, Ev.step (fun k => by rw [spec_Topical.l0, if_pos (by omega), if_pos (by omega), hb, if_neg c1, if_neg c2, if_pos c3]) (Ev.now _), fun h => by cases h⟩
    by_cases c4 : (c.toNat : Int) = 35
    · exact ⟨false, Ev.step (fun k => by rw [spec_Topical.l0, if_pos (by omega), if_pos (by omega), hb, if_neg c1, if_neg c2, if_neg c3, if_pos c4]) (Ev.now _), fun h => by cases h⟩
    by_cases c5 : (c.toNat : Int) = 42
    · exact ⟨false, Ev.step (fun k => by rw [spec_Topical.l0, if_pos (by omega), if_pos (by omega), hb, if_neg c1, if_neg c2, if_neg c3, if_neg c4, if_pos c5]) (Ev.now _), fun h => by cases h⟩
    by_cases c6 : (c.toNat : Int) = 62
    · exact ⟨false, Ev.step (fun k => by rw [spec_Topical.l0, if_pos (by omega), if_pos (by omega), hb, if_neg c1, if_neg c2, if_neg c3, if_neg c4, if_neg c5, if_pos c6]) (Ev.now _), fun h => by cases h⟩
    refine ⟨b, Ev.step (fun k => by rw [spec_Topical.l0, if_pos (by omega), if_pos (by omega), hb, if_neg c1, if_neg c2, if_neg c3, if_neg c4, if_neg c5, if_neg c6, hw]) he, fun hbt x hx => ?_⟩
    rcases List.mem_cons.1 hx with rfl | hx
    · unfold tch; omega
    · exact hp hbt x hx
theorem topic_ev (L : List UInt8) (hs : L.length ≤ 2147483647) : ∃ b, Ev (fun k => laws_topic.f k (ba L)) b ∧ (b = true → L.length ≤ 100 ∧ L ≠ [] ∧ ∀ c ∈ L, tch (c.toNat : Int)) := by
  have hlz : (ba L).size = L.length := ba_size L
  by_cases h : ((ba L).size : Int) ≤ 100
  · by_cases h0 : L = []
    · subst h0
      refine ⟨false, Ev.congr (f := fun k => (spec_Topical.f k (ba [])).bind fun t118 => some t118) (fun k => by rw [laws_topic.f, if_pos h]) ?_, fun h => by cases h⟩
      refine Ev.bind (?_ : Ev (fun k => spec_Topical.l0 k (ba []) 0) false) (Ev.now _)
      exact Ev.step (fun k => by rw [spec_Topical.l0, if_neg (by simp [ba_size]), ba_toList]; rfl) (Ev.now _)
    · obtain ⟨b, he, hp⟩ := Topical_l0 L hs h0 L [] 0 rfl rfl
      refine ⟨b, Ev.congr (f := fun k => (spec_Topical.f k (ba L)).bind fun t118 => some t118) (fun k => by rw [laws_topic.f, if_pos h]) ?_, fun hb => ⟨by omega, h0, hp hb⟩⟩
      exact Ev.bind (show Ev (fun k => spec_Topical.f k (ba L)) b from he) (Ev.now _)
  · exact ⟨false, Ev.congr (fun k => by rw [laws_topic.f, if_neg h]) (Ev.now _), fun h => by cases h⟩
theorem enc_len : ∀ (r : List Int) (st : Bool), (enc r st).length ≤ 2 * r.length + 1
  | [], true => by simp [enc]
  | [], false => by simp [enc]
  | c :: r, st => by
    have h1 := enc_len r true
    have h2 := enc_len r false
    rw [enc]
    (repeat' split) <;> simp <;> omega
end Go.Proofs.YtgbdjinanflhaaaDoor.Mq
