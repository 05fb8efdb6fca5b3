/- What the printed functions of FnCollideMeans come to, as plain functions on lists. -/
import Derived.Test.YtgbdjinanflhaaaPlTok
import Derived.Test.YtgbdjinanflhaaaGFnCollideMeansx7
import Derived.Test.YtgbdjinanflhaaaGFnCollideMeansx8
import Derived.Test.YtgbdjinanflhaaaGFnCollideMeansx9
import Derived.Test.YtgbdjinanflhaaaPlCollide
namespace Go.Proofs.Ytgbdjinanflhaaa.PlFnCollideMeans
open Go.RowKit Go.Proofs.YtgbdjinanflhaaaW.PrintWords Go.Proofs.YtgbdjinanflhaaaW.PrintLast Go.Proofs.YtgbdjinanflhaaaW.PrintMore Go.Proofs.Ytgbdjinanflhaaa.Pl Go.Proofs.Ytgbdjinanflhaaa.GFnCollideMeans
set_option linter.unusedVariables false
set_option linter.unusedSimpArgs false

theorem toksA_plain (p : List UInt8) : ∀ l : List UInt8, (46 : UInt8) ∉ l → toksA p l = [p ++ l] := by
  intro l
  induction l generalizing p with
  | nil => intro _; simp [toksA]
  | cons c l ih =>
    intro h
    simp only [List.mem_cons, not_or] at h
    rw [toksA_other _ (fun e => h.1 e.symm), ih _ h.2]; simp
theorem toksA_app : ∀ (q p l : List UInt8), toksA p (q ++ 46 :: l) = toksA p q ++ toks l
  | [], p, l => by rw [List.nil_append, toksA_dot]; simp [toksA, toks]
  | c :: q, p, l => by
    by_cases h : c = 46
    · subst h; rw [List.cons_append, toksA_dot, toksA_dot, toksA_app q [] l]; simp
    · rw [List.cons_append, toksA_other _ h, toksA_other _ h, toksA_app q _ l]
theorem dot_split : ∀ l : List UInt8, (46 : UInt8) ∉ l ∨ ∃ p r, l = p ++ 46 :: r ∧ (46 : UInt8) ∉ p
  | [] => .inl (by simp)
  | c :: l => by
    by_cases h : c = 46
    · exact .inr ⟨[], l, by rw [h]; rfl, by simp⟩
    · rcases dot_split l with g | ⟨p, r, rfl, g⟩
      · exact .inl (by simp only [List.mem_cons, not_or]; exact ⟨fun e => h e.symm, g⟩)
      · exact .inr ⟨c :: p, r, rfl, by simp only [List.mem_cons, not_or]; exact ⟨fun e => h e.symm, g⟩⟩
theorem zzIndex_none (s : ByteArray) (hs : s.size ≤ 140737488355328) : ∀ (rest pre : List UInt8) (i : Int), s = ba (pre ++ rest) → i = (pre.length : Int) → (46 : UInt8) ∉ rest → Ev (fun k => server_zzIndex.l0 k s (ba [46]) i) (-1) := by
  intro rest
  induction rest with
  | nil =>
    intro pre i h hi _
    have hz : (s.size : Int) = pre.length := by rw [h, ba_size]; simp
    have hw : wrap64 (i + ((ba [46]).size : Int)) = i + 1 := w64 (by rw [ba_size]; simp; omega) (by rw [ba_size]; simp; omega)
    refine Ev.step (fun k => by rw [server_zzIndex.l0, hw, if_neg (by omega)]) ?_
    exact Ev.now _
  | cons c rest ih =>
    intro pre i h hi hn
    have hz : (s.size : Int) = pre.length + rest.length + 1 := by rw [h, ba_size]; simp; omega
    have hw : wrap64 (i + ((ba [46]).size : Int)) = i + 1 := w64 (by rw [ba_size]; simp; omega) (by rw [ba_size]; simp; omega)
    have hw2 : wrap64 (i + 1) = i + 1 := w64 (by omega) (by omega)
    simp only [List.mem_cons, not_or] at hn
    have he : s.extract i.toNat (i + 1).toNat = ba [c] := ext_mid pre [c] rest (by rw [h]; simp) hi (by simp; omega)
    refine Ev.step (fun k => by rw [server_zzIndex.l0, hw, if_pos (by omega), if_pos (by omega), if_pos (by omega), he, ba_toList, ba_toList, if_neg (fun e => hn.1 (by injection e with e; exact e.symm)), hw2]) ?_
    exact ih (pre ++ [c]) (i + 1) (by rw [h]; simp) (by simp; omega) hn.2
theorem zzIndex_at (s : ByteArray) (hs : s.size ≤ 140737488355328) (r : List UInt8) : ∀ (p pre : List UInt8) (i : Int), s = ba (pre ++ p ++ 46 :: r) → i = (pre.length : Int) → (46 : UInt8) ∉ p → Ev (fun k => server_zzIndex.l0 k s (ba [46]) i) ((pre.length + p.length : Nat) : Int) := by
  intro p
  induction p with
  | nil =>
    intro pre i h hi _
    have hz : (s.size : Int) = pre.length + r.length + 1 := by rw [h, ba_size]; simp; omega
    have hw : wrap64 (i + ((ba [46]).size : Int)) = i + 1 := w64 (by rw [ba_size]; simp; omega) (by rw [ba_size]; simp; omega)
    have he : s.extract i.toNat (i + 1).toNat = ba [46] := ext_mid pre [46] r (by rw [h]; simp) hi (by simp; omega)
    refine Ev.step (fun k => by rw [server_zzIndex.l0, hw, if_pos (by omega), if_pos (by omega), if_pos (by omega), he, if_pos rfl]) ?_
    exact Ev.det' (Ev.now _) (by simp; omega)
  | cons c p ih =>
    intro pre i h hi hn
    have hz : (s.size : Int) = pre.length + p.length + r.length + 2 := by rw [h, ba_size]; simp; omega
    have hw : wrap64 (i + ((ba [46]).size : Int)) = i + 1 := w64 (by rw [ba_size]; simp; omega) (by rw [ba_size]; simp; omega)
    have hw2 : wrap64 (i + 1) = i + 1 := w64 (by omega) (by omega)
    simp only [List.mem_cons, not_or] at hn
    have he : s.extract i.toNat (i + 1).toNat = ba [c] := ext_mid pre [c] (p ++ 46 :: r) (by rw [h]; simp) hi (by simp; omega)
    refine Ev.step (fun k => by rw [server_zzIndex.l0, hw, if_pos (by omega), if_pos (by omega), if_pos (by omega), he, ba_toList, ba_toList, if_neg (fun e => hn.1 (by injection e with e; exact e.symm)), hw2]) ?_
    exact Ev.det' (ih (pre ++ [c]) (i + 1) (by rw [h]; simp) (by simp; omega) hn.2) (by simp; omega)
theorem zzSplit_l1 : ∀ (n : Nat) (l : List UInt8) (out : List ByteArray), l.length ≤ n → l.length + out.length < 8796093022208 → Ev (fun k => server_zzSplit.l1 k (ba l) (ba [46]) out) (out ++ (toks l).map ba) := by
  intro n
  induction n with
  | zero =>
    intro l out h1 h2
    have : l = [] := List.length_eq_zero_iff.1 (by omega)
    subst this
    refine Ev.step (fun k => by rw [server_zzSplit.l1]) ?_
    refine Ev.bind (Ev.congr (fun k => by rw [server_zzIndex.f]) (zzIndex_none (ba []) (by simp [ba_size]) [] [] 0 (by simp) (by simp) (by simp))) ?_
    refine Ev.pos (by omega) (Ev.pos (by omega) (Ev.det' (Ev.now _) ?_))
    simp [toks, toksA]
  | succ n ih =>
    intro l out h1 h2
    refine Ev.step (fun k => by rw [server_zzSplit.l1]) ?_
    rcases dot_split l with hd | ⟨p, r, rfl, hd⟩
    · refine Ev.bind (Ev.congr (fun k => by rw [server_zzIndex.f]) (zzIndex_none (ba l) (by rw [ba_size]; omega) l [] 0 (by simp) (by simp) hd)) ?_
      refine Ev.pos (by omega) (Ev.pos (by omega) (Ev.det' (Ev.now _) ?_))
      rw [toks, toksA_plain [] l hd]; simp
    · have hsz : ((ba (p ++ 46 :: r)).size : Int) = p.length + r.length + 1 := by rw [ba_size]; simp; omega
      simp only [List.length_append, List.length_cons] at h1 h2
      refine Ev.bind (Ev.congr (fun k => by rw [server_zzIndex.f]) (zzIndex_at (ba (p ++ 46 :: r)) (by omega) r p [] 0 (by simp) (by simp) hd)) ?_
      have hw : wrap64 ((((([] : List UInt8).length + p.length : Nat) : Int)) + ((ba [46]).size : Int)) = ((p.length : Int) + 1) := by
        rw [ba_size]
        have := w64 (x := (p.length : Int) + 1) (by omega) (by omega)
        simpa using this
      rw [hw]
      have e1 : (ba (p ++ 46 :: r)).extract ((p.length : Int) + 1).toNat (ba (p ++ 46 :: r)).size = ba r := ext_end (p ++ [46]) r (by simp) (by simp)
      have e2 : (ba (p ++ 46 :: r)).extract 0 ((([] : List UInt8).length + p.length : Nat) : Int).toNat = ba p := by
        have := ext_mid (s := ba (p ++ 46 :: r)) (a := 0) (b := (p.length : Int)) [] p (46 :: r) (by simp) (by simp) (by simp)
        simpa using this
      rw [e1, e2]
      refine Ev.neg (by simp <;> omega) (Ev.pos (by simp <;> omega) (Ev.pos (by rw [hsz]; simp <;> omega) (Ev.pos (by omega) (Ev.pos (by omega) (Ev.pos (by omega) ?_)))))
      refine Ev.det' (ih r (out ++ [ba p]) (by omega) (by simp; omega)) ?_
      rw [show toks (p ++ 46 :: r) = [p] ++ toks r from by rw [toks, toksA_app, toksA_plain [] p hd]; simp]
      simp
theorem zzSplit_ev (l : List UInt8) (h : l.length < 8796093022208) : Ev (fun k => server_zzSplit.f k (ba l) (ba [46])) ((toks l).map ba) := by
  refine Ev.congr (fun k => by rw [server_zzSplit.f, if_neg (by rw [ba_size]; simp)]) ?_
  exact Ev.det' (zzSplit_l1 l.length l [] (Nat.le_refl _) (by simpa using h)) (by simp)
theorem zzContains (t : List UInt8) (h : t.length ≤ 140737488351232) (hb : ∀ c ∈ t, 32 < c.toNat) : server_zzContainsAny.f (ba t) (⟨#[9, 10, 12, 13, 32]⟩ : ByteArray) = some false := by
  have h1 : server_zzIndexAny.f (ba t) (⟨#[9, 10, 12, 13, 32]⟩ : ByteArray) = some (-1) := by
    rw [server_zzIndexAny.f, if_pos ⟨by rw [ba_size]; exact h, by decide, by decide⟩]
    have : (List.range (ba t).size).find? (server_zzIndexAny.hit (ba t) (⟨#[9, 10, 12, 13, 32]⟩ : ByteArray)) = none := by
      rw [List.find?_eq_none]
      intro i hi
      rw [List.mem_range, ba_size] at hi
      have hbt : bt (ba t) (i : Int) = ((t[i]'hi).toNat : Int) := by
        rw [ba_bt]; simp [hi]
      have hgt := hb _ (List.getElem_mem hi)
      unfold server_zzIndexAny.hit
      rw [Bool.not_eq_true, List.any_eq_false]
      intro j hj
      rw [List.mem_range] at hj
      rw [hbt]
      have hle : ∀ j, j < (⟨#[9, 10, 12, 13, 32]⟩ : ByteArray).size → bt (⟨#[9, 10, 12, 13, 32]⟩ : ByteArray) (j : Int) ≤ 32 := by decide
      have := hle j hj
      rw [decide_eq_true_eq]
      omega
    rw [this]; rfl
  rw [server_zzContainsAny.f, h1]; rfl
theorem isValid_l1 (L : List (List UInt8)) (hL : L.length ≤ 140737488351232) : ∀ (rest pre : List (List UInt8)) (i : Int), L = pre ++ rest → i = (pre.length : Int) → (∀ t ∈ rest, t ≠ [] ∧ t ≠ [62] ∧ t.length ≤ 140737488351232 ∧ ∀ c ∈ t, 32 < c.toNat) →
    Ev (fun k => server_isValidSubject.l1 k false (L.map ba) ((L.map ba).length : Int) i) true := by
  intro rest
  induction rest with
  | nil =>
    intro pre i h hi _
    have hz : ((L.map ba).length : Int) = pre.length := by rw [h]; simp
    refine Ev.step (fun k => by rw [server_isValidSubject.l1, if_neg (by omega)]) ?_
    exact Ev.now _
  | cons c rest ih =>
    intro pre i h hi hp
    have hz : ((L.map ba).length : Int) = pre.length + rest.length + 1 := by rw [h]; simp; omega
    have hz2 : (L.length : Int) = pre.length + rest.length + 1 := by rw [h]; simp; omega
    have hb : rdOf ByteArray.empty (L.map ba) i = ba c := rdOf_mid _ (pre.map ba) (ba c) (rest.map ba) (by rw [h]; simp) (by simp; omega)
    have hw : wrap64 (i + 1) = i + 1 := w64 (by omega) (by omega)
    have IH := ih (pre ++ [c]) (i + 1) (by rw [h]; simp) (by simp; omega) (fun t q => hp t (List.mem_cons_of_mem _ q))
    obtain ⟨p1, p2, p3, p4⟩ := hp c List.mem_cons_self
    rcases c with _ | ⟨x, c⟩
    · exact absurd rfl p1
    have hsz : ((ba (x :: c)).size : Int) = c.length + 1 := by rw [ba_size]; simp
    refine Ev.step (fun k => by rw [server_isValidSubject.l1, if_pos (by omega), if_pos (by omega), if_pos (by omega), hb, if_neg (by omega)]) ?_
    refine Ev.step (fun k => by rw [server_isValidSubject.j1, if_neg (by simp)]) ?_
    rcases c with _ | ⟨y, c⟩
    · have hb0 : bt (ba [x]) 0 = (x.toNat : Int) := bt_mid [] x [] rfl rfl
      have hx := p4 x List.mem_cons_self
      have h62 : ¬ (x.toNat : Int) = 62 := fun e => p2 (by rw [(toNat_eq (n := 62) (by omega)).1 e]; rfl)
      refine Ev.neg (by rw [hsz]; simp) (Ev.pos (by omega) ?_)
      rw [hb0, hw]
      exact Ev.neg h62 (Ev.neg (by omega) (Ev.neg (by omega) (Ev.neg (by omega) (Ev.neg (by omega) (Ev.neg (by omega) IH)))))
    · refine Ev.pos (by rw [hsz]; simp; omega) ?_
      rw [zzContains _ p3 p4, hw]
      exact Ev.some_ (Ev.neg (by simp) IH)
theorem wild_not (l : List UInt8) (hl : (toks l).all litT = true) (i : Nat) (hi : i < l.length) : server_subjectIsLiteral.wildAt (ba l) i = false := by
  apply Bool.eq_false_iff.mpr
  intro hw
  unfold server_subjectIsLiteral.wildAt at hw
  simp only [Bool.and_eq_true, Bool.or_eq_true, decide_eq_true_eq] at hw
  obtain ⟨⟨h1, h2⟩, h3⟩ := hw
  obtain ⟨pre, c, suf, rfl, rfl⟩ : ∃ pre c suf, l = pre ++ c :: suf ∧ i = pre.length := ⟨l.take i, l[i], l.drop (i + 1), by rw [List.getElem_cons_drop, List.take_append_drop], by simp; omega⟩
  rw [bt_mid pre c suf rfl rfl] at h1
  have hc : c = 42 ∨ c = 62 := h1.imp (toNat_eq (n := 42) (by omega)).1 (toNat_eq (n := 62) (by omega)).1
  have hc46 : c ≠ 46 := by rintro rfl; simp at hc
  have hsuf : ∃ r, toks (c :: suf) = [c] :: r := by
    rcases suf with _ | ⟨d, suf⟩
    · exact ⟨[], by rw [toks, toksA_other _ hc46]; simp [toksA]⟩
    · have hd : d = 46 := by
        rcases h3 with h3 | h3
        · rw [ba_size] at h3; simp at h3
        · rw [bt_mid (pre ++ [c]) d suf (by simp) (by simp)] at h3
          exact (toNat_eq (n := 46) (by omega)).1 h3
      subst hd
      exact ⟨toks suf, by rw [toks, toksA_other _ hc46, toksA_dot]; rfl⟩
  obtain ⟨r, hr⟩ := hsuf
  have hmem : [c] ∈ toks (pre ++ c :: suf) := by
    rcases List.eq_nil_or_concat pre with rfl | ⟨q, d, rfl⟩
    · rw [List.nil_append, hr]; exact List.mem_cons_self
    · have hd : d = 46 := by
        rcases h2 with h2 | h2
        · simp at h2
        · rw [bt_mid q d (c :: suf) (by simp) (by simp)] at h2
          exact (toNat_eq (n := 46) (by omega)).1 h2
      subst hd
      rw [show (q.concat 46) ++ c :: suf = q ++ 46 :: (c :: suf) from by simp, toks, toksA_app, hr]
      exact List.mem_append_right _ List.mem_cons_self
  have := List.all_eq_true.1 hl _ hmem
  rcases hc with rfl | rfl <;> exact absurd this (by decide)
/-- A subject without wildcards can be published to. -/
theorem Publish_ev (l : List UInt8) (h : l.length ≤ 140737488351) (h0 : l ≠ []) (hl : (toks l).all litT = true) (ht : ∀ t ∈ toks l, t ≠ [] ∧ ∀ c ∈ t, 32 < c.toNat) : Ev (fun k => impl_Publish.f k (ba l)) true := by
  have hsp := toks_inj_len l (by omega)
  refine Ev.congr (fun k => by rw [impl_Publish.f, server_IsValidPublishSubject.f, server_IsValidSubject.f, server_isValidSubject.f, ba_toList, if_neg h0, if_neg (by simp)]) ?_
  refine Ev.bind (a := true) ?_ (Ev.now _)
  refine Ev.bind (a := true) ?_ ?_
  · refine Ev.bind (a := true) ?_ (Ev.now _)
    refine Ev.bind (zzSplit_ev l (by omega)) ?_
    refine isValid_l1 (toks l) hsp (toks l) [] 0 rfl rfl (fun t q => ?_)
    obtain ⟨a1, a2⟩ := ht t q
    refine ⟨a1, ?_, ?_, a2⟩
    · rintro rfl
      exact absurd (List.all_eq_true.1 hl _ q) (by decide)
    · have := toks_short l t q; omega
  · refine Ev.pos rfl ?_
    have hr : server_subjectIsLiteral.f (ba l) = some true := by
      rw [server_subjectIsLiteral.f, if_pos (by rw [ba_size]; omega)]
      congr 1
      rw [List.all_eq_true]
      intro i hi
      rw [List.mem_range, ba_size] at hi
      rw [wild_not l hl i hi]; rfl
    rw [hr]
    exact Ev.now _

end Go.Proofs.Ytgbdjinanflhaaa.PlFnCollideMeans
