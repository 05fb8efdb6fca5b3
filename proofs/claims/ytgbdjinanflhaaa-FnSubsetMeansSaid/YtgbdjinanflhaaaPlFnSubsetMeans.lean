/- What the printed functions of FnSubsetMeans come to, as plain functions on lists. -/
import Derived.Test.YtgbdjinanflhaaaPlTok
import Derived.Test.YtgbdjinanflhaaaGFnSubsetMeansx10
namespace Go.Proofs.Ytgbdjinanflhaaa.PlFnSubsetMeans
open Go.RowKit Go.Proofs.YtgbdjinanflhaaaW.PrintWords Go.Proofs.YtgbdjinanflhaaaW.PrintLast Go.Proofs.YtgbdjinanflhaaaW.PrintMore Go.Proofs.Ytgbdjinanflhaaa.Pl Go.Proofs.Ytgbdjinanflhaaa.GFnSubsetMeans
set_option linter.unusedVariables false
set_option linter.unusedSimpArgs false

theorem Tokens_l0 (s : ByteArray) (hs : s.size < 8796093022208) : ∀ (rest pre p : List UInt8) (out : List ByteArray) (fr i : Int), s = ba (pre ++ p ++ rest) → fr = (pre.length : Int) → i = (pre.length : Int) + p.length → out.length ≤ pre.length →
    Ev (fun k => spec_Tokens.l0 k s out fr i) (out ++ (toksA p rest).map ba) := by
  intro rest
  induction rest with
  | nil =>
    intro pre p out fr i h hf hi ho
    have hz : (s.size : Int) = pre.length + p.length := by rw [h, ba_size]; simp
    have he : s.extract fr.toNat s.size = ba p := ext_end pre p (by rw [h, List.append_nil]) hf
    refine Ev.step (fun k => by rw [spec_Tokens.l0, if_neg (by omega), if_pos (by omega), if_pos (by omega), if_pos (by omega), he]) ?_
    exact Ev.now _
  | cons c rest ih =>
    intro pre p out fr i h hf hi ho
    have hz : (s.size : Int) = pre.length + p.length + rest.length + 1 := by rw [h, ba_size]; simp; omega
    have hb : bt s i = (c.toNat : Int) := bt_mid (pre ++ p) c rest h (by simp; omega)
    have hw : wrap64 (i + 1) = i + 1 := w64 (by omega) (by omega)
    have he : s.extract fr.toNat i.toNat = ba p := ext_mid pre p (c :: rest) h hf hi
    by_cases hc : c = 46
    · subst hc
      refine Ev.step (fun k => by rw [spec_Tokens.l0, if_pos (by omega), if_pos (by omega), hb, if_pos (by decide), if_pos (by omega), if_pos (by omega), if_pos (by omega), if_pos (by omega), he, hw]) ?_
      refine Ev.det' (ih (pre ++ p ++ [46]) [] (out ++ [ba p]) (i + 1) (i + 1) (by rw [h]; simp) (by simp; omega) (by simp; omega) (by simp; omega)) ?_
      rw [toksA_dot]; simp
    · have hne : ¬ ((c.toNat : Int) = 46) := fun e => hc ((toNat_eq (n := 46) (by omega)).1 e)
      refine Ev.step (fun k => by rw [spec_Tokens.l0, if_pos (by omega), if_pos (by omega), hb, if_neg hne, hw]) ?_
      refine Ev.det' (ih pre (p ++ [c]) out fr (i + 1) (by rw [h]; simp) hf (by simp; omega) ho) ?_
      rw [toksA_other _ hc]
theorem Tokens_ev (l : List UInt8) (hs : l.length < 8796093022208) : Ev (fun k => spec_Tokens.f k (ba l)) ((toks l).map ba) := by
  have := Tokens_l0 (ba l) hs l [] [] [] 0 0 (by simp) (by simp) (by simp) (by simp)
  exact this

def cleanB (c : UInt8) : Bool := decide (32 < c) && decide (c ≠ 127)
theorem clean_l0 (s : ByteArray) (hs : s.size ≤ 140737488351232) : ∀ (rest pre : List UInt8) (i : Int), s = ba (pre ++ rest) → i = (pre.length : Int) →
    ∃ b, Ev (fun k => laws_clean.l0 k s i) b ∧ (b = true ↔ s.size ≤ 400 ∧ rest.all cleanB = true) := by
  intro rest
  induction rest with
  | nil =>
    intro pre i h hi
    have hz : (s.size : Int) = pre.length := by rw [h, ba_size]; simp
    refine ⟨decide ((s.size : Int) ≤ 400), ?_, by simp; omega⟩
    refine Ev.step (fun k => by rw [laws_clean.l0, if_neg (by omega)]) ?_
    refine Ev.step (fun k => by rw [laws_clean.j1, if_neg (by simp)]) ?_
    exact Ev.now _
  | cons c rest ih =>
    intro pre i h hi
    have hz : (s.size : Int) = pre.length + rest.length + 1 := by rw [h, ba_size]; simp; omega
    have hb : bt s i = (c.toNat : Int) := bt_mid pre c rest h hi
    have hw : wrap64 (i + 1) = i + 1 := w64 (by omega) (by omega)
    by_cases h4 : i ≤ 400
    · by_cases hc : cleanB c = true
      · obtain ⟨b, hev, hiff⟩ := ih (pre ++ [c]) (i + 1) (by rw [h]; simp) (by simp; omega)
        refine ⟨b, ?_, by rw [hiff, List.all_cons, hc, Bool.true_and]⟩
        simp only [cleanB, Bool.and_eq_true, decide_eq_true_eq, UInt8.lt_iff_toNat_lt, ne_eq, ← UInt8.toNat_inj] at hc
        simp at hc
        refine Ev.step (fun k => by rw [laws_clean.l0, if_pos (by omega)]) ?_
        refine Ev.step (fun k => by rw [laws_clean.j1, if_pos (by simp; omega), if_pos (by omega), if_pos (by omega), hb, if_neg (by omega), if_neg (by omega), hw]) ?_
        exact hev
      · refine ⟨false, ?_, by rw [List.all_cons]; simp [hc]⟩
        simp only [cleanB, Bool.and_eq_true, decide_eq_true_eq, UInt8.lt_iff_toNat_lt, ne_eq, ← UInt8.toNat_inj] at hc
        simp at hc
        refine Ev.step (fun k => by rw [laws_clean.l0, if_pos (by omega)]) ?_
        by_cases h32 : (c.toNat : Int) ≤ 32
        · refine Ev.step (fun k => by rw [laws_clean.j1, if_pos (by simp; omega), if_pos (by omega), if_pos (by omega), hb, if_pos h32]) ?_
          exact Ev.now _
        · refine Ev.step (fun k => by rw [laws_clean.j1, if_pos (by simp; omega), if_pos (by omega), if_pos (by omega), hb, if_neg h32, if_pos (by omega)]) ?_
          exact Ev.now _
    · refine ⟨false, ?_, ⟨fun e => (by cases e), fun e => by omega⟩⟩
      refine Ev.step (fun k => by rw [laws_clean.l0, if_pos (by omega)]) ?_
      refine Ev.step (fun k => by rw [laws_clean.j1, if_neg (by simp; omega)]) ?_
      refine Ev.const ?_
      rw [decide_eq_false (by omega)]
theorem clean_ev (l : List UInt8) (hs : l.length ≤ 140737488351232) : ∃ b, Ev (fun k => laws_clean.f k (ba l)) b ∧ (b = true ↔ l.length ≤ 400 ∧ l.all cleanB = true) := by
  have := clean_l0 (ba l) hs l [] 0 (by simp) (by simp)
  exact this

def blankB (c : UInt8) : Bool := decide (c = 32) || decide (c = 9) || decide (c = 10) || decide (c = 13) || decide (c = 12)
theorem Blank_eq (c : UInt8) : spec_Blank.f (c.toNat : Int) = some (blankB c) := by
  unfold spec_Blank.f
  have e32 := toNat_eq (c := c) (n := 32) (by omega)
  have e9 := toNat_eq (c := c) (n := 9) (by omega)
  have e10 := toNat_eq (c := c) (n := 10) (by omega)
  have e13 := toNat_eq (c := c) (n := 13) (by omega)
  have e12 := toNat_eq (c := c) (n := 12) (by omega)
  simp at e32 e9 e10 e13 e12
  unfold blankB
  by_cases h32 : c = 32
  · subst h32; rfl
  rw [if_neg (by rw [e32]; exact h32)]
  by_cases h9 : c = 9
  · subst h9; rfl
  rw [if_neg (by rw [e9]; exact h9)]
  by_cases h10 : c = 10
  · subst h10; rfl
  rw [if_neg (by rw [e10]; exact h10)]
  by_cases h13 : c = 13
  · subst h13; rfl
  rw [if_neg (by rw [e13]; exact h13)]
  simp [h32, h9, h10, h13]
  rw [Bool.eq_iff_iff]
  simp
  exact e12

theorem Spaced_l0 (s : ByteArray) (hs : s.size ≤ 140737488351232) : ∀ (rest pre : List UInt8) (i : Int), s = ba (pre ++ rest) → i = (pre.length : Int) →
    Ev (fun k => spec_Spaced.l0 k s i) (rest.any blankB) := by
  intro rest
  induction rest with
  | nil =>
    intro pre i h hi
    have hz : (s.size : Int) = pre.length := by rw [h, ba_size]; simp
    refine Ev.step (fun k => by rw [spec_Spaced.l0, if_neg (by omega)]) ?_
    exact Ev.now _
  | cons c rest ih =>
    intro pre i h hi
    have hz : (s.size : Int) = pre.length + rest.length + 1 := by rw [h, ba_size]; simp; omega
    have hb : bt s i = (c.toNat : Int) := bt_mid pre c rest h hi
    have hw : wrap64 (i + 1) = i + 1 := w64 (by omega) (by omega)
    refine Ev.step (fun k => by rw [spec_Spaced.l0, if_pos (by omega), if_pos (by omega), hb, Blank_eq, Option.bind_some, hw]) ?_
    rw [List.any_cons]
    cases hc : blankB c with
    | true => simp only [if_true, Bool.true_or]; exact Ev.now _
    | false =>
      simp only [Bool.false_eq_true, if_false, Bool.false_or]
      exact ih (pre ++ [c]) (i + 1) (by rw [h]; simp) (by simp; omega)
theorem Spaced_ev (l : List UInt8) (hs : l.length ≤ 140737488351232) : Ev (fun k => spec_Spaced.f k (ba l)) (l.any blankB) := by
  have := Spaced_l0 (ba l) hs l [] 0 (by simp) (by simp)
  exact this

/-- No token is empty, and > stands last alone. -/
def formedB : List (List UInt8) → Bool
  | [] => true
  | t :: ts => decide (t ≠ []) && (decide (t ≠ [62]) || ts.isEmpty) && formedB ts
theorem Formed_l0 (L : List (List UInt8)) (hs : L.length ≤ 140737488351232) : ∀ (rest pre : List (List UInt8)) (i : Int), L = pre ++ rest → i = (pre.length : Int) →
    Ev (fun k => spec_Formed.l0 k (L.map ba) i) (formedB rest) := by
  intro rest
  induction rest with
  | nil =>
    intro pre i h hi
    have hz : ((L.map ba).length : Int) = pre.length := by rw [h]; simp
    refine Ev.step (fun k => by rw [spec_Formed.l0, if_neg (by omega)]) ?_
    exact Ev.now _
  | cons c rest ih =>
    intro pre i h hi
    have hz : ((L.map ba).length : Int) = pre.length + rest.length + 1 := by rw [h]; simp; omega
    have hz2 : (L.length : Int) = pre.length + rest.length + 1 := by rw [h]; simp; omega
    have hb : rdOf ByteArray.empty (L.map ba) i = ba c := rdOf_mid _ (pre.map ba) (ba c) (rest.map ba) (by rw [h]; simp) (by simp; omega)
    have hw : wrap64 (i + 1) = i + 1 := w64 (by omega) (by omega)
    have IH := ih (pre ++ [c]) (i + 1) (by rw [h]; simp) (by simp; omega)
    rw [formedB]
    by_cases h0 : c = []
    · subst h0
      refine Ev.step (fun k => by rw [spec_Formed.l0, if_pos (by omega), if_pos (by omega), hb, ba_toList, if_pos rfl]) ?_
      exact Ev.now _
    by_cases h1 : c = [62]
    · subst h1
      cases rest with
      | nil =>
        refine Ev.step (fun k => by rw [spec_Formed.l0, if_pos (by omega), if_pos (by omega), hb, ba_toList, if_neg h0, if_pos rfl, hw, if_neg (by simp at hz ⊢; omega)]) ?_
        exact IH
      | cons d rest =>
        refine Ev.step (fun k => by rw [spec_Formed.l0, if_pos (by omega), if_pos (by omega), hb, ba_toList, if_neg h0, if_pos rfl, hw, if_pos (by simp at hz ⊢; omega)]) ?_
        exact Ev.now _
    · refine Ev.step (fun k => by rw [spec_Formed.l0, if_pos (by omega), if_pos (by omega), hb, ba_toList, if_neg h0, if_neg h1, hw]) ?_
      refine Ev.det' IH ?_
      simp [h0, h1]
theorem Formed_ev (L : List (List UInt8)) (hs : L.length ≤ 140737488351232) : Ev (fun k => spec_Formed.f k (L.map ba)) (formedB L) :=
  Formed_l0 L hs L [] 0 (by simp) (by simp)

def validB (l : List UInt8) : Bool := formedB (toks l) && !l.any blankB
theorem Valid_ev (l : List UInt8) (hs : l.length < 8796093022208) : Ev (fun k => spec_Valid.f k (ba l)) (validB l) := by
  have ht : (toks l).length ≤ 140737488351232 := by rw [toks_len]; have := List.count_le_length (a := (46 : UInt8)) (l := l); omega
  refine Ev.congr (fun k => by rw [spec_Valid.f]) ?_
  refine Ev.bind (Tokens_ev l hs) ?_
  refine Ev.bind (Formed_ev _ ht) ?_
  unfold validB
  cases formedB (toks l) with
  | true =>
    simp only [if_true, Bool.true_and]
    refine Ev.bind (Spaced_ev l (by omega)) ?_
    exact Ev.now _
  | false => simp only [Bool.false_eq_true, if_false, Bool.false_and]; exact Ev.now _

def wildB (c : UInt8) : Bool := decide (c = 42) || decide (c = 62)
def tameT (t : List UInt8) : Bool := decide (t.length ≤ 1) || !t.any wildB
theorem tame_l0 (L : List (List UInt8)) (hL : L.length ≤ 140737488351232) (hs : ∀ t ∈ L, t.length ≤ 140737488351232) : ∀ (rest pre : List (List UInt8)) (i : Int), L = pre ++ rest → i = (pre.length : Int) →
    Ev (fun k => laws_tame.l0 k (L.map ba) i) (rest.all tameT) := by
  intro rest
  induction rest with
  | nil =>
    intro pre i h hi
    have hz : ((L.map ba).length : Int) = pre.length := by rw [h]; simp
    refine Ev.step (fun k => by rw [laws_tame.l0, if_neg (by omega)]) ?_
    exact Ev.now _
  | cons t rest ih =>
    intro pre i h hi
    have hz : ((L.map ba).length : Int) = pre.length + rest.length + 1 := by rw [h]; simp; omega
    have hz2 : (L.length : Int) = pre.length + rest.length + 1 := by rw [h]; simp; omega
    have hrd : rdOf ByteArray.empty (L.map ba) i = ba t := rdOf_mid _ (pre.map ba) (ba t) (rest.map ba) (by rw [h]; simp) (by simp; omega)
    have hw : wrap64 (i + 1) = i + 1 := w64 (by omega) (by omega)
    have IH := ih (pre ++ [t]) (i + 1) (by rw [h]; simp) (by simp; omega)
    have ht := hs t (by rw [h]; simp)
    rw [List.all_cons]
    refine Ev.step (fun k => by rw [laws_tame.l0, if_pos (by omega)]) ?_
    by_cases h1 : t.length ≤ 1
    · have e : tameT t = true := by simp [tameT, h1]
      rw [e, Bool.true_and]
      by_cases h0 : (0 : Int) < ((ba t).size : Int)
      · refine Ev.step (fun k => by rw [laws_tame.l1, if_pos (by omega), if_pos (by omega), hrd, if_pos h0, ba_size, decide_eq_false (by omega)]) ?_
        refine Ev.step (fun k => by rw [laws_tame.j2, if_neg (by simp), hw]) ?_
        exact IH
      · refine Ev.step (fun k => by rw [laws_tame.l1, if_pos (by omega), if_pos (by omega), hrd, if_neg h0]) ?_
        refine Ev.step (fun k => by rw [laws_tame.j2, if_neg (by simp), hw]) ?_
        exact IH
    · have inner : ∀ (tr tp : List UInt8) (j : Int), t = tp ++ tr → j = (tp.length : Int) → Ev (fun k => laws_tame.l1 k (L.map ba) i j) (!tr.any wildB && rest.all tameT) := by
        intro tr
        induction tr with
        | nil =>
          intro tp j htp hj
          have htz : ((ba t).size : Int) = tp.length := by rw [ba_size, htp]; simp
          refine Ev.step (fun k => by rw [laws_tame.l1, if_pos (by omega), if_pos (by omega), hrd, if_neg (by omega)]) ?_
          refine Ev.step (fun k => by rw [laws_tame.j2, if_neg (by simp), hw]) ?_
          exact IH
        | cons c tr ihi =>
          intro tp j htp hj
          have htz : ((ba t).size : Int) = tp.length + tr.length + 1 := by rw [ba_size, htp]; simp; omega
          have htz2 : (t.length : Int) = tp.length + tr.length + 1 := by rw [htp]; simp; omega
          have hb : bt (ba t) j = (c.toNat : Int) := bt_mid tp c tr (by rw [htp]) hj
          have hwj : wrap64 (j + 1) = j + 1 := w64 (by omega) (by omega)
          have e42 := toNat_eq (c := c) (n := 42) (by omega)
          have e62 := toNat_eq (c := c) (n := 62) (by omega)
          simp at e42 e62
          refine Ev.step (fun k => by rw [laws_tame.l1, if_pos (by omega), if_pos (by omega), hrd, if_pos (by omega), decide_eq_true (by omega)]) ?_
          rw [List.any_cons]
          by_cases h42 : c = 42
          · refine Ev.step (fun k => by rw [laws_tame.j2, if_pos rfl, if_pos (by omega), if_pos (by omega), hrd, if_pos (by omega), if_pos (by omega), hb, if_pos (e42.2 h42)]) ?_
            exact Ev.const (by simp [wildB, h42])
          by_cases h62 : c = 62
          · refine Ev.step (fun k => by rw [laws_tame.j2, if_pos rfl, if_pos (by omega), if_pos (by omega), hrd, if_pos (by omega), if_pos (by omega), hb, if_neg (fun e => h42 (e42.1 e)), if_pos (e62.2 h62)]) ?_
            exact Ev.const (by simp [wildB, h62])
          · refine Ev.step (fun k => by rw [laws_tame.j2, if_pos rfl, if_pos (by omega), if_pos (by omega), hrd, if_pos (by omega), if_pos (by omega), hb, if_neg (fun e => h42 (e42.1 e)), if_neg (fun e => h62 (e62.1 e)), hwj]) ?_
            refine Ev.det' (ihi (tp ++ [c]) (j + 1) (by rw [htp]; simp) (by simp; omega)) ?_
            simp [wildB, h42, h62]
      refine Ev.det' (inner t [] 0 (by simp) (by simp)) ?_
      simp [tameT, h1]
theorem tame_ev (l : List UInt8) (hs : l.length < 8796093022208) : Ev (fun k => laws_tame.f k (ba l)) ((toks l).all tameT) := by
  have ht : (toks l).length ≤ 140737488351232 := by rw [toks_len]; have := List.count_le_length (a := (46 : UInt8)) (l := l); omega
  refine Ev.congr (fun k => by rw [laws_tame.f]) ?_
  refine Ev.bind (Tokens_ev l hs) ?_
  exact tame_l0 (toks l) ht (fun t h => by have := toks_short l t h; omega) (toks l) [] 0 (by simp) (by simp)

theorem valid_ev (l : List UInt8) (hs : l.length < 8796093022208) : ∃ b, Ev (fun k => laws_valid.f k (ba l)) b ∧ (b = true ↔ (l.length ≤ 400 ∧ l.all cleanB = true) ∧ validB l = true ∧ (toks l).all tameT = true) := by
  obtain ⟨b, hb, hiff⟩ := clean_ev l (by omega)
  cases b with
  | false =>
    refine ⟨false, ?_, ?_⟩
    · refine Ev.congr (fun k => by rw [laws_valid.f]) ?_
      refine Ev.bind hb ?_
      simp only [Bool.false_eq_true, if_false]
      exact Ev.now _
    · simp only [Bool.false_eq_true, false_iff] at hiff ⊢
      exact fun h => hiff h.1
  | true =>
    refine ⟨validB l && (toks l).all tameT, ?_, ?_⟩
    · refine Ev.congr (fun k => by rw [laws_valid.f]) ?_
      refine Ev.bind hb ?_
      simp only [if_true]
      refine Ev.bind (Valid_ev l hs) ?_
      cases validB l with
      | true =>
        simp only [if_true, Bool.true_and]
        refine Ev.bind (tame_ev l hs) ?_
        exact Ev.now _
      | false => simp only [Bool.false_eq_true, if_false, Bool.false_and]; exact Ev.now _
    · rw [Bool.and_eq_true]
      exact ⟨fun h => ⟨hiff.1 rfl, h⟩, fun h => h.2⟩

/-- No token is a wildcard. -/
def litT (t : List UInt8) : Bool := decide (t ≠ [42]) && decide (t ≠ [62])

theorem toksA_head : ∀ (l p : List UInt8), ∃ q r, toksA p l = (p ++ q) :: r
  | [], p => ⟨[], [], by simp [toksA]⟩
  | c :: l, p => by
    by_cases h : c = 46
    · subst h; exact ⟨[], toksA [] l, by rw [toksA_dot]; simp⟩
    · obtain ⟨q, r, e⟩ := toksA_head l (p ++ [c]); exact ⟨c :: q, r, by rw [toksA_other p h, e]; simp⟩
theorem toksA_ne (p l : List UInt8) : toksA p l ≠ [] := by obtain ⟨q, r, e⟩ := toksA_head l p; rw [e]; simp

/-- All that one pattern matches is matched by the other one. -/
def subT : List (List UInt8) → List (List UInt8) → Bool
  | [], [] => true
  | _ :: _, [] => false
  | [], _ :: _ => false
  | t :: l, p :: ps => if p = [62] then true else if t = [62] then false else if p = [42] ∨ t = p then subT l ps else false

/-- Tokens without wildcards are matched by a pattern's. -/
def matchT : List (List UInt8) → List (List UInt8) → Bool
  | [], [] => true
  | _ :: _, [] => false
  | [], _ :: _ => false
  | t :: l, p :: ps => if p = [62] then true else if p = [42] ∨ p = t then matchT l ps else false
theorem matchT_false {t p : List UInt8} {l ps : List (List UInt8)} (h1 : p ≠ [62]) (h2 : p ≠ [42]) (h3 : p ≠ t) : matchT (t :: l) (p :: ps) = false := by
  rw [matchT, if_neg h1, if_neg (by simp [h2, h3])]
theorem matchT_same {t : List UInt8} {l ps : List (List UInt8)} (h1 : t ≠ [62]) : matchT (t :: l) (t :: ps) = matchT l ps := by
  rw [matchT, if_neg h1, if_pos (Or.inr rfl)]

/-- The code's own cut into tokens. -/
theorem tokenize_l0 (s : ByteArray) (hs : s.size < 8796093022208) : ∀ (rest pre p : List UInt8) (out : List ByteArray) (fr i : Int), s = ba (pre ++ p ++ rest) → fr = (pre.length : Int) → i = (pre.length : Int) + p.length → out.length ≤ pre.length →
    Ev (fun k => server_tokenizeSubjectIntoSlice.l0 k out s fr i) (out ++ (toksA p rest).map ba) := by
  intro rest
  induction rest with
  | nil =>
    intro pre p out fr i h hf hi ho
    have hz : (s.size : Int) = pre.length + p.length := by rw [h, ba_size]; simp
    have he : s.extract fr.toNat s.size = ba p := ext_end pre p (by rw [h, List.append_nil]) hf
    refine Ev.step (fun k => by rw [server_tokenizeSubjectIntoSlice.l0, if_neg (by omega), if_pos (by omega), if_pos (by omega), if_pos (by omega), he]) ?_
    exact Ev.now _
  | cons c rest ih =>
    intro pre p out fr i h hf hi ho
    have hz : (s.size : Int) = pre.length + p.length + rest.length + 1 := by rw [h, ba_size]; simp; omega
    have hb : bt s i = (c.toNat : Int) := bt_mid (pre ++ p) c rest h (by simp; omega)
    have hw : wrap64 (i + 1) = i + 1 := w64 (by omega) (by omega)
    have he : s.extract fr.toNat i.toNat = ba p := ext_mid pre p (c :: rest) h hf hi
    by_cases hc : c = 46
    · subst hc
      refine Ev.step (fun k => by rw [server_tokenizeSubjectIntoSlice.l0, if_pos (by omega), if_pos (by omega), hb, if_pos (by decide), if_pos (by omega), if_pos (by omega), if_pos (by omega), if_pos (by omega), he, hw]) ?_
      refine Ev.det' (ih (pre ++ p ++ [46]) [] (out ++ [ba p]) (i + 1) (i + 1) (by rw [h]; simp) (by simp; omega) (by simp; omega) (by simp; omega)) ?_
      rw [toksA_dot]; simp
    · have hne : ¬ ((c.toNat : Int) = 46) := fun e => hc ((toNat_eq (n := 46) (by omega)).1 e)
      refine Ev.step (fun k => by rw [server_tokenizeSubjectIntoSlice.l0, if_pos (by omega), if_pos (by omega), hb, if_neg hne, hw]) ?_
      refine Ev.det' (ih pre (p ++ [c]) out fr (i + 1) (by rw [h]; simp) hf (by simp; omega) ho) ?_
      rw [toksA_other _ hc]
theorem tokenize_ev (l : List UInt8) (hs : l.length < 8796093022208) : Ev (fun k => server_tokenizeSubjectIntoSlice.f k [] (ba l)) ((toks l).map ba) := by
  have := tokenize_l0 (ba l) hs l [] [] [] 0 0 (by simp) (by simp) (by simp) (by simp)
  exact this
theorem cmp_zero : ∀ (a b : List UInt8), Lib.compareBytes a b = 0 ↔ a = b
  | [], [] => by simp [Lib.compareBytes]
  | [], _ :: _ => by simp [Lib.compareBytes]
  | _ :: _, [] => by simp [Lib.compareBytes]
  | x :: a, y :: b => by
    have ih := cmp_zero a b
    simp only [Lib.compareBytes]
    by_cases h1 : x < y
    · rw [if_pos h1]; simp; intro h; subst h; exact absurd h1 (by simp)
    · rw [if_neg h1]
      by_cases h2 : y < x
      · rw [if_pos h2]; simp; intro h; subst h; exact absurd h2 (by simp)
      · rw [if_neg h2, ih]
        have : x = y := by
          apply UInt8.toNat_inj.1
          rw [UInt8.lt_iff_toNat_lt] at h1 h2
          omega
        simp [this]
theorem beq_one (n : Nat) : (((n : Int) + 1) == 1) = decide (n = 0) := by
  rw [Bool.eq_iff_iff]; simp; omega
theorem isSubset_l0 (L P : List (List UInt8)) (hP : P.length ≤ 140737488351232) : ∀ (p l preP preL : List (List UInt8)) (i : Int), P = preP ++ p → L = preL ++ l → i = (preP.length : Int) → preL.length = preP.length →
    (∀ t ∈ p, t ≠ []) → (∀ t ∈ l, t ≠ []) → p.all tameT = true → l.all tameT = true →
    Ev (fun k => server_isSubsetMatchTokenized.l0 k (L.map ba) (P.map ba) (P.map ba) ((P.map ba).length : Int) i) (subT l p) := by
  intro p
  induction p with
  | nil =>
    intro l preP preL i hp hl hi he _ _ _ _
    have hz : ((P.map ba).length : Int) = preP.length := by rw [hp]; simp
    have hz2 : ((L.map ba).length : Int) = preL.length + l.length := by rw [hl]; simp
    refine Ev.step (fun k => by rw [server_isSubsetMatchTokenized.l0, if_neg (by omega)]) ?_
    refine Ev.const ?_
    cases l with
    | nil => simp only [subT]; congr 1; rw [beq_iff_eq]; simp only [List.length_nil] at hz2; omega
    | cons t l => simp only [subT]; congr 1; rw [beq_eq_false_iff_ne]; simp only [List.length_cons] at hz2; omega
  | cons p ps ih =>
    intro l preP preL i hp hl hi he np nl tp tl
    have hz : ((P.map ba).length : Int) = preP.length + ps.length + 1 := by rw [hp]; simp; omega
    have hz3 : (P.length : Int) = preP.length + ps.length + 1 := by rw [hp]; simp; omega
    have hz2 : ((L.map ba).length : Int) = preL.length + l.length := by rw [hl]; simp
    have hrp : rdOf ByteArray.empty (P.map ba) i = ba p := rdOf_mid _ (preP.map ba) (ba p) (ps.map ba) (by rw [hp]; simp) (by simp; omega)
    have hw : wrap64 (i + 1) = i + 1 := w64 (by omega) (by omega)
    cases l with
    | nil =>
      simp only [List.length_nil] at hz2
      refine Ev.step (fun k => by rw [server_isSubsetMatchTokenized.l0, if_pos (by omega), if_pos (by omega), if_pos (by omega), if_pos (by omega)]) ?_
      exact Ev.now _
    | cons t l =>
      simp only [List.length_cons] at hz2
      have hrl : rdOf ByteArray.empty (L.map ba) i = ba t := rdOf_mid _ (preL.map ba) (ba t) (l.map ba) (by rw [hl]; simp) (by simp; omega)
      rw [List.all_cons, Bool.and_eq_true] at tp tl
      have IH := ih l (preP ++ [p]) (preL ++ [t]) (i + 1) (by rw [hp]; simp) (by rw [hl]; simp) (by simp; omega) (by simp [he]) (fun x hx => np x (List.mem_cons_of_mem _ hx)) (fun x hx => nl x (List.mem_cons_of_mem _ hx)) tp.2 tl.2
      obtain ⟨c, p', rfl⟩ := List.exists_cons_of_ne_nil (np p List.mem_cons_self)
      obtain ⟨d, t', rfl⟩ := List.exists_cons_of_ne_nil (nl t List.mem_cons_self)
      have sp : ((ba (c :: p')).size : Int) = (p'.length : Int) + 1 := by rw [ba_size]; simp
      have st : ((ba (d :: t')).size : Int) = (t'.length : Int) + 1 := by rw [ba_size]; simp
      have bp : bt (ba (c :: p')) 0 = (c.toNat : Int) := by rw [ba_bt]; rfl
      have bd : bt (ba (d :: t')) 0 = (d.toNat : Int) := by rw [ba_bt]; rfl
      have c42 := toNat_eq (c := c) (n := 42) (by omega)
      have c62 := toNat_eq (c := c) (n := 62) (by omega)
      have d42 := toNat_eq (c := d) (n := 42) (by omega)
      have d62 := toNat_eq (c := d) (n := 62) (by omega)
      simp at c42 c62 d42 d62
      have wp : c = 42 ∨ c = 62 → p' = [] := by
        intro h
        cases p' with
        | nil => rfl
        | cons x p' => have := tp.1; simp [tameT, wildB] at this; rcases h with h | h <;> simp [h] at this
      have wt : d = 42 ∨ d = 62 → t' = [] := by
        intro h
        cases t' with
        | nil => rfl
        | cons x t' => have := tl.1; simp [tameT, wildB] at this; rcases h with h | h <;> simp [h] at this
      rw [subT]
      -- the pattern's token: is it > ?
      by_cases h1 : c = 62
      · obtain rfl := wp (Or.inr h1)
        subst h1
        rw [if_pos rfl]
        refine Ev.step (fun k => by rw [server_isSubsetMatchTokenized.l0, if_pos (by omega), if_pos (by omega), if_pos (by omega), if_neg (by omega), hrp, sp, if_neg (by omega), if_pos (by omega), bp, if_pos (by decide), beq_one]) ?_
        refine Ev.step (fun k => by rw [server_isSubsetMatchTokenized.j1, if_pos (by simp)]) ?_
        exact Ev.now _
      · rw [if_neg (by simp [h1])]
        refine Ev.step (fun k => by rw [server_isSubsetMatchTokenized.l0, if_pos (by omega), if_pos (by omega), if_pos (by omega), if_neg (by omega), hrp, sp, if_neg (by omega), if_pos (by omega), bp, if_neg (fun e => h1 (c62.1 e))]) ?_
        by_cases h2 : d = 62
        · obtain rfl := wt (Or.inr h2)
          subst h2
          rw [if_pos rfl]
          refine Ev.step (fun k => by rw [server_isSubsetMatchTokenized.j1, if_neg (by simp), if_pos (by omega), if_pos (by omega), hrl, st, if_neg (by omega), if_pos (by omega), bd, if_pos (by decide), beq_one]) ?_
          refine Ev.step (fun k => by rw [server_isSubsetMatchTokenized.j2, if_pos (by simp)]) ?_
          exact Ev.now _
        · rw [if_neg (by simp [h2])]
          refine Ev.step (fun k => by rw [server_isSubsetMatchTokenized.j1, if_neg (by simp), if_pos (by omega), if_pos (by omega), hrl, st, if_neg (by omega), if_pos (by omega), bd, if_neg (fun e => h2 (d62.1 e))]) ?_
          by_cases h3 : d = 42
          · obtain rfl := wt (Or.inl h3)
            subst h3
            refine Ev.step (fun k => by rw [server_isSubsetMatchTokenized.j2, if_neg (by simp), st, if_pos (by omega), bd, if_pos (by decide), beq_one]) ?_
            by_cases h4 : c = 42
            · obtain rfl := wp (Or.inl h4)
              subst h4
              rw [if_pos (Or.inl rfl)]
              refine Ev.step (fun k => by rw [server_isSubsetMatchTokenized.j3, if_pos (by simp), sp, if_pos (by omega), bp, if_pos (by decide), beq_one]) ?_
              refine Ev.step (fun k => by rw [server_isSubsetMatchTokenized.j4, if_pos (by simp), if_neg (by omega), hw]) ?_
              exact IH
            · rw [if_neg (by simp [h4]; intro h; exact absurd h.symm h4)]
              refine Ev.step (fun k => by rw [server_isSubsetMatchTokenized.j3, if_pos (by simp), sp, if_pos (by omega), bp, if_neg (fun e => h4 (c42.1 e))]) ?_
              refine Ev.step (fun k => by rw [server_isSubsetMatchTokenized.j4, if_neg (by simp)]) ?_
              exact Ev.now _
          · refine Ev.step (fun k => by rw [server_isSubsetMatchTokenized.j2, if_neg (by simp), st, if_pos (by omega), bd, if_neg (fun e => h3 (d42.1 e))]) ?_
            by_cases h4 : c = 42
            · obtain rfl := wp (Or.inl h4)
              subst h4
              rw [if_pos (Or.inl rfl)]
              refine Ev.step (fun k => by rw [server_isSubsetMatchTokenized.j3, if_neg (by simp), sp, if_pos (by omega), bp, if_pos (by decide), hw]) ?_
              exact IH
            · refine Ev.step (fun k => by rw [server_isSubsetMatchTokenized.j3, if_neg (by simp), sp, if_pos (by omega), bp, if_neg (fun e => h4 (c42.1 e)), strings_Compare.f, Option.bind_some, ba_data, ba_data, hw]) ?_
              by_cases h5 : (d :: t') = (c :: p')
              · rw [if_pos (Or.inr h5)]
                refine Ev.pos ((cmp_zero _ _).2 h5) IH
              · rw [if_neg (fun h => h.elim (fun h => h4 (by simp at h; exact h.1)) h5)]
                refine Ev.neg (fun e => h5 ((cmp_zero _ _).1 e)) (Ev.now _)
theorem formed_ne : ∀ (L : List (List UInt8)), formedB L = true → ∀ t ∈ L, t ≠ []
  | [], _ => by simp
  | t :: ts, h => by
    simp only [formedB, Bool.and_eq_true, decide_eq_true_eq] at h
    intro x hx
    rcases List.mem_cons.1 hx with rfl | hx
    · exact h.1.1
    · exact formed_ne ts h.2 x hx
theorem subset_ev (l p : List UInt8) (hl : l.length < 8796093022208) (hp : p.length < 8796093022208) (fl : formedB (toks l) = true) (fp : formedB (toks p) = true) (tl : (toks l).all tameT = true) (tp : (toks p).all tameT = true) :
    Ev (fun k => server_subjectIsSubsetMatch.f k (ba l) (ba p)) (subT (toks l) (toks p)) := by
  have h2 : (toks p).length ≤ 140737488351232 := by rw [toks_len]; have := List.count_le_length (a := (46 : UInt8)) (l := p); omega
  refine Ev.congr (fun k => by rw [server_subjectIsSubsetMatch.f]) ?_
  refine Ev.bind (tokenize_ev l hl) ?_
  refine Ev.congr (fun k => by rw [server_isSubsetMatch.f]) ?_
  refine Ev.bind (tokenize_ev p hp) ?_
  refine Ev.congr (fun k => by rw [server_isSubsetMatchTokenized.f]) ?_
  exact isSubset_l0 _ _ h2 (toks p) (toks l) [] [] 0 rfl rfl rfl rfl (formed_ne _ fp) (formed_ne _ fl) tp tl
theorem impl_Matches_ev (l p : List UInt8) (hl : l.length < 8796093022208) (hp : p.length < 8796093022208) (fl : formedB (toks l) = true) (fp : formedB (toks p) = true) (tl : (toks l).all tameT = true) (tp : (toks p).all tameT = true) :
    Ev (fun k => impl_Matches.f k (ba l) (ba p)) (subT (toks l) (toks p)) := by
  refine Ev.congr (fun k => by rw [impl_Matches.f, server_SubjectMatchesFilter.f]) ?_
  exact Ev.bind (Ev.bind (subset_ev l p hl hp fl fp tl tp) (Ev.now _)) (Ev.now _)

/-- Two patterns' tokens: some literal subject is matched by both. -/
def colT : List (List UInt8) → List (List UInt8) → Bool
  | [], [] => true
  | [], _ :: _ => false
  | _ :: _, [] => false
  | x :: a, y :: b => if x = [62] ∨ y = [62] then true else if x ≠ [42] ∧ y ≠ [42] ∧ x ≠ y then false else colT a b
def canM (c d : List UInt8) : Bool := decide (c = [42] ∨ d = [42] ∨ c = [62] ∨ d = [62] ∨ c = d)
def colL : List (List UInt8) → List (List UInt8) → Bool
  | [], _ => true
  | _ :: _, [] => true
  | x :: a, y :: b => canM x y && colL a b
theorem tame_head {x : UInt8} {c : List UInt8} (h : tameT (x :: c) = true) : (x = 42 ↔ x :: c = [42]) ∧ (x = 62 ↔ x :: c = [62]) := by
  simp only [tameT, Bool.or_eq_true, decide_eq_true_eq, Bool.not_eq_true'] at h
  constructor
  · constructor
    · rintro rfl
      rcases h with h | h
      · simp at h; rw [h]
      · simp [wildB] at h
    · intro e; injection e
  · constructor
    · rintro rfl
      rcases h with h | h
      · simp at h; rw [h]
      · simp [wildB] at h
    · intro e; injection e
theorem colT_comm : ∀ a b, colT a b = colT b a
  | [], [] => rfl
  | [], _ :: _ => rfl
  | _ :: _, [] => rfl
  | x :: a, y :: b => by
    unfold colT
    rw [colT_comm a b]
    by_cases h : x = [62] ∨ y = [62]
    · rw [if_pos h, if_pos h.symm]
    · rw [if_neg h, if_neg (show ¬ (y = [62] ∨ x = [62]) from fun g => h g.symm)]
      by_cases g : x ≠ [42] ∧ y ≠ [42] ∧ x ≠ y
      · rw [if_pos g, if_pos ⟨g.2.1, g.1, fun e => g.2.2 e.symm⟩]
      · rw [if_neg g, if_neg (fun q => g ⟨q.2.1, q.1, fun e => q.2.2 e.symm⟩)]
theorem colT_self : ∀ a, colT a a = true
  | [] => rfl
  | x :: a => by
    unfold colT
    rw [colT_self a, if_neg (c := x ≠ [42] ∧ x ≠ [42] ∧ x ≠ x) (fun q => q.2.2 rfl)]
    split <;> rfl
theorem colT_lit : ∀ a b, a.all litT = true → colT a b = subT a b
  | [], [], _ => rfl
  | [], _ :: _, _ => rfl
  | _ :: _, [], _ => rfl
  | x :: a, y :: b, h => by
    simp only [List.all_cons, Bool.and_eq_true] at h
    have hx := h.1
    simp only [litT, Bool.and_eq_true, decide_eq_true_eq] at hx
    unfold colT subT
    rw [colT_lit a b h.2]
    by_cases h1 : y = [62]
    · rw [if_pos (.inr h1), if_pos h1]
    · rw [if_neg (fun q => q.elim hx.2 h1), if_neg h1]
      by_cases h2 : y = [42]
      · simp [h2, hx.1, hx.2]
      · by_cases h3 : x = y
        · simp [h3, h1]
        · simp [h3, h2, hx.1, hx.2]
theorem formed_tail {x : List UInt8} {a : List (List UInt8)} (h : formedB (x :: a) = true) : formedB a = true ∧ (x = [62] → a = []) := by
  simp only [formedB, Bool.and_eq_true, Bool.or_eq_true, decide_eq_true_eq, List.isEmpty_iff] at h
  exact ⟨h.2, fun e => h.1.2.elim (fun q => absurd e q) id⟩
/-- The second one longer, the first one without the sign for all that follows. -/
theorem colT_short : ∀ a b, formedB b = true → a.contains [62] = false → a.length < b.length → colT a b = false
  | [], [], _, _, h => absurd h (Nat.lt_irrefl _)
  | [], _ :: _, _, _, _ => rfl
  | _ :: _, [], _, _, h => absurd h (by simp)
  | x :: a, y :: b, hb, ha, h => by
    simp only [List.contains_cons, Bool.or_eq_false_iff, beq_eq_false_iff_ne] at ha
    simp only [List.length_cons] at h
    obtain ⟨hb1, hb2⟩ := formed_tail hb
    have hy : y ≠ [62] := fun e => by have := hb2 e; subst this; simp at h
    unfold colT
    rw [if_neg (fun q => q.elim (fun e => ha.1 e.symm) hy), colT_short a b hb1 ha.2 (by omega)]
    split <;> rfl
theorem colT_long : ∀ a b, formedB a = true → formedB b = true → (a.length < b.length → a.contains [62] = true) → (b.length < a.length → b.contains [62] = true) → colT a b = colL a b
  | [], [], _, _, _, _ => rfl
  | [], _ :: _, _, _, h, _ => absurd (h (by simp)) (by simp)
  | _ :: _, [], _, _, _, h => absurd (h (by simp)) (by simp)
  | x :: a, y :: b, ha, hb, h1, h2 => by
    obtain ⟨ha1, ha2⟩ := formed_tail ha
    obtain ⟨hb1, hb2⟩ := formed_tail hb
    unfold colT colL
    by_cases hx : x = [62]
    · have := ha2 hx; subst this
      simp [hx, canM, colL]
    by_cases hy : y = [62]
    · have := hb2 hy; subst this
      subst hy
      cases a <;> simp [canM, colL]
    rw [if_neg (fun q => q.elim hx hy)]
    have hc1 : ([62] == x) = false := beq_eq_false_iff_ne.mpr (fun e => hx e.symm)
    have hc2 : ([62] == y) = false := beq_eq_false_iff_ne.mpr (fun e => hy e.symm)
    simp only [List.contains_cons, hc1, hc2, Bool.false_or, List.length_cons] at h1 h2
    rw [colT_long a b ha1 hb1 (fun h => h1 (by omega)) (fun h => h2 (by omega))]
    by_cases g : x ≠ [42] ∧ y ≠ [42] ∧ x ≠ y
    · rw [if_pos g]; simp [canM, g.1, g.2.1, g.2.2, hx, hy]
    · rw [if_neg g]
      have : canM x y = true := by
        unfold canM
        rw [decide_eq_true_eq]
        by_cases q1 : x = [42]
        · exact .inl q1
        by_cases q2 : y = [42]
        · exact .inr (.inl q2)
        by_cases q3 : x = y
        · exact .inr (.inr (.inr (.inr q3)))
        · exact absurd ⟨q1, q2, q3⟩ g
      rw [this, Bool.true_and]
theorem analyze_l0 (L : List (List UInt8)) (hs : L.length ≤ 140737488351232) : ∀ (rest pre : List (List UInt8)) (i : Int) (p f : Bool), L = pre ++ rest → i = (pre.length : Int) → (∀ t ∈ rest, t ≠ []) → rest.all tameT = true →
    Ev (fun k => server_analyzeTokens.l0 k p f (L.map ba) ((L.map ba).length : Int) i) (p || rest.contains [42], f || rest.contains [62]) := by
  intro rest
  induction rest with
  | nil =>
    intro pre i p f h hi _ _
    have hz : ((L.map ba).length : Int) = pre.length := by rw [h]; simp
    refine Ev.step (fun k => by rw [server_analyzeTokens.l0, if_neg (by omega)]) ?_
    exact Ev.det' (Ev.now _) (by simp)
  | cons c rest ih =>
    intro pre i p f h hi hne ht
    have hz : ((L.map ba).length : Int) = pre.length + rest.length + 1 := by rw [h]; simp; omega
    have hz2 : (L.length : Int) = pre.length + rest.length + 1 := by rw [h]; simp; omega
    have hb : rdOf ByteArray.empty (L.map ba) i = ba c := rdOf_mid _ (pre.map ba) (ba c) (rest.map ba) (by rw [h]; simp) (by simp; omega)
    have hw : wrap64 (i + 1) = i + 1 := w64 (by omega) (by omega)
    simp only [List.all_cons, Bool.and_eq_true] at ht
    have IH := fun p f => ih (pre ++ [c]) (i + 1) p f (by rw [h]; simp) (by simp; omega) (fun t q => hne t (List.mem_cons_of_mem _ q)) ht.2
    have hc := hne c List.mem_cons_self
    refine Ev.step (fun k => by rw [server_analyzeTokens.l0, if_pos (by omega), if_pos (by omega), if_pos (by omega), hb, ba_size]) ?_
    rcases c with _ | ⟨x, c⟩
    · exact absurd rfl hc
    have hh := tame_head ht.1
    refine Ev.neg (by simp; omega) ?_
    rcases c with _ | ⟨y, c⟩
    · have hb0 : bt (ba [x]) 0 = (x.toNat : Int) := bt_mid [] x [] rfl rfl
      refine Ev.step (fun k => by rw [server_analyzeTokens.j1, if_neg (by simp), ba_size, if_pos (by simp), hb0, hw]) ?_
      by_cases h42 : x = 42
      · subst h42
        refine Ev.pos (by decide) (Ev.det' (IH true f) (by simp))
      · refine Ev.neg (fun e => h42 ((toNat_eq (n := 42) (by omega)).1 e)) ?_
        by_cases h62 : x = 62
        · subst h62
          refine Ev.pos (by decide) (Ev.det' (IH p true) (by simp))
        · refine Ev.neg (fun e => h62 ((toNat_eq (n := 62) (by omega)).1 e)) (Ev.det' (IH p f) ?_)
          have e1 : ([42] == [x]) = false := beq_eq_false_iff_ne.mpr (fun e => h42 (by injection e with e; exact e.symm))
          have e2 : ([62] == [x]) = false := beq_eq_false_iff_ne.mpr (fun e => h62 (by injection e with e; exact e.symm))
          simp only [List.contains_cons, e1, e2, Bool.false_or]
    · have e0 : decide (((x :: y :: c).length : Int) > 1) = true := decide_eq_true (by simp; omega)
      refine Ev.step (fun k => by rw [server_analyzeTokens.j1, e0, if_pos rfl, hw]) ?_
      refine Ev.det' (IH p f) ?_
      have e1 : ([42] == x :: y :: c) = false := by simp
      have e2 : ([62] == x :: y :: c) = false := by simp
      simp only [List.contains_cons, e1, e2, Bool.false_or]
theorem canM_ev (c d : List UInt8) (hc : c ≠ []) (hd : d ≠ []) (tc : tameT c = true) (td : tameT d = true) : Ev (fun k => server_tokensCanMatch.f k (ba c) (ba d)) (canM c d) := by
  rcases c with _ | ⟨x, c⟩
  · exact absurd rfl hc
  rcases d with _ | ⟨y, d⟩
  · exact absurd rfl hd
  have hx := tame_head tc
  have hy := tame_head td
  have bx : bt (ba (x :: c)) 0 = (x.toNat : Int) := bt_mid [] x c rfl rfl
  have by_ : bt (ba (y :: d)) 0 = (y.toNat : Int) := bt_mid [] y d rfl rfl
  have x42 : ((x.toNat : Int) = 42) ↔ x :: c = [42] := (toNat_eq (n := 42) (by omega)).trans hx.1
  have y42 : ((y.toNat : Int) = 42) ↔ y :: d = [42] := (toNat_eq (n := 42) (by omega)).trans hy.1
  have x62 : ((x.toNat : Int) = 62) ↔ x :: c = [62] := (toNat_eq (n := 62) (by omega)).trans hx.2
  have y62 : ((y.toNat : Int) = 62) ↔ y :: d = [62] := (toNat_eq (n := 62) (by omega)).trans hy.2
  have e0 : (((ba (y :: d)).size : Int) == 0) = false := beq_eq_false_iff_ne.mpr (by rw [ba_size]; simp; omega)
  refine Ev.congr (fun k => by rw [server_tokensCanMatch.f, if_neg (by rw [ba_size]; simp; omega), e0]) ?_
  refine Ev.step (fun k => by rw [server_tokensCanMatch.j0, if_neg (by simp), if_pos (by rw [ba_size]; simp), if_pos (by rw [ba_size]; simp), bx, by_]) ?_
  unfold canM
  generalize x :: c = C at *
  generalize y :: d = D at *
  by_cases h1 : C = [42]
  · rw [if_pos (x42.2 h1)]; exact Ev.det' (Ev.now _) (by simp [h1])
  rw [if_neg (fun e => h1 (x42.1 e))]
  by_cases h2 : D = [42]
  · rw [if_pos (y42.2 h2)]; exact Ev.det' (Ev.now _) (by simp [h2])
  rw [if_neg (fun e => h2 (y42.1 e))]
  by_cases h3 : C = [62]
  · rw [if_pos (x62.2 h3)]; exact Ev.det' (Ev.now _) (by simp [h3])
  rw [if_neg (fun e => h3 (x62.1 e))]
  by_cases h4 : D = [62]
  · rw [if_pos (y62.2 h4)]; exact Ev.det' (Ev.now _) (by simp [h4])
  rw [if_neg (fun e => h4 (y62.1 e)), ba_toList, ba_toList]
  refine Ev.det' (Ev.now _) ?_
  by_cases h5 : C = D
  · simp [h5]
  · simp [h1, h2, h3, h4, h5]
theorem colLoop (A B : List (List UInt8)) (hA : A.length ≤ 140737488351232) (hB : B.length ≤ 140737488351232) : ∀ (a b preA preB : List (List UInt8)) (i : Int), A = preA ++ a → B = preB ++ b → i = (preA.length : Int) → preB.length = preA.length → (∀ t ∈ a, t ≠ []) → (∀ t ∈ b, t ≠ []) → a.all tameT = true → b.all tameT = true →
    Ev (fun k => server_SubjectsCollide.l0 k (A.map ba) (B.map ba) ((min (A.map ba).length (B.map ba).length : Nat) : Int) i) (colL a b) := by
  intro a
  induction a with
  | nil =>
    intro b preA preB i hA hB hi hp _ _ _ _
    have hz : (A.map ba).length = preA.length := by rw [hA]; simp
    refine Ev.step (fun k => by rw [server_SubjectsCollide.l0, if_neg (by omega)]) ?_
    exact Ev.det' (Ev.now _) rfl
  | cons x a ih =>
    intro b preA preB i h1 h2 hi hp na nb ta tb
    have hz : (A.map ba).length = preA.length + a.length + 1 := by rw [h1]; simp; omega
    have hzA : A.length = preA.length + a.length + 1 := by rw [h1]; simp; omega
    rcases b with _ | ⟨y, b⟩
    · have hz2 : (B.map ba).length = preB.length := by rw [h2]; simp
      refine Ev.step (fun k => by rw [server_SubjectsCollide.l0, if_neg (by omega)]) ?_
      exact Ev.det' (Ev.now _) rfl
    have hz2 : (B.map ba).length = preB.length + b.length + 1 := by rw [h2]; simp; omega
    have r1 : rdOf ByteArray.empty (A.map ba) i = ba x := rdOf_mid _ (preA.map ba) (ba x) (a.map ba) (by rw [h1]; simp) (by simp; omega)
    have r2 : rdOf ByteArray.empty (B.map ba) i = ba y := rdOf_mid _ (preB.map ba) (ba y) (b.map ba) (by rw [h2]; simp) (by simp; omega)
    have hw : wrap64 (i + 1) = i + 1 := w64 (by omega) (by omega)
    simp only [List.all_cons, Bool.and_eq_true] at ta tb
    have IH := ih b (preA ++ [x]) (preB ++ [y]) (i + 1) (by rw [h1]; simp) (by rw [h2]; simp) (by simp; omega) (by simp; omega) (fun t q => na t (List.mem_cons_of_mem _ q)) (fun t q => nb t (List.mem_cons_of_mem _ q)) ta.2 tb.2
    refine Ev.step (fun k => by rw [server_SubjectsCollide.l0, if_pos (by omega), if_pos (by omega), if_pos (by omega), if_pos (by omega), r1, r2, hw]) ?_
    refine Ev.bind (canM_ev x y (na x List.mem_cons_self) (nb y List.mem_cons_self) ta.1 tb.1) ?_
    unfold colL
    cases canM x y with
    | true => simp only [if_true, Bool.true_and]; exact IH
    | false => simp only [Bool.false_eq_true, if_false, Bool.false_and]; exact Ev.now _
theorem lit_iff (a : List (List UInt8)) : (!(a.contains [42] || a.contains [62])) = a.all litT := by
  induction a with
  | nil => rfl
  | cons x a ih =>
    rw [List.all_cons, ← ih]
    simp only [List.contains_cons, litT]
    have e1 : ([42] == x) = decide (x = [42]) := by rw [Bool.eq_iff_iff]; simp; exact eq_comm
    have e2 : ([62] == x) = decide (x = [62]) := by rw [Bool.eq_iff_iff]; simp; exact eq_comm
    rw [e1, e2]
    by_cases h1 : x = [42] <;> by_cases h2 : x = [62] <;> simp [h1, h2]
theorem toks_inj_len (l : List UInt8) (hl : l.length < 8796093022208) : (toks l).length ≤ 140737488351232 := by rw [toks_len]; have := List.count_le_length (a := (46 : UInt8)) (l := l); omega
theorem toksA_join : ∀ (l p l' p' : List UInt8), toksA p l = toksA p' l' → (∀ c ∈ p, c ≠ 46) → (∀ c ∈ p', c ≠ 46) → p ++ l = p' ++ l'
  | [], p, [], p', h, _, _ => by simpa [toksA] using h
  | [], p, c :: l', p', h, h1, h2 => by
    by_cases hc : c = 46
    · subst hc
      rw [toksA_dot] at h
      simp [toksA] at h
      exact absurd h.2 (toksA_ne _ _)
    · rw [toksA_other _ hc] at h
      have := toksA_join [] p l' (p' ++ [c]) h h1 (fun x hx => by rcases List.mem_append.1 hx with q | q; exact h2 x q; simp at q; rw [q]; exact hc)
      simpa using this
  | c :: l, p, [], p', h, h1, h2 => by
    by_cases hc : c = 46
    · subst hc
      rw [toksA_dot] at h
      simp [toksA] at h
      exact absurd h.2 (toksA_ne _ _)
    · rw [toksA_other _ hc] at h
      have := toksA_join l (p ++ [c]) [] p' h (fun x hx => by rcases List.mem_append.1 hx with q | q; exact h1 x q; simp at q; rw [q]; exact hc) h2
      simpa using this
  | c :: l, p, d :: l', p', h, h1, h2 => by
    by_cases hc : c = 46
    · subst hc
      by_cases hd : d = 46
      · subst hd
        rw [toksA_dot, toksA_dot] at h
        injection h with e1 e2
        have := toksA_join l [] l' [] e2 (by simp) (by simp)
        simp at this
        rw [e1, this]
      · rw [toksA_dot, toksA_other _ hd] at h
        have := toksA_join (46 :: l) p l' (p' ++ [d]) (by rw [toksA_dot]; exact h) h1 (fun x hx => by rcases List.mem_append.1 hx with q | q; exact h2 x q; simp at q; rw [q]; exact hd)
        simpa using this
    · rw [toksA_other _ hc] at h
      have := toksA_join l (p ++ [c]) (d :: l') p' h (fun x hx => by rcases List.mem_append.1 hx with q | q; exact h1 x q; simp at q; rw [q]; exact hc) h2
      simpa using this
termination_by l p l' p' => l.length + l'.length
theorem toks_inj {l l' : List UInt8} (h : toks l = toks l') : l = l' := by simpa using toksA_join l [] l' [] h (by simp) (by simp)
theorem tokSubset_ev (A B : List (List UInt8)) (hB : B.length ≤ 140737488351232) (na : ∀ t ∈ A, t ≠ []) (nb : ∀ t ∈ B, t ≠ []) (ta : A.all tameT = true) (tb : B.all tameT = true) : Ev (fun k => server_isSubsetMatchTokenized.f k (A.map ba) (B.map ba)) (subT A B) := by
  refine Ev.congr (fun k => by rw [server_isSubsetMatchTokenized.f]) ?_
  exact isSubset_l0 _ _ hB B A [] [] 0 rfl rfl rfl rfl nb na tb ta
theorem lit_differ : ∀ a b, a.all litT = true → b.all litT = true → a ≠ b → colT a b = false
  | [], [], _, _, h => absurd rfl h
  | [], _ :: _, _, _, _ => rfl
  | _ :: _, [], _, _, _ => rfl
  | x :: a, y :: b, h1, h2, h => by
    simp only [List.all_cons, Bool.and_eq_true] at h1 h2
    have hx := h1.1
    have hy := h2.1
    simp only [litT, Bool.and_eq_true, decide_eq_true_eq] at hx hy
    unfold colT
    rw [if_neg (fun q => q.elim hx.2 hy.2)]
    by_cases e : x = y
    · rw [lit_differ a b h1.2 h2.2 (fun q => h (by rw [e, q]))]
      split <;> rfl
    · rw [if_pos ⟨hx.1, hy.1, e⟩]
theorem Collide_ev (l p : List UInt8) (hl : l.length < 8796093022208) (hp : p.length < 8796093022208) (fl : formedB (toks l) = true) (fp : formedB (toks p) = true) (tl : (toks l).all tameT = true) (tp : (toks p).all tameT = true) :
    Ev (fun k => impl_Collide.f k (ba l) (ba p)) (colT (toks l) (toks p)) := by
  refine Ev.congr (fun k => by rw [impl_Collide.f]) ?_
  refine Ev.bind ?_ (Ev.now _)
  by_cases he : l = p
  · subst he
    refine Ev.congr (fun k => by rw [server_SubjectsCollide.f, if_pos rfl]) ?_
    exact Ev.det' (Ev.now _) (colT_self _).symm
  have hA := toks_inj_len l hl
  have hB := toks_inj_len p hp
  have na := formed_ne _ fl
  have nb := formed_ne _ fp
  refine Ev.congr (fun k => by rw [server_SubjectsCollide.f, ba_toList, ba_toList, if_neg he]) ?_
  refine Ev.bind (tokenize_ev l hl) ?_
  refine Ev.bind (tokenize_ev p hp) ?_
  have hne : toks l ≠ toks p := fun e => he (toks_inj e)
  have A1 := analyze_l0 (toks l) hA (toks l) [] 0 false false rfl rfl na tl
  have A2 := analyze_l0 (toks p) hB (toks p) [] 0 false false rfl rfl nb tp
  refine Ev.bind (Ev.congr (fun k => by rw [server_analyzeTokens.f]) A1) ?_
  refine Ev.bind (Ev.congr (fun k => by rw [server_analyzeTokens.f]) A2) ?_
  simp only [Bool.false_or]
  have LA := lit_iff (toks l)
  have LB := lit_iff (toks p)
  have S1 := tokSubset_ev (toks l) (toks p) hB na nb tl tp
  have S2 := tokSubset_ev (toks p) (toks l) hA nb na tp tl
  have C := colLoop (toks l) (toks p) hA hB (toks l) (toks p) [] [] 0 rfl rfl rfl rfl na nb tl tp
  have hl1 := fun h => colT_short (toks l) (toks p) fp h
  have hl2 := fun h => colT_short (toks p) (toks l) fl h
  have hl3 := colT_long (toks l) (toks p) fl fp
  have L1 := colT_lit (toks l) (toks p)
  have L2 := colT_lit (toks p) (toks l)
  have hself : (toks l).all litT = true → (toks p).all litT = true → colT (toks l) (toks p) = false := by
    intro h1 h2
    exact lit_differ _ _ h1 h2 hne
  unfold server_SubjectsCollide.tail
  simp only [List.length_map]
  simp only [List.length_map] at C
  generalize toks l = A at *
  generalize toks p = B at *
  rw [LA, LB]
  by_cases a1 : A.all litT = true
  · by_cases a2 : B.all litT = true
    · rw [a1, a2]
      exact Ev.det' (Ev.now _) (hself a1 a2).symm
    · rw [a1, eq_false_of_ne_true a2]
      simp only [Bool.and_false, Bool.false_eq_true, if_false, if_true]
      exact Ev.det' S1 (L1 a1).symm
  · rw [eq_false_of_ne_true a1]
    simp only [Bool.false_and, Bool.false_eq_true, if_false]
    by_cases a2 : B.all litT = true
    · rw [a2]
      simp only [if_true]
      exact Ev.det' S2 ((L2 a2).symm.trans (colT_comm _ _))
    · rw [eq_false_of_ne_true a2]
      simp only [Bool.false_eq_true, if_false]
      cases f1 : A.contains [62] <;> cases f2 : B.contains [62]
      all_goals simp only [Bool.not_false, Bool.not_true, Bool.and_true, Bool.true_and, Bool.and_false, Bool.false_and, Bool.false_eq_true, if_false, Bool.or_false, Bool.false_or, decide_eq_true_eq, Bool.or_eq_true]
      · rcases Nat.lt_trichotomy A.length B.length with d | d | d
        · exact Ev.pos (by omega) (Ev.det' (Ev.now _) (hl1 f1 d).symm)
        · exact Ev.neg (by omega) (Ev.neg (by omega) (Ev.det' C (hl3 (by omega) (by omega)).symm))
        · exact Ev.pos (by omega) (Ev.det' (Ev.now _) ((colT_comm _ _).trans (hl2 f2 d)).symm)
      · by_cases d : A.length < B.length
        · exact Ev.pos d (Ev.det' (Ev.now _) (hl1 f1 d).symm)
        · exact Ev.neg d (Ev.det' C (hl3 (by omega) (fun _ => f2)).symm)
      · by_cases d : B.length < A.length
        · exact Ev.pos d (Ev.det' (Ev.now _) ((colT_comm _ _).trans (hl2 f2 d)).symm)
        · exact Ev.neg d (Ev.det' C (hl3 (fun _ => f1) (by omega)).symm)
      · exact Ev.det' C (hl3 (fun _ => f1) (fun _ => f2)).symm

theorem toksA_plain (p : List UInt8) : ∀ l : List UInt8, (46 : UInt8) ∉ l → toksA p l = [p ++ l] := by
  intro l
  induction l generalizing p with
  | nil => intro _; simp [toksA]
  | cons c l ih =>
    intro h
    simp only [List.mem_cons, not_or] at h
    rw [toksA_other _ (fun e => h.1 e.symm), ih _ h.2]; simp
theorem toksA_app : ∀ (q p l : List UInt8), toksA p (q ++ 46 :: l) = toksA p q ++ toks l
  | [], p, l => by rw [List.nil_append, toksA_dot]; simp [toksA, toks]
  | c :: q, p, l => by
    by_cases h : c = 46
    · subst h; rw [List.cons_append, toksA_dot, toksA_dot, toksA_app q [] l]; simp
    · rw [List.cons_append, toksA_other _ h, toksA_other _ h, toksA_app q _ l]
theorem dot_split : ∀ l : List UInt8, (46 : UInt8) ∉ l ∨ ∃ p r, l = p ++ 46 :: r ∧ (46 : UInt8) ∉ p
  | [] => .inl (by simp)
  | c :: l => by
    by_cases h : c = 46
    · exact .inr ⟨[], l, by rw [h]; rfl, by simp⟩
    · rcases dot_split l with g | ⟨p, r, rfl, g⟩
      · exact .inl (by simp only [List.mem_cons, not_or]; exact ⟨fun e => h e.symm, g⟩)
      · exact .inr ⟨c :: p, r, rfl, by simp only [List.mem_cons, not_or]; exact ⟨fun e => h e.symm, g⟩⟩
theorem zzIndex_none (s : ByteArray) (hs : s.size ≤ 140737488355328) : ∀ (rest pre : List UInt8) (i : Int), s = ba (pre ++ rest) → i = (pre.length : Int) → (46 : UInt8) ∉ rest → Ev (fun k => server_zzIndex.l0 k s (ba [46]) i) (-1) := by
  intro rest
  induction rest with
  | nil =>
    intro pre i h hi _
    have hz : (s.size : Int) = pre.length := by rw [h, ba_size]; simp
    have hw : wrap64 (i + ((ba [46]).size : Int)) = i + 1 := w64 (by rw [ba_size]; simp; omega) (by rw [ba_size]; simp; omega)
    refine Ev.step (fun k => by rw [server_zzIndex.l0, hw, if_neg (by omega)]) ?_
    exact Ev.now _
  | cons c rest ih =>
    intro pre i h hi hn
    have hz : (s.size : Int) = pre.length + rest.length + 1 := by rw [h, ba_size]; simp; omega
    have hw : wrap64 (i + ((ba [46]).size : Int)) = i + 1 := w64 (by rw [ba_size]; simp; omega) (by rw [ba_size]; simp; omega)
    have hw2 : wrap64 (i + 1) = i + 1 := w64 (by omega) (by omega)
    simp only [List.mem_cons, not_or] at hn
    have he : s.extract i.toNat (i + 1).toNat = ba [c] := ext_mid pre [c] rest (by rw [h]; simp) hi (by simp; omega)
    refine Ev.step (fun k => by rw [server_zzIndex.l0, hw, if_pos (by omega), if_pos (by omega), if_pos (by omega), he, ba_toList, ba_toList, if_neg (fun e => hn.1 (by injection e with e; exact e.symm)), hw2]) ?_
    exact ih (pre ++ [c]) (i + 1) (by rw [h]; simp) (by simp; omega) hn.2
theorem zzIndex_at (s : ByteArray) (hs : s.size ≤ 140737488355328) (r : List UInt8) : ∀ (p pre : List UInt8) (i : Int), s = ba (pre ++ p ++ 46 :: r) → i = (pre.length : Int) → (46 : UInt8) ∉ p → Ev (fun k => server_zzIndex.l0 k s (ba [46]) i) ((pre.length + p.length : Nat) : Int) := by
  intro p
  induction p with
  | nil =>
    intro pre i h hi _
    have hz : (s.size : Int) = pre.length + r.length + 1 := by rw [h, ba_size]; simp; omega
    have hw : wrap64 (i + ((ba [46]).size : Int)) = i + 1 := w64 (by rw [ba_size]; simp; omega) (by rw [ba_size]; simp; omega)
    have he : s.extract i.toNat (i + 1).toNat = ba [46] := ext_mid pre [46] r (by rw [h]; simp) hi (by simp; omega)
    refine Ev.step (fun k => by rw [server_zzIndex.l0, hw, if_pos (by omega), if_pos (by omega), if_pos (by omega), he, if_pos rfl]) ?_
    exact Ev.det' (Ev.now _) (by simp; omega)
  | cons c p ih =>
    intro pre i h hi hn
    have hz : (s.size : Int) = pre.length + p.length + r.length + 2 := by rw [h, ba_size]; simp; omega
    have hw : wrap64 (i + ((ba [46]).size : Int)) = i + 1 := w64 (by rw [ba_size]; simp; omega) (by rw [ba_size]; simp; omega)
    have hw2 : wrap64 (i + 1) = i + 1 := w64 (by omega) (by omega)
    simp only [List.mem_cons, not_or] at hn
    have he : s.extract i.toNat (i + 1).toNat = ba [c] := ext_mid pre [c] (p ++ 46 :: r) (by rw [h]; simp) hi (by simp; omega)
    refine Ev.step (fun k => by rw [server_zzIndex.l0, hw, if_pos (by omega), if_pos (by omega), if_pos (by omega), he, ba_toList, ba_toList, if_neg (fun e => hn.1 (by injection e with e; exact e.symm)), hw2]) ?_
    exact Ev.det' (ih (pre ++ [c]) (i + 1) (by rw [h]; simp) (by simp; omega) hn.2) (by simp; omega)
theorem zzSplit_l1 : ∀ (n : Nat) (l : List UInt8) (out : List ByteArray), l.length ≤ n → l.length + out.length < 8796093022208 → Ev (fun k => server_zzSplit.l1 k (ba l) (ba [46]) out) (out ++ (toks l).map ba) := by
  intro n
  induction n with
  | zero =>
    intro l out h1 h2
    have : l = [] := List.length_eq_zero_iff.1 (by omega)
    subst this
    refine Ev.step (fun k => by rw [server_zzSplit.l1]) ?_
    refine Ev.bind (Ev.congr (fun k => by rw [server_zzIndex.f]) (zzIndex_none (ba []) (by simp [ba_size]) [] [] 0 (by simp) (by simp) (by simp))) ?_
    refine Ev.pos (by omega) (Ev.pos (by omega) (Ev.det' (Ev.now _) ?_))
    simp [toks, toksA]
  | succ n ih =>
    intro l out h1 h2
    refine Ev.step (fun k => by rw [server_zzSplit.l1]) ?_
    rcases dot_split l with hd | ⟨p, r, rfl, hd⟩
    · refine Ev.bind (Ev.congr (fun k => by rw [server_zzIndex.f]) (zzIndex_none (ba l) (by rw [ba_size]; omega) l [] 0 (by simp) (by simp) hd)) ?_
      refine Ev.pos (by omega) (Ev.pos (by omega) (Ev.det' (Ev.now _) ?_))
      rw [toks, toksA_plain [] l hd]; simp
    · have hsz : ((ba (p ++ 46 :: r)).size : Int) = p.length + r.length + 1 := by rw [ba_size]; simp; omega
      simp only [List.length_append, List.length_cons] at h1 h2
      refine Ev.bind (Ev.congr (fun k => by rw [server_zzIndex.f]) (zzIndex_at (ba (p ++ 46 :: r)) (by omega) r p [] 0 (by simp) (by simp) hd)) ?_
      have hw : wrap64 ((((([] : List UInt8).length + p.length : Nat) : Int)) + ((ba [46]).size : Int)) = ((p.length : Int) + 1) := by
        rw [ba_size]
        have := w64 (x := (p.length : Int) + 1) (by omega) (by omega)
        simpa using this
      rw [hw]
      have e1 : (ba (p ++ 46 :: r)).extract ((p.length : Int) + 1).toNat (ba (p ++ 46 :: r)).size = ba r := ext_end (p ++ [46]) r (by simp) (by simp)
      have e2 : (ba (p ++ 46 :: r)).extract 0 ((([] : List UInt8).length + p.length : Nat) : Int).toNat = ba p := by
        have := ext_mid (s := ba (p ++ 46 :: r)) (a := 0) (b := (p.length : Int)) [] p (46 :: r) (by simp) (by simp) (by simp)
        simpa using this
      rw [e1, e2]
      refine Ev.neg (by simp <;> omega) (Ev.pos (by simp <;> omega) (Ev.pos (by rw [hsz]; simp <;> omega) (Ev.pos (by omega) (Ev.pos (by omega) (Ev.pos (by omega) ?_)))))
      refine Ev.det' (ih r (out ++ [ba p]) (by omega) (by simp; omega)) ?_
      rw [show toks (p ++ 46 :: r) = [p] ++ toks r from by rw [toks, toksA_app, toksA_plain [] p hd]; simp]
      simp
theorem zzSplit_ev (l : List UInt8) (h : l.length < 8796093022208) : Ev (fun k => server_zzSplit.f k (ba l) (ba [46])) ((toks l).map ba) := by
  refine Ev.congr (fun k => by rw [server_zzSplit.f, if_neg (by rw [ba_size]; simp)]) ?_
  exact Ev.det' (zzSplit_l1 l.length l [] (Nat.le_refl _) (by simpa using h)) (by simp)
theorem zzContains (t : List UInt8) (h : t.length ≤ 140737488351232) (hb : ∀ c ∈ t, 32 < c.toNat) : server_zzContainsAny.f (ba t) (⟨#[9, 10, 12, 13, 32]⟩ : ByteArray) = some false := by
  have h1 : server_zzIndexAny.f (ba t) (⟨#[9, 10, 12, 13, 32]⟩ : ByteArray) = some (-1) := by
    rw [server_zzIndexAny.f, if_pos ⟨by rw [ba_size]; exact h, by decide, by decide⟩]
    have : (List.range (ba t).size).find? (server_zzIndexAny.hit (ba t) (⟨#[9, 10, 12, 13, 32]⟩ : ByteArray)) = none := by
      rw [List.find?_eq_none]
      intro i hi
      rw [List.mem_range, ba_size] at hi
      have hbt : bt (ba t) (i : Int) = ((t[i]'hi).toNat : Int) := by
        rw [ba_bt]; simp [hi]
      have hgt := hb _ (List.getElem_mem hi)
      unfold server_zzIndexAny.hit
      rw [Bool.not_eq_true, List.any_eq_false]
      intro j hj
      rw [List.mem_range] at hj
      rw [hbt]
      have hle : ∀ j, j < (⟨#[9, 10, 12, 13, 32]⟩ : ByteArray).size → bt (⟨#[9, 10, 12, 13, 32]⟩ : ByteArray) (j : Int) ≤ 32 := by decide
      have := hle j hj
      rw [decide_eq_true_eq]
      omega
    rw [this]; rfl
  rw [server_zzContainsAny.f, h1]; rfl
theorem isValid_l1 (L : List (List UInt8)) (hL : L.length ≤ 140737488351232) : ∀ (rest pre : List (List UInt8)) (i : Int), L = pre ++ rest → i = (pre.length : Int) → (∀ t ∈ rest, t ≠ [] ∧ t ≠ [62] ∧ t.length ≤ 140737488351232 ∧ ∀ c ∈ t, 32 < c.toNat) →
    Ev (fun k => server_isValidSubject.l1 k false (L.map ba) ((L.map ba).length : Int) i) true := by
  intro rest
  induction rest with
  | nil =>
    intro pre i h hi _
    have hz : ((L.map ba).length : Int) = pre.length := by rw [h]; simp
    refine Ev.step (fun k => by rw [server_isValidSubject.l1, if_neg (by omega)]) ?_
    exact Ev.now _
  | cons c rest ih =>
    intro pre i h hi hp
    have hz : ((L.map ba).length : Int) = pre.length + rest.length + 1 := by rw [h]; simp; omega
    have hz2 : (L.length : Int) = pre.length + rest.length + 1 := by rw [h]; simp; omega
    have hb : rdOf ByteArray.empty (L.map ba) i = ba c := rdOf_mid _ (pre.map ba) (ba c) (rest.map ba) (by rw [h]; simp) (by simp; omega)
    have hw : wrap64 (i + 1) = i + 1 := w64 (by omega) (by omega)
    have IH := ih (pre ++ [c]) (i + 1) (by rw [h]; simp) (by simp; omega) (fun t q => hp t (List.mem_cons_of_mem _ q))
    obtain ⟨p1, p2, p3, p4⟩ := hp c List.mem_cons_self
    rcases c with _ | ⟨x, c⟩
    · exact absurd rfl p1
    have hsz : ((ba (x :: c)).size : Int) = c.length + 1 := by rw [ba_size]; simp
    refine Ev.step (fun k => by rw [server_isValidSubject.l1, if_pos (by omega), if_pos (by omega), if_pos (by omega), hb, if_neg (by omega)]) ?_
    refine Ev.step (fun k => by rw [server_isValidSubject.j1, if_neg (by simp)]) ?_
    rcases c with _ | ⟨y, c⟩
    · have hb0 : bt (ba [x]) 0 = (x.toNat : Int) := bt_mid [] x [] rfl rfl
      have hx := p4 x List.mem_cons_self
      have h62 : ¬ (x.toNat : Int) = 62 := fun e => p2 (by rw [(toNat_eq (n := 62) (by omega)).1 e]; rfl)
      refine Ev.neg (by rw [hsz]; simp) (Ev.pos (by omega) ?_)
      rw [hb0, hw]
      exact Ev.neg h62 (Ev.neg (by omega) (Ev.neg (by omega) (Ev.neg (by omega) (Ev.neg (by omega) (Ev.neg (by omega) IH)))))
    · refine Ev.pos (by rw [hsz]; simp; omega) ?_
      rw [zzContains _ p3 p4, hw]
      exact Ev.some_ (Ev.neg (by simp) IH)
theorem wild_not (l : List UInt8) (hl : (toks l).all litT = true) (i : Nat) (hi : i < l.length) : server_subjectIsLiteral.wildAt (ba l) i = false := by
  apply Bool.eq_false_iff.mpr
  intro hw
  unfold server_subjectIsLiteral.wildAt at hw
  simp only [Bool.and_eq_true, Bool.or_eq_true, decide_eq_true_eq] at hw
  obtain ⟨⟨h1, h2⟩, h3⟩ := hw
  obtain ⟨pre, c, suf, rfl, rfl⟩ : ∃ pre c suf, l = pre ++ c :: suf ∧ i = pre.length := ⟨l.take i, l[i], l.drop (i + 1), by rw [List.getElem_cons_drop, List.take_append_drop], by simp; omega⟩
  rw [bt_mid pre c suf rfl rfl] at h1
  have hc : c = 42 ∨ c = 62 := h1.imp (toNat_eq (n := 42) (by omega)).1 (toNat_eq (n := 62) (by omega)).1
  have hc46 : c ≠ 46 := by rintro rfl; simp at hc
  have hsuf : ∃ r, toks (c :: suf) = [c] :: r := by
    rcases suf with _ | ⟨d, suf⟩
    · exact ⟨[], by rw [toks, toksA_other _ hc46]; simp [toksA]⟩
    · have hd : d = 46 := by
        rcases h3 with h3 | h3
        · rw [ba_size] at h3; simp at h3
        · rw [bt_mid (pre ++ [c]) d suf (by simp) (by simp)] at h3
          exact (toNat_eq (n := 46) (by omega)).1 h3
      subst hd
      exact ⟨toks suf, by rw [toks, toksA_other _ hc46, toksA_dot]; rfl⟩
  obtain ⟨r, hr⟩ := hsuf
  have hmem : [c] ∈ toks (pre ++ c :: suf) := by
    rcases List.eq_nil_or_concat pre with rfl | ⟨q, d, rfl⟩
    · rw [List.nil_append, hr]; exact List.mem_cons_self
    · have hd : d = 46 := by
        rcases h2 with h2 | h2
        · simp at h2
        · rw [bt_mid q d (c :: suf) (by simp) (by simp)] at h2
          exact (toNat_eq (n := 46) (by omega)).1 h2
      subst hd
      rw [show (q.concat 46) ++ c :: suf = q ++ 46 :: (c :: suf) from by simp, toks, toksA_app, hr]
      exact List.mem_append_right _ List.mem_cons_self
  have := List.all_eq_true.1 hl _ hmem
  rcases hc with rfl | rfl <;> exact absurd this (by decide)
/-- A subject without wildcards can be published to. -/
theorem Publish_ev (l : List UInt8) (h : l.length ≤ 140737488351) (h0 : l ≠ []) (hl : (toks l).all litT = true) (ht : ∀ t ∈ toks l, t ≠ [] ∧ ∀ c ∈ t, 32 < c.toNat) : Ev (fun k => impl_Publish.f k (ba l)) true := by
  have hsp := toks_inj_len l (by omega)
  refine Ev.congr (fun k => by rw [impl_Publish.f, server_IsValidPublishSubject.f, server_IsValidSubject.f, server_isValidSubject.f, ba_toList, if_neg h0, if_neg (by simp)]) ?_
  refine Ev.bind (a := true) ?_ (Ev.now _)
  refine Ev.bind (a := true) ?_ ?_
  · refine Ev.bind (a := true) ?_ (Ev.now _)
    refine Ev.bind (zzSplit_ev l (by omega)) ?_
    refine isValid_l1 (toks l) hsp (toks l) [] 0 rfl rfl (fun t q => ?_)
    obtain ⟨a1, a2⟩ := ht t q
    refine ⟨a1, ?_, ?_, a2⟩
    · rintro rfl
      exact absurd (List.all_eq_true.1 hl _ q) (by decide)
    · have := toks_short l t q; omega
  · refine Ev.pos rfl ?_
    have hr : server_subjectIsLiteral.f (ba l) = some true := by
      rw [server_subjectIsLiteral.f, if_pos (by rw [ba_size]; omega)]
      congr 1
      rw [List.all_eq_true]
      intro i hi
      rw [List.mem_range, ba_size] at hi
      rw [wild_not l hl i hi]; rfl
    rw [hr]
    exact Ev.now _

/-- Tokens with points between, behind a begin. -/
def jn : List UInt8 → List (List UInt8) → List UInt8
  | acc, [] => acc
  | acc, t :: r => jn (acc ++ 46 :: t) r
def join : List (List UInt8) → List UInt8
  | [] => []
  | t :: r => jn t r
theorem jn_le : ∀ (r : List (List UInt8)) (acc : List UInt8), acc.length ≤ (jn acc r).length
  | [], acc => Nat.le_refl _
  | t :: r, acc => by have := jn_le r (acc ++ 46 :: t); simp only [List.length_append, List.length_cons] at this; rw [jn]; omega
theorem jn_len (n : Nat) : ∀ (r : List (List UInt8)) (acc : List UInt8), (∀ t ∈ r, t.length ≤ n) → (jn acc r).length ≤ acc.length + (n + 1) * r.length
  | [], acc, _ => by simp [jn]
  | t :: r, acc, h => by
    have := jn_len n r (acc ++ 46 :: t) (fun t q => h t (List.mem_cons_of_mem _ q))
    have ht := h t List.mem_cons_self
    rw [jn, List.length_cons, Nat.mul_add]
    simp only [List.length_append, List.length_cons] at this
    omega
theorem toks_jn : ∀ (r : List (List UInt8)) (acc : List UInt8), (∀ t ∈ r, (46 : UInt8) ∉ t) → toks (jn acc r) = toks acc ++ r
  | [], acc, _ => by simp [jn]
  | t :: r, acc, h => by
    rw [jn, toks_jn r _ (fun t q => h t (List.mem_cons_of_mem _ q)), toks, toksA_app, toks, toksA_plain [] t (h t List.mem_cons_self)]
    simp [toks]
theorem toks_join (C : List (List UInt8)) (h0 : C ≠ []) (h : ∀ t ∈ C, (46 : UInt8) ∉ t) : toks (join C) = C := by
  rcases C with _ | ⟨t, r⟩
  · exact absurd rfl h0
  · rw [join, toks_jn r t (fun t q => h t (List.mem_cons_of_mem _ q)), toks, toksA_plain [] t (h t List.mem_cons_self)]; simp
theorem Join_l0 (L : List (List UInt8)) (hL : L.length ≤ 140737488351232) : ∀ (rest pre : List (List UInt8)) (acc : List UInt8) (i : Int), L = pre ++ rest → i = (pre.length : Int) → 0 < pre.length → (jn acc rest).length ≤ 9223372036854775807 →
    Ev (fun k => spec_Join.l0 k (L.map ba) (ba acc) i) (ba (jn acc rest)) := by
  intro rest
  induction rest with
  | nil =>
    intro pre acc i h hi _ _
    have hz : ((L.map ba).length : Int) = pre.length := by rw [h]; simp
    refine Ev.step (fun k => by rw [spec_Join.l0, if_neg (by omega)]) ?_
    exact Ev.now _
  | cons c rest ih =>
    intro pre acc i h hi hp hn
    have hz : ((L.map ba).length : Int) = pre.length + rest.length + 1 := by rw [h]; simp; omega
    have hz2 : (L.length : Int) = pre.length + rest.length + 1 := by rw [h]; simp; omega
    have hb : rdOf ByteArray.empty (L.map ba) i = ba c := rdOf_mid _ (pre.map ba) (ba c) (rest.map ba) (by rw [h]; simp) (by simp; omega)
    have hw : wrap64 (i + 1) = i + 1 := w64 (by omega) (by omega)
    have hle := jn_le rest (acc ++ 46 :: c)
    rw [jn] at hn
    simp only [List.length_append, List.length_cons] at hle
    have IH := ih (pre ++ [c]) (acc ++ 46 :: c) (i + 1) (by rw [h]; simp) (by simp; omega) (by simp) hn
    have e46 : (⟨#[46]⟩ : ByteArray) = ba [46] := rfl
    refine Ev.step (fun k => by rw [spec_Join.l0, if_pos (by omega), if_pos (by omega), if_pos (by rw [ba_size]; omega), if_pos (by omega), hb, e46, ba_append, if_pos (by rw [ba_size, ba_size]; simp; omega), ba_append, hw]) ?_
    refine Ev.det' (Ev.congr (fun k => by rw [show acc ++ [46] ++ c = acc ++ 46 :: c from by simp]) IH) rfl
theorem Join_ev (L : List (List UInt8)) (hL : L.length ≤ 140737488351232) (h : (join L).length ≤ 9223372036854775807) : Ev (fun k => spec_Join.f k (L.map ba)) (ba (join L)) := by
  rcases L with _ | ⟨c, rest⟩
  · refine Ev.congr (fun k => by rw [spec_Join.f]) ?_
    refine Ev.step (fun k => by rw [spec_Join.l0, if_neg (by simp)]) ?_
    exact Ev.now _
  · refine Ev.congr (fun k => by rw [spec_Join.f]) ?_
    have hb : rdOf ByteArray.empty ((c :: rest).map ba) 0 = ba c := rdOf_mid _ [] (ba c) (rest.map ba) (by simp) rfl
    have hw : wrap64 (0 + 1) = 0 + 1 := w64 (by omega) (by omega)
    have e0 : (⟨#[]⟩ : ByteArray) = ba [] := rfl
    rw [join] at h
    have hle := jn_le rest c
    refine Ev.step (fun k => by rw [spec_Join.l0, if_pos (by simp <;> omega), if_neg (by omega), if_pos (by omega), hb, e0, ba_append, if_pos (by rw [ba_size, ba_size]; simp; omega), hw]) ?_
    exact Join_l0 (c :: rest) hL rest [c] ([] ++ c) (0 + 1) rfl rfl (by simp) h

theorem toksA_mem : ∀ (l p : List UInt8), ∀ t ∈ toksA p l, ∀ c ∈ t, (c ∈ p ∨ c ∈ l) ∧ (c ∈ p ∨ c ≠ 46)
  | [], p => by
    intro t ht c hc
    simp only [toksA, List.mem_singleton] at ht
    subst ht
    exact ⟨.inl hc, .inl hc⟩
  | d :: l, p => by
    intro t ht c hc
    by_cases h : d = 46
    · subst h
      rw [toksA_dot] at ht
      rcases List.mem_cons.1 ht with rfl | ht
      · exact ⟨.inl hc, .inl hc⟩
      · have := toksA_mem l [] t ht c hc
        simp at this
        exact ⟨.inr (List.mem_cons_of_mem _ this.1), .inr this.2⟩
    · rw [toksA_other _ h] at ht
      have := toksA_mem l _ t ht c hc
      simp only [List.mem_append, List.mem_singleton] at this
      refine ⟨?_, ?_⟩
      · rcases this.1 with (q | q) | q
        · exact .inl q
        · exact .inr (by rw [q]; exact List.mem_cons_self)
        · exact .inr (List.mem_cons_of_mem _ q)
      · rcases this.2 with (q | q) | q
        · exact .inl q
        · exact .inr (by rw [q]; exact h)
        · exact .inr q
theorem toks_mem (l : List UInt8) : ∀ t ∈ toks l, ∀ c ∈ t, c ∈ l ∧ c ≠ 46 := by
  intro t ht c hc
  have := toksA_mem l [] t ht c hc
  simpa using this
theorem formed_of : ∀ C : List (List UInt8), (∀ t ∈ C, t ≠ [] ∧ t ≠ [62]) → formedB C = true
  | [], _ => rfl
  | t :: C, h => by
    have h1 := h t List.mem_cons_self
    rw [formedB, formed_of C (fun t q => h t (List.mem_cons_of_mem _ q))]
    simp [h1.1, h1.2]
/-- A word that may stand in a subject: no wildcard, no point, no white space. -/
def wordT (t : List UInt8) : Prop := t ≠ [] ∧ litT t = true ∧ (46 : UInt8) ∉ t ∧ (∀ c ∈ t, 32 < c.toNat) ∧ t.length ≤ 400 ∧ tameT t = true
theorem words_of (l : List UInt8) (h1 : l.length ≤ 400) (h2 : l.all cleanB = true) (h3 : formedB (toks l) = true) (h4 : (toks l).all tameT = true) : ∀ t ∈ toks l, t = [62] ∨ t = [42] ∨ wordT t := by
  intro t ht
  by_cases c1 : t = [62]
  · exact .inl c1
  by_cases c2 : t = [42]
  · exact .inr (.inl c2)
  refine .inr (.inr ⟨formed_ne _ h3 t ht, by simp [litT, c1, c2], fun hc => (toks_mem l t ht _ hc).2 rfl, fun c hc => ?_, ?_, List.all_eq_true.1 h4 t ht⟩)
  · have := List.all_eq_true.1 h2 c (toks_mem l t ht c hc).1
    simp only [cleanB, Bool.and_eq_true, decide_eq_true_eq] at this
    have h := this.1
    rw [UInt8.lt_iff_toNat_lt] at h
    exact h
  · have := toks_short l t ht; omega
theorem word_w : wordT [119] := ⟨by simp, by decide, by decide, by decide, by decide, by decide⟩
theorem join_words (C : List (List UInt8)) (h0 : C ≠ []) (hw : ∀ t ∈ C, wordT t) (hn : C.length ≤ 600) : toks (join C) = C ∧ (join C).length ≤ 240600 ∧ join C ≠ [] ∧ formedB C = true ∧ C.all litT = true ∧ C.all tameT = true := by
  have h1 := toks_join C h0 (fun t q => (hw t q).2.2.1)
  refine ⟨h1, ?_, ?_, formed_of C (fun t q => ⟨(hw t q).1, ?_⟩), List.all_eq_true.2 (fun t q => (hw t q).2.1), List.all_eq_true.2 (fun t q => (hw t q).2.2.2.2.2)⟩
  · rcases C with _ | ⟨t, r⟩
    · exact absurd rfl h0
    · have := jn_len 400 r t (fun t q => (hw t (List.mem_cons_of_mem _ q)).2.2.2.2.1)
      have h2 := (hw t List.mem_cons_self).2.2.2.2.1
      rw [List.length_cons] at hn
      rw [join]; omega
  · intro e
    rw [e] at h1
    have h2 : toks [] = [[]] := rfl
    rw [h2] at h1
    subst h1
    exact (hw [] List.mem_cons_self).1 rfl
  · intro e
    have := (hw t q).2.1
    rw [e] at this
    exact absurd this (by decide)

/-- Behind the last token *: is there no further point? -/
theorem matchLiteral_l1 (L : ByteArray) (hL : L.size ≤ 140737488351232) : ∀ (rest pre : List UInt8) (i : Int), L = ba (pre ++ rest) → i = (pre.length : Int) →
    Ev (fun k => server_matchLiteral.l1 k L i (L.size : Int)) (decide (rest.count 46 = 0)) := by
  intro rest
  induction rest with
  | nil =>
    intro pre i h hi
    have hz : (L.size : Int) = pre.length := by rw [h, ba_size]; simp
    refine Ev.step (fun k => by rw [server_matchLiteral.l1, if_pos (by omega)]) ?_
    exact Ev.const (by simp)
  | cons c rest ih =>
    intro pre i h hi
    have hz : (L.size : Int) = pre.length + rest.length + 1 := by rw [h, ba_size]; simp; omega
    have hb : bt L i = (c.toNat : Int) := bt_mid pre c rest h hi
    have hw : wrap64 (i + 1) = i + 1 := w64 (by omega) (by omega)
    have e46 := toNat_eq (c := c) (n := 46) (by omega)
    simp at e46
    by_cases hc : c = 46
    · refine Ev.step (fun k => by rw [server_matchLiteral.l1, if_neg (by omega), if_pos (by omega), if_pos (by omega), hb, if_pos (e46.2 hc)]) ?_
      exact Ev.const (by subst hc; simp)
    · refine Ev.step (fun k => by rw [server_matchLiteral.l1, if_neg (by omega), if_pos (by omega), if_pos (by omega), hb, if_neg (fun e => hc (e46.1 e)), hw]) ?_
      refine Ev.det' (ih (pre ++ [c]) (i + 1) (by rw [h]; simp) (by simp; omega)) ?_
      simp [hc]
theorem matchT_nil (l : List (List UInt8)) : matchT l [] = l.isEmpty := by cases l <;> rfl
theorem toksA_tail (p rest : List UInt8) : ∃ t r, toksA p rest = t :: r ∧ (r.isEmpty = decide (rest.count 46 = 0)) := by
  obtain ⟨q, r, e⟩ := toksA_head rest p
  refine ⟨p ++ q, r, e, ?_⟩
  have := toksA_len rest p
  rw [e, List.length_cons] at this
  cases r with
  | nil => simp at this ⊢; exact this
  | cons x r => simp at this ⊢; omega
theorem matchLiteral_l0 (L S : ByteArray) (hL : L.size ≤ 140737488351232) (hS : S.size ≤ 140737488351232) : ∀ (n : Nat) (sr lr p1 sp lp : List UInt8) (i li : Int), sr.length ≤ n →
    S = ba (sp ++ p1 ++ sr) → L = ba (lp ++ p1 ++ lr) → i = (sp.length : Int) + p1.length → li = (lp.length : Int) + p1.length →
    (p1 = [] → sp = [] ∨ ∃ q, sp = q ++ [46]) → p1 ≠ [42] → p1 ≠ [62] → formedB (toksA p1 sr) = true → (toksA p1 sr).all tameT = true → formedB (toksA p1 lr) = true →
    Ev (fun k => server_matchLiteral.l0 k L S li (L.size : Int) (S.size : Int) i) (matchT (toksA p1 lr) (toksA p1 sr)) := by
  intro n
  induction n with
  | zero =>
    intro sr lr p1 sp lp i li hn hSe hLe hi hli hst h42 h62 hf ht hfl
    obtain rfl : sr = [] := List.eq_nil_of_length_eq_zero (by omega)
    have hz : (S.size : Int) = sp.length + p1.length := by rw [hSe, ba_size]; simp
    have hzl : (L.size : Int) = lp.length + p1.length + lr.length := by rw [hLe, ba_size]; simp; omega
    refine Ev.step (fun k => by rw [server_matchLiteral.l0, if_neg (by omega)]) ?_
    refine Ev.const ?_
    congr 1
    show _ = matchT (toksA p1 lr) [p1]
    cases lr with
    | nil => show _ = matchT [p1] [p1]; rw [matchT_same h62, matchT]; simp at hzl; simp; omega
    | cons c lr =>
      rw [decide_eq_false (by simp at hzl; omega)]
      by_cases hc : c = 46
      · subst hc
        rw [toksA_dot, matchT_same h62, matchT_nil]
        obtain ⟨q, r, e⟩ := toksA_head lr []
        rw [e]; rfl
      · rw [toksA_other _ hc]
        obtain ⟨q, r, e⟩ := toksA_head lr (p1 ++ [c])
        rw [e, matchT_false h62 h42 (fun h => by have := congrArg List.length h; simp at this)]
  | succ n ih =>
    intro sr lr p1 sp lp i li hn hSe hLe hi hli hst h42 h62 hf ht hfl
    cases sr with
    | nil => exact ih [] lr p1 sp lp i li (by simp) hSe hLe hi hli hst h42 h62 hf ht hfl
    | cons c sr =>
      have hz : (S.size : Int) = sp.length + p1.length + sr.length + 1 := by rw [hSe, ba_size]; simp; omega
      have hzl : (L.size : Int) = lp.length + p1.length + lr.length := by rw [hLe, ba_size]; simp; omega
      have hb : bt S i = (c.toNat : Int) := bt_mid (sp ++ p1) c sr hSe (by simp; omega)
      have hw : wrap64 (i + 1) = i + 1 := w64 (by omega) (by omega)
      have e42 := toNat_eq (c := c) (n := 42) (by omega)
      have e62 := toNat_eq (c := c) (n := 62) (by omega)
      simp at e42 e62
      by_cases hL0 : lr = []
      · -- the literal has ended
        subst hL0
        simp at hzl
        refine Ev.step (fun k => by rw [server_matchLiteral.l0, if_pos (by omega), if_pos (by omega)]) ?_
        refine Ev.const ?_
        congr 1
        have hp1 : p1 ≠ [] := by intro h; subst h; simp [toksA, formedB] at hfl
        show false = matchT [p1] _
        by_cases hc : c = 46
        · subst hc
          rw [toksA_dot, matchT_same h62]
          obtain ⟨q, r, e⟩ := toksA_head sr []
          rw [e]; rfl
        · rw [toksA_other _ hc] at hf ht ⊢
          obtain ⟨q, r, e⟩ := toksA_head sr (p1 ++ [c])
          rw [e, matchT_false]
          · intro h; have := congrArg List.length h; simp at this; exact hp1 (List.eq_nil_of_length_eq_zero (by omega))
          · intro h; have := congrArg List.length h; simp at this; exact hp1 (List.eq_nil_of_length_eq_zero (by omega))
          · intro h; have := congrArg List.length h; simp at this
      · obtain ⟨d, lr, rfl⟩ := List.exists_cons_of_ne_nil hL0
        simp at hzl
        have hbl : bt L li = (d.toNat : Int) := bt_mid (lp ++ p1) d lr hLe (by simp; omega)
        have hwl : wrap64 (li + 1) = li + 1 := w64 (by omega) (by omega)
        have heq : ((c.toNat : Int) = (d.toNat : Int)) ↔ c = d := by rw [← UInt8.toNat_inj]; omega
        by_cases hwild : c = 42 ∨ c = 62
        · -- a wildcard: it stands for itself
          have hc46 : c ≠ 46 := by rcases hwild with rfl | rfl <;> decide
          have hp0 : p1 = [] := by
            apply Classical.byContradiction
            intro hp
            rw [toksA_other _ hc46] at ht
            obtain ⟨q, r, e⟩ := toksA_head sr (p1 ++ [c])
            rw [e, List.all_cons, Bool.and_eq_true] at ht
            have h1 := ht.1
            have hl1 : ¬ (p1 ++ [c] ++ q).length ≤ 1 := by
              have : 0 < p1.length := List.length_pos_iff.2 hp
              simp; omega
            simp [tameT, hl1, wildB] at h1
            have h2 := h1.resolve_left (by simp at hl1; omega)
            rcases hwild with rfl | rfl <;> simp at h2
          subst hp0
          simp only [List.append_nil, List.length_nil] at *
          rw [toksA_other _ hc46] at hf ht ⊢
          simp only [List.nil_append] at hf ht ⊢
          -- what stands behind it
          have hnext : sr = [] ∨ ∃ s2, sr = 46 :: s2 := by
            cases sr with
            | nil => exact Or.inl rfl
            | cons x sr =>
              by_cases hx : x = 46
              · subst hx; exact Or.inr ⟨sr, rfl⟩
              · exfalso
                rw [toksA_other _ hx] at ht
                obtain ⟨q, r, e⟩ := toksA_head sr ([c] ++ [x])
                rw [e, List.all_cons, Bool.and_eq_true] at ht
                have h1 := ht.1
                simp [tameT, wildB] at h1
                rcases hwild with rfl | rfl <;> simp at h1
          have hwm : ¬ i = 0 → wrap64 (i - 1) = i - 1 := fun h => w64 (by omega) (by omega)
          have hwn : wrap64 ((S.size : Int) - 1) = (S.size : Int) - 1 := w64 (by omega) (by omega)
          have hprev : ¬ i = 0 → bt S (i - 1) = 46 := by
            intro h0
            rcases hst (by trivial) with h | ⟨q, h⟩
            · subst h; simp at hi; omega
            · have := bt_mid (s := S) (i := i - 1) q 46 (c :: sr) (by rw [hSe, h]; simp) (by rw [hi, h]; simp)
              rw [this]; rfl
          rcases hwild with rfl | rfl
          · -- *
            have J : Ev (fun k => server_matchLiteral.j1 k L S li (L.size : Int) (S.size : Int) i true) (matchT (toksA [] (d :: lr)) (toksA [42] sr)) := by
              rcases hnext with rfl | ⟨s2, rfl⟩
              · refine Ev.step (fun k => by rw [server_matchLiteral.j1, if_pos rfl, hwn, if_pos (by simp at hz; omega)]) ?_
                refine Ev.det' (matchLiteral_l1 L hL (d :: lr) lp li (by rw [hLe]) (by omega)) ?_
                obtain ⟨t, r, e, he⟩ := toksA_tail [] (d :: lr)
                rw [e]
                show _ = matchT (t :: r) [[42]]
                rw [matchT, if_neg (by decide), if_pos (Or.inl rfl), matchT_nil, he]
              · have hb2 : bt S (i + 1) = 46 := bt_mid (sp ++ [42]) 46 s2 (by rw [hSe]; simp) (by simp; omega)
                simp only [List.length_cons] at hz
                have hw2 : wrap64 (i + 1 + 1) = i + 1 + 1 := w64 (by omega) (by omega)
                rw [toksA_dot] at hf ht ⊢
                have hf2 : formedB (toksA [] s2) = true := by simp [formedB] at hf; exact hf
                have ht2 : (toksA [] s2).all tameT = true := by rw [List.all_cons, Bool.and_eq_true] at ht; exact ht.2
                -- to the next point of the literal
                have K : ∀ (lr2 q : List UInt8) (j : Int), L = ba (lp ++ q ++ lr2) → j = (lp.length : Int) + q.length → formedB (toksA q lr2) = true → Ev (fun k => server_matchLiteral.l2 k L S j (L.size : Int) (S.size : Int) i) (matchT (toksA q lr2) ([42] :: toksA [] s2)) := by
                  intro lr2
                  induction lr2 with
                  | nil =>
                    intro q j hq hj hfq
                    have hzq : (L.size : Int) = lp.length + q.length := by rw [hq, ba_size]; simp
                    refine Ev.step (fun k => by rw [server_matchLiteral.l2, if_pos (by omega)]) ?_
                    refine Ev.const ?_
                    congr 1
                    show false = matchT [q] _
                    rw [matchT, if_neg (by decide), if_pos (Or.inl rfl)]
                    obtain ⟨q, r, e⟩ := toksA_head s2 []
                    rw [e]; rfl
                  | cons x lr2 ihl =>
                    intro q j hq hj hfq
                    have hzq : (L.size : Int) = lp.length + q.length + lr2.length + 1 := by rw [hq, ba_size]; simp; omega
                    have hbq : bt L j = (x.toNat : Int) := bt_mid (lp ++ q) x lr2 hq (by simp; omega)
                    have hwj : wrap64 (j + 1) = j + 1 := w64 (by omega) (by omega)
                    have e46 := toNat_eq (c := x) (n := 46) (by omega)
                    simp at e46
                    by_cases hx : x = 46
                    · subst hx
                      rw [toksA_dot] at hfq ⊢
                      refine Ev.step (fun k => by rw [server_matchLiteral.l2, if_neg (by omega), if_pos (by omega), if_pos (by omega), hbq, if_pos (by decide), hw, if_pos (by omega), if_pos (by omega), hb2, if_pos (by decide), hwj, hw2]) ?_
                      rw [matchT, if_neg (by decide), if_pos (Or.inl rfl)]
                      refine ih s2 lr2 [] (sp ++ [42, 46]) (lp ++ q ++ [46]) _ _ (by simp at hn ⊢; omega) (by rw [hSe]; simp) (by rw [hq]; simp) (by simp; omega) (by simp; omega) (fun _ => Or.inr ⟨sp ++ [42], by simp⟩) (by decide) (by decide) hf2 ht2 ?_
                      simp [formedB] at hfq; exact hfq.2
                    · refine Ev.step (fun k => by rw [server_matchLiteral.l2, if_neg (by omega), if_pos (by omega), if_pos (by omega), hbq, if_neg (fun e => hx (e46.1 e)), hwj]) ?_
                      rw [toksA_other _ hx] at hfq ⊢
                      exact ihl (q ++ [x]) (j + 1) (by rw [hq]; simp) (by simp; omega) hfq
                refine Ev.step (fun k => by rw [server_matchLiteral.j1, if_pos rfl, hwn, if_neg (by omega), hw, if_pos (by omega), if_pos (by omega), hb2, if_pos rfl]) ?_
                exact K (d :: lr) [] li (by rw [hLe]; simp) (by simp; omega) hfl
            by_cases h0 : i = 0
            · refine Ev.step (fun k => by rw [server_matchLiteral.l0, if_pos (by omega), if_neg (by omega), if_pos (by omega), if_pos (by omega), hb, if_pos (by decide), if_pos h0]) ?_
              exact J
            · refine Ev.step (fun k => by rw [server_matchLiteral.l0, if_pos (by omega), if_neg (by omega), if_pos (by omega), if_pos (by omega), hb, if_pos (by decide), if_neg h0, hwm h0, if_pos (by omega), if_pos (by omega), hprev h0]) ?_
              exact J
          · -- >
            have hsr : sr = [] := by
              rcases hnext with h | ⟨s2, rfl⟩
              · exact h
              · exfalso
                rw [toksA_dot] at hf
                obtain ⟨q, r, e⟩ := toksA_head s2 []
                rw [e] at hf
                simp [formedB] at hf
            subst hsr
            simp at hz
            have J : Ev (fun k => server_matchLiteral.j4 k L S li (L.size : Int) (S.size : Int) i (i == wrap64 ((S.size : Int) - 1))) (matchT (toksA [] (d :: lr)) (toksA [62] [])) := by
              refine Ev.step (fun k => by rw [server_matchLiteral.j4, hwn, if_pos (by rw [beq_iff_eq]; omega)]) ?_
              refine Ev.const ?_
              congr 1
              obtain ⟨q, r, e⟩ := toksA_head (d :: lr) []
              rw [e]; rfl
            by_cases h0 : i = 0
            · refine Ev.step (fun k => by rw [server_matchLiteral.l0, if_pos (by omega), if_neg (by omega), if_pos (by omega), if_pos (by omega), hb, if_neg (by decide), if_pos (by decide), if_pos h0]) ?_
              exact J
            · refine Ev.step (fun k => by rw [server_matchLiteral.l0, if_pos (by omega), if_neg (by omega), if_pos (by omega), if_pos (by omega), hb, if_neg (by decide), if_pos (by decide), if_neg h0, hwm h0, if_pos (by omega), if_pos (by omega), hprev h0, if_pos rfl]) ?_
              exact J
        · -- a byte that must be met
          have hn42 : c ≠ 42 := fun h => hwild (Or.inl h)
          have hn62 : c ≠ 62 := fun h => hwild (Or.inr h)
          by_cases hcd : c = d
          · subst hcd
            refine Ev.step (fun k => by rw [server_matchLiteral.l0, if_pos (by omega), if_neg (by omega), if_pos (by omega), if_pos (by omega), hb, if_neg (fun e => hn42 (e42.1 e)), if_neg (fun e => hn62 (e62.1 e)), if_pos (by omega), if_pos (by omega), hbl, if_pos rfl, hw, hwl]) ?_
            by_cases hc : c = 46
            · subst hc
              rw [toksA_dot] at hf ht hfl ⊢
              rw [toksA_dot, matchT_same h62]
              refine ih sr lr [] (sp ++ p1 ++ [46]) (lp ++ p1 ++ [46]) _ _ (by simp at hn; omega) (by rw [hSe]; simp) (by rw [hLe]; simp) (by simp; omega) (by simp; omega) (fun _ => Or.inr ⟨sp ++ p1, rfl⟩) (by decide) (by decide) ?_ ?_ ?_
              · simp [formedB] at hf; exact hf.2
              · rw [List.all_cons, Bool.and_eq_true] at ht; exact ht.2
              · simp [formedB] at hfl; exact hfl.2
            · rw [toksA_other _ hc] at hf ht hfl ⊢
              rw [toksA_other _ hc]
              refine ih sr lr (p1 ++ [c]) sp lp _ _ (by simp at hn; omega) (by rw [hSe]; simp) (by rw [hLe]; simp) (by simp; omega) (by simp; omega) (fun h => by simp at h) ?_ ?_ hf ht hfl
              · intro h
                cases p1 with
                | nil => simp at h; exact hn42 h
                | cons x p1 => have := congrArg List.length h; simp at this
              · intro h
                cases p1 with
                | nil => simp at h; exact hn62 h
                | cons x p1 => have := congrArg List.length h; simp at this
          · refine Ev.step (fun k => by rw [server_matchLiteral.l0, if_pos (by omega), if_neg (by omega), if_pos (by omega), if_pos (by omega), hb, if_neg (fun e => hn42 (e42.1 e)), if_neg (fun e => hn62 (e62.1 e)), if_pos (by omega), if_pos (by omega), hbl, if_neg (fun e => hcd (heq.1 e))]) ?_
            refine Ev.const ?_
            congr 1
            symm
            by_cases hc : c = 46
            · subst hc
              rw [toksA_dot, toksA_other _ (fun h => hcd h.symm)]
              obtain ⟨q, r, e⟩ := toksA_head lr (p1 ++ [d])
              rw [e]
              exact matchT_false h62 h42 (fun h => by have := congrArg List.length h; simp at this)
            · rw [toksA_other _ hc] at hf ht ⊢
              obtain ⟨q, r, e⟩ := toksA_head sr (p1 ++ [c])
              rw [e] at ht ⊢
              have hx1 : p1 ++ [c] ++ q ≠ [62] := by
                intro h
                cases p1 with
                | nil => simp at h; exact hn62 h.1
                | cons x p1 => have := congrArg List.length h; simp at this
              have hx2 : p1 ++ [c] ++ q ≠ [42] := by
                intro h
                cases p1 with
                | nil => simp at h; exact hn42 h.1
                | cons x p1 => have := congrArg List.length h; simp at this
              by_cases hd : d = 46
              · subst hd
                rw [toksA_dot]
                exact matchT_false hx1 hx2 (fun h => by have := congrArg List.length h; simp at this)
              · rw [toksA_other _ hd]
                obtain ⟨q2, r2, e2⟩ := toksA_head lr (p1 ++ [d])
                rw [e2]
                refine matchT_false hx1 hx2 (fun h => ?_)
                simp at h
                exact hcd h.1
theorem impl_MatchLiteral_ev (l s : List UInt8) (hl : l.length ≤ 140737488351232) (hs : s.length ≤ 140737488351232) (hf : formedB (toks s) = true) (ht : (toks s).all tameT = true) (hfl : formedB (toks l) = true) :
    Ev (fun k => impl_MatchLiteral.f k (ba l) (ba s)) (matchT (toks l) (toks s)) := by
  refine Ev.congr (fun k => by rw [impl_MatchLiteral.f, server_MatchLiteral.f]) ?_
  refine Ev.bind (Ev.bind ?_ (Ev.now _)) (Ev.now _)
  refine Ev.congr (fun k => by rw [server_matchLiteral.f]) ?_
  exact matchLiteral_l0 (ba l) (ba s) hl hs s.length s l [] [] [] 0 0 (Nat.le_refl _) (by simp) (by simp) (by simp) (by simp) (fun _ => Or.inl rfl) (by decide) (by decide) hf ht hfl

theorem awake_ev : Ev (fun k => laws_awakeSubject.f k) true := by
  refine Ev.congr (fun k => by rw [laws_awakeSubject.f]) ?_
  refine Ev.bind (a := true) (Ev.det' (impl_Matches_ev [97, 46, 98] [97, 46, 42] (by simp) (by simp) (by decide) (by decide) (by decide) (by decide)) (by decide)) ?_
  refine Ev.pos rfl ?_
  refine Ev.bind (a := true) (Ev.of (fun k => impl_MatchLiteral.mono _ _ k) (k := 30) (by kernel_rfl)) ?_
  refine Ev.pos rfl ?_
  refine Ev.bind (a := true) (Publish_ev [97, 46, 98] (by simp) (by simp) (by decide) (by decide)) ?_
  refine Ev.pos rfl ?_
  refine Ev.bind (a := true) (Ev.det' (Collide_ev [97, 46, 42] [42, 46, 98] (by simp) (by simp) (by decide) (by decide) (by decide) (by decide)) (by decide)) ?_
  exact Ev.now _

def fillT (w : List UInt8) (n : Nat) : List (List UInt8) → List (List UInt8)
  | [] => []
  | x :: a => if x = [42] then w :: fillT w n a else if x = [62] then List.replicate n w ++ fillT w n a else x :: fillT w n a
theorem fill_match (w : List UInt8) (n : Nat) (hn : 1 ≤ n) : ∀ a, formedB a = true → matchT (fillT w n a) a = true
  | [], _ => rfl
  | x :: a, h => by
    obtain ⟨h1, h2⟩ := formed_tail h
    have ih := fill_match w n hn a h1
    rw [fillT]
    by_cases c1 : x = [42]
    · subst c1
      rw [if_pos rfl, matchT]
      simp [ih]
    rw [if_neg c1]
    by_cases c2 : x = [62]
    · subst c2
      rw [if_pos rfl]
      obtain ⟨m, rfl⟩ : ∃ m, n = m + 1 := ⟨n - 1, by omega⟩
      rw [List.replicate_succ, List.cons_append, matchT]
      simp
    · rw [if_neg c2, matchT_same c2, ih]
theorem rep_match (w : List UInt8) (y : List UInt8) (b : List (List UInt8)) (n : Nat) (h1 : y ≠ [62]) (hw : w ≠ y) (hn : b.length + 2 ≤ n) : (matchT [w] (y :: b) && matchT (List.replicate n w) (y :: b)) = false := by
  by_cases h2 : y = [42]
  · subst h2
    rcases b with _ | ⟨z, b⟩
    · obtain ⟨m, rfl⟩ : ∃ m, n = m + 2 := ⟨n - 2, by simp at hn; omega⟩
      rw [List.replicate_succ, List.replicate_succ]
      simp [matchT]
    · simp [matchT]
  · rw [matchT_false h1 h2 (fun e => hw e.symm)]; rfl
theorem fill_sub (w : List UInt8) : ∀ (a b : List (List UInt8)) (n : Nat), formedB a = true → w ∉ b → b.length + 1 ≤ n → subT a b = (matchT (fillT w 1 a) b && matchT (fillT w n a) b)
  | [], b, n, _, _, _ => by cases b <;> simp [subT, fillT, matchT]
  | x :: a, [], n, _, _, hn => by
    rw [fillT, fillT]
    obtain ⟨m, rfl⟩ : ∃ m, n = m + 1 := ⟨n - 1, by omega⟩
    by_cases c1 : x = [42]
    · rw [if_pos c1, if_pos c1]; simp [subT, matchT]
    rw [if_neg c1, if_neg c1]
    by_cases c2 : x = [62]
    · rw [if_pos c2, if_pos c2]; simp [subT, matchT]
    · rw [if_neg c2, if_neg c2]; simp [subT, matchT]
  | x :: a, y :: b, n, h, hw, hn => by
    obtain ⟨h1, h2⟩ := formed_tail h
    simp only [List.mem_cons, not_or] at hw
    simp only [List.length_cons] at hn
    have ih := fill_sub w a b n h1 hw.2 (by omega)
    rw [fillT, fillT]
    by_cases c2 : x = [62]
    · have := h2 c2; subst this; subst c2
      have e1 : (([62] : List UInt8) = [42]) = False := by simp
      simp only [e1, if_false, eq_self, if_true, fillT, List.append_nil]
      by_cases hy : y = [62]
      · subst hy
        obtain ⟨m, rfl⟩ : ∃ m, n = m + 1 := ⟨n - 1, by omega⟩
        simp [subT, matchT, List.replicate_succ]
      · rw [show List.replicate 1 w = [w] from rfl, rep_match w y b n hy hw.1 (by omega)]
        unfold subT
        rw [if_neg hy, if_pos rfl]
    by_cases hy : y = [62]
    · subst hy
      by_cases c1 : x = [42]
      · rw [if_pos c1, if_pos c1]; simp [subT, matchT]
      · rw [if_neg c1, if_neg c1, if_neg c2, if_neg c2]; simp [subT, matchT]
    by_cases hs : y = [42]
    · subst hs
      unfold subT
      rw [if_neg hy, if_neg c2, if_pos (.inl rfl), ih]
      by_cases c1 : x = [42]
      · rw [if_pos c1, if_pos c1]; simp [matchT]
      · rw [if_neg c1, if_neg c1, if_neg c2, if_neg c2]; simp [matchT]
    unfold subT
    rw [if_neg hy, if_neg c2]
    by_cases c1 : x = [42]
    · rw [if_pos c1, if_pos c1, if_neg (fun q => q.elim hs (fun e => hs (e.symm.trans c1))), matchT_false hy hs (fun e => hw.1 e.symm)]; rfl
    rw [if_neg c1, if_neg c1, if_neg c2, if_neg c2]
    by_cases e : x = y
    · subst e
      rw [if_pos (.inr rfl), matchT_same c2, matchT_same c2, ih]
    · rw [if_neg (fun q => q.elim hs e), matchT_false hy hs (fun q => e q.symm)]; rfl
theorem fill_all {P : List UInt8 → Prop} (w : List UInt8) (n : Nat) (hw : P w) : ∀ a, (∀ t ∈ a, t = [62] ∨ t = [42] ∨ P t) → ∀ t ∈ fillT w n a, P t
  | [], _ => by simp [fillT]
  | x :: a, h => by
    intro t ht
    have ih := fill_all w n hw a (fun t q => h t (List.mem_cons_of_mem _ q))
    rw [fillT] at ht
    by_cases c1 : x = [42]
    · rw [if_pos c1] at ht
      rcases List.mem_cons.1 ht with rfl | ht
      · exact hw
      · exact ih t ht
    rw [if_neg c1] at ht
    by_cases c2 : x = [62]
    · rw [if_pos c2] at ht
      rcases List.mem_append.1 ht with ht | ht
      · rw [(List.mem_replicate.1 ht).2]; exact hw
      · exact ih t ht
    · rw [if_neg c2] at ht
      rcases List.mem_cons.1 ht with rfl | ht
      · rcases h t List.mem_cons_self with g | g | g
        · exact absurd g c2
        · exact absurd g c1
        · exact g
      · exact ih t ht
theorem fill_ne (w : List UInt8) (n : Nat) (hn : 1 ≤ n) (a : List (List UInt8)) (h : a ≠ []) : fillT w n a ≠ [] := by
  rcases a with _ | ⟨x, a⟩
  · exact absurd rfl h
  · rw [fillT]
    by_cases c1 : x = [42]
    · rw [if_pos c1]; simp
    rw [if_neg c1]
    by_cases c2 : x = [62]
    · rw [if_pos c2]; intro e; have := congrArg List.length e; simp at this; omega
    · rw [if_neg c2]; simp
theorem fill_len (w : List UInt8) (n : Nat) (hn : 1 ≤ n) : ∀ a, formedB a = true → (fillT w n a).length + 1 ≤ a.length + n
  | [], _ => by simp [fillT]; omega
  | x :: a, h => by
    obtain ⟨h1, h2⟩ := formed_tail h
    have ih := fill_len w n hn a h1
    rw [fillT]
    by_cases c1 : x = [42]
    · rw [if_pos c1]; simp; omega
    rw [if_neg c1]
    by_cases c2 : x = [62]
    · have := h2 c2; subst this
      rw [if_pos c2]; simp [fillT]; omega
    · rw [if_neg c2]; simp; omega
theorem fresh_l0 (s : ByteArray) (hs : s.size ≤ 140737488351232) : ∀ (n : Nat) (acc : List UInt8) (i : Int), 0 ≤ i → i + n = s.size → acc.length + n ≤ 140737488351232 →
    Ev (fun k => laws_fresh.l0 k s (ba acc) i) (ba (acc ++ List.replicate n 119)) := by
  intro n
  induction n with
  | zero =>
    intro acc i h0 h1 h2
    refine Ev.step (fun k => by rw [laws_fresh.l0, if_neg (by omega)]) ?_
    exact Ev.det' (Ev.now _) (by simp)
  | succ n ih =>
    intro acc i h0 h1 h2
    have hw : wrap64 (i + 1) = i + 1 := w64 (by omega) (by omega)
    have e : (⟨#[119]⟩ : ByteArray) = ba [119] := rfl
    refine Ev.step (fun k => by rw [laws_fresh.l0, if_pos (by omega), if_pos (by rw [ba_size]; omega), e, ba_append, hw]) ?_
    refine Ev.det' (ih (acc ++ [119]) (i + 1) (by omega) (by omega) (by simp; omega)) ?_
    rw [List.append_assoc]; rfl
theorem fresh_ev (l : List UInt8) (h : l.length ≤ 1000) : Ev (fun k => laws_fresh.f k (ba l)) (ba (List.replicate (l.length + 1) 119)) := by
  refine Ev.congr (fun k => by rw [laws_fresh.f]) ?_
  have e : (⟨#[119]⟩ : ByteArray) = ba [119] := rfl
  rw [e]
  exact Ev.det' (fresh_l0 (ba l) (by rw [ba_size]; omega) l.length [119] 0 (by omega) (by rw [ba_size]; omega) (by simp; omega)) (by rw [List.replicate_succ]; rfl)
theorem filled_l1 (x7 : List ByteArray) (w : List UInt8) (m : Int) (i : Int) (r : ByteArray) : ∀ (n : Nat) (out : List ByteArray) (j : Int), 0 ≤ j → j + n = m → m ≤ 100000 → out.length + n < 8796093022208 →
    Ev (fun k => laws_filled.l0 k (ba w) m x7 (out ++ List.replicate n (ba w)) (wrap64 (i + 1))) r → Ev (fun k => laws_filled.l1 k (ba w) m x7 out i j) r := by
  intro n
  induction n with
  | zero =>
    intro out j h0 h1 h2 h3 h
    refine Ev.step (fun k => by rw [laws_filled.l1, if_neg (by omega)]) ?_
    simpa using h
  | succ n ih =>
    intro out j h0 h1 h2 h3 h
    have hw : wrap64 (j + 1) = j + 1 := w64 (by omega) (by omega)
    refine Ev.step (fun k => by rw [laws_filled.l1, if_pos (by omega), if_pos (by omega), hw]) ?_
    refine ih (out ++ [ba w]) (j + 1) (by omega) (by omega) h2 (by simp; omega) ?_
    rw [List.append_assoc]
    exact h
theorem filled_l0 (L : List (List UInt8)) (hL : L.length ≤ 100000) (w : List UInt8) (n : Nat) (hn : n ≤ 100000) (C : List (List UInt8)) (hC : C.length ≤ 1000000) (hj : (join C).length ≤ 9223372036854775807) : ∀ (rest pre out : List (List UInt8)) (i : Int), L = pre ++ rest → i = (pre.length : Int) → out ++ fillT w n rest = C →
    Ev (fun k => laws_filled.l0 k (ba w) (n : Int) (L.map ba) (out.map ba) i) (ba (join C)) := by
  intro rest
  induction rest with
  | nil =>
    intro pre out i h hi hq
    have hz : ((L.map ba).length : Int) = pre.length := by rw [h]; simp
    simp [fillT] at hq
    subst hq
    refine Ev.step (fun k => by rw [laws_filled.l0, if_neg (by omega)]) ?_
    exact Ev.bind (Join_ev _ (by omega) hj) (Ev.now _)
  | cons c rest ih =>
    intro pre out i h hi hq
    have hz : ((L.map ba).length : Int) = pre.length + rest.length + 1 := by rw [h]; simp; omega
    have hz2 : (L.length : Int) = pre.length + rest.length + 1 := by rw [h]; simp; omega
    have hb : rdOf ByteArray.empty (L.map ba) i = ba c := rdOf_mid _ (pre.map ba) (ba c) (rest.map ba) (by rw [h]; simp) (by simp; omega)
    have hw : wrap64 (i + 1) = i + 1 := w64 (by omega) (by omega)
    have ho : out.length ≤ 1000000 := by rw [← hq] at hC; simp at hC; omega
    have IH := fun out => ih (pre ++ [c]) out (i + 1) (by rw [h]; simp) (by simp; omega)
    rw [fillT] at hq
    refine Ev.step (fun k => by rw [laws_filled.l0, if_pos (by omega), if_pos (by omega), hb, ba_toList, hw]) ?_
    by_cases c1 : c = [42]
    · rw [if_pos c1] at hq
      refine Ev.pos c1 (Ev.pos (by simp; omega) ?_)
      have := IH (out ++ [w]) (by simpa using hq)
      simpa using this
    rw [if_neg c1] at hq
    refine Ev.neg c1 ?_
    by_cases c2 : c = [62]
    · rw [if_pos c2] at hq
      refine Ev.pos c2 ?_
      have := IH (out ++ List.replicate n w) (by simpa using hq)
      refine filled_l1 (L.map ba) w (n : Int) i _ n (out.map ba) 0 (by omega) (by omega) (by omega) (by simp; omega) ?_
      rw [hw]
      simpa using this
    · rw [if_neg c2] at hq
      refine Ev.neg c2 (Ev.pos (by simp; omega) ?_)
      have := IH (out ++ [c]) (by simpa using hq)
      simpa using this
theorem filled_ev (l w : List UInt8) (n : Nat) (hl : l.length ≤ 99999) (hn : n ≤ 100000) (hC : (fillT w n (toks l)).length ≤ 1000000) (hj : (join (fillT w n (toks l))).length ≤ 9223372036854775807) : Ev (fun k => laws_filled.f k (ba l) (ba w) (n : Int)) (ba (join (fillT w n (toks l)))) := by
  have h1 : (toks l).length ≤ 100000 := by rw [toks_len]; have := List.count_le_length (a := (46 : UInt8)) (l := l); omega
  refine Ev.congr (fun k => by rw [laws_filled.f]) ?_
  refine Ev.bind (Tokens_ev l (by omega)) ?_
  exact filled_l0 (toks l) h1 w n hn _ hC hj (toks l) [] [] 0 rfl rfl rfl
theorem NumTokens_ev (l : List UInt8) (hl : l.length ≤ 99999) (h0 : l ≠ []) : Ev (fun k => spec_NumTokens.f k (ba l)) ((toks l).length : Int) := by
  refine Ev.congr (fun k => by rw [spec_NumTokens.f, ba_toList, if_neg h0]) ?_
  refine Ev.bind (Tokens_ev l (by omega)) ?_
  exact Ev.det' (Ev.now _) (by simp)
theorem impl_Subset_ev (l p : List UInt8) (hl : l.length < 8796093022208) (hp : p.length < 8796093022208) (fl : formedB (toks l) = true) (fp : formedB (toks p) = true) (tl : (toks l).all tameT = true) (tp : (toks p).all tameT = true) :
    Ev (fun k => impl_Subset.f k (ba l) (ba p)) (subT (toks l) (toks p)) := by
  refine Ev.congr (fun k => by rw [impl_Subset.f, server_SubjectIsSubset.f]) ?_
  exact Ev.bind (Ev.bind (subset_ev l p hl hp fl fp tl tp) (Ev.now _)) (Ev.now _)
theorem pure : laws_FnSubsetMeans.Pure := by
  intro s p hs hp
  obtain ⟨l, rfl⟩ := ba_surj s
  obtain ⟨q, rfl⟩ := ba_surj p
  have hsz : (ba l).size = l.length := ba_size l
  have hpz : (ba q).size = q.length := ba_size q
  apply Ev.rounds
  have J1 : Ev (fun k => laws_FnSubsetMeans.j0 k (ba l) (ba q) true) true := by
    refine Ev.step (fun k => by rw [laws_FnSubsetMeans.j0, if_pos rfl]) ?_
    exact Ev.now _
  have J2 : Ev (fun k => laws_FnSubsetMeans.j1 k (ba l) (ba q) true) true := by
    refine Ev.step (fun k => by rw [laws_FnSubsetMeans.j1, if_pos rfl]) ?_
    exact Ev.now _
  refine Ev.congr (fun k => by rw [laws_FnSubsetMeans.f]) ?_
  by_cases hb : ((ba l).size : Int) > 2147483647
  · exact Ev.pos hb J1
  refine Ev.neg hb ?_
  by_cases hb2 : ((ba q).size : Int) > 2147483647
  · rw [decide_eq_true hb2]; exact J1
  rw [decide_eq_false hb2]
  refine Ev.step (fun k => by rw [laws_FnSubsetMeans.j0, if_neg (by simp)]) ?_
  refine Ev.bind awake_ev (Ev.pos rfl ?_)
  obtain ⟨b1, ev1, if1⟩ := valid_ev l (by omega)
  refine Ev.bind ev1 ?_
  cases b1 with
  | false => exact Ev.neg (by simp) J2
  | true =>
  refine Ev.pos rfl ?_
  obtain ⟨b2, ev2, if2⟩ := valid_ev q (by omega)
  refine Ev.bind ev2 ?_
  cases b2 with
  | false => exact Ev.neg (by simp) J2
  | true =>
  refine Ev.pos rfl ?_
  by_cases hb3 : ((ba q).size : Int) > 100
  · rw [decide_eq_true hb3]; exact J2
  rw [decide_eq_false hb3]
  obtain ⟨⟨l1, l2⟩, hv1, ht1⟩ := if1.1 rfl
  obtain ⟨⟨q1, q2⟩, hv2, ht2⟩ := if2.1 rfl
  simp only [validB, Bool.and_eq_true] at hv1 hv2
  have hq100 : q.length ≤ 100 := by omega
  have hq0 : q ≠ [] := by
    rintro rfl
    exact formed_ne _ hv2.1 [] (by simp [toks, toksA]) rfl
  have hA : (toks l).length ≤ 401 := by rw [toks_len]; have := List.count_le_length (a := (46 : UInt8)) (l := l); omega
  have hB : (toks q).length ≤ 101 := by rw [toks_len]; have := List.count_le_length (a := (46 : UInt8)) (l := q); omega
  have hA0 : toks l ≠ [] := toksA_ne _ _
  have FR := fresh_ev q (by omega)
  have hwn : List.replicate (q.length + 1) (119 : UInt8) ∉ toks q := by
    intro h
    have := toks_short q _ h
    rw [List.length_replicate] at this
    omega
  have hww : wordT (List.replicate (q.length + 1) (119 : UInt8)) := by
    refine ⟨by simp, ?_, ?_, ?_, by simp; omega, ?_⟩
    · simp only [litT, Bool.and_eq_true, decide_eq_true_eq]
      constructor <;> (rw [List.replicate_succ]; intro e; injection e with e1 e2; exact absurd e1 (by decide))
    · intro h; exact absurd (List.mem_replicate.1 h).2 (by decide)
    · intro c h; rw [(List.mem_replicate.1 h).2]; decide
    · simp only [tameT, Bool.or_eq_true, Bool.not_eq_true']
      right
      rw [List.any_eq_false]
      intro c h; rw [(List.mem_replicate.1 h).2]; decide
  generalize List.replicate (q.length + 1) (119 : UInt8) = W at *
  have hws := words_of l l1 l2 hv1.1 ht1
  have K1 := join_words _ (fill_ne W 1 (by omega) _ hA0) (fill_all W 1 hww _ hws) (by have := fill_len W 1 (by omega) _ hv1.1; omega)
  have K2 := join_words _ (fill_ne W (1 + (toks q).length) (by omega) _ hA0) (fill_all W (1 + (toks q).length) hww _ hws) (by have := fill_len W (1 + (toks q).length) (by omega) _ hv1.1; omega)
  have N1 := fill_len W 1 (by omega) _ hv1.1
  have N2 := fill_len W (1 + (toks q).length) (by omega) _ hv1.1
  have E1 := filled_ev l W 1 (by omega) (by omega) (by omega) (by omega)
  have E2 := filled_ev l W (1 + (toks q).length) (by omega) (by omega) (by omega) (by omega)
  have M1 := fill_match W 1 (by omega) _ hv1.1
  have M2 := fill_match W (1 + (toks q).length) (by omega) _ hv1.1
  have SB := fill_sub W (toks l) (toks q) (1 + (toks q).length) hv1.1 hwn (by omega)
  have hw1 := fill_all W 1 hww _ hws
  have hw2 := fill_all W (1 + (toks q).length) hww _ hws
  have hwrap : wrap64 (1 + ((toks q).length : Int)) = ((1 + (toks q).length : Nat) : Int) := by rw [w64 (by omega) (by omega)]; omega
  refine Ev.step (fun k => by rw [laws_FnSubsetMeans.j1, if_neg (by simp)]) ?_
  refine Ev.bind FR (Ev.bind E1 (Ev.bind FR (Ev.bind (NumTokens_ev q (by omega) hq0) ?_)))
  rw [hwrap]
  refine Ev.bind E2 ?_
  generalize fillT W 1 (toks l) = C1 at *
  generalize fillT W (1 + (toks q).length) (toks l) = C2 at *
  obtain ⟨t1, t2, t3, t4, t5, t6⟩ := K1
  obtain ⟨u1, u2, u3, u4, u5, u6⟩ := K2
  refine Ev.bind (Publish_ev (join C1) (by omega) t3 (by rw [t1]; exact t5) (fun t m => by rw [t1] at m; exact ⟨(hw1 t m).1, (hw1 t m).2.2.2.1⟩)) (Ev.pos rfl ?_)
  refine Ev.bind (Publish_ev (join C2) (by omega) u3 (by rw [u1]; exact u5) (fun t m => by rw [u1] at m; exact ⟨(hw2 t m).1, (hw2 t m).2.2.2.1⟩)) (Ev.pos rfl ?_)
  have L1 := impl_MatchLiteral_ev (join C1) l (by omega) (by omega) hv1.1 ht1 (by rw [t1]; exact t4)
  have L2 := impl_MatchLiteral_ev (join C2) l (by omega) (by omega) hv1.1 ht1 (by rw [u1]; exact u4)
  rw [t1, M1] at L1
  rw [u1, M2] at L2
  refine Ev.bind L1 (Ev.pos rfl (Ev.bind L2 ?_))
  refine Ev.step (fun k => by rw [laws_FnSubsetMeans.j2, if_neg (by simp)]) ?_
  have P1 := impl_MatchLiteral_ev (join C1) q (by omega) (by omega) hv2.1 ht2 (by rw [t1]; exact t4)
  have P2 := impl_MatchLiteral_ev (join C2) q (by omega) (by omega) hv2.1 ht2 (by rw [u1]; exact u4)
  have S1 := impl_Matches_ev l q (by omega) (by omega) hv1.1 hv2.1 ht1 ht2
  have S2 := impl_Subset_ev l q (by omega) (by omega) hv1.1 hv2.1 ht1 ht2
  rw [t1] at P1
  rw [u1] at P2
  rw [SB] at S1 S2
  refine Ev.bind P1 ?_
  cases m1 : matchT C1 (toks q) with
  | false =>
    rw [m1] at S1 S2
    exact Ev.neg (by simp) (Ev.bind S1 (Ev.pos (by simp) (Ev.bind S2 (Ev.det' (Ev.now _) (by simp)))))
  | true =>
    rw [m1] at S1 S2
    exact Ev.pos rfl (Ev.bind P2 (Ev.bind S1 (Ev.pos (by simp) (Ev.bind S2 (Ev.det' (Ev.now _) (by simp))))))

end Go.Proofs.Ytgbdjinanflhaaa.PlFnSubsetMeans
