/- What the printed functions of FnCollideMeans come to, as plain functions on lists. -/
import Derived.Test.YtgbdjinanflhaaaPlTok
import Derived.Test.YtgbdjinanflhaaaGFnCollideMeansx7
import Derived.Test.YtgbdjinanflhaaaGFnCollideMeansx8
namespace Go.Proofs.Ytgbdjinanflhaaa.PlFnCollideMeans
open Go.RowKit Go.Proofs.YtgbdjinanflhaaaW.PrintWords Go.Proofs.YtgbdjinanflhaaaW.PrintLast Go.Proofs.YtgbdjinanflhaaaW.PrintMore Go.Proofs.Ytgbdjinanflhaaa.Pl Go.Proofs.Ytgbdjinanflhaaa.GFnCollideMeans
set_option linter.unusedVariables false
set_option linter.unusedSimpArgs false

theorem Tokens_l0 (s : ByteArray) (hs : s.size < 8796093022208) : ∀ (rest pre p : List UInt8) (out : List ByteArray) (fr i : Int), s = ba (pre ++ p ++ rest) → fr = (pre.length : Int) → i = (pre.length : Int) + p.length → out.length ≤ pre.length →
    Ev (fun k => spec_Tokens.l0 k s out fr i) (out ++ (toksA p rest).map ba) := by
  intro rest
  induction rest with
  | nil =>
    intro pre p out fr i h hf hi ho
    have hz : (s.size : Int) = pre.length + p.length := by rw [h, ba_size]; simp
    have he : s.extract fr.toNat s.size = ba p := ext_end pre p (by rw [h, List.append_nil]) hf
    refine Ev.step (fun k => by rw [spec_Tokens.l0, if_neg (by omega), if_pos (by omega), if_pos (by omega), if_pos (by omega), he]) ?_
    exact Ev.now _
  | cons c rest ih =>
    intro pre p out fr i h hf hi ho
    have hz : (s.size : Int) = pre.length + p.length + rest.length + 1 := by rw [h, ba_size]; simp; omega
    have hb : bt s i = (c.toNat : Int) := bt_mid (pre ++ p) c rest h (by simp; omega)
    have hw : wrap64 (i + 1) = i + 1 := w64 (by omega) (by omega)
    have he : s.extract fr.toNat i.toNat = ba p := ext_mid pre p (c :: rest) h hf hi
    by_cases hc : c = 46
    · subst hc
      refine Ev.step (fun k => by rw [spec_Tokens.l0, if_pos (by omega), if_pos (by omega), hb, if_pos (by decide), if_pos (by omega), if_pos (by omega), if_pos (by omega), if_pos (by omega), he, hw]) ?_
      refine Ev.det' (ih (pre ++ p ++ [46]) [] (out ++ [ba p]) (i + 1) (i + 1) (by rw [h]; simp) (by simp; omega) (by simp; omega) (by simp; omega)) ?_
      rw [toksA_dot]; simp
    · have hne : ¬ ((c.toNat : Int) = 46) := fun e => hc ((toNat_eq (n := 46) (by omega)).1 e)
      refine Ev.step (fun k => by rw [spec_Tokens.l0, if_pos (by omega), if_pos (by omega), hb, if_neg hne, hw]) ?_
      refine Ev.det' (ih pre (p ++ [c]) out fr (i + 1) (by rw [h]; simp) hf (by simp; omega) ho) ?_
      rw [toksA_other _ hc]
theorem Tokens_ev (l : List UInt8) (hs : l.length < 8796093022208) : Ev (fun k => spec_Tokens.f k (ba l)) ((toks l).map ba) := by
  have := Tokens_l0 (ba l) hs l [] [] [] 0 0 (by simp) (by simp) (by simp) (by simp)
  exact this

def cleanB (c : UInt8) : Bool := decide (32 < c) && decide (c ≠ 127)
theorem clean_l0 (s : ByteArray) (hs : s.size ≤ 140737488351232) : ∀ (rest pre : List UInt8) (i : Int), s = ba (pre ++ rest) → i = (pre.length : Int) →
    ∃ b, Ev (fun k => laws_clean.l0 k s i) b ∧ (b = true ↔ s.size ≤ 400 ∧ rest.all cleanB = true) := by
  intro rest
  induction rest with
  | nil =>
    intro pre i h hi
    have hz : (s.size : Int) = pre.length := by rw [h, ba_size]; simp
    refine ⟨decide ((s.size : Int) ≤ 400), ?_, by simp; omega⟩
    refine Ev.step (fun k => by rw [laws_clean.l0, if_neg (by omega)]) ?_
    refine Ev.step (fun k => by rw [laws_clean.j1, if_neg (by simp)]) ?_
    exact Ev.now _
  | cons c rest ih =>
    intro pre i h hi
    have hz : (s.size : Int) = pre.length + rest.length + 1 := by rw [h, ba_size]; simp; omega
    have hb : bt s i = (c.toNat : Int) := bt_mid pre c rest h hi
    have hw : wrap64 (i + 1) = i + 1 := w64 (by omega) (by omega)
    by_cases h4 : i ≤ 400
    · by_cases hc : cleanB c = true
      · obtain ⟨b, hev, hiff⟩ := ih (pre ++ [c]) (i + 1) (by rw [h]; simp) (by simp; omega)
        refine ⟨b, ?_, by rw [hiff, List.all_cons, hc, Bool.true_and]⟩
        simp only [cleanB, Bool.and_eq_true, decide_eq_true_eq, UInt8.lt_iff_toNat_lt, ne_eq, ← UInt8.toNat_inj] at hc
        simp at hc
        refine Ev.step (fun k => by rw [laws_clean.l0, if_pos (by omega)]) ?_
        refine Ev.step (fun k => by rw [laws_clean.j1, if_pos (by simp; omega), if_pos (by omega), if_pos (by omega), hb, if_neg (by omega), if_neg (by omega), hw]) ?_
        exact hev
      · refine ⟨false, ?_, by rw [List.all_cons]; simp [hc]⟩
        simp only [cleanB, Bool.and_eq_true, decide_eq_true_eq, UInt8.lt_iff_toNat_lt, ne_eq, ← UInt8.toNat_inj] at hc
        simp at hc
        refine Ev.step (fun k => by rw [laws_clean.l0, if_pos (by omega)]) ?_
        by_cases h32 : (c.toNat : Int) ≤ 32
        · refine Ev.step (fun k => by rw [laws_clean.j1, if_pos (by simp; omega), if_pos (by omega), if_pos (by omega), hb, if_pos h32]) ?_
          exact Ev.now _
        · refine Ev.step (fun k => by rw [laws_clean.j1, if_pos (by simp; omega), if_pos (by omega), if_pos (by omega), hb, if_neg h32, if_pos (by omega)]) ?_
          exact Ev.now _
    · refine ⟨false, ?_, ⟨fun e => (by cases e), fun e => by omega⟩⟩
      refine Ev.step (fun k => by rw [laws_clean.l0, if_pos (by omega)]) ?_
      refine Ev.step (fun k => by rw [laws_clean.j1, if_neg (by simp; omega)]) ?_
      refine Ev.const ?_
      rw [decide_eq_false (by omega)]
theorem clean_ev (l : List UInt8) (hs : l.length ≤ 140737488351232) : ∃ b, Ev (fun k => laws_clean.f k (ba l)) b ∧ (b = true ↔ l.length ≤ 400 ∧ l.all cleanB = true) := by
  have := clean_l0 (ba l) hs l [] 0 (by simp) (by simp)
  exact this

def blankB (c : UInt8) : Bool := decide (c = 32) || decide (c = 9) || decide (c = 10) || decide (c = 13) || decide (c = 12)
theorem Blank_eq (c : UInt8) : spec_Blank.f (c.toNat : Int) = some (blankB c) := by
  unfold spec_Blank.f
  have e32 := toNat_eq (c := c) (n := 32) (by omega)
  have e9 := toNat_eq (c := c) (n := 9) (by omega)
  have e10 := toNat_eq (c := c) (n := 10) (by omega)
  have e13 := toNat_eq (c := c) (n := 13) (by omega)
  have e12 := toNat_eq (c := c) (n := 12) (by omega)
  simp at e32 e9 e10 e13 e12
  unfold blankB
  by_cases h32 : c = 32
  · subst h32; rfl
  rw [if_neg (by rw [e32]; exact h32)]
  by_cases h9 : c = 9
  · subst h9; rfl
  rw [if_neg (by rw [e9]; exact h9)]
  by_cases h10 : c = 10
  · subst h10; rfl
  rw [if_neg (by rw [e10]; exact h10)]
  by_cases h13 : c = 13
  · subst h13; rfl
  rw [if_neg (by rw [e13]; exact h13)]
  simp [h32, h9, h10, h13]
  rw [Bool.eq_iff_iff]
  simp
  exact e12

theorem Spaced_l0 (s : ByteArray) (hs : s.size ≤ 140737488351232) : ∀ (rest pre : List UInt8) (i : Int), s = ba (pre ++ rest) → i = (pre.length : Int) →
    Ev (fun k => spec_Spaced.l0 k s i) (rest.any blankB) := by
  intro rest
  induction rest with
  | nil =>
    intro pre i h hi
    have hz : (s.size : Int) = pre.length := by rw [h, ba_size]; simp
    refine Ev.step (fun k => by rw [spec_Spaced.l0, if_neg (by omega)]) ?_
    exact Ev.now _
  | cons c rest ih =>
    intro pre i h hi
    have hz : (s.size : Int) = pre.length + rest.length + 1 := by rw [h, ba_size]; simp; omega
    have hb : bt s i = (c.toNat : Int) := bt_mid pre c rest h hi
    have hw : wrap64 (i + 1) = i + 1 := w64 (by omega) (by omega)
    refine Ev.step (fun k => by rw [spec_Spaced.l0, if_pos (by omega), if_pos (by omega), hb, Blank_eq, Option.bind_some, hw]) ?_
    rw [List.any_cons]
    cases hc : blankB c with
    | true => simp only [if_true, Bool.true_or]; exact Ev.now _
    | false =>
      simp only [Bool.false_eq_true, if_false, Bool.false_or]
      exact ih (pre ++ [c]) (i + 1) (by rw [h]; simp) (by simp; omega)
theorem Spaced_ev (l : List UInt8) (hs : l.length ≤ 140737488351232) : Ev (fun k => spec_Spaced.f k (ba l)) (l.any blankB) := by
  have := Spaced_l0 (ba l) hs l [] 0 (by simp) (by simp)
  exact this

/-- No token is empty, and > stands last alone. -/
def formedB : List (List UInt8) → Bool
  | [] => true
  | t :: ts => decide (t ≠ []) && (decide (t ≠ [62]) || ts.isEmpty) && formedB ts
theorem Formed_l0 (L : List (List UInt8)) (hs : L.length ≤ 140737488351232) : ∀ (rest pre : List (List UInt8)) (i : Int), L = pre ++ rest → i = (pre.length : Int) →
    Ev (fun k => spec_Formed.l0 k (L.map ba) i) (formedB rest) := by
  intro rest
  induction rest with
  | nil =>
    intro pre i h hi
    have hz : ((L.map ba).length : Int) = pre.length := by rw [h]; simp
    refine Ev.step (fun k => by rw [spec_Formed.l0, if_neg (by omega)]) ?_
    exact Ev.now _
  | cons c rest ih =>
    intro pre i h hi
    have hz : ((L.map ba).length : Int) = pre.length + rest.length + 1 := by rw [h]; simp; omega
    have hz2 : (L.length : Int) = pre.length + rest.length + 1 := by rw [h]; simp; omega
    have hb : rdOf ByteArray.empty (L.map ba) i = ba c := rdOf_mid _ (pre.map ba) (ba c) (rest.map ba) (by rw [h]; simp) (by simp; omega)
    have hw : wrap64 (i + 1) = i + 1 := w64 (by omega) (by omega)
    have IH := ih (pre ++ [c]) (i + 1) (by rw [h]; simp) (by simp; omega)
    rw [formedB]
    by_cases h0 : c = []
    · subst h0
      refine Ev.step (fun k => by rw [spec_Formed.l0, if_pos (by omega), if_pos (by omega), hb, ba_toList, if_pos rfl]) ?_
      exact Ev.now _
    by_cases h1 : c = [62]
    · subst h1
      cases rest with
      | nil =>
        refine Ev.step (fun k => by rw [spec_Formed.l0, if_pos (by omega), if_pos (by omega), hb, ba_toList, if_neg h0, if_pos rfl, hw, if_neg (by simp at hz ⊢; omega)]) ?_
        exact IH
      | cons d rest =>
        refine Ev.step (fun k => by rw [spec_Formed.l0, if_pos (by omega), if_pos (by omega), hb, ba_toList, if_neg h0, if_pos rfl, hw, if_pos (by simp at hz ⊢; omega)]) ?_
        exact Ev.now _
    · refine Ev.step (fun k => by rw [spec_Formed.l0, if_pos (by omega), if_pos (by omega), hb, ba_toList, if_neg h0, if_neg h1, hw]) ?_
      refine Ev.det' IH ?_
      simp [h0, h1]
theorem Formed_ev (L : List (List UInt8)) (hs : L.length ≤ 140737488351232) : Ev (fun k => spec_Formed.f k (L.map ba)) (formedB L) :=
  Formed_l0 L hs L [] 0 (by simp) (by simp)

def validB (l : List UInt8) : Bool := formedB (toks l) && !l.any blankB
theorem Valid_ev (l : List UInt8) (hs : l.length < 8796093022208) : Ev (fun k => spec_Valid.f k (ba l)) (validB l) := by
  have ht : (toks l).length ≤ 140737488351232 := by rw [toks_len]; have := List.count_le_length (a := (46 : UInt8)) (l := l); omega
  refine Ev.congr (fun k => by rw [spec_Valid.f]) ?_
  refine Ev.bind (Tokens_ev l hs) ?_
  refine Ev.bind (Formed_ev _ ht) ?_
  unfold validB
  cases formedB (toks l) with
  | true =>
    simp only [if_true, Bool.true_and]
    refine Ev.bind (Spaced_ev l (by omega)) ?_
    exact Ev.now _
  | false => simp only [Bool.false_eq_true, if_false, Bool.false_and]; exact Ev.now _

def wildB (c : UInt8) : Bool := decide (c = 42) || decide (c = 62)
def tameT (t : List UInt8) : Bool := decide (t.length ≤ 1) || !t.any wildB
theorem tame_l0 (L : List (List UInt8)) (hL : L.length ≤ 140737488351232) (hs : ∀ t ∈ L, t.length ≤ 140737488351232) : ∀ (rest pre : List (List UInt8)) (i : Int), L = pre ++ rest → i = (pre.length : Int) →
    Ev (fun k => laws_tame.l0 k (L.map ba) i) (rest.all tameT) := by
  intro rest
  induction rest with
  | nil =>
    intro pre i h hi
    have hz : ((L.map ba).length : Int) = pre.length := by rw [h]; simp
    refine Ev.step (fun k => by rw [laws_tame.l0, if_neg (by omega)]) ?_
    exact Ev.now _
  | cons t rest ih =>
    intro pre i h hi
    have hz : ((L.map ba).length : Int) = pre.length + rest.length + 1 := by rw [h]; simp; omega
    have hz2 : (L.length : Int) = pre.length + rest.length + 1 := by rw [h]; simp; omega
    have hrd : rdOf ByteArray.empty (L.map ba) i = ba t := rdOf_mid _ (pre.map ba) (ba t) (rest.map ba) (by rw [h]; simp) (by simp; omega)
    have hw : wrap64 (i + 1) = i + 1 := w64 (by omega) (by omega)
    have IH := ih (pre ++ [t]) (i + 1) (by rw [h]; simp) (by simp; omega)
    have ht := hs t (by rw [h]; simp)
    rw [List.all_cons]
    refine Ev.step (fun k => by rw [laws_tame.l0, if_pos (by omega)]) ?_
    by_cases h1 : t.length ≤ 1
    · have e : tameT t = true := by simp [tameT, h1]
      rw [e, Bool.true_and]
      by_cases h0 : (0 : Int) < ((ba t).size : Int)
      · refine Ev.step (fun k => by rw [laws_tame.l1, if_pos (by omega), if_pos (by omega), hrd, if_pos h0, ba_size, decide_eq_false (by omega)]) ?_
        refine Ev.step (fun k => by rw [laws_tame.j2, if_neg (by simp), hw]) ?_
        exact IH
      · refine Ev.step (fun k => by rw [laws_tame.l1, if_pos (by omega), if_pos (by omega), hrd, if_neg h0]) ?_
        refine Ev.step (fun k => by rw [laws_tame.j2, if_neg (by simp), hw]) ?_
        exact IH
    · have inner : ∀ (tr tp : List UInt8) (j : Int), t = tp ++ tr → j = (tp.length : Int) → Ev (fun k => laws_tame.l1 k (L.map ba) i j) (!tr.any wildB && rest.all tameT) := by
        intro tr
        induction tr with
        | nil =>
          intro tp j htp hj
          have htz : ((ba t).size : Int) = tp.length := by rw [ba_size, htp]; simp
          refine Ev.step (fun k => by rw [laws_tame.l1, if_pos (by omega), if_pos (by omega), hrd, if_neg (by omega)]) ?_
          refine Ev.step (fun k => by rw [laws_tame.j2, if_neg (by simp), hw]) ?_
          exact IH
        | cons c tr ihi =>
          intro tp j htp hj
          have htz : ((ba t).size : Int) = tp.length + tr.length + 1 := by rw [ba_size, htp]; simp; omega
          have htz2 : (t.length : Int) = tp.length + tr.length + 1 := by rw [htp]; simp; omega
          have hb : bt (ba t) j = (c.toNat : Int) := bt_mid tp c tr (by rw [htp]) hj
          have hwj : wrap64 (j + 1) = j + 1 := w64 (by omega) (by omega)
          have e42 := toNat_eq (c := c) (n := 42) (by omega)
          have e62 := toNat_eq (c := c) (n := 62) (by omega)
          simp at e42 e62
          refine Ev.step (fun k => by rw [laws_tame.l1, if_pos (by omega), if_pos (by omega), hrd, if_pos (by omega), decide_eq_true (by omega)]) ?_
          rw [List.any_cons]
          by_cases h42 : c = 42
          · refine Ev.step (fun k => by rw [laws_tame.j2, if_pos rfl, if_pos (by omega), if_pos (by omega), hrd, if_pos (by omega), if_pos (by omega), hb, if_pos (e42.2 h42)]) ?_
            exact Ev.const (by simp [wildB, h42])
          by_cases h62 : c = 62
          · refine Ev.step (fun k => by rw [laws_tame.j2, if_pos rfl, if_pos (by omega), if_pos (by omega), hrd, if_pos (by omega), if_pos (by omega), hb, if_neg (fun e => h42 (e42.1 e)), if_pos (e62.2 h62)]) ?_
            exact Ev.const (by simp [wildB, h62])
          · refine Ev.step (fun k => by rw [laws_tame.j2, if_pos rfl, if_pos (by omega), if_pos (by omega), hrd, if_pos (by omega), if_pos (by omega), hb, if_neg (fun e => h42 (e42.1 e)), if_neg (fun e => h62 (e62.1 e)), hwj]) ?_
            refine Ev.det' (ihi (tp ++ [c]) (j + 1) (by rw [htp]; simp) (by simp; omega)) ?_
            simp [wildB, h42, h62]
      refine Ev.det' (inner t [] 0 (by simp) (by simp)) ?_
      simp [tameT, h1]
theorem tame_ev (l : List UInt8) (hs : l.length < 8796093022208) : Ev (fun k => laws_tame.f k (ba l)) ((toks l).all tameT) := by
  have ht : (toks l).length ≤ 140737488351232 := by rw [toks_len]; have := List.count_le_length (a := (46 : UInt8)) (l := l); omega
  refine Ev.congr (fun k => by rw [laws_tame.f]) ?_
  refine Ev.bind (Tokens_ev l hs) ?_
  exact tame_l0 (toks l) ht (fun t h => by have := toks_short l t h; omega) (toks l) [] 0 (by simp) (by simp)

theorem valid_ev (l : List UInt8) (hs : l.length < 8796093022208) : ∃ b, Ev (fun k => laws_valid.f k (ba l)) b ∧ (b = true ↔ (l.length ≤ 400 ∧ l.all cleanB = true) ∧ validB l = true ∧ (toks l).all tameT = true) := by
  obtain ⟨b, hb, hiff⟩ := clean_ev l (by omega)
  cases b with
  | false =>
    refine ⟨false, ?_, ?_⟩
    · refine Ev.congr (fun k => by rw [laws_valid.f]) ?_
      refine Ev.bind hb ?_
      simp only [Bool.false_eq_true, if_false]
      exact Ev.now _
    · simp only [Bool.false_eq_true, false_iff] at hiff ⊢
      exact fun h => hiff h.1
  | true =>
    refine ⟨validB l && (toks l).all tameT, ?_, ?_⟩
    · refine Ev.congr (fun k => by rw [laws_valid.f]) ?_
      refine Ev.bind hb ?_
      simp only [if_true]
      refine Ev.bind (Valid_ev l hs) ?_
      cases validB l with
      | true =>
        simp only [if_true, Bool.true_and]
        refine Ev.bind (tame_ev l hs) ?_
        exact Ev.now _
      | false => simp only [Bool.false_eq_true, if_false, Bool.false_and]; exact Ev.now _
    · rw [Bool.and_eq_true]
      exact ⟨fun h => ⟨hiff.1 rfl, h⟩, fun h => h.2⟩

/-- No token is a wildcard. -/
def litT (t : List UInt8) : Bool := decide (t ≠ [42]) && decide (t ≠ [62])
theorem spec_Literal_l0 (L : List (List UInt8)) (hs : L.length ≤ 140737488351232) : ∀ (rest pre : List (List UInt8)) (i : Int), L = pre ++ rest → i = (pre.length : Int) →
    Ev (fun k => spec_Literal.l0 k (L.map ba) i) (rest.all litT) := by
  intro rest
  induction rest with
  | nil =>
    intro pre i h hi
    have hz : ((L.map ba).length : Int) = pre.length := by rw [h]; simp
    refine Ev.step (fun k => by rw [spec_Literal.l0, if_neg (by omega)]) ?_
    exact Ev.now _
  | cons c rest ih =>
    intro pre i h hi
    have hz : ((L.map ba).length : Int) = pre.length + rest.length + 1 := by rw [h]; simp; omega
    have hz2 : (L.length : Int) = pre.length + rest.length + 1 := by rw [h]; simp; omega
    have hb : rdOf ByteArray.empty (L.map ba) i = ba c := rdOf_mid _ (pre.map ba) (ba c) (rest.map ba) (by rw [h]; simp) (by simp; omega)
    have hw : wrap64 (i + 1) = i + 1 := w64 (by omega) (by omega)
    have IH := ih (pre ++ [c]) (i + 1) (by rw [h]; simp) (by simp; omega)
    by_cases h0 : c = [42]
    · refine Ev.step (fun k => by rw [spec_Literal.l0, if_pos (by omega), if_pos (by omega), hb, ba_toList, if_pos h0]) ?_
      exact Ev.const (by simp [litT, h0])
    by_cases h1 : c = [62]
    · refine Ev.step (fun k => by rw [spec_Literal.l0, if_pos (by omega), if_pos (by omega), hb, ba_toList, if_neg h0, if_pos h1]) ?_
      exact Ev.const (by simp [litT, h1])
    · refine Ev.step (fun k => by rw [spec_Literal.l0, if_pos (by omega), if_pos (by omega), hb, ba_toList, if_neg h0, if_neg h1, hw]) ?_
      refine Ev.det' IH ?_
      simp [litT, h0, h1]
theorem spec_Literal_ev (l : List UInt8) (hs : l.length < 8796093022208) : Ev (fun k => spec_Literal.f k (ba l)) ((toks l).all litT) := by
  have ht : (toks l).length ≤ 140737488351232 := by rw [toks_len]; have := List.count_le_length (a := (46 : UInt8)) (l := l); omega
  refine Ev.congr (fun k => by rw [spec_Literal.f]) ?_
  refine Ev.bind (Tokens_ev l hs) ?_
  exact spec_Literal_l0 (toks l) ht (toks l) [] 0 rfl rfl

theorem plain_ev (l : List UInt8) (hs : l.length < 8796093022208) : ∃ b, Ev (fun k => laws_plain.f k (ba l)) b ∧ (b = true ↔ ((l.length ≤ 400 ∧ l.all cleanB = true) ∧ validB l = true ∧ (toks l).all tameT = true) ∧ (toks l).all litT = true) := by
  obtain ⟨b, hb, hiff⟩ := valid_ev l hs
  cases b with
  | false =>
    refine ⟨false, ?_, ?_⟩
    · refine Ev.congr (fun k => by rw [laws_plain.f]) ?_
      refine Ev.bind hb ?_
      simp only [Bool.false_eq_true, if_false]
      exact Ev.now _
    · simp only [Bool.false_eq_true, false_iff] at hiff ⊢
      exact fun h => hiff h.1
  | true =>
    refine ⟨(toks l).all litT, ?_, ?_⟩
    · refine Ev.congr (fun k => by rw [laws_plain.f]) ?_
      refine Ev.bind hb ?_
      simp only [if_true]
      refine Ev.bind (spec_Literal_ev l hs) ?_
      exact Ev.now _
    · exact ⟨fun h => ⟨hiff.1 rfl, h⟩, fun h => h.2⟩

theorem toksA_head : ∀ (l p : List UInt8), ∃ q r, toksA p l = (p ++ q) :: r
  | [], p => ⟨[], [], by simp [toksA]⟩
  | c :: l, p => by
    by_cases h : c = 46
    · subst h; exact ⟨[], toksA [] l, by rw [toksA_dot]; simp⟩
    · obtain ⟨q, r, e⟩ := toksA_head l (p ++ [c]); exact ⟨c :: q, r, by rw [toksA_other p h, e]; simp⟩
theorem toksA_ne (p l : List UInt8) : toksA p l ≠ [] := by obtain ⟨q, r, e⟩ := toksA_head l p; rw [e]; simp

/-- All that one pattern matches is matched by the other one. -/
def subT : List (List UInt8) → List (List UInt8) → Bool
  | [], [] => true
  | _ :: _, [] => false
  | [], _ :: _ => false
  | t :: l, p :: ps => if p = [62] then true else if t = [62] then false else if p = [42] ∨ t = p then subT l ps else false

/-- The code's own cut into tokens. -/
theorem tokenize_l0 (s : ByteArray) (hs : s.size < 8796093022208) : ∀ (rest pre p : List UInt8) (out : List ByteArray) (fr i : Int), s = ba (pre ++ p ++ rest) → fr = (pre.length : Int) → i = (pre.length : Int) + p.length → out.length ≤ pre.length →
    Ev (fun k => server_tokenizeSubjectIntoSlice.l0 k out s fr i) (out ++ (toksA p rest).map ba) := by
  intro rest
  induction rest with
  | nil =>
    intro pre p out fr i h hf hi ho
    have hz : (s.size : Int) = pre.length + p.length := by rw [h, ba_size]; simp
    have he : s.extract fr.toNat s.size = ba p := ext_end pre p (by rw [h, List.append_nil]) hf
    refine Ev.step (fun k => by rw [server_tokenizeSubjectIntoSlice.l0, if_neg (by omega), if_pos (by omega), if_pos (by omega), if_pos (by omega), he]) ?_
    exact Ev.now _
  | cons c rest ih =>
    intro pre p out fr i h hf hi ho
    have hz : (s.size : Int) = pre.length + p.length + rest.length + 1 := by rw [h, ba_size]; simp; omega
    have hb : bt s i = (c.toNat : Int) := bt_mid (pre ++ p) c rest h (by simp; omega)
    have hw : wrap64 (i + 1) = i + 1 := w64 (by omega) (by omega)
    have he : s.extract fr.toNat i.toNat = ba p := ext_mid pre p (c :: rest) h hf hi
    by_cases hc : c = 46
    · subst hc
      refine Ev.step (fun k => by rw [server_tokenizeSubjectIntoSlice.l0, if_pos (by omega), if_pos (by omega), hb, if_pos (by decide), if_pos (by omega), if_pos (by omega), if_pos (by omega), if_pos (by omega), he, hw]) ?_
      refine Ev.det' (ih (pre ++ p ++ [46]) [] (out ++ [ba p]) (i + 1) (i + 1) (by rw [h]; simp) (by simp; omega) (by simp; omega) (by simp; omega)) ?_
      rw [toksA_dot]; simp
    · have hne : ¬ ((c.toNat : Int) = 46) := fun e => hc ((toNat_eq (n := 46) (by omega)).1 e)
      refine Ev.step (fun k => by rw [server_tokenizeSubjectIntoSlice.l0, if_pos (by omega), if_pos (by omega), hb, if_neg hne, hw]) ?_
      refine Ev.det' (ih pre (p ++ [c]) out fr (i + 1) (by rw [h]; simp) hf (by simp; omega) ho) ?_
      rw [toksA_other _ hc]
theorem tokenize_ev (l : List UInt8) (hs : l.length < 8796093022208) : Ev (fun k => server_tokenizeSubjectIntoSlice.f k [] (ba l)) ((toks l).map ba) := by
  have := tokenize_l0 (ba l) hs l [] [] [] 0 0 (by simp) (by simp) (by simp) (by simp)
  exact this
theorem cmp_zero : ∀ (a b : List UInt8), Lib.compareBytes a b = 0 ↔ a = b
  | [], [] => by simp [Lib.compareBytes]
  | [], _ :: _ => by simp [Lib.compareBytes]
  | _ :: _, [] => by simp [Lib.compareBytes]
  | x :: a, y :: b => by
    have ih := cmp_zero a b
    simp only [Lib.compareBytes]
    by_cases h1 : x < y
    · rw [if_pos h1]; simp; intro h; subst h; exact absurd h1 (by simp)
    · rw [if_neg h1]
      by_cases h2 : y < x
      · rw [if_pos h2]; simp; intro h; subst h; exact absurd h2 (by simp)
      · rw [if_neg h2, ih]
        have : x = y := by
          apply UInt8.toNat_inj.1
          rw [UInt8.lt_iff_toNat_lt] at h1 h2
          omega
        simp [this]
theorem beq_one (n : Nat) : (((n : Int) + 1) == 1) = decide (n = 0) := by
  rw [Bool.eq_iff_iff]; simp; omega
theorem isSubset_l0 (L P : List (List UInt8)) (hP : P.length ≤ 140737488351232) : ∀ (p l preP preL : List (List UInt8)) (i : Int), P = preP ++ p → L = preL ++ l → i = (preP.length : Int) → preL.length = preP.length →
    (∀ t ∈ p, t ≠ []) → (∀ t ∈ l, t ≠ []) → p.all tameT = true → l.all tameT = true →
    Ev (fun k => server_isSubsetMatchTokenized.l0 k (L.map ba) (P.map ba) (P.map ba) ((P.map ba).length : Int) i) (subT l p) := by
  intro p
  induction p with
  | nil =>
    intro l preP preL i hp hl hi he _ _ _ _
    have hz : ((P.map ba).length : Int) = preP.length := by rw [hp]; simp
    have hz2 : ((L.map ba).length : Int) = preL.length + l.length := by rw [hl]; simp
    refine Ev.step (fun k => by rw [server_isSubsetMatchTokenized.l0, if_neg (by omega)]) ?_
    refine Ev.const ?_
    cases l with
    | nil => simp only [subT]; congr 1; rw [beq_iff_eq]; simp only [List.length_nil] at hz2; omega
    | cons t l => simp only [subT]; congr 1; rw [beq_eq_false_iff_ne]; simp only [List.length_cons] at hz2; omega
  | cons p ps ih =>
    intro l preP preL i hp hl hi he np nl tp tl
    have hz : ((P.map ba).length : Int) = preP.length + ps.length + 1 := by rw [hp]; simp; omega
    have hz3 : (P.length : Int) = preP.length + ps.length + 1 := by rw [hp]; simp; omega
    have hz2 : ((L.map ba).length : Int) = preL.length + l.length := by rw [hl]; simp
    have hrp : rdOf ByteArray.empty (P.map ba) i = ba p := rdOf_mid _ (preP.map ba) (ba p) (ps.map ba) (by rw [hp]; simp) (by simp; omega)
    have hw : wrap64 (i + 1) = i + 1 := w64 (by omega) (by omega)
    cases l with
    | nil =>
      simp only [List.length_nil] at hz2
      refine Ev.step (fun k => by rw [server_isSubsetMatchTokenized.l0, if_pos (by omega), if_pos (by omega), if_pos (by omega), if_pos (by omega)]) ?_
      exact Ev.now _
    | cons t l =>
      simp only [List.length_cons] at hz2
      have hrl : rdOf ByteArray.empty (L.map ba) i = ba t := rdOf_mid _ (preL.map ba) (ba t) (l.map ba) (by rw [hl]; simp) (by simp; omega)
      rw [List.all_cons, Bool.and_eq_true] at tp tl
      have IH := ih l (preP ++ [p]) (preL ++ [t]) (i + 1) (by rw [hp]; simp) (by rw [hl]; simp) (by simp; omega) (by simp [he]) (fun x hx => np x (List.mem_cons_of_mem _ hx)) (fun x hx => nl x (List.mem_cons_of_mem _ hx)) tp.2 tl.2
      obtain ⟨c, p', rfl⟩ := List.exists_cons_of_ne_nil (np p List.mem_cons_self)
      obtain ⟨d, t', rfl⟩ := List.exists_cons_of_ne_nil (nl t List.mem_cons_self)
      have sp : ((ba (c :: p')).size : Int) = (p'.length : Int) + 1 := by rw [ba_size]; simp
      have st : ((ba (d :: t')).size : Int) = (t'.length : Int) + 1 := by rw [ba_size]; simp
      have bp : bt (ba (c :: p')) 0 = (c.toNat : Int) := by rw [ba_bt]; rfl
      have bd : bt (ba (d :: t')) 0 = (d.toNat : Int) := by rw [ba_bt]; rfl
      have c42 := toNat_eq (c := c) (n := 42) (by omega)
      have c62 := toNat_eq (c := c) (n := 62) (by omega)
      have d42 := toNat_eq (c := d) (n := 42) (by omega)
      have d62 := toNat_eq (c := d) (n := 62) (by omega)
      simp at c42 c62 d42 d62
      have wp : c = 42 ∨ c = 62 → p' = [] := by
        intro h
        cases p' with
        | nil => rfl
        | cons x p' => have := tp.1; simp [tameT, wildB] at this; rcases h with h | h <;> simp [h] at this
      have wt : d = 42 ∨ d = 62 → t' = [] := by
        intro h
        cases t' with
        | nil => rfl
        | cons x t' => have := tl.1; simp [tameT, wildB] at this; rcases h with h | h <;> simp [h] at this
      rw [subT]
      -- the pattern's token: is it > ?
      by_cases h1 : c = 62
      · obtain rfl := wp (Or.inr h1)
        subst h1
        rw [if_pos rfl]
        refine Ev.step (fun k => by rw [server_isSubsetMatchTokenized.l0, if_pos (by omega), if_pos (by omega), if_pos (by omega), if_neg (by omega), hrp, sp, if_neg (by omega), if_pos (by omega), bp, if_pos (by decide), beq_one]) ?_
        refine Ev.step (fun k => by rw [server_isSubsetMatchTokenized.j1, if_pos (by simp)]) ?_
        exact Ev.now _
      · rw [if_neg (by simp [h1])]
        refine Ev.step (fun k => by rw [server_isSubsetMatchTokenized.l0, if_pos (by omega), if_pos (by omega), if_pos (by omega), if_neg (by omega), hrp, sp, if_neg (by omega), if_pos (by omega), bp, if_neg (fun e => h1 (c62.1 e))]) ?_
        by_cases h2 : d = 62
        · obtain rfl := wt (Or.inr h2)
          subst h2
          rw [if_pos rfl]
          refine Ev.step (fun k => by rw [server_isSubsetMatchTokenized.j1, if_neg (by simp), if_pos (by omega), if_pos (by omega), hrl, st, if_neg (by omega), if_pos (by omega), bd, if_pos (by decide), beq_one]) ?_
          refine Ev.step (fun k => by rw [server_isSubsetMatchTokenized.j2, if_pos (by simp)]) ?_
          exact Ev.now _
        · rw [if_neg (by simp [h2])]
          refine Ev.step (fun k => by rw [server_isSubsetMatchTokenized.j1, if_neg (by simp), if_pos (by omega), if_pos (by omega), hrl, st, if_neg (by omega), if_pos (by omega), bd, if_neg (fun e => h2 (d62.1 e))]) ?_
          by_cases h3 : d = 42
          · obtain rfl := wt (Or.inl h3)
            subst h3
            refine Ev.step (fun k => by rw [server_isSubsetMatchTokenized.j2, if_neg (by simp), st, if_pos (by omega), bd, if_pos (by decide), beq_one]) ?_
            by_cases h4 : c = 42
            · obtain rfl := wp (Or.inl h4)
              subst h4
              rw [if_pos (Or.inl rfl)]
              refine Ev.step (fun k => by rw [server_isSubsetMatchTokenized.j3, if_pos (by simp), sp, if_pos (by omega), bp, if_pos (by decide), beq_one]) ?_
              refine Ev.step (fun k => by rw [server_isSubsetMatchTokenized.j4, if_pos (by simp), if_neg (by omega), hw]) ?_
              exact IH
            · rw [if_neg (by simp [h4]; intro h; exact absurd h.symm h4)]
              refine Ev.step (fun k => by rw [server_isSubsetMatchTokenized.j3, if_pos (by simp), sp, if_pos (by omega), bp, if_neg (fun e => h4 (c42.1 e))]) ?_
              refine Ev.step (fun k => by rw [server_isSubsetMatchTokenized.j4, if_neg (by simp)]) ?_
              exact Ev.now _
          · refine Ev.step (fun k => by rw [server_isSubsetMatchTokenized.j2, if_neg (by simp), st, if_pos (by omega), bd, if_neg (fun e => h3 (d42.1 e))]) ?_
            by_cases h4 : c = 42
            · obtain rfl := wp (Or.inl h4)
              subst h4
              rw [if_pos (Or.inl rfl)]
              refine Ev.step (fun k => by rw [server_isSubsetMatchTokenized.j3, if_neg (by simp), sp, if_pos (by omega), bp, if_pos (by decide), hw]) ?_
              exact IH
            · refine Ev.step (fun k => by rw [server_isSubsetMatchTokenized.j3, if_neg (by simp), sp, if_pos (by omega), bp, if_neg (fun e => h4 (c42.1 e)), strings_Compare.f, Option.bind_some, ba_data, ba_data, hw]) ?_
              by_cases h5 : (d :: t') = (c :: p')
              · rw [if_pos (Or.inr h5)]
                refine Ev.pos ((cmp_zero _ _).2 h5) IH
              · rw [if_neg (fun h => h.elim (fun h => h4 (by simp at h; exact h.1)) h5)]
                refine Ev.neg (fun e => h5 ((cmp_zero _ _).1 e)) (Ev.now _)
theorem formed_ne : ∀ (L : List (List UInt8)), formedB L = true → ∀ t ∈ L, t ≠ []
  | [], _ => by simp
  | t :: ts, h => by
    simp only [formedB, Bool.and_eq_true, decide_eq_true_eq] at h
    intro x hx
    rcases List.mem_cons.1 hx with rfl | hx
    · exact h.1.1
    · exact formed_ne ts h.2 x hx
theorem subset_ev (l p : List UInt8) (hl : l.length < 8796093022208) (hp : p.length < 8796093022208) (fl : formedB (toks l) = true) (fp : formedB (toks p) = true) (tl : (toks l).all tameT = true) (tp : (toks p).all tameT = true) :
    Ev (fun k => server_subjectIsSubsetMatch.f k (ba l) (ba p)) (subT (toks l) (toks p)) := by
  have h2 : (toks p).length ≤ 140737488351232 := by rw [toks_len]; have := List.count_le_length (a := (46 : UInt8)) (l := p); omega
  refine Ev.congr (fun k => by rw [server_subjectIsSubsetMatch.f]) ?_
  refine Ev.bind (tokenize_ev l hl) ?_
  refine Ev.congr (fun k => by rw [server_isSubsetMatch.f]) ?_
  refine Ev.bind (tokenize_ev p hp) ?_
  refine Ev.congr (fun k => by rw [server_isSubsetMatchTokenized.f]) ?_
  exact isSubset_l0 _ _ h2 (toks p) (toks l) [] [] 0 rfl rfl rfl rfl (formed_ne _ fp) (formed_ne _ fl) tp tl
theorem impl_Matches_ev (l p : List UInt8) (hl : l.length < 8796093022208) (hp : p.length < 8796093022208) (fl : formedB (toks l) = true) (fp : formedB (toks p) = true) (tl : (toks l).all tameT = true) (tp : (toks p).all tameT = true) :
    Ev (fun k => impl_Matches.f k (ba l) (ba p)) (subT (toks l) (toks p)) := by
  refine Ev.congr (fun k => by rw [impl_Matches.f, server_SubjectMatchesFilter.f]) ?_
  exact Ev.bind (Ev.bind (subset_ev l p hl hp fl fp tl tp) (Ev.now _)) (Ev.now _)

/-- Two patterns' tokens: some literal subject is matched by both. -/
def colT : List (List UInt8) → List (List UInt8) → Bool
  | [], [] => true
  | [], _ :: _ => false
  | _ :: _, [] => false
  | x :: a, y :: b => if x = [62] ∨ y = [62] then true else if x ≠ [42] ∧ y ≠ [42] ∧ x ≠ y then false else colT a b
def canM (c d : List UInt8) : Bool := decide (c = [42] ∨ d = [42] ∨ c = [62] ∨ d = [62] ∨ c = d)
def colL : List (List UInt8) → List (List UInt8) → Bool
  | [], _ => true
  | _ :: _, [] => true
  | x :: a, y :: b => canM x y && colL a b
theorem tame_head {x : UInt8} {c : List UInt8} (h : tameT (x :: c) = true) : (x = 42 ↔ x :: c = [42]) ∧ (x = 62 ↔ x :: c = [62]) := by
  simp only [tameT, Bool.or_eq_true, decide_eq_true_eq, Bool.not_eq_true'] at h
  constructor
  · constructor
    · rintro rfl
      rcases h with h | h
      · simp at h; rw [h]
      · simp [wildB] at h
    · intro e; injection e
  · constructor
    · rintro rfl
      rcases h with h | h
      · simp at h; rw [h]
      · simp [wildB] at h
    · intro e; injection e
theorem colT_comm : ∀ a b, colT a b = colT b a
  | [], [] => rfl
  | [], _ :: _ => rfl
  | _ :: _, [] => rfl
  | x :: a, y :: b => by
    unfold colT
    rw [colT_comm a b]
    by_cases h : x = [62] ∨ y = [62]
    · rw [if_pos h, if_pos h.symm]
    · rw [if_neg h, if_neg (show ¬ (y = [62] ∨ x = [62]) from fun g => h g.symm)]
      by_cases g : x ≠ [42] ∧ y ≠ [42] ∧ x ≠ y
      · rw [if_pos g, if_pos ⟨g.2.1, g.1, fun e => g.2.2 e.symm⟩]
      · rw [if_neg g, if_neg (fun q => g ⟨q.2.1, q.1, fun e => q.2.2 e.symm⟩)]
theorem colT_self : ∀ a, colT a a = true
  | [] => rfl
  | x :: a => by
    unfold colT
    rw [colT_self a, if_neg (c := x ≠ [42] ∧ x ≠ [42] ∧ x ≠ x) (fun q => q.2.2 rfl)]
    split <;> rfl
theorem colT_lit : ∀ a b, a.all litT = true → colT a b = subT a b
  | [], [], _ => rfl
  | [], _ :: _, _ => rfl
  | _ :: _, [], _ => rfl
  | x :: a, y :: b, h => by
    simp only [List.all_cons, Bool.and_eq_true] at h
    have hx := h.1
    simp only [litT, Bool.and_eq_true, decide_eq_true_eq] at hx
    unfold colT subT
    rw [colT_lit a b h.2]
    by_cases h1 : y = [62]
    · rw [if_pos (.inr h1), if_pos h1]
    · rw [if_neg (fun q => q.elim hx.2 h1), if_neg h1]
      by_cases h2 : y = [42]
      · simp [h2, hx.1, hx.2]
      · by_cases h3 : x = y
        · simp [h3, h1]
        · simp [h3, h2, hx.1, hx.2]
theorem formed_tail {x : List UInt8} {a : List (List UInt8)} (h : formedB (x :: a) = true) : formedB a = true ∧ (x = [62] → a = []) := by
  simp only [formedB, Bool.and_eq_true, Bool.or_eq_true, decide_eq_true_eq, List.isEmpty_iff] at h
  exact ⟨h.2, fun e => h.1.2.elim (fun q => absurd e q) id⟩
/-- The second one longer, the first one without the sign for all that follows. -/
theorem colT_short : ∀ a b, formedB b = true → a.contains [62] = false → a.length < b.length → colT a b = false
  | [], [], _, _, h => absurd h (Nat.lt_irrefl _)
  | [], _ :: _, _, _, _ => rfl
  | _ :: _, [], _, _, h => absurd h (by simp)
  | x :: a, y :: b, hb, ha, h => by
    simp only [List.contains_cons, Bool.or_eq_false_iff, beq_eq_false_iff_ne] at ha
    simp only [List.length_cons] at h
    obtain ⟨hb1, hb2⟩ := formed_tail hb
    have hy : y ≠ [62] := fun e => by have := hb2 e; subst this; simp at h
    unfold colT
    rw [if_neg (fun q => q.elim (fun e => ha.1 e.symm) hy), colT_short a b hb1 ha.2 (by omega)]
    split <;> rfl
theorem colT_long : ∀ a b, formedB a = true → formedB b = true → (a.length < b.length → a.contains [62] = true) → (b.length < a.length → b.contains [62] = true) → colT a b = colL a b
  | [], [], _, _, _, _ => rfl
  | [], _ :: _, _, _, h, _ => absurd (h (by simp)) (by simp)
  | _ :: _, [], _, _, _, h => absurd (h (by simp)) (by simp)
  | x :: a, y :: b, ha, hb, h1, h2 => by
    obtain ⟨ha1, ha2⟩ := formed_tail ha
    obtain ⟨hb1, hb2⟩ := formed_tail hb
    unfold colT colL
    by_cases hx : x = [62]
    · have := ha2 hx; subst this
      simp [hx, canM, colL]
    by_cases hy : y = [62]
    · have := hb2 hy; subst this
      subst hy
      cases a <;> simp [canM, colL]
    rw [if_neg (fun q => q.elim hx hy)]
    have hc1 : ([62] == x) = false := beq_eq_false_iff_ne.mpr (fun e => hx e.symm)
    have hc2 : ([62] == y) = false := beq_eq_false_iff_ne.mpr (fun e => hy e.symm)
    simp only [List.contains_cons, hc1, hc2, Bool.false_or, List.length_cons] at h1 h2
    rw [colT_long a b ha1 hb1 (fun h => h1 (by omega)) (fun h => h2 (by omega))]
    by_cases g : x ≠ [42] ∧ y ≠ [42] ∧ x ≠ y
    · rw [if_pos g]; simp [canM, g.1, g.2.1, g.2.2, hx, hy]
    · rw [if_neg g]
      have : canM x y = true := by
        unfold canM
        rw [decide_eq_true_eq]
        by_cases q1 : x = [42]
        · exact .inl q1
        by_cases q2 : y = [42]
        · exact .inr (.inl q2)
        by_cases q3 : x = y
        · exact .inr (.inr (.inr (.inr q3)))
        · exact absurd ⟨q1, q2, q3⟩ g
      rw [this, Bool.true_and]
theorem analyze_l0 (L : List (List UInt8)) (hs : L.length ≤ 140737488351232) : ∀ (rest pre : List (List UInt8)) (i : Int) (p f : Bool), L = pre ++ rest → i = (pre.length : Int) → (∀ t ∈ rest, t ≠ []) → rest.all tameT = true →
    Ev (fun k => server_analyzeTokens.l0 k p f (L.map ba) ((L.map ba).length : Int) i) (p || rest.contains [42], f || rest.contains [62]) := by
  intro rest
  induction rest with
  | nil =>
    intro pre i p f h hi _ _
    have hz : ((L.map ba).length : Int) = pre.length := by rw [h]; simp
    refine Ev.step (fun k => by rw [server_analyzeTokens.l0, if_neg (by omega)]) ?_
    exact Ev.det' (Ev.now _) (by simp)
  | cons c rest ih =>
    intro pre i p f h hi hne ht
    have hz : ((L.map ba).length : Int) = pre.length + rest.length + 1 := by rw [h]; simp; omega
    have hz2 : (L.length : Int) = pre.length + rest.length + 1 := by rw [h]; simp; omega
    have hb : rdOf ByteArray.empty (L.map ba) i = ba c := rdOf_mid _ (pre.map ba) (ba c) (rest.map ba) (by rw [h]; simp) (by simp; omega)
    have hw : wrap64 (i + 1) = i + 1 := w64 (by omega) (by omega)
    simp only [List.all_cons, Bool.and_eq_true] at ht
    have IH := fun p f => ih (pre ++ [c]) (i + 1) p f (by rw [h]; simp) (by simp; omega) (fun t q => hne t (List.mem_cons_of_mem _ q)) ht.2
    have hc := hne c List.mem_cons_self
    refine Ev.step (fun k => by rw [server_analyzeTokens.l0, if_pos (by omega), if_pos (by omega), if_pos (by omega), hb, ba_size]) ?_
    rcases c with _ | ⟨x, c⟩
    · exact absurd rfl hc
    have hh := tame_head ht.1
    refine Ev.neg (by simp; omega) ?_
    rcases c with _ | ⟨y, c⟩
    · have hb0 : bt (ba [x]) 0 = (x.toNat : Int) := bt_mid [] x [] rfl rfl
      refine Ev.step (fun k => by rw [server_analyzeTokens.j1, if_neg (by simp), ba_size, if_pos (by simp), hb0, hw]) ?_
      by_cases h42 : x = 42
      · subst h42
        refine Ev.pos (by decide) (Ev.det' (IH true f) (by simp))
      · refine Ev.neg (fun e => h42 ((toNat_eq (n := 42) (by omega)).1 e)) ?_
        by_cases h62 : x = 62
        · subst h62
          refine Ev.pos (by decide) (Ev.det' (IH p true) (by simp))
        · refine Ev.neg (fun e => h62 ((toNat_eq (n := 62) (by omega)).1 e)) (Ev.det' (IH p f) ?_)
          have e1 : ([42] == [x]) = false := beq_eq_false_iff_ne.mpr (fun e => h42 (by injection e with e; exact e.symm))
          have e2 : ([62] == [x]) = false := beq_eq_false_iff_ne.mpr (fun e => h62 (by injection e with e; exact e.symm))
          simp only [List.contains_cons, e1, e2, Bool.false_or]
    · have e0 : decide (((x :: y :: c).length : Int) > 1) = true := decide_eq_true (by simp; omega)
      refine Ev.step (fun k => by rw [server_analyzeTokens.j1, e0, if_pos rfl, hw]) ?_
      refine Ev.det' (IH p f) ?_
      have e1 : ([42] == x :: y :: c) = false := by simp
      have e2 : ([62] == x :: y :: c) = false := by simp
      simp only [List.contains_cons, e1, e2, Bool.false_or]
theorem canM_ev (c d : List UInt8) (hc : c ≠ []) (hd : d ≠ []) (tc : tameT c = true) (td : tameT d = true) : Ev (fun k => server_tokensCanMatch.f k (ba c) (ba d)) (canM c d) := by
  rcases c with _ | ⟨x, c⟩
  · exact absurd rfl hc
  rcases d with _ | ⟨y, d⟩
  · exact absurd rfl hd
  have hx := tame_head tc
  have hy := tame_head td
  have bx : bt (ba (x :: c)) 0 = (x.toNat : Int) := bt_mid [] x c rfl rfl
  have by_ : bt (ba (y :: d)) 0 = (y.toNat : Int) := bt_mid [] y d rfl rfl
  have x42 : ((x.toNat : Int) = 42) ↔ x :: c = [42] := (toNat_eq (n := 42) (by omega)).trans hx.1
  have y42 : ((y.toNat : Int) = 42) ↔ y :: d = [42] := (toNat_eq (n := 42) (by omega)).trans hy.1
  have x62 : ((x.toNat : Int) = 62) ↔ x :: c = [62] := (toNat_eq (n := 62) (by omega)).trans hx.2
  have y62 : ((y.toNat : Int) = 62) ↔ y :: d = [62] := (toNat_eq (n := 62) (by omega)).trans hy.2
  have e0 : (((ba (y :: d)).size : Int) == 0) = false := beq_eq_false_iff_ne.mpr (by rw [ba_size]; simp; omega)
  refine Ev.congr (fun k => by rw [server_tokensCanMatch.f, if_neg (by rw [ba_size]; simp; omega), e0]) ?_
  refine Ev.step (fun k => by rw [server_tokensCanMatch.j0, if_neg (by simp), if_pos (by rw [ba_size]; simp), if_pos (by rw [ba_size]; simp), bx, by_]) ?_
  unfold canM
  generalize x :: c = C at *
  generalize y :: d = D at *
  by_cases h1 : C = [42]
  · rw [if_pos (x42.2 h1)]; exact Ev.det' (Ev.now _) (by simp [h1])
  rw [if_neg (fun e => h1 (x42.1 e))]
  by_cases h2 : D = [42]
  · rw [if_pos (y42.2 h2)]; exact Ev.det' (Ev.now _) (by simp [h2])
  rw [if_neg (fun e => h2 (y42.1 e))]
  by_cases h3 : C = [62]
  · rw [if_pos (x62.2 h3)]; exact Ev.det' (Ev.now _) (by simp [h3])
  rw [if_neg (fun e => h3 (x62.1 e))]
  by_cases h4 : D = [62]
  · rw [if_pos (y62.2 h4)]; exact Ev.det' (Ev.now _) (by simp [h4])
  rw [if_neg (fun e => h4 (y62.1 e)), ba_toList, ba_toList]
  refine Ev.det' (Ev.now _) ?_
  by_cases h5 : C = D
  · simp [h5]
  · simp [h1, h2, h3, h4, h5]
theorem colLoop (A B : List (List UInt8)) (hA : A.length ≤ 140737488351232) (hB : B.length ≤ 140737488351232) : ∀ (a b preA preB : List (List UInt8)) (i : Int), A = preA ++ a → B = preB ++ b → i = (preA.length : Int) → preB.length = preA.length → (∀ t ∈ a, t ≠ []) → (∀ t ∈ b, t ≠ []) → a.all tameT = true → b.all tameT = true →
    Ev (fun k => server_SubjectsCollide.l0 k (A.map ba) (B.map ba) ((min (A.map ba).length (B.map ba).length : Nat) : Int) i) (colL a b) := by
  intro a
  induction a with
  | nil =>
    intro b preA preB i hA hB hi hp _ _ _ _
    have hz : (A.map ba).length = preA.length := by rw [hA]; simp
    refine Ev.step (fun k => by rw [server_SubjectsCollide.l0, if_neg (by omega)]) ?_
    exact Ev.det' (Ev.now _) rfl
  | cons x a ih =>
    intro b preA preB i h1 h2 hi hp na nb ta tb
    have hz : (A.map ba).length = preA.length + a.length + 1 := by rw [h1]; simp; omega
    have hzA : A.length = preA.length + a.length + 1 := by rw [h1]; simp; omega
    rcases b with _ | ⟨y, b⟩
    · have hz2 : (B.map ba).length = preB.length := by rw [h2]; simp
      refine Ev.step (fun k => by rw [server_SubjectsCollide.l0, if_neg (by omega)]) ?_
      exact Ev.det' (Ev.now _) rfl
    have hz2 : (B.map ba).length = preB.length + b.length + 1 := by rw [h2]; simp; omega
    have r1 : rdOf ByteArray.empty (A.map ba) i = ba x := rdOf_mid _ (preA.map ba) (ba x) (a.map ba) (by rw [h1]; simp) (by simp; omega)
    have r2 : rdOf ByteArray.empty (B.map ba) i = ba y := rdOf_mid _ (preB.map ba) (ba y) (b.map ba) (by rw [h2]; simp) (by simp; omega)
    have hw : wrap64 (i + 1) = i + 1 := w64 (by omega) (by omega)
    simp only [List.all_cons, Bool.and_eq_true] at ta tb
    have IH := ih b (preA ++ [x]) (preB ++ [y]) (i + 1) (by rw [h1]; simp) (by rw [h2]; simp) (by simp; omega) (by simp; omega) (fun t q => na t (List.mem_cons_of_mem _ q)) (fun t q => nb t (List.mem_cons_of_mem _ q)) ta.2 tb.2
    refine Ev.step (fun k => by rw [server_SubjectsCollide.l0, if_pos (by omega), if_pos (by omega), if_pos (by omega), if_pos (by omega), r1, r2, hw]) ?_
    refine Ev.bind (canM_ev x y (na x List.mem_cons_self) (nb y List.mem_cons_self) ta.1 tb.1) ?_
    unfold colL
    cases canM x y with
    | true => simp only [if_true, Bool.true_and]; exact IH
    | false => simp only [Bool.false_eq_true, if_false, Bool.false_and]; exact Ev.now _
theorem lit_iff (a : List (List UInt8)) : (!(a.contains [42] || a.contains [62])) = a.all litT := by
  induction a with
  | nil => rfl
  | cons x a ih =>
    rw [List.all_cons, ← ih]
    simp only [List.contains_cons, litT]
    have e1 : ([42] == x) = decide (x = [42]) := by rw [Bool.eq_iff_iff]; simp; exact eq_comm
    have e2 : ([62] == x) = decide (x = [62]) := by rw [Bool.eq_iff_iff]; simp; exact eq_comm
    rw [e1, e2]
    by_cases h1 : x = [42] <;> by_cases h2 : x = [62] <;> simp [h1, h2]
theorem toks_inj_len (l : List UInt8) (hl : l.length < 8796093022208) : (toks l).length ≤ 140737488351232 := by rw [toks_len]; have := List.count_le_length (a := (46 : UInt8)) (l := l); omega
theorem toksA_join : ∀ (l p l' p' : List UInt8), toksA p l = toksA p' l' → (∀ c ∈ p, c ≠ 46) → (∀ c ∈ p', c ≠ 46) → p ++ l = p' ++ l'
  | [], p, [], p', h, _, _ => by simpa [toksA] using h
  | [], p, c :: l', p', h, h1, h2 => by
    by_cases hc : c = 46
    · subst hc
      rw [toksA_dot] at h
      simp [toksA] at h
      exact absurd h.2 (toksA_ne _ _)
    · rw [toksA_other _ hc] at h
      have := toksA_join [] p l' (p' ++ [c]) h h1 (fun x hx => by rcases List.mem_append.1 hx with q | q; exact h2 x q; simp at q; rw [q]; exact hc)
      simpa using this
  | c :: l, p, [], p', h, h1, h2 => by
    by_cases hc : c = 46
    · subst hc
      rw [toksA_dot] at h
      simp [toksA] at h
      exact absurd h.2 (toksA_ne _ _)
    · rw [toksA_other _ hc] at h
      have := toksA_join l (p ++ [c]) [] p' h (fun x hx => by rcases List.mem_append.1 hx with q | q; exact h1 x q; simp at q; rw [q]; exact hc) h2
      simpa using this
  | c :: l, p, d :: l', p', h, h1, h2 => by
    by_cases hc : c = 46
    · subst hc
      by_cases hd : d = 46
      · subst hd
        rw [toksA_dot, toksA_dot] at h
        injection h with e1 e2
        have := toksA_join l [] l' [] e2 (by simp) (by simp)
        simp at this
        rw [e1, this]
      · rw [toksA_dot, toksA_other _ hd] at h
        have := toksA_join (46 :: l) p l' (p' ++ [d]) (by rw [toksA_dot]; exact h) h1 (fun x hx => by rcases List.mem_append.1 hx with q | q; exact h2 x q; simp at q; rw [q]; exact hd)
        simpa using this
    · rw [toksA_other _ hc] at h
      have := toksA_join l (p ++ [c]) (d :: l') p' h (fun x hx => by rcases List.mem_append.1 hx with q | q; exact h1 x q; simp at q; rw [q]; exact hc) h2
      simpa using this
termination_by l p l' p' => l.length + l'.length
theorem toks_inj {l l' : List UInt8} (h : toks l = toks l') : l = l' := by simpa using toksA_join l [] l' [] h (by simp) (by simp)
theorem tokSubset_ev (A B : List (List UInt8)) (hB : B.length ≤ 140737488351232) (na : ∀ t ∈ A, t ≠ []) (nb : ∀ t ∈ B, t ≠ []) (ta : A.all tameT = true) (tb : B.all tameT = true) : Ev (fun k => server_isSubsetMatchTokenized.f k (A.map ba) (B.map ba)) (subT A B) := by
  refine Ev.congr (fun k => by rw [server_isSubsetMatchTokenized.f]) ?_
  exact isSubset_l0 _ _ hB B A [] [] 0 rfl rfl rfl rfl nb na tb ta
theorem lit_differ : ∀ a b, a.all litT = true → b.all litT = true → a ≠ b → colT a b = false
  | [], [], _, _, h => absurd rfl h
  | [], _ :: _, _, _, _ => rfl
  | _ :: _, [], _, _, _ => rfl
  | x :: a, y :: b, h1, h2, h => by
    simp only [List.all_cons, Bool.and_eq_true] at h1 h2
    have hx := h1.1
    have hy := h2.1
    simp only [litT, Bool.and_eq_true, decide_eq_true_eq] at hx hy
    unfold colT
    rw [if_neg (fun q => q.elim hx.2 hy.2)]
    by_cases e : x = y
    · rw [lit_differ a b h1.2 h2.2 (fun q => h (by rw [e, q]))]
      split <;> rfl
    · rw [if_pos ⟨hx.1, hy.1, e⟩]
theorem Collide_ev (l p : List UInt8) (hl : l.length < 8796093022208) (hp : p.length < 8796093022208) (fl : formedB (toks l) = true) (fp : formedB (toks p) = true) (tl : (toks l).all tameT = true) (tp : (toks p).all tameT = true) :
    Ev (fun k => impl_Collide.f k (ba l) (ba p)) (colT (toks l) (toks p)) := by
  refine Ev.congr (fun k => by rw [impl_Collide.f]) ?_
  refine Ev.bind ?_ (Ev.now _)
  by_cases he : l = p
  · subst he
    refine Ev.congr (fun k => by rw [server_SubjectsCollide.f, if_pos rfl]) ?_
    exact Ev.det' (Ev.now _) (colT_self _).symm
  have hA := toks_inj_len l hl
  have hB := toks_inj_len p hp
  have na := formed_ne _ fl
  have nb := formed_ne _ fp
  refine Ev.congr (fun k => by rw [server_SubjectsCollide.f, ba_toList, ba_toList, if_neg he]) ?_
  refine Ev.bind (tokenize_ev l hl) ?_
  refine Ev.bind (tokenize_ev p hp) ?_
  have hne : toks l ≠ toks p := fun e => he (toks_inj e)
  have A1 := analyze_l0 (toks l) hA (toks l) [] 0 false false rfl rfl na tl
  have A2 := analyze_l0 (toks p) hB (toks p) [] 0 false false rfl rfl nb tp
  refine Ev.bind (Ev.congr (fun k => by rw [server_analyzeTokens.f]) A1) ?_
  refine Ev.bind (Ev.congr (fun k => by rw [server_analyzeTokens.f]) A2) ?_
  simp only [Bool.false_or]
  have LA := lit_iff (toks l)
  have LB := lit_iff (toks p)
  have S1 := tokSubset_ev (toks l) (toks p) hB na nb tl tp
  have S2 := tokSubset_ev (toks p) (toks l) hA nb na tp tl
  have C := colLoop (toks l) (toks p) hA hB (toks l) (toks p) [] [] 0 rfl rfl rfl rfl na nb tl tp
  have hl1 := fun h => colT_short (toks l) (toks p) fp h
  have hl2 := fun h => colT_short (toks p) (toks l) fl h
  have hl3 := colT_long (toks l) (toks p) fl fp
  have L1 := colT_lit (toks l) (toks p)
  have L2 := colT_lit (toks p) (toks l)
  have hself : (toks l).all litT = true → (toks p).all litT = true → colT (toks l) (toks p) = false := by
    intro h1 h2
    exact lit_differ _ _ h1 h2 hne
  unfold server_SubjectsCollide.tail
  simp only [List.length_map]
  simp only [List.length_map] at C
  generalize toks l = A at *
  generalize toks p = B at *
  rw [LA, LB]
  by_cases a1 : A.all litT = true
  · by_cases a2 : B.all litT = true
    · rw [a1, a2]
      exact Ev.det' (Ev.now _) (hself a1 a2).symm
    · rw [a1, eq_false_of_ne_true a2]
      simp only [Bool.and_false, Bool.false_eq_true, if_false, if_true]
      exact Ev.det' S1 (L1 a1).symm
  · rw [eq_false_of_ne_true a1]
    simp only [Bool.false_and, Bool.false_eq_true, if_false]
    by_cases a2 : B.all litT = true
    · rw [a2]
      simp only [if_true]
      exact Ev.det' S2 ((L2 a2).symm.trans (colT_comm _ _))
    · rw [eq_false_of_ne_true a2]
      simp only [Bool.false_eq_true, if_false]
      cases f1 : A.contains [62] <;> cases f2 : B.contains [62]
      all_goals simp only [Bool.not_false, Bool.not_true, Bool.and_true, Bool.true_and, Bool.and_false, Bool.false_and, Bool.false_eq_true, if_false, Bool.or_false, Bool.false_or, decide_eq_true_eq, Bool.or_eq_true]
      · rcases Nat.lt_trichotomy A.length B.length with d | d | d
        · exact Ev.pos (by omega) (Ev.det' (Ev.now _) (hl1 f1 d).symm)
        · exact Ev.neg (by omega) (Ev.neg (by omega) (Ev.det' C (hl3 (by omega) (by omega)).symm))
        · exact Ev.pos (by omega) (Ev.det' (Ev.now _) ((colT_comm _ _).trans (hl2 f2 d)).symm)
      · by_cases d : A.length < B.length
        · exact Ev.pos d (Ev.det' (Ev.now _) (hl1 f1 d).symm)
        · exact Ev.neg d (Ev.det' C (hl3 (by omega) (fun _ => f2)).symm)
      · by_cases d : B.length < A.length
        · exact Ev.pos d (Ev.det' (Ev.now _) ((colT_comm _ _).trans (hl2 f2 d)).symm)
        · exact Ev.neg d (Ev.det' C (hl3 (fun _ => f1) (by omega)).symm)
      · exact Ev.det' C (hl3 (fun _ => f1) (fun _ => f2)).symm

end Go.Proofs.Ytgbdjinanflhaaa.PlFnCollideMeans
