/- What the printed functions of FnMatchLiteral come to, as plain functions on lists. -/
import Derived.Test.YtgbdjinanflhaaaPlTok
import Derived.Test.YtgbdjinanflhaaaQFnMatchLiteralx4
namespace Go.Proofs.Ytgbdjinanflhaaa.PlFnMatchLiteral
open Go.RowKit Go.Proofs.YtgbdjinanflhaaaW.PrintWords Go.Proofs.YtgbdjinanflhaaaW.PrintLast Go.Proofs.YtgbdjinanflhaaaW.PrintMore Go.Proofs.Ytgbdjinanflhaaa.Pl Go.Proofs.Ytgbdjinanflhaaa.PFnMatchLiteral
set_option linter.unusedVariables false
set_option linter.unusedSimpArgs false

theorem Tokens_l0 (s : ByteArray) (hs : s.size < 8796093022208) : ∀ (rest pre p : List UInt8) (out : List ByteArray) (fr i : Int), s = ba (pre ++ p ++ rest) → fr = (pre.length : Int) → i = (pre.length : Int) + p.length → out.length ≤ pre.length →
    Ev (fun k => spec_Tokens.l0 k s out fr i) (out ++ (toksA p rest).map ba) := by
  intro rest
  induction rest with
  | nil =>
    intro pre p out fr i h hf hi ho
    have hz : (s.size : Int) = pre.length + p.length := by rw [h, ba_size]; simp
    have he : s.extract fr.toNat s.size = ba p := ext_end pre p (by rw [h, List.append_nil]) hf
    refine Ev.step (fun k => by rw [spec_Tokens.l0, if_neg (by omega), if_pos (by omega), if_pos (by omega), if_pos (by omega), he]) ?_
    exact Ev.now _
  | cons c rest ih =>
    intro pre p out fr i h hf hi ho
    have hz : (s.size : Int) = pre.length + p.length + rest.length + 1 := by rw [h, ba_size]; simp; omega
    have hb : bt s i = (c.toNat : Int) := bt_mid (pre ++ p) c rest h (by simp; omega)
    have hw : wrap64 (i + 1) = i + 1 := w64 (by omega) (by omega)
    have he : s.extract fr.toNat i.toNat = ba p := ext_mid pre p (c :: rest) h hf hi
    by_cases hc : c = 46
    · subst hc
      refine Ev.step (fun k => by rw [spec_Tokens.l0, if_pos (by omega), if_pos (by omega), hb, if_pos (by decide), if_pos (by omega), if_pos (by omega), if_pos (by omega), if_pos (by omega), he, hw]) ?_
      refine Ev.det' (ih (pre ++ p ++ [46]) [] (out ++ [ba p]) (i + 1) (i + 1) (by rw [h]; simp) (by simp; omega) (by simp; omega) (by simp; omega)) ?_
      rw [toksA_dot]; simp
    · have hne : ¬ ((c.toNat : Int) = 46) := fun e => hc ((toNat_eq (n := 46) (by omega)).1 e)
      refine Ev.step (fun k => by rw [spec_Tokens.l0, if_pos (by omega), if_pos (by omega), hb, if_neg hne, hw]) ?_
      refine Ev.det' (ih pre (p ++ [c]) out fr (i + 1) (by rw [h]; simp) hf (by simp; omega) ho) ?_
      rw [toksA_other _ hc]
theorem Tokens_ev (l : List UInt8) (hs : l.length < 8796093022208) : Ev (fun k => spec_Tokens.f k (ba l)) ((toks l).map ba) := by
  have := Tokens_l0 (ba l) hs l [] [] [] 0 0 (by simp) (by simp) (by simp) (by simp)
  exact this

def cleanB (c : UInt8) : Bool := decide (32 < c) && decide (c ≠ 127)
theorem clean_l0 (s : ByteArray) (hs : s.size ≤ 140737488351232) : ∀ (rest pre : List UInt8) (i : Int), s = ba (pre ++ rest) → i = (pre.length : Int) →
    ∃ b, Ev (fun k => laws_clean.l0 k s i) b ∧ (b = true ↔ s.size ≤ 400 ∧ rest.all cleanB = true) := by
  intro rest
  induction rest with
  | nil =>
    intro pre i h hi
    have hz : (s.size : Int) = pre.length := by rw [h, ba_size]; simp
    refine ⟨decide ((s.size : Int) ≤ 400), ?_, by simp; omega⟩
    refine Ev.step (fun k => by rw [laws_clean.l0, if_neg (by omega)]) ?_
    refine Ev.step (fun k => by rw [laws_clean.j1, if_neg (by simp)]) ?_
    exact Ev.now _
  | cons c rest ih =>
    intro pre i h hi
    have hz : (s.size : Int) = pre.length + rest.length + 1 := by rw [h, ba_size]; simp; omega
    have hb : bt s i = (c.toNat : Int) := bt_mid pre c rest h hi
    have hw : wrap64 (i + 1) = i + 1 := w64 (by omega) (by omega)
    by_cases h4 : i ≤ 400
    · by_cases hc : cleanB c = true
      · obtain ⟨b, hev, hiff⟩ := ih (pre ++ [c]) (i + 1) (by rw [h]; simp) (by simp; omega)
        refine ⟨b, ?_, by rw [hiff, List.all_cons, hc, Bool.true_and]⟩
        simp only [cleanB, Bool.and_eq_true, decide_eq_true_eq, UInt8.lt_iff_toNat_lt, ne_eq, ← UInt8.toNat_inj] at hc
        simp at hc
        refine Ev.step (fun k => by rw [laws_clean.l0, if_pos (by omega)]) ?_
        refine Ev.step (fun k => by rw [laws_clean.j1, if_pos (by simp; omega), if_pos (by omega), if_pos (by omega), hb, if_neg (by omega), if_neg (by omega), hw]) ?_
        exact hev
      · refine ⟨false, ?_, by rw [List.all_cons]; simp [hc]⟩
        simp only [cleanB, Bool.and_eq_true, decide_eq_true_eq, UInt8.lt_iff_toNat_lt, ne_eq, ← UInt8.toNat_inj] at hc
        simp at hc
        refine Ev.step (fun k => by rw [laws_clean.l0, if_pos (by omega)]) ?_
        by_cases h32 : (c.toNat : Int) ≤ 32
        · refine Ev.step (fun k => by rw [laws_clean.j1, if_pos (by simp; omega), if_pos (by omega), if_pos (by omega), hb, if_pos h32]) ?_
          exact Ev.now _
        · refine Ev.step (fun k => by rw [laws_clean.j1, if_pos (by simp; omega), if_pos (by omega), if_pos (by omega), hb, if_neg h32, if_pos (by omega)]) ?_
          exact Ev.now _
    · refine ⟨false, ?_, ⟨fun e => (by cases e), fun e => by omega⟩⟩
      refine Ev.step (fun k => by rw [laws_clean.l0, if_pos (by omega)]) ?_
      refine Ev.step (fun k => by rw [laws_clean.j1, if_neg (by simp; omega)]) ?_
      refine Ev.const ?_
      rw [decide_eq_false (by omega)]
theorem clean_ev (l : List UInt8) (hs : l.length ≤ 140737488351232) : ∃ b, Ev (fun k => laws_clean.f k (ba l)) b ∧ (b = true ↔ l.length ≤ 400 ∧ l.all cleanB = true) := by
  have := clean_l0 (ba l) hs l [] 0 (by simp) (by simp)
  exact this

def blankB (c : UInt8) : Bool := decide (c = 32) || decide (c = 9) || decide (c = 10) || decide (c = 13) || decide (c = 12)
theorem Blank_eq (c : UInt8) : spec_Blank.f (c.toNat : Int) = some (blankB c) := by
  unfold spec_Blank.f
  have e32 := toNat_eq (c := c) (n := 32) (by omega)
  have e9 := toNat_eq (c := c) (n := 9) (by omega)
  have e10 := toNat_eq (c := c) (n := 10) (by omega)
  have e13 := toNat_eq (c := c) (n := 13) (by omega)
  have e12 := toNat_eq (c := c) (n := 12) (by omega)
  simp at e32 e9 e10 e13 e12
  unfold blankB
  by_cases h32 : c = 32
  · subst h32; rfl
  rw [if_neg (by rw [e32]; exact h32)]
  by_cases h9 : c = 9
  · subst h9; rfl
  rw [if_neg (by rw [e9]; exact h9)]
  by_cases h10 : c = 10
  · subst h10; rfl
  rw [if_neg (by rw [e10]; exact h10)]
  by_cases h13 : c = 13
  · subst h13; rfl
  rw [if_neg (by rw [e13]; exact h13)]
  simp [h32, h9, h10, h13]
  rw [Bool.eq_iff_iff]
  simp
  exact e12

theorem Spaced_l0 (s : ByteArray) (hs : s.size ≤ 140737488351232) : ∀ (rest pre : List UInt8) (i : Int), s = ba (pre ++ rest) → i = (pre.length : Int) →
    Ev (fun k => spec_Spaced.l0 k s i) (rest.any blankB) := by
  intro rest
  induction rest with
  | nil =>
    intro pre i h hi
    have hz : (s.size : Int) = pre.length := by rw [h, ba_size]; simp
    refine Ev.step (fun k => by rw [spec_Spaced.l0, if_neg (by omega)]) ?_
    exact Ev.now _
  | cons c rest ih =>
    intro pre i h hi
    have hz : (s.size : Int) = pre.length + rest.length + 1 := by rw [h, ba_size]; simp; omega
    have hb : bt s i = (c.toNat : Int) := bt_mid pre c rest h hi
    have hw : wrap64 (i + 1) = i + 1 := w64 (by omega) (by omega)
    refine Ev.step (fun k => by rw [spec_Spaced.l0, if_pos (by omega), if_pos (by omega), hb, Blank_eq, Option.bind_some, hw]) ?_
    rw [List.any_cons]
    cases hc : blankB c with
    | true => simp only [if_true, Bool.true_or]; exact Ev.now _
    | false =>
      simp only [Bool.false_eq_true, if_false, Bool.false_or]
      exact ih (pre ++ [c]) (i + 1) (by rw [h]; simp) (by simp; omega)
theorem Spaced_ev (l : List UInt8) (hs : l.length ≤ 140737488351232) : Ev (fun k => spec_Spaced.f k (ba l)) (l.any blankB) := by
  have := Spaced_l0 (ba l) hs l [] 0 (by simp) (by simp)
  exact this

/-- No token is empty, and > stands last alone. -/
def formedB : List (List UInt8) → Bool
  | [] => true
  | t :: ts => decide (t ≠ []) && (decide (t ≠ [62]) || ts.isEmpty) && formedB ts
theorem Formed_l0 (L : List (List UInt8)) (hs : L.length ≤ 140737488351232) : ∀ (rest pre : List (List UInt8)) (i : Int), L = pre ++ rest → i = (pre.length : Int) →
    Ev (fun k => spec_Formed.l0 k (L.map ba) i) (formedB rest) := by
  intro rest
  induction rest with
  | nil =>
    intro pre i h hi
    have hz : ((L.map ba).length : Int) = pre.length := by rw [h]; simp
    refine Ev.step (fun k => by rw [spec_Formed.l0, if_neg (by omega)]) ?_
    exact Ev.now _
  | cons c rest ih =>
    intro pre i h hi
    have hz : ((L.map ba).length : Int) = pre.length + rest.length + 1 := by rw [h]; simp; omega
    have hz2 : (L.length : Int) = pre.length + rest.length + 1 := by rw [h]; simp; omega
    have hb : rdOf ByteArray.empty (L.map ba) i = ba c := rdOf_mid _ (pre.map ba) (ba c) (rest.map ba) (by rw [h]; simp) (by simp; omega)
    have hw : wrap64 (i + 1) = i + 1 := w64 (by omega) (by omega)
    have IH := ih (pre ++ [c]) (i + 1) (by rw [h]; simp) (by simp; omega)
    rw [formedB]
    by_cases h0 : c = []
    · subst h0
      refine Ev.step (fun k => by rw [spec_Formed.l0, if_pos (by omega), if_pos (by omega), hb, ba_toList, if_pos rfl]) ?_
      exact Ev.now _
    by_cases h1 : c = [62]
    · subst h1
      cases rest with
      | nil =>
        refine Ev.step (fun k => by rw [spec_Formed.l0, if_pos (by omega), if_pos (by omega), hb, ba_toList, if_neg h0, if_pos rfl, hw, if_neg (by simp at hz ⊢; omega)]) ?_
        exact IH
      | cons d rest =>
        refine Ev.step (fun k => by rw [spec_Formed.l0, if_pos (by omega), if_pos (by omega), hb, ba_toList, if_neg h0, if_pos rfl, hw, if_pos (by simp at hz ⊢; omega)]) ?_
        exact Ev.now _
    · refine Ev.step (fun k => by rw [spec_Formed.l0, if_pos (by omega), if_pos (by omega), hb, ba_toList, if_neg h0, if_neg h1, hw]) ?_
      refine Ev.det' IH ?_
      simp [h0, h1]
theorem Formed_ev (L : List (List UInt8)) (hs : L.length ≤ 140737488351232) : Ev (fun k => spec_Formed.f k (L.map ba)) (formedB L) :=
  Formed_l0 L hs L [] 0 (by simp) (by simp)

def validB (l : List UInt8) : Bool := formedB (toks l) && !l.any blankB
theorem Valid_ev (l : List UInt8) (hs : l.length < 8796093022208) : Ev (fun k => spec_Valid.f k (ba l)) (validB l) := by
  have ht : (toks l).length ≤ 140737488351232 := by rw [toks_len]; have := List.count_le_length (a := (46 : UInt8)) (l := l); omega
  refine Ev.congr (fun k => by rw [spec_Valid.f]) ?_
  refine Ev.bind (Tokens_ev l hs) ?_
  refine Ev.bind (Formed_ev _ ht) ?_
  unfold validB
  cases formedB (toks l) with
  | true =>
    simp only [if_true, Bool.true_and]
    refine Ev.bind (Spaced_ev l (by omega)) ?_
    exact Ev.now _
  | false => simp only [Bool.false_eq_true, if_false, Bool.false_and]; exact Ev.now _

def wildB (c : UInt8) : Bool := decide (c = 42) || decide (c = 62)
def tameT (t : List UInt8) : Bool := decide (t.length ≤ 1) || !t.any wildB
theorem tame_l0 (L : List (List UInt8)) (hL : L.length ≤ 140737488351232) (hs : ∀ t ∈ L, t.length ≤ 140737488351232) : ∀ (rest pre : List (List UInt8)) (i : Int), L = pre ++ rest → i = (pre.length : Int) →
    Ev (fun k => laws_tame.l0 k (L.map ba) i) (rest.all tameT) := by
  intro rest
  induction rest with
  | nil =>
    intro pre i h hi
    have hz : ((L.map ba).length : Int) = pre.length := by rw [h]; simp
    refine Ev.step (fun k => by rw [laws_tame.l0, if_neg (by omega)]) ?_
    exact Ev.now _
  | cons t rest ih =>
    intro pre i h hi
    have hz : ((L.map ba).length : Int) = pre.length + rest.length + 1 := by rw [h]; simp; omega
    have hz2 : (L.length : Int) = pre.length + rest.length + 1 := by rw [h]; simp; omega
    have hrd : rdOf ByteArray.empty (L.map ba) i = ba t := rdOf_mid _ (pre.map ba) (ba t) (rest.map ba) (by rw [h]; simp) (by simp; omega)
    have hw : wrap64 (i + 1) = i + 1 := w64 (by omega) (by omega)
    have IH := ih (pre ++ [t]) (i + 1) (by rw [h]; simp) (by simp; omega)
    have ht := hs t (by rw [h]; simp)
    rw [List.all_cons]
    refine Ev.step (fun k => by rw [laws_tame.l0, if_pos (by omega)]) ?_
    by_cases h1 : t.length ≤ 1
    · have e : tameT t = true := by simp [tameT, h1]
      rw [e, Bool.true_and]
      by_cases h0 : (0 : Int) < ((ba t).size : Int)
      · refine Ev.step (fun k => by rw [laws_tame.l1, if_pos (by omega), if_pos (by omega), hrd, if_pos h0, ba_size, decide_eq_false (by omega)]) ?_
        refine Ev.step (fun k => by rw [laws_tame.j2, if_neg (by simp), hw]) ?_
        exact IH
      · refine Ev.step (fun k => by rw [laws_tame.l1, if_pos (by omega), if_pos (by omega), hrd, if_neg h0]) ?_
        refine Ev.step (fun k => by rw [laws_tame.j2, if_neg (by simp), hw]) ?_
        exact IH
    · have inner : ∀ (tr tp : List UInt8) (j : Int), t = tp ++ tr → j = (tp.length : Int) → Ev (fun k => laws_tame.l1 k (L.map ba) i j) (!tr.any wildB && rest.all tameT) := by
        intro tr
        induction tr with
        | nil =>
          intro tp j htp hj
          have htz : ((ba t).size : Int) = tp.length := by rw [ba_size, htp]; simp
          refine Ev.step (fun k => by rw [laws_tame.l1, if_pos (by omega), if_pos (by omega), hrd, if_neg (by omega)]) ?_
          refine Ev.step (fun k => by rw [laws_tame.j2, if_neg (by simp), hw]) ?_
          exact IH
        | cons c tr ihi =>
          intro tp j htp hj
          have htz : ((ba t).size : Int) = tp.length + tr.length + 1 := by rw [ba_size, htp]; simp; omega
          have htz2 : (t.length : Int) = tp.length + tr.length + 1 := by rw [htp]; simp; omega
          have hb : bt (ba t) j = (c.toNat : Int) := bt_mid tp c tr (by rw [htp]) hj
          have hwj : wrap64 (j + 1) = j + 1 := w64 (by omega) (by omega)
          have e42 := toNat_eq (c := c) (n := 42) (by omega)
          have e62 := toNat_eq (c := c) (n := 62) (by omega)
          simp at e42 e62
          refine Ev.step (fun k => by rw [laws_tame.l1, if_pos (by omega), if_pos (by omega), hrd, if_pos (by omega), decide_eq_true (by omega)]) ?_
          rw [List.any_cons]
          by_cases h42 : c = 42
          · refine Ev.step (fun k => by rw [laws_tame.j2, if_pos rfl, if_pos (by omega), if_pos (by omega), hrd, if_pos (by omega), if_pos (by omega), hb, if_pos (e42.2 h42)]) ?_
            exact Ev.const (by simp [wildB, h42])
          by_cases h62 : c = 62
          · refine Ev.step (fun k => by rw [laws_tame.j2, if_pos rfl, if_pos (by omega), if_pos (by omega), hrd, if_pos (by omega), if_pos (by omega), hb, if_neg (fun e => h42 (e42.1 e)), if_pos (e62.2 h62)]) ?_
            exact Ev.const (by simp [wildB, h62])
          · refine Ev.step (fun k => by rw [laws_tame.j2, if_pos rfl, if_pos (by omega), if_pos (by omega), hrd, if_pos (by omega), if_pos (by omega), hb, if_neg (fun e => h42 (e42.1 e)), if_neg (fun e => h62 (e62.1 e)), hwj]) ?_
            refine Ev.det' (ihi (tp ++ [c]) (j + 1) (by rw [htp]; simp) (by simp; omega)) ?_
            simp [wildB, h42, h62]
      refine Ev.det' (inner t [] 0 (by simp) (by simp)) ?_
      simp [tameT, h1]
theorem tame_ev (l : List UInt8) (hs : l.length < 8796093022208) : Ev (fun k => laws_tame.f k (ba l)) ((toks l).all tameT) := by
  have ht : (toks l).length ≤ 140737488351232 := by rw [toks_len]; have := List.count_le_length (a := (46 : UInt8)) (l := l); omega
  refine Ev.congr (fun k => by rw [laws_tame.f]) ?_
  refine Ev.bind (Tokens_ev l hs) ?_
  exact tame_l0 (toks l) ht (fun t h => by have := toks_short l t h; omega) (toks l) [] 0 (by simp) (by simp)

theorem valid_ev (l : List UInt8) (hs : l.length < 8796093022208) : ∃ b, Ev (fun k => laws_valid.f k (ba l)) b ∧ (b = true ↔ (l.length ≤ 400 ∧ l.all cleanB = true) ∧ validB l = true ∧ (toks l).all tameT = true) := by
  obtain ⟨b, hb, hiff⟩ := clean_ev l (by omega)
  cases b with
  | false =>
    refine ⟨false, ?_, ?_⟩
    · refine Ev.congr (fun k => by rw [laws_valid.f]) ?_
      refine Ev.bind hb ?_
      simp only [Bool.false_eq_true, if_false]
      exact Ev.now _
    · simp only [Bool.false_eq_true, false_iff] at hiff ⊢
      exact fun h => hiff h.1
  | true =>
    refine ⟨validB l && (toks l).all tameT, ?_, ?_⟩
    · refine Ev.congr (fun k => by rw [laws_valid.f]) ?_
      refine Ev.bind hb ?_
      simp only [if_true]
      refine Ev.bind (Valid_ev l hs) ?_
      cases validB l with
      | true =>
        simp only [if_true, Bool.true_and]
        refine Ev.bind (tame_ev l hs) ?_
        exact Ev.now _
      | false => simp only [Bool.false_eq_true, if_false, Bool.false_and]; exact Ev.now _
    · rw [Bool.and_eq_true]
      exact ⟨fun h => ⟨hiff.1 rfl, h⟩, fun h => h.2⟩

/-- No token is a wildcard. -/
def litT (t : List UInt8) : Bool := decide (t ≠ [42]) && decide (t ≠ [62])
theorem spec_Literal_l0 (L : List (List UInt8)) (hs : L.length ≤ 140737488351232) : ∀ (rest pre : List (List UInt8)) (i : Int), L = pre ++ rest → i = (pre.length : Int) →
    Ev (fun k => spec_Literal.l0 k (L.map ba) i) (rest.all litT) := by
  intro rest
  induction rest with
  | nil =>
    intro pre i h hi
    have hz : ((L.map ba).length : Int) = pre.length := by rw [h]; simp
    refine Ev.step (fun k => by rw [spec_Literal.l0, if_neg (by omega)]) ?_
    exact Ev.now _
  | cons c rest ih =>
    intro pre i h hi
    have hz : ((L.map ba).length : Int) = pre.length + rest.length + 1 := by rw [h]; simp; omega
    have hz2 : (L.length : Int) = pre.length + rest.length + 1 := by rw [h]; simp; omega
    have hb : rdOf ByteArray.empty (L.map ba) i = ba c := rdOf_mid _ (pre.map ba) (ba c) (rest.map ba) (by rw [h]; simp) (by simp; omega)
    have hw : wrap64 (i + 1) = i + 1 := w64 (by omega) (by omega)
    have IH := ih (pre ++ [c]) (i + 1) (by rw [h]; simp) (by simp; omega)
    by_cases h0 : c = [42]
    · refine Ev.step (fun k => by rw [spec_Literal.l0, if_pos (by omega), if_pos (by omega), hb, ba_toList, if_pos h0]) ?_
      exact Ev.const (by simp [litT, h0])
    by_cases h1 : c = [62]
    · refine Ev.step (fun k => by rw [spec_Literal.l0, if_pos (by omega), if_pos (by omega), hb, ba_toList, if_neg h0, if_pos h1]) ?_
      exact Ev.const (by simp [litT, h1])
    · refine Ev.step (fun k => by rw [spec_Literal.l0, if_pos (by omega), if_pos (by omega), hb, ba_toList, if_neg h0, if_neg h1, hw]) ?_
      refine Ev.det' IH ?_
      simp [litT, h0, h1]
theorem spec_Literal_ev (l : List UInt8) (hs : l.length < 8796093022208) : Ev (fun k => spec_Literal.f k (ba l)) ((toks l).all litT) := by
  have ht : (toks l).length ≤ 140737488351232 := by rw [toks_len]; have := List.count_le_length (a := (46 : UInt8)) (l := l); omega
  refine Ev.congr (fun k => by rw [spec_Literal.f]) ?_
  refine Ev.bind (Tokens_ev l hs) ?_
  exact spec_Literal_l0 (toks l) ht (toks l) [] 0 rfl rfl

theorem plain_ev (l : List UInt8) (hs : l.length < 8796093022208) : ∃ b, Ev (fun k => laws_plain.f k (ba l)) b ∧ (b = true ↔ ((l.length ≤ 400 ∧ l.all cleanB = true) ∧ validB l = true ∧ (toks l).all tameT = true) ∧ (toks l).all litT = true) := by
  obtain ⟨b, hb, hiff⟩ := valid_ev l hs
  cases b with
  | false =>
    refine ⟨false, ?_, ?_⟩
    · refine Ev.congr (fun k => by rw [laws_plain.f]) ?_
      refine Ev.bind hb ?_
      simp only [Bool.false_eq_true, if_false]
      exact Ev.now _
    · simp only [Bool.false_eq_true, false_iff] at hiff ⊢
      exact fun h => hiff h.1
  | true =>
    refine ⟨(toks l).all litT, ?_, ?_⟩
    · refine Ev.congr (fun k => by rw [laws_plain.f]) ?_
      refine Ev.bind hb ?_
      simp only [if_true]
      refine Ev.bind (spec_Literal_ev l hs) ?_
      exact Ev.now _
    · exact ⟨fun h => ⟨hiff.1 rfl, h⟩, fun h => h.2⟩

/-- Tokens without wildcards are matched by a pattern's. -/
def matchT : List (List UInt8) → List (List UInt8) → Bool
  | [], [] => true
  | _ :: _, [] => false
  | [], _ :: _ => false
  | t :: l, p :: ps => if p = [62] then true else if p = [42] ∨ p = t then matchT l ps else false
theorem toksA_head : ∀ (l p : List UInt8), ∃ q r, toksA p l = (p ++ q) :: r
  | [], p => ⟨[], [], by simp [toksA]⟩
  | c :: l, p => by
    by_cases h : c = 46
    · subst h; exact ⟨[], toksA [] l, by rw [toksA_dot]; simp⟩
    · obtain ⟨q, r, e⟩ := toksA_head l (p ++ [c]); exact ⟨c :: q, r, by rw [toksA_other p h, e]; simp⟩
theorem toksA_ne (p l : List UInt8) : toksA p l ≠ [] := by obtain ⟨q, r, e⟩ := toksA_head l p; rw [e]; simp
theorem matchT_false {t p : List UInt8} {l ps : List (List UInt8)} (h1 : p ≠ [62]) (h2 : p ≠ [42]) (h3 : p ≠ t) : matchT (t :: l) (p :: ps) = false := by
  rw [matchT, if_neg h1, if_neg (by simp [h2, h3])]
theorem matchT_same {t : List UInt8} {l ps : List (List UInt8)} (h1 : t ≠ [62]) : matchT (t :: l) (t :: ps) = matchT l ps := by
  rw [matchT, if_neg h1, if_pos (Or.inr rfl)]
theorem spec_matches_l0 (L P : List (List UInt8)) (hP : P.length ≤ 140737488351232) : ∀ (p l preP preL : List (List UInt8)) (i : Int), P = preP ++ p → L = preL ++ l → i = (preP.length : Int) → preL.length = preP.length →
    Ev (fun k => spec_matches.l0 k (L.map ba) (P.map ba) i) (matchT l p) := by
  intro p
  induction p with
  | nil =>
    intro l preP preL i hp hl hi he
    have hz : ((P.map ba).length : Int) = preP.length := by rw [hp]; simp
    have hz2 : ((L.map ba).length : Int) = preL.length + l.length := by rw [hl]; simp
    refine Ev.step (fun k => by rw [spec_matches.l0, if_neg (by omega)]) ?_
    refine Ev.const ?_
    cases l with
    | nil => simp only [matchT]; congr 1; rw [beq_iff_eq]; simp only [List.length_nil] at hz2; omega
    | cons t l => simp only [matchT]; congr 1; rw [beq_eq_false_iff_ne]; simp only [List.length_cons] at hz2; omega
  | cons p ps ih =>
    intro l preP preL i hp hl hi he
    have hz : ((P.map ba).length : Int) = preP.length + ps.length + 1 := by rw [hp]; simp; omega
    have hz3 : (P.length : Int) = preP.length + ps.length + 1 := by rw [hp]; simp; omega
    have hz2 : ((L.map ba).length : Int) = preL.length + l.length := by rw [hl]; simp
    have hrp : rdOf ByteArray.empty (P.map ba) i = ba p := rdOf_mid _ (preP.map ba) (ba p) (ps.map ba) (by rw [hp]; simp) (by simp; omega)
    have hw : wrap64 (i + 1) = i + 1 := w64 (by omega) (by omega)
    cases l with
    | nil =>
      simp only [List.length_nil] at hz2
      refine Ev.step (fun k => by rw [spec_matches.l0, if_pos (by omega), if_pos (by omega)]) ?_
      exact Ev.now _
    | cons t l =>
      simp only [List.length_cons] at hz2
      have hrl : rdOf ByteArray.empty (L.map ba) i = ba t := rdOf_mid _ (preL.map ba) (ba t) (l.map ba) (by rw [hl]; simp) (by simp; omega)
      have IH := ih l (preP ++ [p]) (preL ++ [t]) (i + 1) (by rw [hp]; simp) (by rw [hl]; simp) (by simp; omega) (by simp [he])
      rw [matchT]
      by_cases h1 : p = [62]
      · rw [if_pos h1]
        refine Ev.step (fun k => by rw [spec_matches.l0, if_pos (by omega), if_neg (by omega), if_pos (by omega), hrp, ba_toList, if_pos h1]) ?_
        exact Ev.now _
      rw [if_neg h1]
      by_cases h2 : p = [42]
      · rw [if_pos (Or.inl h2)]
        refine Ev.step (fun k => by rw [spec_matches.l0, if_pos (by omega), if_neg (by omega), if_pos (by omega), hrp, ba_toList, if_neg h1, if_pos h2, hw]) ?_
        exact IH
      by_cases h3 : p = t
      · rw [if_pos (Or.inr h3)]
        refine Ev.step (fun k => by rw [spec_matches.l0, if_pos (by omega), if_neg (by omega), if_pos (by omega), hrp, ba_toList, if_neg h1, if_neg h2, if_pos (by omega), hrl, ba_toList, if_pos h3, hw]) ?_
        exact IH
      · rw [if_neg (by simp [h2, h3])]
        refine Ev.step (fun k => by rw [spec_matches.l0, if_pos (by omega), if_neg (by omega), if_pos (by omega), hrp, ba_toList, if_neg h1, if_neg h2, if_pos (by omega), hrl, ba_toList, if_neg h3]) ?_
        exact Ev.now _
theorem spec_Match_ev (l p : List UInt8) (hl : l.length < 8796093022208) (hp : p.length < 8796093022208) : Ev (fun k => spec_Match.f k (ba l) (ba p)) (matchT (toks l) (toks p)) := by
  have h2 : (toks p).length ≤ 140737488351232 := by rw [toks_len]; have := List.count_le_length (a := (46 : UInt8)) (l := p); omega
  refine Ev.congr (fun k => by rw [spec_Match.f]) ?_
  refine Ev.bind (Tokens_ev l hl) ?_
  refine Ev.bind (Tokens_ev p hp) ?_
  refine Ev.bind (spec_matches_l0 _ _ h2 (toks p) (toks l) [] [] 0 rfl rfl rfl rfl) ?_
  exact Ev.now _
/-- Behind the last token *: is there no further point? -/
theorem matchLiteral_l1 (L : ByteArray) (hL : L.size ≤ 140737488351232) : ∀ (rest pre : List UInt8) (i : Int), L = ba (pre ++ rest) → i = (pre.length : Int) →
    Ev (fun k => server_matchLiteral.l1 k L i (L.size : Int)) (decide (rest.count 46 = 0)) := by
  intro rest
  induction rest with
  | nil =>
    intro pre i h hi
    have hz : (L.size : Int) = pre.length := by rw [h, ba_size]; simp
    refine Ev.step (fun k => by rw [server_matchLiteral.l1, if_pos (by omega)]) ?_
    exact Ev.const (by simp)
  | cons c rest ih =>
    intro pre i h hi
    have hz : (L.size : Int) = pre.length + rest.length + 1 := by rw [h, ba_size]; simp; omega
    have hb : bt L i = (c.toNat : Int) := bt_mid pre c rest h hi
    have hw : wrap64 (i + 1) = i + 1 := w64 (by omega) (by omega)
    have e46 := toNat_eq (c := c) (n := 46) (by omega)
    simp at e46
    by_cases hc : c = 46
    · refine Ev.step (fun k => by rw [server_matchLiteral.l1, if_neg (by omega), if_pos (by omega), if_pos (by omega), hb, if_pos (e46.2 hc)]) ?_
      exact Ev.const (by subst hc; simp)
    · refine Ev.step (fun k => by rw [server_matchLiteral.l1, if_neg (by omega), if_pos (by omega), if_pos (by omega), hb, if_neg (fun e => hc (e46.1 e)), hw]) ?_
      refine Ev.det' (ih (pre ++ [c]) (i + 1) (by rw [h]; simp) (by simp; omega)) ?_
      simp [hc]
theorem matchT_nil (l : List (List UInt8)) : matchT l [] = l.isEmpty := by cases l <;> rfl
theorem toksA_tail (p rest : List UInt8) : ∃ t r, toksA p rest = t :: r ∧ (r.isEmpty = decide (rest.count 46 = 0)) := by
  obtain ⟨q, r, e⟩ := toksA_head rest p
  refine ⟨p ++ q, r, e, ?_⟩
  have := toksA_len rest p
  rw [e, List.length_cons] at this
  cases r with
  | nil => simp at this ⊢; exact this
  | cons x r => simp at this ⊢; omega
theorem matchLiteral_l0 (L S : ByteArray) (hL : L.size ≤ 140737488351232) (hS : S.size ≤ 140737488351232) : ∀ (n : Nat) (sr lr p1 sp lp : List UInt8) (i li : Int), sr.length ≤ n →
    S = ba (sp ++ p1 ++ sr) → L = ba (lp ++ p1 ++ lr) → i = (sp.length : Int) + p1.length → li = (lp.length : Int) + p1.length →
    (p1 = [] → sp = [] ∨ ∃ q, sp = q ++ [46]) → p1 ≠ [42] → p1 ≠ [62] → formedB (toksA p1 sr) = true → (toksA p1 sr).all tameT = true → formedB (toksA p1 lr) = true →
    Ev (fun k => server_matchLiteral.l0 k L S li (L.size : Int) (S.size : Int) i) (matchT (toksA p1 lr) (toksA p1 sr)) := by
  intro n
  induction n with
  | zero =>
    intro sr lr p1 sp lp i li hn hSe hLe hi hli hst h42 h62 hf ht hfl
    obtain rfl : sr = [] := List.eq_nil_of_length_eq_zero (by omega)
    have hz : (S.size : Int) = sp.length + p1.length := by rw [hSe, ba_size]; simp
    have hzl : (L.size : Int) = lp.length + p1.length + lr.length := by rw [hLe, ba_size]; simp; omega
    refine Ev.step (fun k => by rw [server_matchLiteral.l0, if_neg (by omega)]) ?_
    refine Ev.const ?_
    congr 1
    show _ = matchT (toksA p1 lr) [p1]
    cases lr with
    | nil => show _ = matchT [p1] [p1]; rw [matchT_same h62, matchT]; simp at hzl; simp; omega
    | cons c lr =>
      rw [decide_eq_false (by simp at hzl; omega)]
      by_cases hc : c = 46
      · subst hc
        rw [toksA_dot, matchT_same h62, matchT_nil]
        obtain ⟨q, r, e⟩ := toksA_head lr []
        rw [e]; rfl
      · rw [toksA_other _ hc]
        obtain ⟨q, r, e⟩ := toksA_head lr (p1 ++ [c])
        rw [e, matchT_false h62 h42 (fun h => by have := congrArg List.length h; simp at this)]
  | succ n ih =>
    intro sr lr p1 sp lp i li hn hSe hLe hi hli hst h42 h62 hf ht hfl
    cases sr with
    | nil => exact ih [] lr p1 sp lp i li (by simp) hSe hLe hi hli hst h42 h62 hf ht hfl
    | cons c sr =>
      have hz : (S.size : Int) = sp.length + p1.length + sr.length + 1 := by rw [hSe, ba_size]; simp; omega
      have hzl : (L.size : Int) = lp.length + p1.length + lr.length := by rw [hLe, ba_size]; simp; omega
      have hb : bt S i = (c.toNat : Int) := bt_mid (sp ++ p1) c sr hSe (by simp; omega)
      have hw : wrap64 (i + 1) = i + 1 := w64 (by omega) (by omega)
      have e42 := toNat_eq (c := c) (n := 42) (by omega)
      have e62 := toNat_eq (c := c) (n := 62) (by omega)
      simp at e42 e62
      by_cases hL0 : lr = []
      · -- the literal has ended
        subst hL0
        simp at hzl
        refine Ev.step (fun k => by rw [server_matchLiteral.l0, if_pos (by omega), if_pos (by omega)]) ?_
        refine Ev.const ?_
        congr 1
        have hp1 : p1 ≠ [] := by intro h; subst h; simp [toksA, formedB] at hfl
        show false = matchT [p1] _
        by_cases hc : c = 46
        · subst hc
          rw [toksA_dot, matchT_same h62]
          obtain ⟨q, r, e⟩ := toksA_head sr []
          rw [e]; rfl
        · rw [toksA_other _ hc] at hf ht ⊢
          obtain ⟨q, r, e⟩ := toksA_head sr (p1 ++ [c])
          rw [e, matchT_false]
          · intro h; have := congrArg List.length h; simp at this; exact hp1 (List.eq_nil_of_length_eq_zero (by omega))
          · intro h; have := congrArg List.length h; simp at this; exact hp1 (List.eq_nil_of_length_eq_zero (by omega))
          · intro h; have := congrArg List.length h; simp at this
      · obtain ⟨d, lr, rfl⟩ := List.exists_cons_of_ne_nil hL0
        simp at hzl
        have hbl : bt L li = (d.toNat : Int) := bt_mid (lp ++ p1) d lr hLe (by simp; omega)
        have hwl : wrap64 (li + 1) = li + 1 := w64 (by omega) (by omega)
        have heq : ((c.toNat : Int) = (d.toNat : Int)) ↔ c = d := by rw [← UInt8.toNat_inj]; omega
        by_cases hwild : c = 42 ∨ c = 62
        · -- a wildcard: it stands for itself
          have hc46 : c ≠ 46 := by rcases hwild with rfl | rfl <;> decide
          have hp0 : p1 = [] := by
            apply Classical.byContradiction
            intro hp
            rw [toksA_other _ hc46] at ht
            obtain ⟨q, r, e⟩ := toksA_head sr (p1 ++ [c])
            rw [e, List.all_cons, Bool.and_eq_true] at ht
            have h1 := ht.1
            have hl1 : ¬ (p1 ++ [c] ++ q).length ≤ 1 := by
              have : 0 < p1.length := List.length_pos_iff.2 hp
              simp; omega
            simp [tameT, hl1, wildB] at h1
            have h2 := h1.resolve_left (by simp at hl1; omega)
            rcases hwild with rfl | rfl <;> simp at h2
          subst hp0
          simp only [List.append_nil, List.length_nil] at *
          rw [toksA_other _ hc46] at hf ht ⊢
          simp only [List.nil_append] at hf ht ⊢
          -- what stands behind it
          have hnext : sr = [] ∨ ∃ s2, sr = 46 :: s2 := by
            cases sr with
            | nil => exact Or.inl rfl
            | cons x sr =>
              by_cases hx : x = 46
              · subst hx; exact Or.inr ⟨sr, rfl⟩
              · exfalso
                rw [toksA_other _ hx] at ht
                obtain ⟨q, r, e⟩ := toksA_head sr ([c] ++ [x])
                rw [e, List.all_cons, Bool.and_eq_true] at ht
                have h1 := ht.1
                simp [tameT, wildB] at h1
                rcases hwild with rfl | rfl <;> simp at h1
          have hwm : ¬ i = 0 → wrap64 (i - 1) = i - 1 := fun h => w64 (by omega) (by omega)
          have hwn : wrap64 ((S.size : Int) - 1) = (S.size : Int) - 1 := w64 (by omega) (by omega)
          have hprev : ¬ i = 0 → bt S (i - 1) = 46 := by
            intro h0
            rcases hst (by trivial) with h | ⟨q, h⟩
            · subst h; simp at hi; omega
            · have := bt_mid (s := S) (i := i - 1) q 46 (c :: sr) (by rw [hSe, h]; simp) (by rw [hi, h]; simp)
              rw [this]; rfl
          rcases hwild with rfl | rfl
          · -- *
            have J : Ev (fun k => server_matchLiteral.j1 k L S li (L.size : Int) (S.size : Int) i true) (matchT (toksA [] (d :: lr)) (toksA [42] sr)) := by
              rcases hnext with rfl | ⟨s2, rfl⟩
              · refine Ev.step (fun k => by rw [server_matchLiteral.j1, if_pos rfl, hwn, if_pos (by simp at hz; omega)]) ?_
                refine Ev.det' (matchLiteral_l1 L hL (d :: lr) lp li (by rw [hLe]) (by omega)) ?_
                obtain ⟨t, r, e, he⟩ := toksA_tail [] (d :: lr)
                rw [e]
                show _ = matchT (t :: r) [[42]]
                rw [matchT, if_neg (by decide), if_pos (Or.inl rfl), matchT_nil, he]
              · have hb2 : bt S (i + 1) = 46 := bt_mid (sp ++ [42]) 46 s2 (by rw [hSe]; simp) (by simp; omega)
                simp only [List.length_cons] at hz
                have hw2 : wrap64 (i + 1 + 1) = i + 1 + 1 := w64 (by omega) (by omega)
                rw [toksA_dot] at hf ht ⊢
                have hf2 : formedB (toksA [] s2) = true := by simp [formedB] at hf; exact hf
                have ht2 : (toksA [] s2).all tameT = true := by rw [List.all_cons, Bool.and_eq_true] at ht; exact ht.2
                -- to the next point of the literal
                have K : ∀ (lr2 q : List UInt8) (j : Int), L = ba (lp ++ q ++ lr2) → j = (lp.length : Int) + q.length → formedB (toksA q lr2) = true → Ev (fun k => server_matchLiteral.l2 k L S j (L.size : Int) (S.size : Int) i) (matchT (toksA q lr2) ([42] :: toksA [] s2)) := by
                  intro lr2
                  induction lr2 with
                  | nil =>
                    intro q j hq hj hfq
                    have hzq : (L.size : Int) = lp.length + q.length := by rw [hq, ba_size]; simp
                    refine Ev.step (fun k => by rw [server_matchLiteral.l2, if_pos (by omega)]) ?_
                    refine Ev.const ?_
                    congr 1
                    show false = matchT [q] _
                    rw [matchT, if_neg (by decide), if_pos (Or.inl rfl)]
                    obtain ⟨q, r, e⟩ := toksA_head s2 []
                    rw [e]; rfl
                  | cons x lr2 ihl =>
                    intro q j hq hj hfq
                    have hzq : (L.size : Int) = lp.length + q.length + lr2.length + 1 := by rw [hq, ba_size]; simp; omega
                    have hbq : bt L j = (x.toNat : Int) := bt_mid (lp ++ q) x lr2 hq (by simp; omega)
                    have hwj : wrap64 (j + 1) = j + 1 := w64 (by omega) (by omega)
                    have e46 := toNat_eq (c := x) (n := 46) (by omega)
                    simp at e46
                    by_cases hx : x = 46
                    · subst hx
                      rw [toksA_dot] at hfq ⊢
                      refine Ev.step (fun k => by rw [server_matchLiteral.l2, if_neg (by omega), if_pos (by omega), if_pos (by omega), hbq, if_pos (by decide), hw, if_pos (by omega), if_pos (by omega), hb2, if_pos (by decide), hwj, hw2]) ?_
                      rw [matchT, if_neg (by decide), if_pos (Or.inl rfl)]
                      refine ih s2 lr2 [] (sp ++ [42, 46]) (lp ++ q ++ [46]) _ _ (by simp at hn ⊢; omega) (by rw [hSe]; simp) (by rw [hq]; simp) (by simp; omega) (by simp; omega) (fun _ => Or.inr ⟨sp ++ [42], by simp⟩) (by decide) (by decide) hf2 ht2 ?_
                      simp [formedB] at hfq; exact hfq.2
                    · refine Ev.step (fun k => by rw [server_matchLiteral.l2, if_neg (by omega), if_pos (by omega), if_pos (by omega), hbq, if_neg (fun e => hx (e46.1 e)), hwj]) ?_
                      rw [toksA_other _ hx] at hfq ⊢
                      exact ihl (q ++ [x]) (j + 1) (by rw [hq]; simp) (by simp; omega) hfq
                refine Ev.step (fun k => by rw [server_matchLiteral.j1, if_pos rfl, hwn, if_neg (by omega), hw, if_pos (by omega), if_pos (by omega), hb2, if_pos rfl]) ?_
                exact K (d :: lr) [] li (by rw [hLe]; simp) (by simp; omega) hfl
            by_cases h0 : i = 0
            · refine Ev.step (fun k => by rw [server_matchLiteral.l0, if_pos (by omega), if_neg (by omega), if_pos (by omega), if_pos (by omega), hb, if_pos (by decide), if_pos h0]) ?_
              exact J
            · refine Ev.step (fun k => by rw [server_matchLiteral.l0, if_pos (by omega), if_neg (by omega), if_pos (by omega), if_pos (by omega), hb, if_pos (by decide), if_neg h0, hwm h0, if_pos (by omega), if_pos (by omega), hprev h0]) ?_
              exact J
          · -- >
            have hsr : sr = [] := by
              rcases hnext with h | ⟨s2, rfl⟩
              · exact h
              · exfalso
                rw [toksA_dot] at hf
                obtain ⟨q, r, e⟩ := toksA_head s2 []
                rw [e] at hf
                simp [formedB] at hf
            subst hsr
            simp at hz
            have J : Ev (fun k => server_matchLiteral.j4 k L S li (L.size : Int) (S.size : Int) i (i == wrap64 ((S.size : Int) - 1))) (matchT (toksA [] (d :: lr)) (toksA [62] [])) := by
              refine Ev.step (fun k => by rw [server_matchLiteral.j4, hwn, if_pos (by rw [beq_iff_eq]; omega)]) ?_
              refine Ev.const ?_
              congr 1
              obtain ⟨q, r, e⟩ := toksA_head (d :: lr) []
              rw [e]; rfl
            by_cases h0 : i = 0
            · refine Ev.step (fun k => by rw [server_matchLiteral.l0, if_pos (by omega), if_neg (by omega), if_pos (by omega), if_pos (by omega), hb, if_neg (by decide), if_pos (by decide), if_pos h0]) ?_
              exact J
            · refine Ev.step (fun k => by rw [server_matchLiteral.l0, if_pos (by omega), if_neg (by omega), if_pos (by omega), if_pos (by omega), hb, if_neg (by decide), if_pos (by decide), if_neg h0, hwm h0, if_pos (by omega), if_pos (by omega), hprev h0, if_pos rfl]) ?_
              exact J
        · -- a byte that must be met
          have hn42 : c ≠ 42 := fun h => hwild (Or.inl h)
          have hn62 : c ≠ 62 := fun h => hwild (Or.inr h)
          by_cases hcd : c = d
          · subst hcd
            refine Ev.step (fun k => by rw [server_matchLiteral.l0, if_pos (by omega), if_neg (by omega), if_pos (by omega), if_pos (by omega), hb, if_neg (fun e => hn42 (e42.1 e)), if_neg (fun e => hn62 (e62.1 e)), if_pos (by omega), if_pos (by omega), hbl, if_pos rfl, hw, hwl]) ?_
            by_cases hc : c = 46
            · subst hc
              rw [toksA_dot] at hf ht hfl ⊢
              rw [toksA_dot, matchT_same h62]
              refine ih sr lr [] (sp ++ p1 ++ [46]) (lp ++ p1 ++ [46]) _ _ (by simp at hn; omega) (by rw [hSe]; simp) (by rw [hLe]; simp) (by simp; omega) (by simp; omega) (fun _ => Or.inr ⟨sp ++ p1, rfl⟩) (by decide) (by decide) ?_ ?_ ?_
              · simp [formedB] at hf; exact hf.2
              · rw [List.all_cons, Bool.and_eq_true] at ht; exact ht.2
              · simp [formedB] at hfl; exact hfl.2
            · rw [toksA_other _ hc] at hf ht hfl ⊢
              rw [toksA_other _ hc]
              refine ih sr lr (p1 ++ [c]) sp lp _ _ (by simp at hn; omega) (by rw [hSe]; simp) (by rw [hLe]; simp) (by simp; omega) (by simp; omega) (fun h => by simp at h) ?_ ?_ hf ht hfl
              · intro h
                cases p1 with
                | nil => simp at h; exact hn42 h
                | cons x p1 => have := congrArg List.length h; simp at this
              · intro h
                cases p1 with
                | nil => simp at h; exact hn62 h
                | cons x p1 => have := congrArg List.length h; simp at this
          · refine Ev.step (fun k => by rw [server_matchLiteral.l0, if_pos (by omega), if_neg (by omega), if_pos (by omega), if_pos (by omega), hb, if_neg (fun e => hn42 (e42.1 e)), if_neg (fun e => hn62 (e62.1 e)), if_pos (by omega), if_pos (by omega), hbl, if_neg (fun e => hcd (heq.1 e))]) ?_
            refine Ev.const ?_
            congr 1
            symm
            by_cases hc : c = 46
            · subst hc
              rw [toksA_dot, toksA_other _ (fun h => hcd h.symm)]
              obtain ⟨q, r, e⟩ := toksA_head lr (p1 ++ [d])
              rw [e]
              exact matchT_false h62 h42 (fun h => by have := congrArg List.length h; simp at this)
            · rw [toksA_other _ hc] at hf ht ⊢
              obtain ⟨q, r, e⟩ := toksA_head sr (p1 ++ [c])
              rw [e] at ht ⊢
              have hx1 : p1 ++ [c] ++ q ≠ [62] := by
                intro h
                cases p1 with
                | nil => simp at h; exact hn62 h.1
                | cons x p1 => have := congrArg List.length h; simp at this
              have hx2 : p1 ++ [c] ++ q ≠ [42] := by
                intro h
                cases p1 with
                | nil => simp at h; exact hn42 h.1
                | cons x p1 => have := congrArg List.length h; simp at this
              by_cases hd : d = 46
              · subst hd
                rw [toksA_dot]
                exact matchT_false hx1 hx2 (fun h => by have := congrArg List.length h; simp at this)
              · rw [toksA_other _ hd]
                obtain ⟨q2, r2, e2⟩ := toksA_head lr (p1 ++ [d])
                rw [e2]
                refine matchT_false hx1 hx2 (fun h => ?_)
                simp at h
                exact hcd h.1
theorem impl_MatchLiteral_ev (l s : List UInt8) (hl : l.length ≤ 140737488351232) (hs : s.length ≤ 140737488351232) (hf : formedB (toks s) = true) (ht : (toks s).all tameT = true) (hfl : formedB (toks l) = true) :
    Ev (fun k => impl_MatchLiteral.f k (ba l) (ba s)) (matchT (toks l) (toks s)) := by
  refine Ev.congr (fun k => by rw [impl_MatchLiteral.f, server_MatchLiteral.f]) ?_
  refine Ev.bind (Ev.bind ?_ (Ev.now _)) (Ev.now _)
  refine Ev.congr (fun k => by rw [server_matchLiteral.f]) ?_
  exact matchLiteral_l0 (ba l) (ba s) hl hs s.length s l [] [] [] 0 0 (Nat.le_refl _) (by simp) (by simp) (by simp) (by simp) (fun _ => Or.inl rfl) (by decide) (by decide) hf ht hfl

theorem pure : laws_FnMatchLiteral.Pure := by
  intro s p hs hp
  obtain ⟨l, rfl⟩ := ba_surj s
  obtain ⟨q, rfl⟩ := ba_surj p
  have hsz : (ba l).size = l.length := ba_size l
  have hpz : (ba q).size = q.length := ba_size q
  apply Ev.rounds
  have J1 : Ev (fun k => laws_FnMatchLiteral.j0 k (ba l) (ba q) true) true := by
    refine Ev.step (fun k => by rw [laws_FnMatchLiteral.j0, if_pos rfl]) ?_
    exact Ev.now _
  by_cases hb : ((ba l).size : Int) > 2147483647
  · exact Ev.congr (fun k => by rw [laws_FnMatchLiteral.f, if_pos hb]) J1
  refine Ev.congr (fun k => by rw [laws_FnMatchLiteral.f, if_neg hb]) ?_
  by_cases hb2 : ((ba q).size : Int) > 2147483647
  · rw [decide_eq_true hb2]; exact J1
  rw [decide_eq_false hb2]
  refine Ev.step (fun k => by rw [laws_FnMatchLiteral.j0, if_neg (by simp)]) ?_
  obtain ⟨b, hev, hiff⟩ := plain_ev l (by omega)
  refine Ev.bind hev ?_
  cases b with
  | false => simp only [Bool.false_eq_true, if_false]; exact Ev.now _
  | true =>
    obtain ⟨⟨-, hv, -⟩, -⟩ := hiff.1 rfl
    simp only [if_true]
    obtain ⟨b2, hev2, hiff2⟩ := valid_ev q (by omega)
    refine Ev.bind hev2 ?_
    cases b2 with
    | false => simp only [Bool.false_eq_true, if_false]; exact Ev.now _
    | true =>
      obtain ⟨-, hv2, ht2⟩ := hiff2.1 rfl
      simp only [validB, Bool.and_eq_true] at hv hv2
      simp only [if_true]
      refine Ev.bind (impl_MatchLiteral_ev l q (by omega) (by omega) hv2.1 ht2 hv.1) ?_
      refine Ev.bind (spec_Match_ev l q (by omega) (by omega)) ?_
      exact Ev.const (by simp)

end Go.Proofs.Ytgbdjinanflhaaa.PlFnMatchLiteral
