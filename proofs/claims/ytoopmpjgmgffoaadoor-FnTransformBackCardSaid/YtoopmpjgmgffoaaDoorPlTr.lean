/- What the printed functions of FnTransformBack come to, as plain functions on lists. -/
import Derived.Test.YtoopmpjgmgffoaaDoorPlTok
import Derived.Test.YtoopmpjgmgffoaaDoorTpE
namespace Go.Proofs.YtoopmpjgmgffoaaDoor.PlFnTransformBack
open Go.RowKit Go.Proofs.YtoopmpjgmgffoaaDoorW.PrintWords Go.Proofs.YtoopmpjgmgffoaaDoorW.PrintLast Go.Proofs.YtoopmpjgmgffoaaDoorW.PrintMore Go.Proofs.YtoopmpjgmgffoaaDoor.Pl Go.Proofs.YtoopmpjgmgffoaaDoor.GFnTransformBack
set_option linter.unusedVariables false
set_option linter.unusedSimpArgs false
theorem Tokens_l0 (s : ByteArray) (hs : s.size < 8796093022208) : ∀ (rest pre p : List UInt8) (out : List ByteArray) (fr i : Int), s = ba (pre ++ p ++ rest) → fr = (pre.length : Int) → i = (pre.length : Int) + p.length → out.length ≤ pre.length →
    Ev (fun k => spec_Tokens.l0 k s out fr i) (out ++ (toksA p rest).map ba) := by
  intro rest
  induction rest with
  | nil =>
    intro pre p out fr i h hf hi ho
    have hz : (s.size : Int) = pre.length + p.length := by rw [h, ba_size]; simp
    have he : s.extract fr.toNat s.size = ba p := ext_end pre p (by rw [h, List.append_nil]) hf
    refine Ev.step (fun k => by rw [spec_Tokens.l0, if_neg (by omega), if_pos (by omega), if_pos (by omega), if_pos (by omega), he]) ?_
    exact Ev.now _
  | cons c rest ih =>
    intro pre p out fr i h hf hi ho
    have hz : (s.size : Int) = pre.length + p.length + rest.length + 1 := by rw [h, ba_size]; simp; omega
    have hb : bt s i = (c.toNat : Int) := bt_mid (pre ++ p) c rest h (by simp; omega)
    have hw : wrap64 (i + 1) = i + 1 := w64 (by omega) (by omega)
    have he : s.extract fr.toNat i.toNat = ba p := ext_mid pre p (c :: rest) h hf hi
    by_cases hc : c = 46
    · subst hc
      refine Ev.step (fun k => by rw [spec_Tokens.l0, if_pos (by omega), if_pos (by omega), hb, if_pos (by decide), if_pos (by omega), if_pos (by omega), if_pos (by omega), if_pos (by omega), he, hw]) ?_
      refine Ev.det' (ih (pre ++ p ++ [46]) [] (out ++ [ba p]) (i + 1) (i + 1) (by rw [h]; simp) (by simp; omega) (by simp; omega) (by simp; omega)) ?_
      rw [toksA_dot]; simp
    have hne : ¬ ((c.toNat : Int) = 46) := fun e => hc ((toNat_eq (n := 46) (by omega)).1 e)
    refine Ev.step (fun k => by rw [spec_Tokens.l0, if_pos (by omega), if_pos (by omega), hb, if_neg hne, hw]) ?_
    refine Ev.det' (ih pre (p ++ [c]) out fr (i + 1) (by rw [h]; simp) hf (by simp; omega) ho) ?_
    rw [toksA_other _ hc]
theorem Tokens_ev (l : List UInt8) (hs : l.length < 8796093022208) : Ev (fun k => spec_Tokens.f k (ba l)) ((toks l).map ba) := by
  have := Tokens_l0 (ba l) hs l [] [] [] 0 0 (by simp) (by simp) (by simp) (by simp)
  exact this
/-- The tokens of a subject. -/
def tk (s : ByteArray) : List ByteArray := (toks s.data.toList).map ba
theorem tk_len (s : ByteArray) : (tk s).length ≤ s.size + 1 := by
  unfold tk
  rw [List.length_map, toks_len]
  have : s.data.toList.count 46 ≤ s.data.toList.length := List.count_le_length
  have h2 : s.data.toList.length = s.size := rfl
  omega
/-- No token is empty, and > stands last alone. -/
def formedB : List (List UInt8) → Bool
  | [] => true
  | t :: ts => decide (t ≠ []) && (decide (t ≠ [62]) || ts.isEmpty) && formedB ts
theorem Formed_l0 (L : List (List UInt8)) (hs : L.length ≤ 140737488351232) : ∀ (rest pre : List (List UInt8)) (i : Int), L = pre ++ rest → i = (pre.length : Int) →
    Ev (fun k => spec_Formed.l0 k (L.map ba) i) (formedB rest) := by
  intro rest
  induction rest with
  | nil =>
    intro pre i h hi
    have hz : ((L.map ba).length : Int) = pre.length := by rw [h]; simp
    refine Ev.step (fun k => by rw [spec_Formed.l0, if_neg (by omega)]) ?_
    exact Ev.now _
  | cons c rest ih =>
    intro pre i h hi
    have hz : ((L.map ba).length : Int) = pre.length + rest.length + 1 := by rw [h]; simp; omega
    have hz2 : (L.length : Int) = pre.length + rest.length + 1 := by rw [h]; simp; omega
    have hb : rdOf ByteArray.empty (L.map ba) i = ba c := rdOf_mid _ (pre.map ba) (ba c) (rest.map ba) (by rw [h]; simp) (by simp; omega)
    have hw : wrap64 (i + 1) = i + 1 := w64 (by omega) (by omega)
    have IH := ih (pre ++ [c]) (i + 1) (by rw [h]; simp) (by simp; omega)
    rw [formedB]
    by_cases h0 : c = []
    · subst h0
      refine Ev.step (fun k => by rw [spec_Formed.l0, if_pos (by omega), if_pos (by omega), hb, ba_toList, if_pos rfl]) ?_
      exact Ev.now _
    by_cases h1 : c = [62]
    · subst h1
      cases rest with
      | nil =>
        refine Ev.step (fun k => by rw [spec_Formed.l0, if_pos (by omega), if_pos (by omega), hb, ba_toList, if_neg h0, if_pos rfl, hw, if_neg (by simp at hz ⊢; omega)]) ?_
        exact IH
      | cons d rest =>
        refine Ev.step (fun k => by rw [spec_Formed.l0, if_pos (by omega), if_pos (by omega), hb, ba_toList, if_neg h0, if_pos rfl, hw, if_pos (by simp at hz ⊢; omega)]) ?_
        exact Ev.now _
    refine Ev.step (fun k => by rw [spec_Formed.l0, if_pos (by omega), if_pos (by omega), hb, ba_toList, if_neg h0, if_neg h1, hw]) ?_
    refine Ev.det' IH ?_
    simp [h0, h1]
theorem Formed_ev (L : List (List UInt8)) (hs : L.length ≤ 140737488351232) : Ev (fun k => spec_Formed.f k (L.map ba)) (formedB L) :=
  Formed_l0 L hs L [] 0 (by simp) (by simp)
def cleanB (c : UInt8) : Bool := decide (32 < c) && decide (c ≠ 127)
theorem clean_l0 (s : ByteArray) (hs : s.size ≤ 140737488351232) : ∀ (rest pre : List UInt8) (i : Int), s = ba (pre ++ rest) → i = (pre.length : Int) →
    ∃ b, Ev (fun k => laws_clean.l0 k s i) b ∧ (b = true ↔ s.size ≤ 400 ∧ rest.all cleanB = true) := by
  intro rest
  induction rest with
  | nil =>
    intro pre i h hi
    have hz : (s.size : Int) = pre.length := by rw [h, ba_size]; simp
    refine ⟨decide ((s.size : Int) ≤ 400), ?_, by simp; omega⟩
    refine Ev.step (fun k => by rw [laws_clean.l0, if_neg (by omega)]) ?_
    refine Ev.step (fun k => by rw [laws_clean.j1, if_neg (by simp)]) ?_
    exact Ev.now _
  | cons c rest ih =>
    intro pre i h hi
    have hz : (s.size : Int) = pre.length + rest.length + 1 := by rw [h, ba_size]; simp; omega
    have hb : bt s i = (c.toNat : Int) := bt_mid pre c rest h hi
    have hw : wrap64 (i + 1) = i + 1 := w64 (by omega) (by omega)
    by_cases h4 : i ≤ 400
    · by_cases hc : cleanB c = true
      · obtain ⟨b, hev, hiff⟩ := ih (pre ++ [c]) (i + 1) (by rw [h]; simp) (by simp; omega)
        refine ⟨b, ?_, by rw [hiff, List.all_cons, hc, Bool.true_and]⟩
        simp only [cleanB, Bool.and_eq_true, decide_eq_true_eq, UInt8.lt_iff_toNat_lt, ne_eq, ← UInt8.toNat_inj] at hc
        simp at hc
        refine Ev.step (fun k => by rw [laws_clean.l0, if_pos (by omega)]) ?_
        refine Ev.step (fun k => by rw [laws_clean.j1, if_pos (by simp; omega), if_pos (by omega), if_pos (by omega), hb, if_neg (by omega), if_neg (by omega), hw]) ?_
        exact hev
      refine ⟨false, ?_, by rw [List.all_cons]; simp [hc]⟩
      simp only [cleanB, Bool.and_eq_true, decide_eq_true_eq, UInt8.lt_iff_toNat_lt, ne_eq, ← UInt8.toNat_inj] at hc
      simp at hc
      refine Ev.step (fun k => by rw [laws_clean.l0, if_pos (by omega)]) ?_
      by_cases h32 : (c.toNat : Int) ≤ 32
      · refine Ev.step (fun k => by rw [laws_clean.j1, if_pos (by simp; omega), if_pos (by omega), if_pos (by omega), hb, if_pos h32]) ?_
        exact Ev.now _
      refine Ev.step (fun k => by rw [laws_clean.j1, if_pos (by simp; omega), if_pos (by omega), if_pos (by omega), hb, if_neg h32, if_pos (by omega)]) ?_
      exact Ev.now _
    refine ⟨false, ?_, ⟨fun e => (by cases e), fun e => by omega⟩⟩
    refine Ev.step (fun k => by rw [laws_clean.l0, if_pos (by omega)]) ?_
    refine Ev.step (fun k => by rw [laws_clean.j1, if_neg (by simp; omega)]) ?_
    refine Ev.const ?_
    rw [decide_eq_false (by omega)]
theorem clean_ev (l : List UInt8) (hs : l.length ≤ 140737488351232) : ∃ b, Ev (fun k => laws_clean.f k (ba l)) b ∧ (b = true ↔ l.length ≤ 400 ∧ l.all cleanB = true) := by
  have := clean_l0 (ba l) hs l [] 0 (by simp) (by simp)
  exact this
def wildB (c : UInt8) : Bool := decide (c = 42) || decide (c = 62)
def tameT (t : List UInt8) : Bool := decide (t.length ≤ 1) || !t.any wildB
theorem tame_l0 (L : List (List UInt8)) (hL : L.length ≤ 140737488351232) (hs : ∀ t ∈ L, t.length ≤ 140737488351232) : ∀ (rest pre : List (List UInt8)) (i : Int), L = pre ++ rest → i = (pre.length : Int) →
    Ev (fun k => laws_tame.l0 k (L.map ba) i) (rest.all tameT) := by
  intro rest
  induction rest with
  | nil =>
    intro pre i h hi
    have hz : ((L.map ba).length : Int) = pre.length := by rw [h]; simp
    refine Ev.step (fun k => by rw [laws_tame.l0, if_neg (by omega)]) ?_
    exact Ev.now _
  | cons t rest ih =>
    intro pre i h hi
    have hz : ((L.map ba).length : Int) = pre.length + rest.length + 1 := by rw [h]; simp; omega
    have hz2 : (L.length : Int) = pre.length + rest.length + 1 := by rw [h]; simp; omega
    have hrd : rdOf ByteArray.empty (L.map ba) i = ba t := rdOf_mid _ (pre.map ba) (ba t) (rest.map ba) (by rw [h]; simp) (by simp; omega)
    have hw : wrap64 (i + 1) = i + 1 := w64 (by omega) (by omega)
    have IH := ih (pre ++ [t]) (i + 1) (by rw [h]; simp) (by simp; omega)
    have ht := hs t (by rw [h]; simp)
    rw [List.all_cons]
    refine Ev.step (fun k => by rw [laws_tame.l0, if_pos (by omega)]) ?_
    by_cases h1 : t.length ≤ 1
    · have e : tameT t = true := by simp [tameT, h1]
      rw [e, Bool.true_and]
      by_cases h0 : (0 : Int) < ((ba t).size : Int)
      · refine Ev.step (fun k => by rw [laws_tame.l1, if_pos (by omega), if_pos (by omega), hrd, if_pos h0, ba_size, decide_eq_false (by omega)]) ?_
        refine Ev.step (fun k => by rw [laws_tame.j2, if_neg (by simp), hw]) ?_
        exact IH
      refine Ev.step (fun k => by rw [laws_tame.l1, if_pos (by omega), if_pos (by omega), hrd, if_neg h0]) ?_
      refine Ev.step (fun k => by rw [laws_tame.j2, if_neg (by simp), hw]) ?_
      exact IH
    have inner : ∀ (tr tp : List UInt8) (j : Int), t = tp ++ tr → j = (tp.length : Int) → Ev (fun k => laws_tame.l1 k (L.map ba) i j) (!tr.any wildB && rest.all tameT) := by
      intro tr
      induction tr with
      | nil =>
        intro tp j htp hj
        have htz : ((ba t).size : Int) = tp.length := by rw [ba_size, htp]; simp
        refine Ev.step (fun k => by rw [laws_tame.l1, if_pos (by omega), if_pos (by omega), hrd, if_neg (by omega)]) ?_
        refine Ev.step (fun k => by rw [laws_tame.j2, if_neg (by simp), hw]) ?_
        exact IH
      | cons c tr ihi =>
        intro tp j htp hj
        have htz : ((ba t).size : Int) = tp.length + tr.length + 1 := by rw [ba_size, htp]; simp; omega
        have htz2 : (t.length : Int) = tp.length + tr.length + 1 := by rw [htp]; simp; omega
        have hb : bt (ba t) j = (c.toNat : Int) := bt_mid tp c tr (by rw [htp]) hj
        have hwj : wrap64 (j + 1) = j + 1 := w64 (by omega) (by omega)
        have e42 := toNat_eq (c := c) (n := 42) (by omega)
        have e62 := toNat_eq (c := c) (n := 62) (by omega)
        simp at e42 e62
        refine Ev.step (fun k => by rw [laws_tame.l1, if_pos (by omega), if_pos (by omega), hrd, if_pos (by omega), decide_eq_true (by omega)]) ?_
        rw [List.any_cons]
        by_cases h42 : c = 42
        · refine Ev.step (fun k => by rw [laws_tame.j2, if_pos rfl, if_pos (by omega), if_pos (by omega), hrd, if_pos (by omega), if_pos (by omega), hb, if_pos (e42.2 h42)]) ?_
          exact Ev.const (by simp [wildB, h42])
        by_cases h62 : c = 62
        · refine Ev.step (fun k => by rw [laws_tame.j2, if_pos rfl, if_pos (by omega), if_pos (by omega), hrd, if_pos (by omega), if_pos (by omega), hb, if_neg (fun e => h42 (e42.1 e)), if_pos (e62.2 h62)]) ?_
          exact Ev.const (by simp [wildB, h62])
        refine Ev.step (fun k => by rw [laws_tame.j2, if_pos rfl, if_pos (by omega), if_pos (by omega), hrd, if_pos (by omega), if_pos (by omega), hb, if_neg (fun e => h42 (e42.1 e)), if_neg (fun e => h62 (e62.1 e)), hwj]) ?_
        refine Ev.det' (ihi (tp ++ [c]) (j + 1) (by rw [htp]; simp) (by simp; omega)) ?_
        simp [wildB, h42, h62]
    refine Ev.det' (inner t [] 0 (by simp) (by simp)) ?_
    simp [tameT, h1]
theorem tame_ev (l : List UInt8) (hs : l.length < 8796093022208) : Ev (fun k => laws_tame.f k (ba l)) ((toks l).all tameT) := by
  have ht : (toks l).length ≤ 140737488351232 := by rw [toks_len]; have := List.count_le_length (a := (46 : UInt8)) (l := l); omega
  refine Ev.congr (fun k => by rw [laws_tame.f]) ?_
  refine Ev.bind (Tokens_ev l hs) ?_
  exact tame_l0 (toks l) ht (fun t h => by have := toks_short l t h; omega) (toks l) [] 0 (by simp) (by simp)
def blankB (c : UInt8) : Bool := decide (c = 32) || decide (c = 9) || decide (c = 10) || decide (c = 13) || decide (c = 12)
theorem Blank_eq (c : UInt8) : spec_Blank.f (c.toNat : Int) = some (blankB c) := by
  unfold spec_Blank.f
  have e32 := toNat_eq (c := c) (n := 32) (by omega)
  have e9 := toNat_eq (c := c) (n := 9) (by omega)
  have e10 := toNat_eq (c := c) (n := 10) (by omega)
  have e13 := toNat_eq (c := c) (n := 13) (by omega)
  have e12 := toNat_eq (c := c) (n := 12) (by omega)
  simp at e32 e9 e10 e13 e12
  unfold blankB
  by_cases h32 : c = 32
  · subst h32; rfl
  rw [if_neg (by rw [e32]; exact h32)]
  by_cases h9 : c = 9
  · subst h9; rfl
  rw [if_neg (by rw [e9]; exact h9)]
  by_cases h10 : c = 10
  · subst h10; rfl
  rw [if_neg (by rw [e10]; exact h10)]
  by_cases h13 : c = 13
  · subst h13; rfl
  rw [if_neg (by rw [e13]; exact h13)]
  simp [h32, h9, h10, h13]
  rw [Bool.eq_iff_iff]
  simp
  exact e12
theorem Spaced_l0 (s : ByteArray) (hs : s.size ≤ 140737488351232) : ∀ (rest pre : List UInt8) (i : Int), s = ba (pre ++ rest) → i = (pre.length : Int) →
    Ev (fun k => spec_Spaced.l0 k s i) (rest.any blankB) := by
  intro rest
  induction rest with
  | nil =>
    intro pre i h hi
    have hz : (s.size : Int) = pre.length := by rw [h, ba_size]; simp
    refine Ev.step (fun k => by rw [spec_Spaced.l0, if_neg (by omega)]) ?_
    exact Ev.now _
  | cons c rest ih =>
    intro pre i h hi
    have hz : (s.size : Int) = pre.length + rest.length + 1 := by rw [h, ba_size]; simp; omega
    have hb : bt s i = (c.toNat : Int) := bt_mid pre c rest h hi
    have hw : wrap64 (i + 1) = i + 1 := w64 (by omega) (by omega)
    refine Ev.step (fun k => by rw [spec_Spaced.l0, if_pos (by omega), if_pos (by omega), hb, Blank_eq, Option.bind_some, hw]) ?_
    rw [List.any_cons]
    cases hc : blankB c with
    | true => simp only [if_true, Bool.true_or]; exact Ev.now _
    | false =>
      simp only [Bool.false_eq_true, if_false, Bool.false_or]
      exact ih (pre ++ [c]) (i + 1) (by rw [h]; simp) (by simp; omega)
theorem Spaced_ev (l : List UInt8) (hs : l.length ≤ 140737488351232) : Ev (fun k => spec_Spaced.f k (ba l)) (l.any blankB) := by
  have := Spaced_l0 (ba l) hs l [] 0 (by simp) (by simp)
  exact this
def validB (l : List UInt8) : Bool := formedB (toks l) && !l.any blankB
theorem Valid_ev (l : List UInt8) (hs : l.length < 8796093022208) : Ev (fun k => spec_Valid.f k (ba l)) (validB l) := by
  have ht : (toks l).length ≤ 140737488351232 := by rw [toks_len]; have := List.count_le_length (a := (46 : UInt8)) (l := l); omega
  refine Ev.congr (fun k => by rw [spec_Valid.f]) ?_
  refine Ev.bind (Tokens_ev l hs) ?_
  refine Ev.bind (Formed_ev _ ht) ?_
  unfold validB
  cases formedB (toks l) with
  | true =>
    simp only [if_true, Bool.true_and]
    refine Ev.bind (Spaced_ev l (by omega)) ?_
    exact Ev.now _
  | false => simp only [Bool.false_eq_true, if_false, Bool.false_and]; exact Ev.now _
theorem valid_ev (l : List UInt8) (hs : l.length < 8796093022208) : ∃ b, Ev (fun k => laws_valid.f k (ba l)) b ∧ (b = true ↔ (l.length ≤ 400 ∧ l.all cleanB = true) ∧ validB l = true ∧ (toks l).all tameT = true) := by
  obtain ⟨b, hb, hiff⟩ := clean_ev l (by omega)
  cases b with
  | false =>
    refine ⟨false, ?_, ?_⟩
    · refine Ev.congr (fun k => by rw [laws_valid.f]) ?_
      refine Ev.bind hb ?_
      simp only [Bool.false_eq_true, if_false]
      exact Ev.now _
    simp only [Bool.false_eq_true, false_iff] at hiff ⊢
    exact fun h => hiff h.1
  | true =>
    refine ⟨validB l && (toks l).all tameT, ?_, ?_⟩
    · refine Ev.congr (fun k => by rw [laws_valid.f]) ?_
      refine Ev.bind hb ?_
      simp only [if_true]
      refine Ev.bind (Valid_ev l hs) ?_
      cases validB l with
      | true =>
        simp only [if_true, Bool.true_and]
        refine Ev.bind (tame_ev l hs) ?_
        exact Ev.now _
      | false => simp only [Bool.false_eq_true, if_false, Bool.false_and]; exact Ev.now _
    rw [Bool.and_eq_true]
    exact ⟨fun h => ⟨hiff.1 rfl, h⟩, fun h => h.2⟩
/-- No token is a wildcard. -/
def litT (t : List UInt8) : Bool := decide (t ≠ [42]) && decide (t ≠ [62])
theorem spec_Literal_l0 (L : List (List UInt8)) (hs : L.length ≤ 140737488351232) : ∀ (rest pre : List (List UInt8)) (i : Int), L = pre ++ rest → i = (pre.length : Int) →
    Ev (fun k => spec_Literal.l0 k (L.map ba) i) (rest.all litT) := by
  intro rest
  induction rest with
  | nil =>
    intro pre i h hi
    have hz : ((L.map ba).length : Int) = pre.length := by rw [h]; simp
    refine Ev.step (fun k => by rw [spec_Literal.l0, if_neg (by omega)]) ?_
    exact Ev.now _
  | cons c rest ih =>
    intro pre i h hi
    have hz : ((L.map ba).length : Int) = pre.length + rest.length + 1 := by rw [h]; simp; omega
    have hz2 : (L.length : Int) = pre.length + rest.length + 1 := by rw [h]; simp; omega
    have hb : rdOf ByteArray.empty (L.map ba) i = ba c := rdOf_mid _ (pre.map ba) (ba c) (rest.map ba) (by rw [h]; simp) (by simp; omega)
    have hw : wrap64 (i + 1) = i + 1 := w64 (by omega) (by omega)
    have IH := ih (pre ++ [c]) (i + 1) (by rw [h]; simp) (by simp; omega)
    by_cases h0 : c = [42]
    · refine Ev.step (fun k => by rw [spec_Literal.l0, if_pos (by omega), if_pos (by omega), hb, ba_toList, if_pos h0]) ?_
      exact Ev.const (by simp [litT, h0])
    by_cases h1 : c = [62]
    · refine Ev.step (fun k => by rw [spec_Literal.l0, if_pos (by omega), if_pos (by omega), hb, ba_toList, if_neg h0, if_pos h1]) ?_
      exact Ev.const (by simp [litT, h1])
    refine Ev.step (fun k => by rw [spec_Literal.l0, if_pos (by omega), if_pos (by omega), hb, ba_toList, if_neg h0, if_neg h1, hw]) ?_
    refine Ev.det' IH ?_
    simp [litT, h0, h1]
theorem spec_Literal_ev (l : List UInt8) (hs : l.length < 8796093022208) : Ev (fun k => spec_Literal.f k (ba l)) ((toks l).all litT) := by
  have ht : (toks l).length ≤ 140737488351232 := by rw [toks_len]; have := List.count_le_length (a := (46 : UInt8)) (l := l); omega
  refine Ev.congr (fun k => by rw [spec_Literal.f]) ?_
  refine Ev.bind (Tokens_ev l hs) ?_
  exact spec_Literal_l0 (toks l) ht (toks l) [] 0 rfl rfl
theorem plain_ev (l : List UInt8) (hs : l.length < 8796093022208) : ∃ b, Ev (fun k => laws_plain.f k (ba l)) b ∧ (b = true ↔ ((l.length ≤ 400 ∧ l.all cleanB = true) ∧ validB l = true ∧ (toks l).all tameT = true) ∧ (toks l).all litT = true) := by
  obtain ⟨b, hb, hiff⟩ := valid_ev l hs
  cases b with
  | false =>
    refine ⟨false, ?_, ?_⟩
    · refine Ev.congr (fun k => by rw [laws_plain.f]) ?_
      refine Ev.bind hb ?_
      simp only [Bool.false_eq_true, if_false]
      exact Ev.now _
    simp only [Bool.false_eq_true, false_iff] at hiff ⊢
    exact fun h => hiff h.1
  | true =>
    refine ⟨(toks l).all litT, ?_, ?_⟩
    · refine Ev.congr (fun k => by rw [laws_plain.f]) ?_
      refine Ev.bind hb ?_
      simp only [if_true]
      refine Ev.bind (spec_Literal_ev l hs) ?_
      exact Ev.now _
    exact ⟨fun h => ⟨hiff.1 rfl, h⟩, fun h => h.2⟩
/-- Tokens without wildcards are matched by a pattern's. -/
def matchT : List (List UInt8) → List (List UInt8) → Bool
  | [], [] => true
  | _ :: _, [] => false
  | [], _ :: _ => false
  | t :: l, p :: ps => if p = [62] then true else if p = [42] ∨ p = t then matchT l ps else false
theorem spec_matches_l0 (L P : List (List UInt8)) (hP : P.length ≤ 140737488351232) : ∀ (p l preP preL : List (List UInt8)) (i : Int), P = preP ++ p → L = preL ++ l → i = (preP.length : Int) → preL.length = preP.length →
    Ev (fun k => spec_matches.l0 k (L.map ba) (P.map ba) i) (matchT l p) := by
  intro p
  induction p with
  | nil =>
    intro l preP preL i hp hl hi he
    have hz : ((P.map ba).length : Int) = preP.length := by rw [hp]; simp
    have hz2 : ((L.map ba).length : Int) = preL.length + l.length := by rw [hl]; simp
    refine Ev.step (fun k => by rw [spec_matches.l0, if_neg (by omega)]) ?_
    refine Ev.const ?_
    cases l with
    | nil => simp only [matchT]; congr 1; rw [beq_iff_eq]; simp only [List.length_nil] at hz2; omega
    | cons t l => simp only [matchT]; congr 1; rw [beq_eq_false_iff_ne]; simp only [List.length_cons] at hz2; omega
  | cons p ps ih =>
    intro l preP preL i hp hl hi he
    have hz : ((P.map ba).length : Int) = preP.length + ps.length + 1 := by rw [hp]; simp; omega
    have hz3 : (P.length : Int) = preP.length + ps.length + 1 := by rw [hp]; simp; omega
    have hz2 : ((L.map ba).length : Int) = preL.length + l.length := by rw [hl]; simp
    have hrp : rdOf ByteArray.empty (P.map ba) i = ba p := rdOf_mid _ (preP.map ba) (ba p) (ps.map ba) (by rw [hp]; simp) (by simp; omega)
    have hw : wrap64 (i + 1) = i + 1 := w64 (by omega) (by omega)
    cases l with
    | nil =>
      simp only [List.length_nil] at hz2
      refine Ev.step (fun k => by rw [spec_matches.l0, if_pos (by omega), if_pos (by omega)]) ?_
      exact Ev.now _
    | cons t l =>
      simp only [List.length_cons] at hz2
      have hrl : rdOf ByteArray.empty (L.map ba) i = ba t := rdOf_mid _ (preL.map ba) (ba t) (l.map ba) (by rw [hl]; simp) (by simp; omega)
      have IH := ih l (preP ++ [p]) (preL ++ [t]) (i + 1) (by rw [hp]; simp) (by rw [hl]; simp) (by simp; omega) (by simp [he])
      rw [matchT]
      by_cases h1 : p = [62]
      · rw [if_pos h1]
        refine Ev.step (fun k => by rw [spec_matches.l0, if_pos (by omega), if_neg (by omega), if_pos (by omega), hrp, ba_toList, if_pos h1]) ?_
        exact Ev.now _
      rw [if_neg h1]
      by_cases h2 : p = [42]
      · rw [if_pos (Or.inl h2)]
        refine Ev.step (fun k => by rw [spec_matches.l0, if_pos (by omega), if_neg (by omega), if_pos (by omega), hrp, ba_toList, if_neg h1, if_pos h2, hw]) ?_
        exact IH
      by_cases h3 : p = t
      · rw [if_pos (Or.inr h3)]
        refine Ev.step (fun k => by rw [spec_matches.l0, if_pos (by omega), if_neg (by omega), if_pos (by omega), hrp, ba_toList, if_neg h1, if_neg h2, if_pos (by omega), hrl, ba_toList, if_pos h3, hw]) ?_
        exact IH
      rw [if_neg (by simp [h2, h3])]
      refine Ev.step (fun k => by rw [spec_matches.l0, if_pos (by omega), if_neg (by omega), if_pos (by omega), hrp, ba_toList, if_neg h1, if_neg h2, if_pos (by omega), hrl, ba_toList, if_neg h3]) ?_
      exact Ev.now _
theorem spec_Match_ev (l p : List UInt8) (hl : l.length < 8796093022208) (hp : p.length < 8796093022208) : Ev (fun k => spec_Match.f k (ba l) (ba p)) (matchT (toks l) (toks p)) := by
  have h2 : (toks p).length ≤ 140737488351232 := by rw [toks_len]; have := List.count_le_length (a := (46 : UInt8)) (l := p); omega
  refine Ev.congr (fun k => by rw [spec_Match.f]) ?_
  refine Ev.bind (Tokens_ev l hl) ?_
  refine Ev.bind (Tokens_ev p hp) ?_
  refine Ev.bind (spec_matches_l0 _ _ h2 (toks p) (toks l) [] [] 0 rfl rfl rfl rfl) ?_
  exact Ev.now _
/-- All that one pattern matches is matched by the other one. -/
def subT : List (List UInt8) → List (List UInt8) → Bool
  | [], [] => true
  | _ :: _, [] => false
  | [], _ :: _ => false
  | t :: l, p :: ps => if p = [62] then true else if t = [62] then false else if p = [42] ∨ t = p then subT l ps else false
theorem tokenize_l0 (s : ByteArray) (hs : s.size < 8796093022208) : ∀ (rest pre p : List UInt8) (out : List ByteArray) (fr i : Int), s = ba (pre ++ p ++ rest) → fr = (pre.length : Int) → i = (pre.length : Int) + p.length → out.length ≤ pre.length →
    Ev (fun k => server_tokenizeSubjectIntoSlice.l0 k out s fr i) (out ++ (toksA p rest).map ba) := by
  intro rest
  induction rest with
  | nil =>
    intro pre p out fr i h hf hi ho
    have hz : (s.size : Int) = pre.length + p.length := by rw [h, ba_size]; simp
    have he : s.extract fr.toNat s.size = ba p := ext_end pre p (by rw [h, List.append_nil]) hf
    refine Ev.step (fun k => by rw [server_tokenizeSubjectIntoSlice.l0, if_neg (by omega), if_pos (by omega), if_pos (by omega), if_pos (by omega), he]) ?_
    exact Ev.now _
  | cons c rest ih =>
    intro pre p out fr i h hf hi ho
    have hz : (s.size : Int) = pre.length + p.length + rest.length + 1 := by rw [h, ba_size]; simp; omega
    have hb : bt s i = (c.toNat : Int) := bt_mid (pre ++ p) c rest h (by simp; omega)
    have hw : wrap64 (i + 1) = i + 1 := w64 (by omega) (by omega)
    have he : s.extract fr.toNat i.toNat = ba p := ext_mid pre p (c :: rest) h hf hi
    by_cases hc : c = 46
    · subst hc
      refine Ev.step (fun k => by rw [server_tokenizeSubjectIntoSlice.l0, if_pos (by omega), if_pos (by omega), hb, if_pos (by decide), if_pos (by omega), if_pos (by omega), if_pos (by omega), if_pos (by omega), he, hw]) ?_
      refine Ev.det' (ih (pre ++ p ++ [46]) [] (out ++ [ba p]) (i + 1) (i + 1) (by rw [h]; simp) (by simp; omega) (by simp; omega) (by simp; omega)) ?_
      rw [toksA_dot]; simp
    have hne : ¬ ((c.toNat : Int) = 46) := fun e => hc ((toNat_eq (n := 46) (by omega)).1 e)
    refine Ev.step (fun k => by rw [server_tokenizeSubjectIntoSlice.l0, if_pos (by omega), if_pos (by omega), hb, if_neg hne, hw]) ?_
    refine Ev.det' (ih pre (p ++ [c]) out fr (i + 1) (by rw [h]; simp) hf (by simp; omega) ho) ?_
    rw [toksA_other _ hc]
theorem tokenize_ev (l : List UInt8) (hs : l.length < 8796093022208) : Ev (fun k => server_tokenizeSubjectIntoSlice.f k [] (ba l)) ((toks l).map ba) := by
  have := tokenize_l0 (ba l) hs l [] [] [] 0 0 (by simp) (by simp) (by simp) (by simp)
  exact this
theorem cmp_zero : ∀ (a b : List UInt8), Lib.compareBytes a b = 0 ↔ a = b
  | [], [] => by simp [Lib.compareBytes]
  | [], _ :: _ => by simp [Lib.compareBytes]
  | _ :: _, [] => by simp [Lib.compareBytes]
  | x :: a, y :: b => by
    have ih := cmp_zero a b
    simp only [Lib.compareBytes]
    by_cases h1 : x < y
    · rw [if_pos h1]; simp; intro h; subst h; exact absurd h1 (by simp)
    rw [if_neg h1]
    by_cases h2 : y < x
    · rw [if_pos h2]; simp; intro h; subst h; exact absurd h2 (by simp)
    rw [if_neg h2, ih]
    have : x = y := by
      apply UInt8.toNat_inj.1
      rw [UInt8.lt_iff_toNat_lt] at h1 h2
      omega
    simp [this]
theorem beq_one (n : Nat) : (((n : Int) + 1) == 1) = decide (n = 0) := by
  rw [Bool.eq_iff_iff]; simp; omega
theorem isSubset_l0 (L P : List (List UInt8)) (hP : P.length ≤ 140737488351232) : ∀ (p l preP preL : List (List UInt8)) (i : Int), P = preP ++ p → L = preL ++ l → i = (preP.length : Int) → preL.length = preP.length →
    (∀ t ∈ p, t ≠ []) → (∀ t ∈ l, t ≠ []) → p.all tameT = true → l.all tameT = true →
    Ev (fun k => server_isSubsetMatchTokenized.l0 k (L.map ba) (P.map ba) (P.map ba) ((P.map ba).length : Int) i) (subT l p) := by
  intro p
  induction p with
  | nil =>
    intro l preP preL i hp hl hi he _ _ _ _
    have hz : ((P.map ba).length : Int) = preP.length := by rw [hp]; simp
    have hz2 : ((L.map ba).length : Int) = preL.length + l.length := by rw [hl]; simp
    refine Ev.step (fun k => by rw [server_isSubsetMatchTokenized.l0, if_neg (by omega)]) ?_
    refine Ev.const ?_
    cases l with
    | nil => simp only [subT]; congr 1; rw [beq_iff_eq]; simp only [List.length_nil] at hz2; omega
    | cons t l => simp only [subT]; congr 1; rw [beq_eq_false_iff_ne]; simp only [List.length_cons] at hz2; omega
  | cons p ps ih =>
    intro l preP preL i hp hl hi he np nl tp tl
    have hz : ((P.map ba).length : Int) = preP.length + ps.length + 1 := by rw [hp]; simp; omega
    have hz3 : (P.length : Int) = preP.length + ps.length + 1 := by rw [hp]; simp; omega
    have hz2 : ((L.map ba).length : Int) = preL.length + l.length := by rw [hl]; simp
    have hrp : rdOf ByteArray.empty (P.map ba) i = ba p := rdOf_mid _ (preP.map ba) (ba p) (ps.map ba) (by rw [hp]; simp) (by simp; omega)
    have hw : wrap64 (i + 1) = i + 1 := w64 (by omega) (by omega)
    cases l with
    | nil =>
      simp only [List.length_nil] at hz2
      refine Ev.step (fun k => by rw [server_isSubsetMatchTokenized.l0, if_pos (by omega), if_pos (by omega), if_pos (by omega), if_pos (by omega)]) ?_
      exact Ev.now _
    | cons t l =>
      simp only [List.length_cons] at hz2
      have hrl : rdOf ByteArray.empty (L.map ba) i = ba t := rdOf_mid _ (preL.map ba) (ba t) (l.map ba) (by rw [hl]; simp) (by simp; omega)
      rw [List.all_cons, Bool.and_eq_true] at tp tl
      have IH := ih l (preP ++ [p]) (preL ++ [t]) (i + 1) (by rw [hp]; simp) (by rw [hl]; simp) (by simp; omega) (by simp [he]) (fun x hx => np x (List.mem_cons_of_mem _ hx)) (fun x hx => nl x (List.mem_cons_of_mem _ hx)) tp.2 tl.2
      obtain ⟨c, p', rfl⟩ := List.exists_cons_of_ne_nil (np p List.mem_cons_self)
      obtain ⟨d, t', rfl⟩ := List.exists_cons_of_ne_nil (nl t List.mem_cons_self)
      have sp : ((ba (c :: p')).size : Int) = (p'.length : Int) + 1 := by rw [ba_size]; simp
      have st : ((ba (d :: t')).size : Int) = (t'.length : Int) + 1 := by rw [ba_size]; simp
      have bp : bt (ba (c :: p')) 0 = (c.toNat : Int) := by rw [ba_bt]; rfl
      have bd : bt (ba (d :: t')) 0 = (d.toNat : Int) := by rw [ba_bt]; rfl
      have c42 := toNat_eq (c := c) (n := 42) (by omega)
      have c62 := toNat_eq (c := c) (n := 62) (by omega)
      have d42 := toNat_eq (c := d) (n := 42) (by omega)
      have d62 := toNat_eq (c := d) (n := 62) (by omega)
      simp at c42 c62 d42 d62
      have wp : c = 42 ∨ c = 62 → p' = [] := by
        intro h
        cases p' with
        | nil => rfl
        | cons x p' => have := tp.1; simp [tameT, wildB] at this; rcases h with h | h <;> simp [h] at this
      have wt : d = 42 ∨ d = 62 → t' = [] := by
        intro h
        cases t' with
        | nil => rfl
        | cons x t' => have := tl.1; simp [tameT, wildB] at this; rcases h with h | h <;> simp [h] at this
      rw [subT]
      -- the pattern's token: is it > ?
      by_cases h1 : c = 62
      · obtain rfl := wp (Or.inr h1)
        subst h1
        rw [if_pos rfl]
        refine Ev.step (fun k => by rw [server_isSubsetMatchTokenized.l0, if_pos (by omega), if_pos (by omega), if_pos (by omega), if_neg (by omega), hrp, sp, if_neg (by omega), if_pos (by omega), bp, if_pos (by decide), beq_one]) ?_
        refine Ev.step (fun k => by rw [server_isSubsetMatchTokenized.j1, if_pos (by simp)]) ?_
        exact Ev.now _
      rw [if_neg (by simp [h1])]
      refine Ev.step (fun k => by rw [server_isSubsetMatchTokenized.l0, if_pos (by omega), if_pos (by omega), if_pos (by omega), if_neg (by omega), hrp, sp, if_neg (by omega), if_pos (by omega), bp, if_neg (fun e => h1 (c62.1 e))]) ?_
      by_cases h2 : d = 62
      · obtain rfl := wt (Or.inr h2)
        subst h2
        rw [if_pos rfl]
        refine Ev.step (fun k => by rw [server_isSubsetMatchTokenized.j1, if_neg (by simp), if_pos (by omega), if_pos (by omega), hrl, st, if_neg (by omega), if_pos (by omega), bd, if_pos (by decide), beq_one]) ?_
        refine Ev.step (fun k => by rw [server_isSubsetMatchTokenized.j2, if_pos (by simp)]) ?_
        exact Ev.now _
      rw [if_neg (by simp [h2])]
      refine Ev.step (fun k => by rw [server_isSubsetMatchTokenized.j1, if_neg (by simp), if_pos (by omega), if_pos (by omega), hrl, st, if_neg (by omega), if_pos (by omega), bd, if_neg (fun e => h2 (d62.1 e))]) ?_
      by_cases h3 : d = 42
      · obtain rfl := wt (Or.inl h3)
        subst h3
        refine Ev.step (fun k => by rw [server_isSubsetMatchTokenized.j2, if_neg (by simp), st, if_pos (by omega), bd, if_pos (by decide), beq_one]) ?_
        by_cases h4 : c = 42
        · obtain rfl := wp (Or.inl h4)
          subst h4
          rw [if_pos (Or.inl rfl)]
          refine Ev.step (fun k => by rw [server_isSubsetMatchTokenized.j3, if_pos (by simp), sp, if_pos (by omega), bp, if_pos (by decide), beq_one]) ?_
          refine Ev.step (fun k => by rw [server_isSubsetMatchTokenized.j4, if_pos (by simp), if_neg (by omega), hw]) ?_
          exact IH
        rw [if_neg (by simp [h4]; intro h; exact absurd h.symm h4)]
        refine Ev.step (fun k => by rw [server_isSubsetMatchTokenized.j3, if_pos (by simp), sp, if_pos (by omega), bp, if_neg (fun e => h4 (c42.1 e))]) ?_
        refine Ev.step (fun k => by rw [server_isSubsetMatchTokenized.j4, if_neg (by simp)]) ?_
        exact Ev.now _
      refine Ev.step (fun k => by rw [server_isSubsetMatchTokenized.j2, if_neg (by simp), st, if_pos (by omega), bd, if_neg (fun e => h3 (d42.1 e))]) ?_
      by_cases h4 : c = 42
      · obtain rfl := wp (Or.inl h4)
        subst h4
        rw [if_pos (Or.inl rfl)]
        refine Ev.step (fun k => by rw [server_isSubsetMatchTokenized.j3, if_neg (by simp), sp, if_pos (by omega), bp, if_pos (by decide), hw]) ?_
        exact IH
      refine Ev.step (fun k => by rw [server_isSubsetMatchTokenized.j3, if_neg (by simp), sp, if_pos (by omega), bp, if_neg (fun e => h4 (c42.1 e)), strings_Compare.f, Option.bind_some, ba_data, ba_data, hw]) ?_
      by_cases h5 : (d :: t') = (c :: p')
      · rw [if_pos (Or.inr h5)]
        refine Ev.pos ((cmp_zero _ _).2 h5) IH
      rw [if_neg (fun h => h.elim (fun h => h4 (by simp at h; exact h.1)) h5)]
      refine Ev.neg (fun e => h5 ((cmp_zero _ _).1 e)) (Ev.now _)
theorem formed_ne : ∀ (L : List (List UInt8)), formedB L = true → ∀ t ∈ L, t ≠ []
  | [], _ => by simp
  | t :: ts, h => by
    simp only [formedB, Bool.and_eq_true, decide_eq_true_eq] at h
    intro x hx
    rcases List.mem_cons.1 hx with rfl | hx
    · exact h.1.1
    exact formed_ne ts h.2 x hx
theorem subset_ev (l p : List UInt8) (hl : l.length < 8796093022208) (hp : p.length < 8796093022208) (fl : formedB (toks l) = true) (fp : formedB (toks p) = true) (tl : (toks l).all tameT = true) (tp : (toks p).all tameT = true) :
    Ev (fun k => server_subjectIsSubsetMatch.f k (ba l) (ba p)) (subT (toks l) (toks p)) := by
  have h2 : (toks p).length ≤ 140737488351232 := by rw [toks_len]; have := List.count_le_length (a := (46 : UInt8)) (l := p); omega
  refine Ev.congr (fun k => by rw [server_subjectIsSubsetMatch.f]) ?_
  refine Ev.bind (tokenize_ev l hl) ?_
  refine Ev.congr (fun k => by rw [server_isSubsetMatch.f]) ?_
  refine Ev.bind (tokenize_ev p hp) ?_
  refine Ev.congr (fun k => by rw [server_isSubsetMatchTokenized.f]) ?_
  exact isSubset_l0 _ _ h2 (toks p) (toks l) [] [] 0 rfl rfl rfl rfl (formed_ne _ fp) (formed_ne _ fl) tp tl
theorem impl_Matches_ev (l p : List UInt8) (hl : l.length < 8796093022208) (hp : p.length < 8796093022208) (fl : formedB (toks l) = true) (fp : formedB (toks p) = true) (tl : (toks l).all tameT = true) (tp : (toks p).all tameT = true) :
    Ev (fun k => impl_Matches.f k (ba l) (ba p)) (subT (toks l) (toks p)) := by
  refine Ev.congr (fun k => by rw [impl_Matches.f, server_SubjectMatchesFilter.f]) ?_
  exact Ev.bind (Ev.bind (subset_ev l p hl hp fl fp tl tp) (Ev.now _)) (Ev.now _)
theorem toks_inj_len (l : List UInt8) (hl : l.length < 8796093022208) : (toks l).length ≤ 140737488351232 := by rw [toks_len]; have := List.count_le_length (a := (46 : UInt8)) (l := l); omega
theorem toksA_plain (p : List UInt8) : ∀ l : List UInt8, (46 : UInt8) ∉ l → toksA p l = [p ++ l] := by
  intro l
  induction l generalizing p with
  | nil => intro _; simp [toksA]
  | cons c l ih =>
    intro h
    simp only [List.mem_cons, not_or] at h
    rw [toksA_other _ (fun e => h.1 e.symm), ih _ h.2]; simp
theorem toksA_app : ∀ (q p l : List UInt8), toksA p (q ++ 46 :: l) = toksA p q ++ toks l
  | [], p, l => by rw [List.nil_append, toksA_dot]; simp [toksA, toks]
  | c :: q, p, l => by
    by_cases h : c = 46
    · subst h; rw [List.cons_append, toksA_dot, toksA_dot, toksA_app q [] l]; simp
    rw [List.cons_append, toksA_other _ h, toksA_other _ h, toksA_app q _ l]
theorem dot_split : ∀ l : List UInt8, (46 : UInt8) ∉ l ∨ ∃ p r, l = p ++ 46 :: r ∧ (46 : UInt8) ∉ p
  | [] => .inl (by simp)
  | c :: l => by
    by_cases h : c = 46
    · exact .inr ⟨[], l, by rw [h]; rfl, by simp⟩
    rcases dot_split l with g | ⟨p, r, rfl, g⟩
    · exact .inl (by simp only [List.mem_cons, not_or]; exact ⟨fun e => h e.symm, g⟩)
    exact .inr ⟨c :: p, r, rfl, by simp only [List.mem_cons, not_or]; exact ⟨fun e => h e.symm, g⟩⟩
theorem zzIndex_none (s : ByteArray) (hs : s.size ≤ 140737488355328) : ∀ (rest pre : List UInt8) (i : Int), s = ba (pre ++ rest) → i = (pre.length : Int) → (46 : UInt8) ∉ rest → Ev (fun k => server_zzIndex.l0 k s (ba [46]) i) (-1) := by
  intro rest
  induction rest with
  | nil =>
    intro pre i h hi _
    have hz : (s.size : Int) = pre.length := by rw [h, ba_size]; simp
    have hw : wrap64 (i + ((ba [46]).size : Int)) = i + 1 := w64 (by rw [ba_size]; simp; omega) (by rw [ba_size]; simp; omega)
    refine Ev.step (fun k => by rw [server_zzIndex.l0, hw, if_neg (by omega)]) ?_
    exact Ev.now _
  | cons c rest ih =>
    intro pre i h hi hn
    have hz : (s.size : Int) = pre.length + rest.length + 1 := by rw [h, ba_size]; simp; omega
    have hw : wrap64 (i + ((ba [46]).size : Int)) = i + 1 := w64 (by rw [ba_size]; simp; omega) (by rw [ba_size]; simp; omega)
    have hw2 : wrap64 (i + 1) = i + 1 := w64 (by omega) (by omega)
    simp only [List.mem_cons, not_or] at hn
    have he : s.extract i.toNat (i + 1).toNat = ba [c] := ext_mid pre [c] rest (by rw [h]; simp) hi (by simp; omega)
    refine Ev.step (fun k => by rw [server_zzIndex.l0, hw, if_pos (by omega), if_pos (by omega), if_pos (by omega), he, ba_toList, ba_toList, if_neg (fun e => hn.1 (by injection e with e; exact e.symm)), hw2]) ?_
    exact ih (pre ++ [c]) (i + 1) (by rw [h]; simp) (by simp; omega) hn.2
theorem zzIndex_at (s : ByteArray) (hs : s.size ≤ 140737488355328) (r : List UInt8) : ∀ (p pre : List UInt8) (i : Int), s = ba (pre ++ p ++ 46 :: r) → i = (pre.length : Int) → (46 : UInt8) ∉ p → Ev (fun k => server_zzIndex.l0 k s (ba [46]) i) ((pre.length + p.length : Nat) : Int) := by
  intro p
  induction p with
  | nil =>
    intro pre i h hi _
    have hz : (s.size : Int) = pre.length + r.length + 1 := by rw [h, ba_size]; simp; omega
    have hw : wrap64 (i + ((ba [46]).size : Int)) = i + 1 := w64 (by rw [ba_size]; simp; omega) (by rw [ba_size]; simp; omega)
    have he : s.extract i.toNat (i + 1).toNat = ba [46] := ext_mid pre [46] r (by rw [h]; simp) hi (by simp; omega)
    refine Ev.step (fun k => by rw [server_zzIndex.l0, hw, if_pos (by omega), if_pos (by omega), if_pos (by omega), he, if_pos rfl]) ?_
    exact Ev.det' (Ev.now _) (by simp; omega)
  | cons c p ih =>
    intro pre i h hi hn
    have hz : (s.size : Int) = pre.length + p.length + r.length + 2 := by rw [h, ba_size]; simp; omega
    have hw : wrap64 (i + ((ba [46]).size : Int)) = i + 1 := w64 (by rw [ba_size]; simp; omega) (by rw [ba_size]; simp; omega)
    have hw2 : wrap64 (i + 1) = i + 1 := w64 (by omega) (by omega)
    simp only [List.mem_cons, not_or] at hn
    have he : s.extract i.toNat (i + 1).toNat = ba [c] := ext_mid pre [c] (p ++ 46 :: r) (by rw [h]; simp) hi (by simp; omega)
    refine Ev.step (fun k => by rw [server_zzIndex.l0, hw, if_pos (by omega), if_pos (by omega), if_pos (by omega), he, ba_toList, ba_toList, if_neg (fun e => hn.1 (by injection e with e; exact e.symm)), hw2]) ?_
    exact Ev.det' (ih (pre ++ [c]) (i + 1) (by rw [h]; simp) (by simp; omega) hn.2) (by simp; omega)
theorem zzSplit_l1 : ∀ (n : Nat) (l : List UInt8) (out : List ByteArray), l.length ≤ n → l.length + out.length < 8796093022208 → Ev (fun k => server_zzSplit.l1 k (ba l) (ba [46]) out) (out ++ (toks l).map ba) := by
  intro n
  induction n with
  | zero =>
    intro l out h1 h2
    have : l = [] := List.length_eq_zero_iff.1 (by omega)
    subst this
    refine Ev.step (fun k => by rw [server_zzSplit.l1]) ?_
    refine Ev.bind (Ev.congr (fun k => by rw [server_zzIndex.f]) (zzIndex_none (ba []) (by simp [ba_size]) [] [] 0 (by simp) (by simp) (by simp))) ?_
    refine Ev.pos (by omega) (Ev.pos (by omega) (Ev.det' (Ev.now _) ?_))
    simp [toks, toksA]
  | succ n ih =>
    intro l out h1 h2
    refine Ev.step (fun k => by rw [server_zzSplit.l1]) ?_
    rcases dot_split l with hd | ⟨p, r, rfl, hd⟩
    · refine Ev.bind (Ev.congr (fun k => by rw [server_zzIndex.f]) (zzIndex_none (ba l) (by rw [ba_size]; omega) l [] 0 (by simp) (by simp) hd)) ?_
      refine Ev.pos (by omega) (Ev.pos (by omega) (Ev.det' (Ev.now _) ?_))
      rw [toks, toksA_plain [] l hd]; simp
    have hsz : ((ba (p ++ 46 :: r)).size : Int) = p.length + r.length + 1 := by rw [ba_size]; simp; omega
    simp only [List.length_append, List.length_cons] at h1 h2
    refine Ev.bind (Ev.congr (fun k => by rw [server_zzIndex.f]) (zzIndex_at (ba (p ++ 46 :: r)) (by omega) r p [] 0 (by simp) (by simp) hd)) ?_
    have hw : wrap64 ((((([] : List UInt8).length + p.length : Nat) : Int)) + ((ba [46]).size : Int)) = ((p.length : Int) + 1) := by
      rw [ba_size]
      have := w64 (x := (p.length : Int) + 1) (by omega) (by omega)
      simpa using this
    rw [hw]
    have e1 : (ba (p ++ 46 :: r)).extract ((p.length : Int) + 1).toNat (ba (p ++ 46 :: r)).size = ba r := ext_end (p ++ [46]) r (by simp) (by simp)
    have e2 : (ba (p ++ 46 :: r)).extract 0 ((([] : List UInt8).length + p.length : Nat) : Int).toNat = ba p := by
      have := ext_mid (s := ba (p ++ 46 :: r)) (a := 0) (b := (p.length : Int)) [] p (46 :: r) (by simp) (by simp) (by simp)
      simpa using this
    rw [e1, e2]
    refine Ev.neg (by simp <;> omega) (Ev.pos (by simp <;> omega) (Ev.pos (by rw [hsz]; simp <;> omega) (Ev.pos (by omega) (Ev.pos (by omega) (Ev.pos (by omega) ?_)))))
    refine Ev.det' (ih r (out ++ [ba p]) (by omega) (by simp; omega)) ?_
    rw [show toks (p ++ 46 :: r) = [p] ++ toks r from by rw [toks, toksA_app, toksA_plain [] p hd]; simp]
    simp
theorem zzSplit_ev (l : List UInt8) (h : l.length < 8796093022208) : Ev (fun k => server_zzSplit.f k (ba l) (ba [46])) ((toks l).map ba) := by
  refine Ev.congr (fun k => by rw [server_zzSplit.f, if_neg (by rw [ba_size]; simp)]) ?_
  exact Ev.det' (zzSplit_l1 l.length l [] (Nat.le_refl _) (by simpa using h)) (by simp)
theorem zzContains (t : List UInt8) (h : t.length ≤ 140737488351232) (hb : ∀ c ∈ t, 32 < c.toNat) : server_zzContainsAny.f (ba t) (⟨#[9, 10, 12, 13, 32]⟩ : ByteArray) = some false := by
  have h1 : server_zzIndexAny.f (ba t) (⟨#[9, 10, 12, 13, 32]⟩ : ByteArray) = some (-1) := by
    rw [server_zzIndexAny.f, if_pos ⟨by rw [ba_size]; exact h, by decide, by decide⟩]
    have : (List.range (ba t).size).find? (server_zzIndexAny.hit (ba t) (⟨#[9, 10, 12, 13, 32]⟩ : ByteArray)) = none := by
      rw [List.find?_eq_none]
      intro i hi
      rw [List.mem_range, ba_size] at hi
      have hbt : bt (ba t) (i : Int) = ((t[i]'hi).toNat : Int) := by
        rw [ba_bt]; simp [hi]
      have hgt := hb _ (List.getElem_mem hi)
      unfold server_zzIndexAny.hit
      rw [Bool.not_eq_true, List.any_eq_false]
      intro j hj
      rw [List.mem_range] at hj
      rw [hbt]
      have hle : ∀ j, j < (⟨#[9, 10, 12, 13, 32]⟩ : ByteArray).size → bt (⟨#[9, 10, 12, 13, 32]⟩ : ByteArray) (j : Int) ≤ 32 := by decide
      have := hle j hj
      rw [decide_eq_true_eq]
      omega
    rw [this]; rfl
  rw [server_zzContainsAny.f, h1]; rfl
theorem isValid_l1 (L : List (List UInt8)) (hL : L.length ≤ 140737488351232) : ∀ (rest pre : List (List UInt8)) (i : Int), L = pre ++ rest → i = (pre.length : Int) → (∀ t ∈ rest, t ≠ [] ∧ t ≠ [62] ∧ t.length ≤ 140737488351232 ∧ ∀ c ∈ t, 32 < c.toNat) →
    Ev (fun k => server_isValidSubject.l1 k false (L.map ba) ((L.map ba).length : Int) i) true := by
  intro rest
  induction rest with
  | nil =>
    intro pre i h hi _
    have hz : ((L.map ba).length : Int) = pre.length := by rw [h]; simp
    refine Ev.step (fun k => by rw [server_isValidSubject.l1, if_neg (by omega)]) ?_
    exact Ev.now _
  | cons c rest ih =>
    intro pre i h hi hp
    have hz : ((L.map ba).length : Int) = pre.length + rest.length + 1 := by rw [h]; simp; omega
    have hz2 : (L.length : Int) = pre.length + rest.length + 1 := by rw [h]; simp; omega
    have hb : rdOf ByteArray.empty (L.map ba) i = ba c := rdOf_mid _ (pre.map ba) (ba c) (rest.map ba) (by rw [h]; simp) (by simp; omega)
    have hw : wrap64 (i + 1) = i + 1 := w64 (by omega) (by omega)
    have IH := ih (pre ++ [c]) (i + 1) (by rw [h]; simp) (by simp; omega) (fun t q => hp t (List.mem_cons_of_mem _ q))
    obtain ⟨p1, p2, p3, p4⟩ := hp c List.mem_cons_self
    rcases c with _ | ⟨x, c⟩
    · exact absurd rfl p1
    have hsz : ((ba (x :: c)).size : Int) = c.length + 1 := by rw [ba_size]; simp
    refine Ev.step (fun k => by rw [server_isValidSubject.l1, if_pos (by omega), if_pos (by omega), if_pos (by omega), hb, if_neg (by omega)]) ?_
    refine Ev.step (fun k => by rw [server_isValidSubject.j1, if_neg (by simp)]) ?_
    rcases c with _ | ⟨y, c⟩
    · have hb0 : bt (ba [x]) 0 = (x.toNat : Int) := bt_mid [] x [] rfl rfl
      have hx := p4 x List.mem_cons_self
      have h62 : ¬ (x.toNat : Int) = 62 := fun e => p2 (by rw [(toNat_eq (n := 62) (by omega)).1 e]; rfl)
      refine Ev.neg (by rw [hsz]; simp) (Ev.pos (by omega) ?_)
      rw [hb0, hw]
      exact Ev.neg h62 (Ev.neg (by omega) (Ev.neg (by omega) (Ev.neg (by omega) (Ev.neg (by omega) (Ev.neg (by omega) IH)))))
    refine Ev.pos (by rw [hsz]; simp; omega) ?_
    rw [zzContains _ p3 p4, hw]
    exact Ev.some_ (Ev.neg (by simp) IH)
theorem wild_not (l : List UInt8) (hl : (toks l).all litT = true) (i : Nat) (hi : i < l.length) : server_subjectIsLiteral.wildAt (ba l) i = false := by
  apply Bool.eq_false_iff.mpr
  intro hw
  unfold server_subjectIsLiteral.wildAt at hw
  simp only [Bool.and_eq_true, Bool.or_eq_true, decide_eq_true_eq] at hw
  obtain ⟨⟨h1, h2⟩, h3⟩ := hw
  obtain ⟨pre, c, suf, rfl, rfl⟩ : ∃ pre c suf, l = pre ++ c :: suf ∧ i = pre.length := ⟨l.take i, l[i], l.drop (i + 1), by rw [List.getElem_cons_drop, List.take_append_drop], by simp; omega⟩
  rw [bt_mid pre c suf rfl rfl] at h1
  have hc : c = 42 ∨ c = 62 := h1.imp (toNat_eq (n := 42) (by omega)).1 (toNat_eq (n := 62) (by omega)).1
  have hc46 : c ≠ 46 := by rintro rfl; simp at hc
  have hsuf : ∃ r, toks (c :: suf) = [c] :: r := by
    rcases suf with _ | ⟨d, suf⟩
    · exact ⟨[], by rw [toks, toksA_other _ hc46]; simp [toksA]⟩
    have hd : d = 46 := by
      rcases h3 with h3 | h3
      · rw [ba_size] at h3; simp at h3
      rw [bt_mid (pre ++ [c]) d suf (by simp) (by simp)] at h3
      exact (toNat_eq (n := 46) (by omega)).1 h3
    subst hd
    exact ⟨toks suf, by rw [toks, toksA_other _ hc46, toksA_dot]; rfl⟩
  obtain ⟨r, hr⟩ := hsuf
  have hmem : [c] ∈ toks (pre ++ c :: suf) := by
    rcases List.eq_nil_or_concat pre with rfl | ⟨q, d, rfl⟩
    · rw [List.nil_append, hr]; exact List.mem_cons_self
    have hd : d = 46 := by
      rcases h2 with h2 | h2
      · simp at h2
      rw [bt_mid q d (c :: suf) (by simp) (by simp)] at h2
      exact (toNat_eq (n := 46) (by omega)).1 h2
    subst hd
    rw [show (q.concat 46) ++ c :: suf = q ++ 46 :: (c :: suf) from by simp, toks, toksA_app, hr]
    exact List.mem_append_right _ List.mem_cons_self
  have := List.all_eq_true.1 hl _ hmem
  rcases hc with rfl | rfl <;> exact absurd this (by decide)
/-- A subject without wildcards can be published to. -/
theorem Publish_ev (l : List UInt8) (h : l.length ≤ 140737488351) (h0 : l ≠ []) (hl : (toks l).all litT = true) (ht : ∀ t ∈ toks l, t ≠ [] ∧ ∀ c ∈ t, 32 < c.toNat) : Ev (fun k => impl_Publish.f k (ba l)) true := by
  have hsp := toks_inj_len l (by omega)
  refine Ev.congr (fun k => by rw [impl_Publish.f, server_IsValidPublishSubject.f, server_IsValidSubject.f, server_isValidSubject.f, ba_toList, if_neg h0, if_neg (by simp)]) ?_
  refine Ev.bind (a := true) ?_ (Ev.now _)
  refine Ev.bind (a := true) ?_ ?_
  · refine Ev.bind (a := true) ?_ (Ev.now _)
    refine Ev.bind (zzSplit_ev l (by omega)) ?_
    refine isValid_l1 (toks l) hsp (toks l) [] 0 rfl rfl (fun t q => ?_)
    obtain ⟨a1, a2⟩ := ht t q
    refine ⟨a1, ?_, ?_, a2⟩
    · rintro rfl
      exact absurd (List.all_eq_true.1 hl _ q) (by decide)
    have := toks_short l t q; omega
  refine Ev.pos rfl ?_
  have hr : server_subjectIsLiteral.f (ba l) = some true := by
    rw [server_subjectIsLiteral.f, if_pos (by rw [ba_size]; omega)]
    congr 1
    rw [List.all_eq_true]
    intro i hi
    rw [List.mem_range, ba_size] at hi
    rw [wild_not l hl i hi]; rfl
  rw [hr]
  exact Ev.now _
end Go.Proofs.YtoopmpjgmgffoaaDoor.PlFnTransformBack
