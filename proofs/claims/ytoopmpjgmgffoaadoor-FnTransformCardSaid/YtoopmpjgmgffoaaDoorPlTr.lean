/- What the printed functions of FnTransformBack come to, as plain functions on lists. -/
import Derived.Test.YtoopmpjgmgffoaaDoorPlTok
import Derived.Test.YtoopmpjgmgffoaaDoorTpE
namespace Go.Proofs.YtoopmpjgmgffoaaDoor.PlFnTransformBack
open Go.RowKit Go.Proofs.YtoopmpjgmgffoaaDoorW.PrintWords Go.Proofs.YtoopmpjgmgffoaaDoorW.PrintLast Go.Proofs.YtoopmpjgmgffoaaDoorW.PrintMore Go.Proofs.YtoopmpjgmgffoaaDoor.Pl Go.Proofs.YtoopmpjgmgffoaaDoor.GFnTransformBack
set_option linter.unusedVariables false
set_option linter.unusedSimpArgs false
theorem Tokens_l0 (s : ByteArray) (hs : s.size < 8796093022208) : ∀ (rest pre p : List UInt8) (out : List ByteArray) (fr i : Int), s = ba (pre ++ p ++ rest) → fr = (pre.length : Int) → i = (pre.length : Int) + p.length → out.length ≤ pre.length →
    Ev (fun k => spec_Tokens.l0 k s out fr i) (out ++ (toksA p rest).map ba) := by
  intro rest
  induction rest with
  | nil =>
    intro pre p out fr i h hf hi ho
    have hz : (s.size : Int) = pre.length + p.length := by rw [h, ba_size]; simp
    have he : s.extract fr.toNat s.size = ba p := ext_end pre p (by rw [h, List.append_nil]) hf
    refine Ev.step (fun k => by rw [spec_Tokens.l0, if_neg (by omega), if_pos (by omega), if_pos (by omega), if_pos (by omega), he]) ?_
    exact Ev.now _
  | cons c rest ih =>
    intro pre p out fr i h hf hi ho
    have hz : (s.size : Int) = pre.length + p.length + rest.length + 1 := by rw [h, ba_size]; simp; omega
    have hb : bt s i = (c.toNat : Int) := bt_mid (pre ++ p) c rest h (by simp; omega)
    have hw : wrap64 (i + 1) = i + 1 := w64 (by omega) (by omega)
    have he : s.extract fr.toNat i.toNat = ba p := ext_mid pre p (c :: rest) h hf hi
    by_cases hc : c = 46
    · subst hc
      refine Ev.step (fun k => by rw [spec_Tokens.l0, if_pos (by omega), if_pos (by omega), hb, if_pos (by decide), if_pos (by omega), if_pos (by omega), if_pos (by omega), if_pos (by omega), he, hw]) ?_
      refine Ev.det' (ih (pre ++ p ++ [46]) [] (out ++ [ba p]) (i + 1) (i + 1) (by rw [h]; simp) (by simp; omega) (by simp; omega) (by simp; omega)) ?_
      rw [toksA_dot]; simp
    have hne : ¬ ((c.toNat : Int) = 46) := fun e => hc ((toNat_eq (n := 46) (by omega)).1 e)
    refine Ev.step (fun k => by rw [spec_Tokens.l0, if_pos (by omega), if_pos (by omega), hb, if_neg hne, hw]) ?_
    refine Ev.det' (ih pre (p ++ [c]) out fr (i + 1) (by rw [h]; simp) hf (by simp; omega) ho) ?_
    rw [toksA_other _ hc]
theorem Tokens_ev (l : List UInt8) (hs : l.length < 8796093022208) : Ev (fun k => spec_Tokens.f k (ba l)) ((toks l).map ba) := by
  have := Tokens_l0 (ba l) hs l [] [] [] 0 0 (by simp) (by simp) (by simp) (by simp)
  exact this
def tk (s : ByteArray) : List ByteArray := (toks s.data.toList).map ba
theorem tk_len (s : ByteArray) : (tk s).length ≤ s.size + 1 := by
  unfold tk
  rw [List.length_map, toks_len]
  have : s.data.toList.count 46 ≤ s.data.toList.length := List.count_le_length
  have h2 : s.data.toList.length = s.size := rfl
  omega
def formedB : List (List UInt8) → Bool
  | [] => true
  | t :: ts => decide (t ≠ []) && (decide (t ≠ [62]) || ts.isEmpty) && formedB ts
theorem Formed_l0 (L : List (List UInt8)) (hs : L.length ≤ 140737488351232) : ∀ (rest pre : List (List UInt8)) (i : Int), L = pre ++ rest → i = (pre.length : Int) →
    Ev (fun k => spec_Formed.l0 k (L.map ba) i) (formedB rest) := by
  intro rest
  induction rest with
  | nil =>
    intro pre i h hi
    have hz : ((L.map ba).length : Int) = pre.length := by rw [h]; simp
    refine Ev.step (fun k => by rw [spec_Formed.l0, if_neg (by omega)]) ?_
    exact Ev.now _
  | cons c rest ih =>
    intro pre i h hi
    have hz : ((L.map ba).length : Int) = pre.length + rest.length + 1 := by rw [h]; simp; omega
    have hz2 : (L.length : Int) = pre.length + rest.length + 1 := by rw [h]; simp; omega
    have hb : rdOf ByteArray.empty (L.map ba) i = ba c := rdOf_mid _ (pre.map ba) (ba c) (rest.map ba) (by rw [h]; simp) (by simp; omega)
    have hw : wrap64 (i + 1) = i + 1 := w64 (by omega) (by omega)
    have IH := ih (pre ++ [c]) (i + 1) (by rw [h]; simp) (by simp; omega)
    rw [formedB]
    by_cases h0 : c = []
    · subst h0
      refine Ev.step (fun k => by rw [spec_Formed.l0, if_pos (by omega), if_pos (by omega), hb, ba_toList, if_pos rfl]) ?_
      exact Ev.now _
    by_cases h1 : c = [62]
    · subst h1
      cases rest with
      | nil =>
        refine Ev.step (fun k => by rw [spec_Formed.l0, if_pos (by omega), if_pos (by omega), hb, ba_toList, if_neg h0, if_pos rfl, hw, if_neg (by simp at hz ⊢; omega)]) ?_
        exact IH
      | cons d rest =>
        refine Ev.step (fun k => by rw [spec_Formed.l0, if_pos (by omega), if_pos (by omega), hb, ba_toList, if_neg h0, if_pos rfl, hw, if_pos (by simp at hz ⊢; omega)]) ?_
        exact Ev.now _
    refine Ev.step (fun k => by rw [spec_Formed.l0, if_pos (by omega), if_pos (by omega), hb, ba_toList, if_neg h0, if_neg h1, hw]) ?_
    refine Ev.det' IH ?_
    simp [h0, h1]
theorem Formed_ev (L : List (List UInt8)) (hs : L.length ≤ 140737488351232) : Ev (fun k => spec_Formed.f k (L.map ba)) (formedB L) :=
  Formed_l0 L hs L [] 0 (by simp) (by simp)
def cleanB (c : UInt8) : Bool := decide (32 < c) && decide (c ≠ 127)
theorem clean_l0 (s : ByteArray) (hs : s.size ≤ 140737488351232) : ∀ (rest pre : List UInt8) (i : Int), s = ba (pre ++ rest) → i = (pre.length : Int) →
    ∃ b, Ev (fun k => laws_clean.l0 k s i) b ∧ (b = true ↔ s.size ≤ 400 ∧ rest.all cleanB = true) := by
  intro rest
  induction rest with
  | nil =>
    intro pre i h hi
    have hz : (s.size : Int) = pre.length := by rw [h, ba_size]; simp
    refine ⟨decide ((s.size : Int) ≤ 400), ?_, by simp; omega⟩
    refine Ev.step (fun k => by rw [laws_clean.l0, if_neg (by omega)]) ?_
    refine Ev.step (fun k => by rw [laws_clean.j1, if_neg (by simp)]) ?_
    exact Ev.now _
  | cons c rest ih =>
    intro pre i h hi
    have hz : (s.size : Int) = pre.length + rest.length + 1 := by rw [h, ba_size]; simp; omega
    have hb : bt s i = (c.toNat : Int) := bt_mid pre c rest h hi
    have hw : wrap64 (i + 1) = i + 1 := w64 (by omega) (by omega)
    by_cases h4 : i ≤ 400
    · by_cases hc : cleanB c = true
      · obtain ⟨b, hev, hiff⟩ := ih (pre ++ [c]) (i + 1) (by rw [h]; simp) (by simp; omega)
        refine ⟨b, ?_, by rw [hiff, List.all_cons, hc, Bool.true_and]⟩
        simp only [cleanB, Bool.and_eq_true, decide_eq_true_eq, UInt8.lt_iff_toNat_lt, ne_eq, ← UInt8.toNat_inj] at hc
        simp at hc
        refine Ev.step (fun k => by rw [laws_clean.l0, if_pos (by omega)]) ?_
        refine Ev.step (fun k => by rw [laws_clean.j1, if_pos (by simp; omega), if_pos (by omega), if_pos (by omega), hb, if_neg (by omega), if_neg (by omega), hw]) ?_
        exact hev
      refine ⟨false, ?_, by rw [List.all_cons]; simp [hc]⟩
      simp only [cleanB, Bool.and_eq_true, decide_eq_true_eq, UInt8.lt_iff_toNat_lt, ne_eq, ← UInt8.toNat_inj] at hc
      simp at hc
      refine Ev.step (fun k => by rw [laws_clean.l0, if_pos (by omega)]) ?_
      by_cases h32 : (c.toNat : Int) ≤ 32
      · refine Ev.step (fun k => by rw [laws_clean.j1, if_pos (by simp; omega), if_pos (by omega), if_pos (by omega), hb, if_pos h32]) ?_
        exact Ev.now _
      refine Ev.step (fun k => by rw [laws_clean.j1, if_pos (by simp; omega), if_pos (by omega), if_pos (by omega), hb, if_neg h32, if_pos (by omega)]) ?_
      exact Ev.now _
    refine ⟨false, ?_, ⟨fun e => (by cases e), fun e => by omega⟩⟩
    refine Ev.step (fun k => by rw [laws_clean.l0, if_pos (by omega)]) ?_
    refine Ev.step (fun k => by rw [laws_clean.j1, if_neg (by simp; omega)]) ?_
    refine Ev.const ?_
    rw [decide_eq_false (by omega)]
theorem clean_ev (l : List UInt8) (hs : l.length ≤ 140737488351232) : ∃ b, Ev (fun k => laws_clean.f k (ba l)) b ∧ (b = true ↔ l.length ≤ 400 ∧ l.all cleanB = true) := by
  have := clean_l0 (ba l) hs l [] 0 (by simp) (by simp)
  exact this
def wildB (c : UInt8) : Bool := decide (c = 42) || decide (c = 62)
def tameT (t : List UInt8) : Bool := decide (t.length ≤ 1) || !t.any wildB
theorem tame_l0 (L : List (List UInt8)) (hL : L.length ≤ 140737488351232) (hs : ∀ t ∈ L, t.length ≤ 140737488351232) : ∀ (rest pre : List (List UInt8)) (i : Int), L = pre ++ rest → i = (pre.length : Int) →
    Ev (fun k => laws_tame.l0 k (L.map ba) i) (rest.all tameT) := by
  intro rest
  induction rest with
  | nil =>
    intro pre i h hi
    have hz : ((L.map ba).length : Int) = pre.length := by rw [h]; simp
    refine Ev.step (fun k => by rw [laws_tame.l0, if_neg (by omega)]) ?_
    exact Ev.now _
  | cons t rest ih =>
    intro pre i h hi
    have hz : ((L.map ba).length : Int) = pre.length + rest.length + 1 := by rw [h]; simp; omega
    have hz2 : (L.length : Int) = pre.length + rest.length + 1 := by rw [h]; simp; omega
    have hrd : rdOf ByteArray.empty (L.map ba) i = ba t := rdOf_mid _ (pre.map ba) (ba t) (rest.map ba) (by rw [h]; simp) (by simp; omega)
    have hw : wrap64 (i + 1) = i + 1 := w64 (by omega) (by omega)
    have IH := ih (pre ++ [t]) (i + 1) (by rw [h]; simp) (by simp; omega)
    have ht := hs t (by rw [h]; simp)
    rw [List.all_cons]
    refine Ev.step (fun k => by rw [laws_tame.l0, if_pos (by omega)]) ?_
    by_cases h1 : t.length ≤ 1
    · have e : tameT t = true := by simp [tameT, h1]
      rw [e, Bool.true_and]
      by_cases h0 : (0 : Int) < ((ba t).size : Int)
      · refine Ev.step (fun k => by rw [laws_tame.l1, if_pos (by omega), if_pos (by omega), hrd, if_pos h0, ba_size, decide_eq_false (by omega)]) ?_
        refine Ev.step (fun k => by rw [laws_tame.j2, if_neg (by simp), hw]) ?_
        exact IH
      refine Ev.step (fun k => by rw [laws_tame.l1, if_pos (by omega), if_pos (by omega), hrd, if_neg h0]) ?_
      refine Ev.step (fun k => by rw [laws_tame.j2, if_neg (by simp), hw]) ?_
      exact IH
    have inner : ∀ (tr tp : List UInt8) (j : Int), t = tp ++ tr → j = (tp.length : Int) → Ev (fun k => laws_tame.l1 k (L.map ba) i j) (!tr.any wildB && rest.all tameT) := by
      intro tr
      induction tr with
      | nil =>
        intro tp j htp hj
        have htz : ((ba t).size : Int) = tp.length := by rw [ba_size, htp]; simp
        refine Ev.step (fun k => by rw [laws_tame.l1, if_pos (by omega), if_pos (by omega), hrd, if_neg (by omega)]) ?_
        refine Ev.step (fun k => by rw [laws_tame.j2, if_neg (by simp), hw]) ?_
        exact IH
      | cons c tr ihi =>
        intro tp j htp hj
        have htz : ((ba t).size : Int) = tp.length + tr.length + 1 := by rw [ba_size, htp]; simp; omega
        have htz2 : (t.length : Int) = tp.length + tr.length + 1 := by rw [htp]; simp; omega
        have hb : bt (ba t) j = (c.toNat : Int) := bt_mid tp c tr (by rw [htp]) hj
        have hwj : wrap64 (j + 1) = j + 1 := w64 (by omega) (by omega)
        have e42 := toNat_eq (c := c) (n := 42) (by omega)
        have e62 := toNat_eq (c := c) (n := 62) (by omega)
        simp at e42 e62
        refine Ev.step (fun k => by rw [laws_tame.l1, if_pos (by omega), if_pos (by omega), hrd, if_pos (by omega), decide_eq_true (by omega)]) ?_
        rw [List.any_cons]
        by_cases h42 : c = 42
        · refine Ev.step (fun k => by rw [laws_tame.j2, if_pos rfl, if_pos (by omega), if_pos (by omega), hrd, if_pos (by omega), if_pos (by omega), hb, if_pos (e42.2 h42)]) ?_
          exact Ev.const (by simp [wildB, h42])
        by_cases h62 : c = 62
        · refine Ev.step (fun k => by rw [laws_tame.j2, if_pos rfl, if_pos (by omega), if_pos (by omega), hrd, if_pos (by omega), if_pos (by omega), hb, if_neg (fun e => h42 (e42.1 e)), if_pos (e62.2 h62)]) ?_
          exact Ev.const (by simp [wildB, h62])
        refine Ev.step (fun k => by rw [laws_tame.j2, if_pos rfl, if_pos (by omega), if_pos (by omega), hrd, if_pos (by omega), if_pos (by omega), hb, if_neg (fun e => h42 (e42.1 e)), if_neg (fun e => h62 (e62.1 e)), hwj]) ?_
        refine Ev.det' (ihi (tp ++ [c]) (j + 1) (by rw [htp]; simp) (by simp; omega)) ?_
        simp [wildB, h42, h62]
    refine Ev.det' (inner t [] 0 (by simp) (by simp)) ?_
    simp [tameT, h1]
theorem tame_ev (l : List UInt8) (hs : l.length < 8796093022208) : Ev (fun k => laws_tame.f k (ba l)) ((toks l).all tameT) := by
  have ht : (toks l).length ≤ 140737488351232 := by rw [toks_len]; have := List.count_le_length (a := (46 : UInt8)) (l := l); omega
  refine Ev.congr (fun k => by rw [laws_tame.f]) ?_
  refine Ev.bind (Tokens_ev l hs) ?_
  exact tame_l0 (toks l) ht (fun t h => by have := toks_short l t h; omega) (toks l) [] 0 (by simp) (by simp)
def blankB (c : UInt8) : Bool := decide (c = 32) || decide (c = 9) || decide (c = 10) || decide (c = 13) || decide (c = 12)
theorem Blank_eq (c : UInt8) : spec_Blank.f (c.toNat : Int) = some (blankB c) := by
  unfold spec_Blank.f
  have e32 := toNat_eq (c := c) (n := 32) (by omega)
  have e9 := toNat_eq (c := c) (n := 9) (by omega)
  have e10 := toNat_eq (c := c) (n := 10) (by omega)
  have e13 := toNat_eq (c := c) (n := 13) (by omega)
  have e12 := toNat_eq (c := c) (n := 12) (by omega)
  simp at e32 e9 e10 e13 e12
  unfold blankB
  by_cases h32 : c = 32
  · subst h32; rfl
  rw [if_neg (by rw [e32]; exact h32)]
  by_cases h9 : c = 9
  · subst h9; rfl
  rw [if_neg (by rw [e9]; exact h9)]
  by_cases h10 : c = 10
  · subst h10; rfl
  rw [if_neg (by rw [e10]; exact h10)]
  by_cases h13 : c = 13
  · subst h13; rfl
  rw [if_neg (by rw [e13]; exact h13)]
  simp [h32, h9, h10, h13]
  rw [Bool.eq_iff_iff]
  simp
  exact e12
theorem Spaced_l0 (s : ByteArray) (hs : s.size ≤ 140737488351232) : ∀ (rest pre : List UInt8) (i : Int), s = ba (pre ++ rest) → i = (pre.length : Int) →
    Ev (fun k => spec_Spaced.l0 k s i) (rest.any blankB) := by
  intro rest
  induction rest with
  | nil =>
    intro pre i h hi
    have hz : (s.size : Int) = pre.length := by rw [h, ba_size]; simp
    refine Ev.step (fun k => by rw [spec_Spaced.l0, if_neg (by omega)]) ?_
    exact Ev.now _
  | cons c rest ih =>
    intro pre i h hi
    have hz : (s.size : Int) = pre.length + rest.length + 1 := by rw [h, ba_size]; simp; omega
    have hb : bt s i = (c.toNat : Int) := bt_mid pre c rest h hi
    have hw : wrap64 (i + 1) = i + 1 := w64 (by omega) (by omega)
    refine Ev.step (fun k => by rw [spec_Spaced.l0, if_pos (by omega), if_pos (by omega), hb, Blank_eq, Option.bind_some, hw]) ?_
    rw [List.any_cons]
    cases hc : blankB c with
    | true => simp only [if_true, Bool.true_or]; exact Ev.now _
    | false =>
      simp only [Bool.false_eq_true, if_false, Bool.false_or]
      exact ih (pre ++ [c]) (i + 1) (by rw [h]; simp) (by simp; omega)
theorem Spaced_ev (l : List UInt8) (hs : l.length ≤ 140737488351232) : Ev (fun k => spec_Spaced.f k (ba l)) (l.any blankB) := by
  have := Spaced_l0 (ba l) hs l [] 0 (by simp) (by simp)
  exact this
def validB (l : List UInt8) : Bool := formedB (toks l) && !l.any blankB
theorem Valid_ev (l : List UInt8) (hs : l.length < 8796093022208) : Ev (fun k => spec_Valid.f k (ba l)) (validB l) := by
  have ht : (toks l).length ≤ 140737488351232 := by rw [toks_len]; have := List.count_le_length (a := (46 : UInt8)) (l := l); omega
  refine Ev.congr (fun k => by rw [spec_Valid.f]) ?_
  refine Ev.bind (Tokens_ev l hs) ?_
  refine Ev.bind (Formed_ev _ ht) ?_
  unfold validB
  cases formedB (toks l) with
  | true =>
    simp only [if_true, Bool.true_and]
    refine Ev.bind (Spaced_ev l (by omega)) ?_
    exact Ev.now _
  | false => simp only [Bool.false_eq_true, if_false, Bool.false_and]; exact Ev.now _
theorem valid_ev (l : List UInt8) (hs : l.length < 8796093022208) : ∃ b, Ev (fun k => laws_valid.f k (ba l)) b ∧ (b = true ↔ (l.length ≤ 400 ∧ l.all cleanB = true) ∧ validB l = true ∧ (toks l).all tameT = true) := by
  obtain ⟨b, hb, hiff⟩ := clean_ev l (by omega)
  cases b with
  | false =>
    refine ⟨false, ?_, ?_⟩
    · refine Ev.congr (fun k => by rw [laws_valid.f]) ?_
      refine Ev.bind hb ?_
      simp only [Bool.false_eq_true, if_false]
      exact Ev.now _
    simp only [Bool.false_eq_true, false_iff] at hiff ⊢
    exact fun h => hiff h.1
  | true =>
    refine ⟨validB l && (toks l).all tameT, ?_, ?_⟩
    · refine Ev.congr (fun k => by rw [laws_valid.f]) ?_
      refine Ev.bind hb ?_
      simp only [if_true]
      refine Ev.bind (Valid_ev l hs) ?_
      cases validB l with
      | true =>
        simp only [if_true, Bool.true_and]
        refine Ev.bind (tame_ev l hs) ?_
        exact Ev.now _
      | false => simp only [Bool.false_eq_true, if_false, Bool.false_and]; exact Ev.now _
    rw [Bool.and_eq_true]
    exact ⟨fun h => ⟨hiff.1 rfl, h⟩, fun h => h.2⟩
def litT (t : List UInt8) : Bool := decide (t ≠ [42]) && decide (t ≠ [62])
theorem spec_Literal_l0 (L : List (List UInt8)) (hs : L.length ≤ 140737488351232) : ∀ (rest pre : List (List UInt8)) (i : Int), L = pre ++ rest → i = (pre.length : Int) →
    Ev (fun k => spec_Literal.l0 k (L.map ba) i) (rest.all litT) := by
  intro rest
  induction rest with
  | nil =>
    intro pre i h hi
    have hz : ((L.map ba).length : Int) = pre.length := by rw [h]; simp
    refine Ev.step (fun k => by rw [spec_Literal.l0, if_neg (by omega)]) ?_
    exact Ev.now _
  | cons c rest ih =>
    intro pre i h hi
    have hz : ((L.map ba).length : Int) = pre.length + rest.length + 1 := by rw [h]; simp; omega
    have hz2 : (L.length : Int) = pre.length + rest.length + 1 := by rw [h]; simp; omega
    have hb : rdOf ByteArray.empty (L.map ba) i = ba c := rdOf_mid _ (pre.map ba) (ba c) (rest.map ba) (by rw [h]; simp) (by simp; omega)
    have hw : wrap64 (i + 1) = i + 1 := w64 (by omega) (by omega)
    have IH := ih (pre ++ [c]) (i + 1) (by rw [h]; simp) (by simp; omega)
    by_cases h0 : c = [42]
    · refine Ev.step (fun k => by rw [spec_Literal.l0, if_pos (by omega), if_pos (by omega), hb, ba_toList, if_pos h0]) ?_
      exact Ev.const (by simp [litT, h0])
    by_cases h1 : c = [62]
    · refine Ev.step (fun k => by rw [spec_Literal.l0, if_pos (by omega), if_pos (by omega), hb, ba_toList, if_neg h0, if_pos h1]) ?_
      exact Ev.const (by simp [litT, h1])
    refine Ev.step (fun k => by rw [spec_Literal.l0, if_pos (by omega), if_pos (by omega), hb, ba_toList, if_neg h0, if_neg h1, hw]) ?_
    refine Ev.det' IH ?_
    simp [litT, h0, h1]
theorem spec_Literal_ev (l : List UInt8) (hs : l.length < 8796093022208) : Ev (fun k => spec_Literal.f k (ba l)) ((toks l).all litT) := by
  have ht : (toks l).length ≤ 140737488351232 := by rw [toks_len]; have := List.count_le_length (a := (46 : UInt8)) (l := l); omega
  refine Ev.congr (fun k => by rw [spec_Literal.f]) ?_
  refine Ev.bind (Tokens_ev l hs) ?_
  exact spec_Literal_l0 (toks l) ht (toks l) [] 0 rfl rfl
theorem plain_ev (l : List UInt8) (hs : l.length < 8796093022208) : ∃ b, Ev (fun k => laws_plain.f k (ba l)) b ∧ (b = true ↔ ((l.length ≤ 400 ∧ l.all cleanB = true) ∧ validB l = true ∧ (toks l).all tameT = true) ∧ (toks l).all litT = true) := by
  obtain ⟨b, hb, hiff⟩ := valid_ev l hs
  cases b with
  | false =>
    refine ⟨false, ?_, ?_⟩
    · refine Ev.congr (fun k => by rw [laws_plain.f]) ?_
      refine Ev.bind hb ?_
      simp only [Bool.false_eq_true, if_false]
      exact Ev.now _
    simp only [Bool.false_eq_true, false_iff] at hiff ⊢
    exact fun h => hiff h.1
  | true =>
    refine ⟨(toks l).all litT, ?_, ?_⟩
    · refine Ev.congr (fun k => by rw [laws_plain.f]) ?_
      refine Ev.bind hb ?_
      simp only [if_true]
      refine Ev.bind (spec_Literal_ev l hs) ?_
      exact Ev.now _
    exact ⟨fun h => ⟨hiff.1 rfl, h⟩, fun h => h.2⟩
def matchT : List (List UInt8) → List (List UInt8) → Bool
  | [], [] => true
  | _ :: _, [] => false
  | [], _ :: _ => false
  | t :: l, p :: ps => if p = [62] then true else if p = [42] ∨ p = t then matchT l ps else false
theorem spec_matches_l0 (L P : List (List UInt8)) (hP : P.length ≤ 140737488351232) : ∀ (p l preP preL : List (List UInt8)) (i : Int), P = preP ++ p → L = preL ++ l → i = (preP.length : Int) → preL.length = preP.length →
    Ev (fun k => spec_matches.l0 k (L.map ba) (P.map ba) i) (matchT l p) := by
  intro p
  induction p with
  | nil =>
    intro l preP preL i hp hl hi he
    have hz : ((P.map ba).length : Int) = preP.length := by rw [hp]; simp
    have hz2 : ((L.map ba).length : Int) = preL.length + l.length := by rw [hl]; simp
    refine Ev.step (fun k => by rw [spec_matches.l0, if_neg (by omega)]) ?_
    refine Ev.const ?_
    cases l with
    | nil => simp only [matchT]; congr 1; rw [beq_iff_eq]; simp only [List.length_nil] at hz2; omega
    | cons t l => simp only [matchT]; congr 1; rw [beq_eq_false_iff_ne]; simp only [List.length_cons] at hz2; omega
  | cons p ps ih =>
    intro l preP preL i hp hl hi he
    have hz : ((P.map ba).length : Int) = preP.length + ps.length + 1 := by rw [hp]; simp; omega
    have hz3 : (P.length : Int) = preP.length + ps.length + 1 := by rw [hp]; simp; omega
    have hz2 : ((L.map ba).length : Int) = preL.length + l.length := by rw [hl]; simp
    have hrp : rdOf ByteArray.empty (P.map ba) i = ba p := rdOf_mid _ (preP.map ba) (ba p) (ps.map ba) (by rw [hp]; simp) (by simp; omega)
    have hw : wrap64 (i + 1) = i + 1 := w64 (by omega) (by omega)
    cases l with
    | nil =>
      simp only [List.length_nil] at hz2
      refine Ev.step (fun k => by rw [spec_matches.l0, if_pos (by omega), if_pos (by omega)]) ?_
      exact Ev.now _
    | cons t l =>
      simp only [List.length_cons] at hz2
      have hrl : rdOf ByteArray.empty (L.map ba) i = ba t := rdOf_mid _ (preL.map ba) (ba t) (l.map ba) (by rw [hl]; simp) (by simp; omega)
      have IH := ih l (preP ++ [p]) (preL ++ [t]) (i + 1) (by rw [hp]; simp) (by rw [hl]; simp) (by simp; omega) (by simp [he])
      rw [matchT]
      by_cases h1 : p = [62]
      · rw [if_pos h1]
        refine Ev.step (fun k => by rw [spec_matches.l0, if_pos (by omega), if_neg (by omega), if_pos (by omega), hrp, ba_toList, if_pos h1]) ?_
        exact Ev.now _
      rw [if_neg h1]
      by_cases h2 : p = [42]
      · rw [if_pos (Or.inl h2)]
        refine Ev.step (fun k => by rw [spec_matches.l0, if_pos (by omega), if_neg (by omega), if_pos (by omega), hrp, ba_toList, if_neg h1, if_pos h2, hw]) ?_
        exact IH
      by_cases h3 : p = t
      · rw [if_pos (Or.inr h3)]
        refine Ev.step (fun k => by rw [spec_matches.l0, if_pos (by omega), if_neg (by omega), if_pos (by omega), hrp, ba_toList, if_neg h1, if_neg h2, if_pos (by omega), hrl, ba_toList, if_pos h3, hw]) ?_
        exact IH
      rw [if_neg (by simp [h2, h3])]
      refine Ev.step (fun k => by rw [spec_matches.l0, if_pos (by omega), if_neg (by omega), if_pos (by omega), hrp, ba_toList, if_neg h1, if_neg h2, if_pos (by omega), hrl, ba_toList, if_neg h3]) ?_
      exact Ev.now _
theorem spec_Match_ev (l p : List UInt8) (hl : l.length < 8796093022208) (hp : p.length < 8796093022208) : Ev (fun k => spec_Match.f k (ba l) (ba p)) (matchT (toks l) (toks p)) := by
  have h2 : (toks p).length ≤ 140737488351232 := by rw [toks_len]; have := List.count_le_length (a := (46 : UInt8)) (l := p); omega
  refine Ev.congr (fun k => by rw [spec_Match.f]) ?_
  refine Ev.bind (Tokens_ev l hl) ?_
  refine Ev.bind (Tokens_ev p hp) ?_
  refine Ev.bind (spec_matches_l0 _ _ h2 (toks p) (toks l) [] [] 0 rfl rfl rfl rfl) ?_
  exact Ev.now _
def subT : List (List UInt8) → List (List UInt8) → Bool
  | [], [] => true
  | _ :: _, [] => false
  | [], _ :: _ => false
  | t :: l, p :: ps => if p = [62] then true else if t = [62] then false else if p = [42] ∨ t = p then subT l ps else false
theorem tokenize_l0 (s : ByteArray) (hs : s.size < 8796093022208) : ∀ (rest pre p : List UInt8) (out : List ByteArray) (fr i : Int), s = ba (pre ++ p ++ rest) → fr = (pre.length : Int) → i = (pre.length : Int) + p.length → out.length ≤ pre.length →
    Ev (fun k => server_tokenizeSubjectIntoSlice.l0 k out s fr i) (out ++ (toksA p rest).map ba) := by
  intro rest
  induction rest with
  | nil =>
    intro pre p out fr i h hf hi ho
    have hz : (s.size : Int) = pre.length + p.length := by rw [h, ba_size]; simp
    have he : s.extract fr.toNat s.size = ba p := ext_end pre p (by rw [h, List.append_nil]) hf
    refine Ev.step (fun k => by rw [server_tokenizeSubjectIntoSlice.l0, if_neg (by omega), if_pos (by omega), if_pos (by omega), if_pos (by omega), he]) ?_
    exact Ev.now _
  | cons c rest ih =>
    intro pre p out fr i h hf hi ho
    have hz : (s.size : Int) = pre.length + p.length + rest.length + 1 := by rw [h, ba_size]; simp; omega
    have hb : bt s i = (c.toNat : Int) := bt_mid (pre ++ p) c rest h (by simp; omega)
    have hw : wrap64 (i + 1) = i + 1 := w64 (by omega) (by omega)
    have he : s.extract fr.toNat i.toNat = ba p := ext_mid pre p (c :: rest) h hf hi
    by_cases hc : c = 46
    · subst hc
      refine Ev.step (fun k => by rw [server_tokenizeSubjectIntoSlice.l0, if_pos (by omega), if_pos (by omega), hb, if_pos (by decide), if_pos (by omega), if_pos (by omega), if_pos (by omega), if_pos (by omega), he, hw]) ?_
      refine Ev.det' (ih (pre ++ p ++ [46]) [] (out ++ [ba p]) (i + 1) (i + 1) (by rw [h]; simp) (by simp; omega) (by simp; omega) (by simp; omega)) ?_
      rw [toksA_dot]; simp
    have hne : ¬ ((c.toNat : Int) = 46) := fun e => hc ((toNat_eq (n := 46) (by omega)).1 e)
    refine Ev.step (fun k => by rw [server_tokenizeSubjectIntoSlice.l0, if_pos (by omega), if_pos (by omega), hb, if_neg hne, hw]) ?_
    refine Ev.det' (ih pre (p ++ [c]) out fr (i + 1) (by rw [h]; simp) hf (by simp; omega) ho) ?_
    rw [toksA_other _ hc]
theorem tokenize_ev (l : List UInt8) (hs : l.length < 8796093022208) : Ev (fun k => server_tokenizeSubjectIntoSlice.f k [] (ba l)) ((toks l).map ba) := by
  have := tokenize_l0 (ba l) hs l [] [] [] 0 0 (by simp) (by simp) (by simp) (by simp)
  exact this
theorem cmp_zero : ∀ (a b : List UInt8), Lib.compareBytes a b = 0 ↔ a = b
  | [], [] => by simp [Lib.compareBytes]
  | [], _ :: _ => by simp [Lib.compareBytes]
  | _ :: _, [] => by simp [Lib.compareBytes]
  | x :: a, y :: b => by
    have ih := cmp_zero a b
    simp only [Lib.compareBytes]
    by_cases h1 : x < y
    · rw [if_pos h1]; simp; intro h; subst h; exact absurd h1 (by simp)
    rw [if_neg h1]
    by_cases h2 : y < x
    · rw [if_pos h2]; simp; intro h; subst h; exact absurd h2 (by simp)
    rw [if_neg h2, ih]
    have : x = y := by
      apply UInt8.toNat_inj.1
      rw [UInt8.lt_iff_toNat_lt] at h1 h2
      omega
    simp [this]
theorem beq_one (n : Nat) : (((n : Int) + 1) == 1) = decide (n = 0) := by
  rw [Bool.eq_iff_iff]; simp; omega
theorem isSubset_l0 (L P : List (List UInt8)) (hP : P.length ≤ 140737488351232) : ∀ (p l preP preL : List (List UInt8)) (i : Int), P = preP ++ p → L = preL ++ l → i = (preP.length : Int) → preL.length = preP.length →
    (∀ t ∈ p, t ≠ []) → (∀ t ∈ l, t ≠ []) → p.all tameT = true → l.all tameT = true →
    Ev (fun k => server_isSubsetMatchTokenized.l0 k (L.map ba) (P.map ba) (P.map ba) ((P.map ba).length : Int) i) (subT l p) := by
  intro p
  induction p with
  | nil =>
    intro l preP preL i hp hl hi he _ _ _ _
    have hz : ((P.map ba).length : Int) = preP.length := by rw [hp]; simp
    have hz2 : ((L.map ba).length : Int) = preL.length + l.length := by rw [hl]; simp
    refine Ev.step (fun k => by rw [server_isSubsetMatchTokenized.l0, if_neg (by omega)]) ?_
    refine Ev.const ?_
    cases l with
    | nil => simp only [subT]; congr 1; rw [beq_iff_eq]; simp only [List.length_nil] at hz2; omega
    | cons t l => simp only [subT]; congr 1; rw [beq_eq_false_iff_ne]; simp only [List.length_cons] at hz2; omega
  | cons p ps ih =>
    intro l preP preL i hp hl hi he np nl tp tl
    have hz : ((P.map ba).length : Int) = preP.length + ps.length + 1 := by rw [hp]; simp; omega
    have hz3 : (P.length : Int) = preP.length + ps.length + 1 := by rw [hp]; simp; omega
    have hz2 : ((L.map ba).length : Int) = preL.length + l.length := by rw [hl]; simp
    have hrp : rdOf ByteArray.empty (P.map ba) i = ba p := rdOf_mid _ (preP.map ba) (ba p) (ps.map ba) (by rw [hp]; simp) (by simp; omega)
    have hw : wrap64 (i + 1) = i + 1 := w64 (by omega) (by omega)
    cases l with
    | nil =>
      simp only [List.length_nil] at hz2
      refine Ev.step (fun k => by rw [server_isSubsetMatchTokenized.l0, if_pos (by omega), if_pos (by omega), if_pos (by omega), if_pos (by omega)]) ?_
      exact Ev.now _
    | cons t l =>
      simp only [List.length_cons] at hz2
      have hrl : rdOf ByteArray.empty (L.map ba) i = ba t := rdOf_mid _ (preL.map ba) (ba t) (l.map ba) (by rw [hl]; simp) (by simp; omega)
      rw [List.all_cons, Bool.and_eq_true] at tp tl
      have IH := ih l (preP ++ [p]) (preL ++ [t]) (i + 1) (by rw [hp]; simp) (by rw [hl]; simp) (by simp; omega) (by simp [he]) (fun x hx => np x (List.mem_cons_of_mem _ hx)) (fun x hx => nl x (List.mem_cons_of_mem _ hx)) tp.2 tl.2
      obtain ⟨c, p', rfl⟩ := List.exists_cons_of_ne_nil (np p List.mem_cons_self)
      obtain ⟨d, t', rfl⟩ := List.exists_cons_of_ne_nil (nl t List.mem_cons_self)
      have sp : ((ba (c :: p')).size : Int) = (p'.length : Int) + 1 := by rw [ba_size]; simp
      have st : ((ba (d :: t')).size : Int) = (t'.length : Int) + 1 := by rw [ba_size]; simp
      have bp : bt (ba (c :: p')) 0 = (c.toNat : Int) := by rw [ba_bt]; rfl
      have bd : bt (ba (d :: t')) 0 = (d.toNat : Int) := by rw [ba_bt]; rfl
      have c42 := toNat_eq (c := c) (n := 42) (by omega)
      have c62 := toNat_eq (c := c) (n := 62) (by omega)
      have d42 := toNat_eq (c := d) (n := 42) (by omega)
      have d62 := toNat_eq (c := d) (n := 62) (by omega)
      simp at c42 c62 d42 d62
      have wp : c = 42 ∨ c = 62 → p' = [] := by
        intro h
        cases p' with
        | nil => rfl
        | cons x p' => have := tp.1; simp [tameT, wildB] at this; rcases h with h | h <;> simp [h] at this
      have wt : d = 42 ∨ d = 62 → t' = [] := by
        intro h
        cases t' with
        | nil => rfl
        | cons x t' => have := tl.1; simp [tameT, wildB] at this; rcases h with h | h <;> simp [h] at this
      rw [subT]
      by_cases h1 : c = 62
      · obtain rfl := wp (Or.inr h1)
        subst h1
        rw [if_pos rfl]
        refine Ev.step (fun k => by rw [server_isSubsetMatchTokenized.l0, if_pos (by omega), if_pos (by omega), if_pos (by omega), if_neg (by omega), hrp, sp, if_neg (by omega), if_pos (by omega), bp, if_pos (by decide), beq_one]) ?_
        refine Ev.step (fun k => by rw [server_isSubsetMatchTokenized.j1, if_pos (by simp)]) ?_
        exact Ev.now _
      rw [if_neg (by simp [h1])]
      refine Ev.step (fun k => by rw [server_isSubsetMatchTokenized.l0, if_pos (by omega), if_pos (by omega), if_pos (by omega), if_neg (by omega), hrp, sp, if_neg (by omega), if_pos (by omega), bp, if_neg (fun e => h1 (c62.1 e))]) ?_
      by_cases h2 : d = 62
      · obtain rfl := wt (Or.inr h2)
        subst h2
        rw [if_pos rfl]
        refine Ev.step (fun k => by rw [server_isSubsetMatchTokenized.j1, if_neg (by simp), if_pos (by omega), if_pos (by omega), hrl, st, if_neg (by omega), if_pos (by omega), bd, if_pos (by decide), beq_one]) ?_
        refine Ev.step (fun k => by rw [server_isSubsetMatchTokenized.j2, if_pos (by simp)]) ?_
        exact Ev.now _
      rw [if_neg (by simp [h2])]
      refine Ev.step (fun k => by rw [server_isSubsetMatchTokenized.j1, if_neg (by simp), if_pos (by omega), if_pos (by omega), hrl, st, if_neg (by omega), if_pos (by omega), bd, if_neg (fun e => h2 (d62.1 e))]) ?_
      by_cases h3 : d = 42
      · obtain rfl := wt (Or.inl h3)
        subst h3
        refine Ev.step (fun k => by rw [server_isSubsetMatchTokenized.j2, if_neg (by simp), st, if_pos (by omega), bd, if_pos (by decide), beq_one]) ?_
        by_cases h4 : c = 42
        · obtain rfl := wp (Or.inl h4)
          subst h4
          rw [if_pos (Or.inl rfl)]
          refine Ev.step (fun k => by rw [server_isSubsetMatchTokenized.j3, if_pos (by simp), sp, if_pos (by omega), bp, if_pos (by decide), beq_one]) ?_
          refine Ev.step (fun k => by rw [server_isSubsetMatchTokenized.j4, if_pos (by simp), if_neg (by omega), hw]) ?_
          exact IH
        rw [if_neg (by simp [h4]; intro h; exact absurd h.symm h4)]
        refine Ev.step (fun k => by rw [server_isSubsetMatchTokenized.j3, if_pos (by simp), sp, if_pos (by omega), bp, if_neg (fun e => h4 (c42.1 e))]) ?_
        refine Ev.step (fun k => by rw [server_isSubsetMatchTokenized.j4, if_neg (by simp)]) ?_
        exact Ev.now _
      refine Ev.step (fun k => by rw [server_isSubsetMatchTokenized.j2, if_neg (by simp), st, if_pos (by omega), bd, if_neg (fun e => h3 (d42.1 e))]) ?_
      by_cases h4 : c = 42
      · obtain rfl := wp (Or.inl h4)
        subst h4
        rw [if_pos (Or.inl rfl)]
        refine Ev.step (fun k => by rw [server_isSubsetMatchTokenized.j3, if_neg (by simp), sp, if_pos (by omega), bp, if_pos (by decide), hw]) ?_
        exact IH
      refine Ev.step (fun k => by rw [server_isSubsetMatchTokenized.j3, if_neg (by simp), sp, if_pos (by omega), bp, if_neg (fun e => h4 (c42.1 e)), strings_Compare.f, Option.bind_some, ba_data, ba_data, hw]) ?_
      by_cases h5 : (d :: t') = (c :: p')
      · rw [if_pos (Or.inr h5)]
        refine Ev.pos ((cmp_zero _ _).2 h5) IH
      rw [if_neg (fun h => h.elim (fun h => h4 (by simp at h; exact h.1)) h5)]
      refine Ev.neg (fun e => h5 ((cmp_zero _ _).1 e)) (Ev.now _)
theorem formed_ne : ∀ (L : List (List UInt8)), formedB L = true → ∀ t ∈ L, t ≠ []
  | [], _ => by simp
  | t :: ts, h => by
    simp only [formedB, Bool.and_eq_true, decide_eq_true_eq] at h
    intro x hx
    rcases List.mem_cons.1 hx with rfl | hx
    · exact h.1.1
    exact formed_ne ts h.2 x hx
theorem toksA_plain (p : List UInt8) : ∀ l : List UInt8, (46 : UInt8) ∉ l → toksA p l = [p ++ l] := by
  intro l
  induction l generalizing p with
  | nil => intro _; simp [toksA]
  | cons c l ih =>
    intro h
    simp only [List.mem_cons, not_or] at h
    rw [toksA_other _ (fun e => h.1 e.symm), ih _ h.2]; simp
theorem toksA_app : ∀ (q p l : List UInt8), toksA p (q ++ 46 :: l) = toksA p q ++ toks l
  | [], p, l => by rw [List.nil_append, toksA_dot]; simp [toksA, toks]
  | c :: q, p, l => by
    by_cases h : c = 46
    · subst h; rw [List.cons_append, toksA_dot, toksA_dot, toksA_app q [] l]; simp
    rw [List.cons_append, toksA_other _ h, toksA_other _ h, toksA_app q _ l]
end Go.Proofs.YtoopmpjgmgffoaaDoor.PlFnTransformBack
