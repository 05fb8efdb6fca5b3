/- What the printed functions of FnTreeRun come to, as plain functions on lists. -/
import Derived.Test.YtjhmpcbpbdkddaaGreatPlTok
import Derived.Test.YtjhmpcbpbdkddaaGreatTePa
namespace Go.Proofs.YtjhmpcbpbdkddaaGreat.PlFnTreeRun
open Go.RowKit Go.Proofs.YtjhmpcbpbdkddaaGreatW.PrintWords Go.Proofs.YtjhmpcbpbdkddaaGreatW.PrintLast Go.Proofs.YtjhmpcbpbdkddaaGreatW.PrintMore Go.Proofs.YtjhmpcbpbdkddaaGreat.Pl Go.Proofs.YtjhmpcbpbdkddaaGreat.GFnTreeRun
set_option linter.unusedVariables false
set_option linter.unusedSimpArgs false

theorem Tokens_l0 (s : ByteArray) (hs : s.size < 8796093022208) : ∀ (rest pre p : List UInt8) (out : List ByteArray) (fr i : Int), s = ba (pre ++ p ++ rest) → fr = (pre.length : Int) → i = (pre.length : Int) + p.length → out.length ≤ pre.length →
    Ev (fun k => spec_Tokens.l0 k s out fr i) (out ++ (toksA p rest).map ba) := by
  intro rest
  induction rest with
  | nil =>
    intro pre p out fr i h hf hi ho
    have hz : (s.size : Int) = pre.length + p.length := by rw [h, ba_size]; simp
    have he : s.extract fr.toNat s.size = ba p := ext_end pre p (by rw [h, List.append_nil]) hf
    refine Ev.step (fun k => by rw [spec_Tokens.l0, if_neg (by omega), if_pos (by omega), if_pos (by omega), if_pos (by omega), he]) ?_
    exact Ev.now _
  | cons c rest ih =>
    intro pre p out fr i h hf hi ho
    have hz : (s.size : Int) = pre.length + p.length + rest.length + 1 := by rw [h, ba_size]; simp; omega
    have hb : bt s i = (c.toNat : Int) := bt_mid (pre ++ p) c rest h (by simp; omega)
    have hw : wrap64 (i + 1) = i + 1 := w64 (by omega) (by omega)
    have he : s.extract fr.toNat i.toNat = ba p := ext_mid pre p (c :: rest) h hf hi
    by_cases hc : c = 46
    · subst hc
      refine Ev.step (fun k => by rw [spec_Tokens.l0, if_pos (by omega), if_pos (by omega), hb, if_pos (by decide), if_pos (by omega), if_pos (by omega), if_pos (by omega), if_pos (by omega), he, hw]) ?_
      refine Ev.det' (ih (pre ++ p ++ [46]) [] (out ++ [ba p]) (i + 1) (i + 1) (by rw [h]; simp) (by simp; omega) (by simp; omega) (by simp; omega)) ?_
      rw [toksA_dot]; simp
    · have hne : ¬ ((c.toNat : Int) = 46) := fun e => hc ((toNat_eq (n := 46) (by omega)).1 e)
      refine Ev.step (fun k => by rw [spec_Tokens.l0, if_pos (by omega), if_pos (by omega), hb, if_neg hne, hw]) ?_
      refine Ev.det' (ih pre (p ++ [c]) out fr (i + 1) (by rw [h]; simp) hf (by simp; omega) ho) ?_
      rw [toksA_other _ hc]
theorem Tokens_ev (l : List UInt8) (hs : l.length < 8796093022208) : Ev (fun k => spec_Tokens.f k (ba l)) ((toks l).map ba) := by
  have := Tokens_l0 (ba l) hs l [] [] [] 0 0 (by simp) (by simp) (by simp) (by simp)
  exact this

def cleanB (c : UInt8) : Bool := decide (32 < c) && decide (c ≠ 127)
theorem clean_l0 (s : ByteArray) (hs : s.size ≤ 140737488351232) : ∀ (rest pre : List UInt8) (i : Int), s = ba (pre ++ rest) → i = (pre.length : Int) →
    ∃ b, Ev (fun k => laws_clean.l0 k s i) b ∧ (b = true ↔ s.size ≤ 400 ∧ rest.all cleanB = true) := by
  intro rest
  induction rest with
  | nil =>
    intro pre i h hi
    have hz : (s.size : Int) = pre.length := by rw [h, ba_size]; simp
    refine ⟨decide ((s.size : Int) ≤ 400), ?_, by simp; omega⟩
    refine Ev.step (fun k => by rw [laws_clean.l0, if_neg (by omega)]) ?_
    refine Ev.step (fun k => by rw [laws_clean.j1, if_neg (by simp)]) ?_
    exact Ev.now _
  | cons c rest ih =>
    intro pre i h hi
    have hz : (s.size : Int) = pre.length + rest.length + 1 := by rw [h, ba_size]; simp; omega
    have hb : bt s i = (c.toNat : Int) := bt_mid pre c rest h hi
    have hw : wrap64 (i + 1) = i + 1 := w64 (by omega) (by omega)
    by_cases h4 : i ≤ 400
    · by_cases hc : cleanB c = true
      · obtain ⟨b, hev, hiff⟩ := ih (pre ++ [c]) (i + 1) (by rw [h]; simp) (by simp; omega)
        refine ⟨b, ?_, by rw [hiff, List.all_cons, hc, Bool.true_and]⟩
        simp only [cleanB, Bool.and_eq_true, decide_eq_true_eq, UInt8.lt_iff_toNat_lt, ne_eq, ← UInt8.toNat_inj] at hc
        simp at hc
        refine Ev.step (fun k => by rw [laws_clean.l0, if_pos (by omega)]) ?_
        refine Ev.step (fun k => by rw [laws_clean.j1, if_pos (by simp; omega), if_pos (by omega), if_pos (by omega), hb, if_neg (by omega), if_neg (by omega), hw]) ?_
        exact hev
      · refine ⟨false, ?_, by rw [List.all_cons]; simp [hc]⟩
        simp only [cleanB, Bool.and_eq_true, decide_eq_true_eq, UInt8.lt_iff_toNat_lt, ne_eq, ← UInt8.toNat_inj] at hc
        simp at hc
        refine Ev.step (fun k => by rw [laws_clean.l0, if_pos (by omega)]) ?_
        by_cases h32 : (c.toNat : Int) ≤ 32
        · refine Ev.step (fun k => by rw [laws_clean.j1, if_pos (by simp; omega), if_pos (by omega), if_pos (by omega), hb, if_pos h32]) ?_
          exact Ev.now _
        · refine Ev.step (fun k => by rw [laws_clean.j1, if_pos (by simp; omega), if_pos (by omega), if_pos (by omega), hb, if_neg h32, if_pos (by omega)]) ?_
          exact Ev.now _
    · refine ⟨false, ?_, ⟨fun e => (by cases e), fun e => by omega⟩⟩
      refine Ev.step (fun k => by rw [laws_clean.l0, if_pos (by omega)]) ?_
      refine Ev.step (fun k => by rw [laws_clean.j1, if_neg (by simp; omega)]) ?_
      refine Ev.const ?_
      rw [decide_eq_false (by omega)]
theorem clean_ev (l : List UInt8) (hs : l.length ≤ 140737488351232) : ∃ b, Ev (fun k => laws_clean.f k (ba l)) b ∧ (b = true ↔ l.length ≤ 400 ∧ l.all cleanB = true) := by
  have := clean_l0 (ba l) hs l [] 0 (by simp) (by simp)
  exact this

/-- No token is empty, and > stands last alone. -/
def formedB : List (List UInt8) → Bool
  | [] => true
  | t :: ts => decide (t ≠ []) && (decide (t ≠ [62]) || ts.isEmpty) && formedB ts
theorem Formed_l0 (L : List (List UInt8)) (hs : L.length ≤ 140737488351232) : ∀ (rest pre : List (List UInt8)) (i : Int), L = pre ++ rest → i = (pre.length : Int) →
    Ev (fun k => spec_Formed.l0 k (L.map ba) i) (formedB rest) := by
  intro rest
  induction rest with
  | nil =>
    intro pre i h hi
    have hz : ((L.map ba).length : Int) = pre.length := by rw [h]; simp
    refine Ev.step (fun k => by rw [spec_Formed.l0, if_neg (by omega)]) ?_
    exact Ev.now _
  | cons c rest ih =>
    intro pre i h hi
    have hz : ((L.map ba).length : Int) = pre.length + rest.length + 1 := by rw [h]; simp; omega
    have hz2 : (L.length : Int) = pre.length + rest.length + 1 := by rw [h]; simp; omega
    have hb : rdOf ByteArray.empty (L.map ba) i = ba c := rdOf_mid _ (pre.map ba) (ba c) (rest.map ba) (by rw [h]; simp) (by simp; omega)
    have hw : wrap64 (i + 1) = i + 1 := w64 (by omega) (by omega)
    have IH := ih (pre ++ [c]) (i + 1) (by rw [h]; simp) (by simp; omega)
    rw [formedB]
    by_cases h0 : c = []
    · subst h0
      refine Ev.step (fun k => by rw [spec_Formed.l0, if_pos (by omega), if_pos (by omega), hb, ba_toList, if_pos rfl]) ?_
      exact Ev.now _
    by_cases h1 : c = [62]
    · subst h1
      cases rest with
      | nil =>
        refine Ev.step (fun k => by rw [spec_Formed.l0, if_pos (by omega), if_pos (by omega), hb, ba_toList, if_neg h0, if_pos rfl, hw, if_neg (by simp at hz ⊢; omega)]) ?_
        exact IH
      | cons d rest =>
        refine Ev.step (fun k => by rw [spec_Formed.l0, if_pos (by omega), if_pos (by omega), hb, ba_toList, if_neg h0, if_pos rfl, hw, if_pos (by simp at hz ⊢; omega)]) ?_
        exact Ev.now _
    · refine Ev.step (fun k => by rw [spec_Formed.l0, if_pos (by omega), if_pos (by omega), hb, ba_toList, if_neg h0, if_neg h1, hw]) ?_
      refine Ev.det' IH ?_
      simp [h0, h1]
theorem Formed_ev (L : List (List UInt8)) (hs : L.length ≤ 140737488351232) : Ev (fun k => spec_Formed.f k (L.map ba)) (formedB L) :=
  Formed_l0 L hs L [] 0 (by simp) (by simp)

def wildB (c : UInt8) : Bool := decide (c = 42) || decide (c = 62)
def tameT (t : List UInt8) : Bool := decide (t.length ≤ 1) || !t.any wildB
theorem tame_l0 (L : List (List UInt8)) (hL : L.length ≤ 140737488351232) (hs : ∀ t ∈ L, t.length ≤ 140737488351232) : ∀ (rest pre : List (List UInt8)) (i : Int), L = pre ++ rest → i = (pre.length : Int) →
    Ev (fun k => laws_tame.l0 k (L.map ba) i) (rest.all tameT) := by
  intro rest
  induction rest with
  | nil =>
    intro pre i h hi
    have hz : ((L.map ba).length : Int) = pre.length := by rw [h]; simp
    refine Ev.step (fun k => by rw [laws_tame.l0, if_neg (by omega)]) ?_
    exact Ev.now _
  | cons t rest ih =>
    intro pre i h hi
    have hz : ((L.map ba).length : Int) = pre.length + rest.length + 1 := by rw [h]; simp; omega
    have hz2 : (L.length : Int) = pre.length + rest.length + 1 := by rw [h]; simp; omega
    have hrd : rdOf ByteArray.empty (L.map ba) i = ba t := rdOf_mid _ (pre.map ba) (ba t) (rest.map ba) (by rw [h]; simp) (by simp; omega)
    have hw : wrap64 (i + 1) = i + 1 := w64 (by omega) (by omega)
    have IH := ih (pre ++ [t]) (i + 1) (by rw [h]; simp) (by simp; omega)
    have ht := hs t (by rw [h]; simp)
    rw [List.all_cons]
    refine Ev.step (fun k => by rw [laws_tame.l0, if_pos (by omega)]) ?_
    by_cases h1 : t.length ≤ 1
    · have e : tameT t = true := by simp [tameT, h1]
      rw [e, Bool.true_and]
      by_cases h0 : (0 : Int) < ((ba t).size : Int)
      · refine Ev.step (fun k => by rw [laws_tame.l1, if_pos (by omega), if_pos (by omega), hrd, if_pos h0, ba_size, decide_eq_false (by omega)]) ?_
        refine Ev.step (fun k => by rw [laws_tame.j2, if_neg (by simp), hw]) ?_
        exact IH
      · refine Ev.step (fun k => by rw [laws_tame.l1, if_pos (by omega), if_pos (by omega), hrd, if_neg h0]) ?_
        refine Ev.step (fun k => by rw [laws_tame.j2, if_neg (by simp), hw]) ?_
        exact IH
    · have inner : ∀ (tr tp : List UInt8) (j : Int), t = tp ++ tr → j = (tp.length : Int) → Ev (fun k => laws_tame.l1 k (L.map ba) i j) (!tr.any wildB && rest.all tameT) := by
        intro tr
        induction tr with
        | nil =>
          intro tp j htp hj
          have htz : ((ba t).size : Int) = tp.length := by rw [ba_size, htp]; simp
          refine Ev.step (fun k => by rw [laws_tame.l1, if_pos (by omega), if_pos (by omega), hrd, if_neg (by omega)]) ?_
          refine Ev.step (fun k => by rw [laws_tame.j2, if_neg (by simp), hw]) ?_
          exact IH
        | cons c tr ihi =>
          intro tp j htp hj
          have htz : ((ba t).size : Int) = tp.length + tr.length + 1 := by rw [ba_size, htp]; simp; omega
          have htz2 : (t.length : Int) = tp.length + tr.length + 1 := by rw [htp]; simp; omega
          have hb : bt (ba t) j = (c.toNat : Int) := bt_mid tp c tr (by rw [htp]) hj
          have hwj : wrap64 (j + 1) = j + 1 := w64 (by omega) (by omega)
          have e42 := toNat_eq (c := c) (n := 42) (by omega)
          have e62 := toNat_eq (c := c) (n := 62) (by omega)
          simp at e42 e62
          refine Ev.step (fun k => by rw [laws_tame.l1, if_pos (by omega), if_pos (by omega), hrd, if_pos (by omega), decide_eq_true (by omega)]) ?_
          rw [List.any_cons]
          by_cases h42 : c = 42
          · refine Ev.step (fun k => by rw [laws_tame.j2, if_pos rfl, if_pos (by omega), if_pos (by omega), hrd, if_pos (by omega), if_pos (by omega), hb, if_pos (e42.2 h42)]) ?_
            exact Ev.const (by simp [wildB, h42])
          by_cases h62 : c = 62
          · refine Ev.step (fun k => by rw [laws_tame.j2, if_pos rfl, if_pos (by omega), if_pos (by omega), hrd, if_pos (by omega), if_pos (by omega), hb, if_neg (fun e => h42 (e42.1 e)), if_pos (e62.2 h62)]) ?_
            exact Ev.const (by simp [wildB, h62])
          · refine Ev.step (fun k => by rw [laws_tame.j2, if_pos rfl, if_pos (by omega), if_pos (by omega), hrd, if_pos (by omega), if_pos (by omega), hb, if_neg (fun e => h42 (e42.1 e)), if_neg (fun e => h62 (e62.1 e)), hwj]) ?_
            refine Ev.det' (ihi (tp ++ [c]) (j + 1) (by rw [htp]; simp) (by simp; omega)) ?_
            simp [wildB, h42, h62]
      refine Ev.det' (inner t [] 0 (by simp) (by simp)) ?_
      simp [tameT, h1]
theorem tame_ev (l : List UInt8) (hs : l.length < 8796093022208) : Ev (fun k => laws_tame.f k (ba l)) ((toks l).all tameT) := by
  have ht : (toks l).length ≤ 140737488351232 := by rw [toks_len]; have := List.count_le_length (a := (46 : UInt8)) (l := l); omega
  refine Ev.congr (fun k => by rw [laws_tame.f]) ?_
  refine Ev.bind (Tokens_ev l hs) ?_
  exact tame_l0 (toks l) ht (fun t h => by have := toks_short l t h; omega) (toks l) [] 0 (by simp) (by simp)

def blankB (c : UInt8) : Bool := decide (c = 32) || decide (c = 9) || decide (c = 10) || decide (c = 13) || decide (c = 12)
theorem Blank_eq (c : UInt8) : spec_Blank.f (c.toNat : Int) = some (blankB c) := by
  unfold spec_Blank.f
  have e32 := toNat_eq (c := c) (n := 32) (by omega)
  have e9 := toNat_eq (c := c) (n := 9) (by omega)
  have e10 := toNat_eq (c := c) (n := 10) (by omega)
  have e13 := toNat_eq (c := c) (n := 13) (by omega)
  have e12 := toNat_eq (c := c) (n := 12) (by omega)
  simp at e32 e9 e10 e13 e12
  unfold blankB
  by_cases h32 : c = 32
  · subst h32; rfl
  rw [if_neg (by rw [e32]; exact h32)]
  by_cases h9 : c = 9
  · subst h9; rfl
  rw [if_neg (by rw [e9]; exact h9)]
  by_cases h10 : c = 10
  · subst h10; rfl
  rw [if_neg (by rw [e10]; exact h10)]
  by_cases h13 : c = 13
  · subst h13; rfl
  rw [if_neg (by rw [e13]; exact h13)]
  simp [h32, h9, h10, h13]
  rw [Bool.eq_iff_iff]
  simp
  exact e12

theorem Spaced_l0 (s : ByteArray) (hs : s.size ≤ 140737488351232) : ∀ (rest pre : List UInt8) (i : Int), s = ba (pre ++ rest) → i = (pre.length : Int) →
    Ev (fun k => spec_Spaced.l0 k s i) (rest.any blankB) := by
  intro rest
  induction rest with
  | nil =>
    intro pre i h hi
    have hz : (s.size : Int) = pre.length := by rw [h, ba_size]; simp
    refine Ev.step (fun k => by rw [spec_Spaced.l0, if_neg (by omega)]) ?_
    exact Ev.now _
  | cons c rest ih =>
    intro pre i h hi
    have hz : (s.size : Int) = pre.length + rest.length + 1 := by rw [h, ba_size]; simp; omega
    have hb : bt s i = (c.toNat : Int) := bt_mid pre c rest h hi
    have hw : wrap64 (i + 1) = i + 1 := w64 (by omega) (by omega)
    refine Ev.step (fun k => by rw [spec_Spaced.l0, if_pos (by omega), if_pos (by omega), hb, Blank_eq, Option.bind_some, hw]) ?_
    rw [List.any_cons]
    cases hc : blankB c with
    | true => simp only [if_true, Bool.true_or]; exact Ev.now _
    | false =>
      simp only [Bool.false_eq_true, if_false, Bool.false_or]
      exact ih (pre ++ [c]) (i + 1) (by rw [h]; simp) (by simp; omega)
theorem Spaced_ev (l : List UInt8) (hs : l.length ≤ 140737488351232) : Ev (fun k => spec_Spaced.f k (ba l)) (l.any blankB) := by
  have := Spaced_l0 (ba l) hs l [] 0 (by simp) (by simp)
  exact this

def validB (l : List UInt8) : Bool := formedB (toks l) && !l.any blankB
theorem Valid_ev (l : List UInt8) (hs : l.length < 8796093022208) : Ev (fun k => spec_Valid.f k (ba l)) (validB l) := by
  have ht : (toks l).length ≤ 140737488351232 := by rw [toks_len]; have := List.count_le_length (a := (46 : UInt8)) (l := l); omega
  refine Ev.congr (fun k => by rw [spec_Valid.f]) ?_
  refine Ev.bind (Tokens_ev l hs) ?_
  refine Ev.bind (Formed_ev _ ht) ?_
  unfold validB
  cases formedB (toks l) with
  | true =>
    simp only [if_true, Bool.true_and]
    refine Ev.bind (Spaced_ev l (by omega)) ?_
    exact Ev.now _
  | false => simp only [Bool.false_eq_true, if_false, Bool.false_and]; exact Ev.now _

/-- No token is a wildcard. -/
def litT (t : List UInt8) : Bool := decide (t ≠ [42]) && decide (t ≠ [62])
theorem spec_Literal_l0 (L : List (List UInt8)) (hs : L.length ≤ 140737488351232) : ∀ (rest pre : List (List UInt8)) (i : Int), L = pre ++ rest → i = (pre.length : Int) →
    Ev (fun k => spec_Literal.l0 k (L.map ba) i) (rest.all litT) := by
  intro rest
  induction rest with
  | nil =>
    intro pre i h hi
    have hz : ((L.map ba).length : Int) = pre.length := by rw [h]; simp
    refine Ev.step (fun k => by rw [spec_Literal.l0, if_neg (by omega)]) ?_
    exact Ev.now _
  | cons c rest ih =>
    intro pre i h hi
    have hz : ((L.map ba).length : Int) = pre.length + rest.length + 1 := by rw [h]; simp; omega
    have hz2 : (L.length : Int) = pre.length + rest.length + 1 := by rw [h]; simp; omega
    have hb : rdOf ByteArray.empty (L.map ba) i = ba c := rdOf_mid _ (pre.map ba) (ba c) (rest.map ba) (by rw [h]; simp) (by simp; omega)
    have hw : wrap64 (i + 1) = i + 1 := w64 (by omega) (by omega)
    have IH := ih (pre ++ [c]) (i + 1) (by rw [h]; simp) (by simp; omega)
    by_cases h0 : c = [42]
    · refine Ev.step (fun k => by rw [spec_Literal.l0, if_pos (by omega), if_pos (by omega), hb, ba_toList, if_pos h0]) ?_
      exact Ev.const (by simp [litT, h0])
    by_cases h1 : c = [62]
    · refine Ev.step (fun k => by rw [spec_Literal.l0, if_pos (by omega), if_pos (by omega), hb, ba_toList, if_neg h0, if_pos h1]) ?_
      exact Ev.const (by simp [litT, h1])
    · refine Ev.step (fun k => by rw [spec_Literal.l0, if_pos (by omega), if_pos (by omega), hb, ba_toList, if_neg h0, if_neg h1, hw]) ?_
      refine Ev.det' IH ?_
      simp [litT, h0, h1]
theorem spec_Literal_ev (l : List UInt8) (hs : l.length < 8796093022208) : Ev (fun k => spec_Literal.f k (ba l)) ((toks l).all litT) := by
  have ht : (toks l).length ≤ 140737488351232 := by rw [toks_len]; have := List.count_le_length (a := (46 : UInt8)) (l := l); omega
  refine Ev.congr (fun k => by rw [spec_Literal.f]) ?_
  refine Ev.bind (Tokens_ev l hs) ?_
  exact spec_Literal_l0 (toks l) ht (toks l) [] 0 rfl rfl

theorem ba_self (s : ByteArray) : ba s.data.toList = s := rfl
theorem rd51_mid {xs : List S51} {i : Int} (pre : List S51) (c : S51) (rest : List S51) (h : xs = pre ++ c :: rest) (hi : i = (pre.length : Int)) : rd_T51 xs i = c := by
  subst h hi
  unfold rd_T51
  rw [Int.toNat_natCast, List.getD_eq_getElem?_getD, List.getElem?_append_right (Nat.le_refl _), Nat.sub_self]
  rfl
/-! ### what fits -/
theorem fits6 (x : S51) : laws_zzFits6.f x.f0 x.f1 x.f2 = some (decide ((x.f1.size : Int) ≤ 2147483647)) := by
  unfold laws_zzFits6.f
  by_cases h : (x.f1.size : Int) > 2147483647
  · rw [if_pos h, decide_eq_false (by omega)]
  · rw [if_neg h, decide_eq_true (by omega)]
theorem fits5_l0 (L : List S51) (hs : L.length ≤ 2147483647) : ∀ (rest pre : List S51) (i : Int), L = pre ++ rest → i = (pre.length : Int) →
    ∃ b, Ev (fun k => laws_zzFits5.l0 k L (L.length : Int) i) b := by
  intro rest
  induction rest with
  | nil =>
    intro pre i h hi
    have hz : (L.length : Int) = pre.length := by rw [h]; simp
    refine ⟨true, Ev.step (fun k => by rw [laws_zzFits5.l0, if_neg (by omega)]) ?_⟩
    exact Ev.now _
  | cons c rest ih =>
    intro pre i h hi
    have hz : (L.length : Int) = pre.length + rest.length + 1 := by rw [h]; simp; omega
    have hb : rd_T51 L i = c := rd51_mid pre c rest h hi
    have hw : wrap64 (i + 1) = i + 1 := w64 (by omega) (by omega)
    obtain ⟨b, IH⟩ := ih (pre ++ [c]) (i + 1) (by rw [h]; simp) (by simp; omega)
    by_cases hc : (c.f1.size : Int) ≤ 2147483647
    · refine ⟨b, Ev.step (fun k => by rw [laws_zzFits5.l0, if_pos (by omega), if_pos (by omega), if_pos (by omega), hb, fits6, decide_eq_true hc, Option.bind_some, if_pos rfl, hw]) ?_⟩
      exact IH
    · refine ⟨false, Ev.step (fun k => by rw [laws_zzFits5.l0, if_pos (by omega), if_pos (by omega), if_pos (by omega), hb, fits6, decide_eq_false hc, Option.bind_some, if_neg (by simp)]) ?_⟩
      exact Ev.now _
theorem fits5_ev (L : List S51) : ∃ b, Ev (fun k => laws_zzFits5.f k L) b ∧ (b = true → L.length ≤ 2147483647) := by
  by_cases h : (L.length : Int) > 2147483647
  · exact ⟨false, Ev.congr (fun k => by rw [laws_zzFits5.f, if_pos h]) (Ev.now _), fun e => by cases e⟩
  · obtain ⟨b, hb⟩ := fits5_l0 L (by omega) L [] 0 (by simp) (by simp)
    exact ⟨b, Ev.congr (fun k => by rw [laws_zzFits5.f, if_neg h]) hb, fun _ => by omega⟩
/-! ### deeds -/
def deedB (d : S51) : Prop := (d.f0 = 0 ∨ d.f0 = 1) ∧ d.f1.size ≤ 80 ∧ (toks d.f1.data.toList).all tameT = true ∧ d.f1.data.toList.all cleanB = true
theorem deeds_l0 (L : List S51) (hs : L.length ≤ 40) : ∀ (rest pre : List S51) (i : Int), L = pre ++ rest → i = (pre.length : Int) →
    ∃ b, Ev (fun k => laws_deeds.l0 k L i) b ∧ (b = true → ∀ d ∈ rest, deedB d) := by
  intro rest
  induction rest with
  | nil =>
    intro pre i h hi
    have hz : (L.length : Int) = pre.length := by rw [h]; simp
    refine ⟨true, Ev.step (fun k => by rw [laws_deeds.l0, if_neg (by omega)]) (Ev.now _), fun _ d hd => (by cases hd)⟩
  | cons c rest ih =>
    intro pre i h hi
    have hz : (L.length : Int) = pre.length + rest.length + 1 := by rw [h]; simp; omega
    have hb : rd_T51 L i = c := rd51_mid pre c rest h hi
    have hw : wrap64 (i + 1) = i + 1 := w64 (by omega) (by omega)
    obtain ⟨b, IH, IB⟩ := ih (pre ++ [c]) (i + 1) (by rw [h]; simp) (by simp; omega)
    by_cases h0 : c.f0 < 0
    · exact ⟨false, Ev.step (fun k => by rw [laws_deeds.l0, if_pos (by omega), if_pos (by omega), hb, if_pos h0]) (Ev.now _), fun e => by cases e⟩
    by_cases h1 : c.f0 > 1
    · exact ⟨false, Ev.step (fun k => by rw [laws_deeds.l0, if_pos (by omega), if_pos (by omega), hb, if_neg h0, if_pos h1]) (Ev.now _), fun e => by cases e⟩
    by_cases h2 : (c.f1.size : Int) > 80
    · exact ⟨false, Ev.step (fun k => by rw [laws_deeds.l0, if_pos (by omega), if_pos (by omega), hb, if_neg h0, if_neg h1, if_pos h2]) (Ev.now _), fun e => by cases e⟩
    have hl : c.f1.data.toList.length = c.f1.size := rfl
    obtain ⟨bc, hbc, hci⟩ := clean_ev c.f1.data.toList (by omega)
    have hta := tame_ev c.f1.data.toList (by omega)
    rw [ba_self] at hbc hta
    cases bc with
    | false =>
      refine ⟨false, Ev.step (fun k => by rw [laws_deeds.l0, if_pos (by omega), if_pos (by omega), hb, if_neg h0, if_neg h1, if_neg h2]) ?_, fun e => by cases e⟩
      exact Ev.bind hbc (Ev.neg (by simp) (Ev.now _))
    | true =>
      cases htt : (toks c.f1.data.toList).all tameT with
      | false =>
        rw [htt] at hta
        refine ⟨false, Ev.step (fun k => by rw [laws_deeds.l0, if_pos (by omega), if_pos (by omega), hb, if_neg h0, if_neg h1, if_neg h2]) ?_, fun e => by cases e⟩
        exact Ev.bind hbc (Ev.pos rfl (Ev.bind hta (Ev.neg (by simp) (Ev.now _))))
      | true =>
        rw [htt] at hta
        refine ⟨b, Ev.step (fun k => by rw [laws_deeds.l0, if_pos (by omega), if_pos (by omega), hb, if_neg h0, if_neg h1, if_neg h2]) ?_, fun e d hd => ?_⟩
        · rw [hw]
          exact Ev.bind hbc (Ev.pos rfl (Ev.bind hta (Ev.pos rfl IH)))
        · rcases List.mem_cons.1 hd with rfl | hd
          · exact ⟨by omega, by omega, htt, (hci.1 rfl).2⟩
          · exact IB e d hd
theorem deeds_ev (L : List S51) : ∃ b, Ev (fun k => laws_deeds.f k L) b ∧ (b = true → L.length ≤ 40 ∧ ∀ d ∈ L, deedB d) := by
  by_cases h : (L.length : Int) > 40
  · exact ⟨false, Ev.congr (fun k => by rw [laws_deeds.f, if_pos h]) (Ev.now _), fun e => by cases e⟩
  · obtain ⟨b, hb, hd⟩ := deeds_l0 L (by omega) L [] 0 (by simp) (by simp)
    exact ⟨b, Ev.congr (fun k => by rw [laws_deeds.f, if_neg h]) hb, fun e => ⟨by omega, hd e⟩⟩
/-! ### literal subjects -/
def plainB (s : ByteArray) : Bool := validB s.data.toList && (toks s.data.toList).all litT
theorem plainS_ev (s : ByteArray) (hs : s.size ≤ 1000) : Ev (fun k => spec_Plain.f k s) (plainB s) := by
  have hl : s.data.toList.length = s.size := rfl
  have h1 := Valid_ev s.data.toList (by omega)
  have h2 := spec_Literal_ev s.data.toList (by omega)
  rw [ba_self] at h1 h2
  unfold plainB
  cases hv : validB s.data.toList with
  | false =>
    rw [hv] at h1
    refine Ev.congr (fun k => by rw [spec_Plain.f]) ?_
    refine Ev.bind h1 ?_
    simp only [Bool.false_eq_true, if_false, Bool.false_and]
    exact Ev.now _
  | true =>
    rw [hv] at h1
    refine Ev.congr (fun k => by rw [spec_Plain.f]) ?_
    refine Ev.bind h1 ?_
    simp only [if_true, Bool.true_and]
    refine Ev.bind h2 ?_
    exact Ev.now _

end Go.Proofs.YtjhmpcbpbdkddaaGreat.PlFnTreeRun
