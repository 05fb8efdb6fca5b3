/- What the printed functions of FnLiteral come to, as plain functions on lists. -/
import Derived.Test.YtpgjcelglimpcaaPlTok
import Derived.Test.YtpgjcelglimpcaaGFnLiteralx2
namespace Go.Proofs.Ytpgjcelglimpcaa.PlFnLiteral
open Go.RowKit Go.Proofs.YtpgjcelglimpcaaW.PrintWords Go.Proofs.YtpgjcelglimpcaaW.PrintLast Go.Proofs.YtpgjcelglimpcaaW.PrintMore Go.Proofs.Ytpgjcelglimpcaa.Pl Go.Proofs.Ytpgjcelglimpcaa.GFnLiteral
set_option linter.unusedVariables false
set_option linter.unusedSimpArgs false

theorem Tokens_l0 (s : ByteArray) (hs : s.size < 8796093022208) : ∀ (rest pre p : List UInt8) (out : List ByteArray) (fr i : Int), s = ba (pre ++ p ++ rest) → fr = (pre.length : Int) → i = (pre.length : Int) + p.length → out.length ≤ pre.length →
    Ev (fun k => spec_Tokens.l0 k s out fr i) (out ++ (toksA p rest).map ba) := by
  intro rest
  induction rest with
  | nil =>
    intro pre p out fr i h hf hi ho
    have hz : (s.size : Int) = pre.length + p.length := by rw [h, ba_size]; simp
    have he : s.extract fr.toNat s.size = ba p := ext_end pre p (by rw [h, List.append_nil]) hf
    refine Ev.step (fun k => by rw [spec_Tokens.l0, if_neg (by omega), if_pos (by omega), if_pos (by omega), if_pos (by omega), he]) ?_
    exact Ev.now _
  | cons c rest ih =>
    intro pre p out fr i h hf hi ho
    have hz : (s.size : Int) = pre.length + p.length + rest.length + 1 := by rw [h, ba_size]; simp; omega
    have hb : bt s i = (c.toNat : Int) := bt_mid (pre ++ p) c rest h (by simp; omega)
    have hw : wrap64 (i + 1) = i + 1 := w64 (by omega) (by omega)
    have he : s.extract fr.toNat i.toNat = ba p := ext_mid pre p (c :: rest) h hf hi
    by_cases hc : c = 46
    · subst hc
      refine Ev.step (fun k => by rw [spec_Tokens.l0, if_pos (by omega), if_pos (by omega), hb, if_pos (by decide), if_pos (by omega), if_pos (by omega), if_pos (by omega), if_pos (by omega), he, hw]) ?_
      refine Ev.det' (ih (pre ++ p ++ [46]) [] (out ++ [ba p]) (i + 1) (i + 1) (by rw [h]; simp) (by simp; omega) (by simp; omega) (by simp; omega)) ?_
      rw [toksA_dot]; simp
    · have hne : ¬ ((c.toNat : Int) = 46) := fun e => hc ((toNat_eq (n := 46) (by omega)).1 e)
      refine Ev.step (fun k => by rw [spec_Tokens.l0, if_pos (by omega), if_pos (by omega), hb, if_neg hne, hw]) ?_
      refine Ev.det' (ih pre (p ++ [c]) out fr (i + 1) (by rw [h]; simp) hf (by simp; omega) ho) ?_
      rw [toksA_other _ hc]
theorem Tokens_ev (l : List UInt8) (hs : l.length < 8796093022208) : Ev (fun k => spec_Tokens.f k (ba l)) ((toks l).map ba) := by
  have := Tokens_l0 (ba l) hs l [] [] [] 0 0 (by simp) (by simp) (by simp) (by simp)
  exact this

def blankB (c : UInt8) : Bool := decide (c = 32) || decide (c = 9) || decide (c = 10) || decide (c = 13) || decide (c = 12)
theorem Blank_eq (c : UInt8) : spec_Blank.f (c.toNat : Int) = some (blankB c) := by
  unfold spec_Blank.f
  have e32 := toNat_eq (c := c) (n := 32) (by omega)
  have e9 := toNat_eq (c := c) (n := 9) (by omega)
  have e10 := toNat_eq (c := c) (n := 10) (by omega)
  have e13 := toNat_eq (c := c) (n := 13) (by omega)
  have e12 := toNat_eq (c := c) (n := 12) (by omega)
  simp at e32 e9 e10 e13 e12
  unfold blankB
  by_cases h32 : c = 32
  · subst h32; rfl
  rw [if_neg (by rw [e32]; exact h32)]
  by_cases h9 : c = 9
  · subst h9; rfl
  rw [if_neg (by rw [e9]; exact h9)]
  by_cases h10 : c = 10
  · subst h10; rfl
  rw [if_neg (by rw [e10]; exact h10)]
  by_cases h13 : c = 13
  · subst h13; rfl
  rw [if_neg (by rw [e13]; exact h13)]
  simp [h32, h9, h10, h13]
  rw [Bool.eq_iff_iff]
  simp
  exact e12

theorem Spaced_l0 (s : ByteArray) (hs : s.size ≤ 140737488351232) : ∀ (rest pre : List UInt8) (i : Int), s = ba (pre ++ rest) → i = (pre.length : Int) →
    Ev (fun k => spec_Spaced.l0 k s i) (rest.any blankB) := by
  intro rest
  induction rest with
  | nil =>
    intro pre i h hi
    have hz : (s.size : Int) = pre.length := by rw [h, ba_size]; simp
    refine Ev.step (fun k => by rw [spec_Spaced.l0, if_neg (by omega)]) ?_
    exact Ev.now _
  | cons c rest ih =>
    intro pre i h hi
    have hz : (s.size : Int) = pre.length + rest.length + 1 := by rw [h, ba_size]; simp; omega
    have hb : bt s i = (c.toNat : Int) := bt_mid pre c rest h hi
    have hw : wrap64 (i + 1) = i + 1 := w64 (by omega) (by omega)
    refine Ev.step (fun k => by rw [spec_Spaced.l0, if_pos (by omega), if_pos (by omega), hb, Blank_eq, Option.bind_some, hw]) ?_
    rw [List.any_cons]
    cases hc : blankB c with
    | true => simp only [if_true, Bool.true_or]; exact Ev.now _
    | false =>
      simp only [Bool.false_eq_true, if_false, Bool.false_or]
      exact ih (pre ++ [c]) (i + 1) (by rw [h]; simp) (by simp; omega)
theorem Spaced_ev (l : List UInt8) (hs : l.length ≤ 140737488351232) : Ev (fun k => spec_Spaced.f k (ba l)) (l.any blankB) := by
  have := Spaced_l0 (ba l) hs l [] 0 (by simp) (by simp)
  exact this

/-- No token is empty, and > stands last alone. -/
def formedB : List (List UInt8) → Bool
  | [] => true
  | t :: ts => decide (t ≠ []) && (decide (t ≠ [62]) || ts.isEmpty) && formedB ts
theorem Formed_l0 (L : List (List UInt8)) (hs : L.length ≤ 140737488351232) : ∀ (rest pre : List (List UInt8)) (i : Int), L = pre ++ rest → i = (pre.length : Int) →
    Ev (fun k => spec_Formed.l0 k (L.map ba) i) (formedB rest) := by
  intro rest
  induction rest with
  | nil =>
    intro pre i h hi
    have hz : ((L.map ba).length : Int) = pre.length := by rw [h]; simp
    refine Ev.step (fun k => by rw [spec_Formed.l0, if_neg (by omega)]) ?_
    exact Ev.now _
  | cons c rest ih =>
    intro pre i h hi
    have hz : ((L.map ba).length : Int) = pre.length + rest.length + 1 := by rw [h]; simp; omega
    have hz2 : (L.length : Int) = pre.length + rest.length + 1 := by rw [h]; simp; omega
    have hb : rdOf ByteArray.empty (L.map ba) i = ba c := rdOf_mid _ (pre.map ba) (ba c) (rest.map ba) (by rw [h]; simp) (by simp; omega)
    have hw : wrap64 (i + 1) = i + 1 := w64 (by omega) (by omega)
    have IH := ih (pre ++ [c]) (i + 1) (by rw [h]; simp) (by simp; omega)
    rw [formedB]
    by_cases h0 : c = []
    · subst h0
      refine Ev.step (fun k => by rw [spec_Formed.l0, if_pos (by omega), if_pos (by omega), hb, ba_toList, if_pos rfl]) ?_
      exact Ev.now _
    by_cases h1 : c = [62]
    · subst h1
      cases rest with
      | nil =>
        refine Ev.step (fun k => by rw [spec_Formed.l0, if_pos (by omega), if_pos (by omega), hb, ba_toList, if_neg h0, if_pos rfl, hw, if_neg (by simp at hz ⊢; omega)]) ?_
        exact IH
      | cons d rest =>
        refine Ev.step (fun k => by rw [spec_Formed.l0, if_pos (by omega), if_pos (by omega), hb, ba_toList, if_neg h0, if_pos rfl, hw, if_pos (by simp at hz ⊢; omega)]) ?_
        exact Ev.now _
    · refine Ev.step (fun k => by rw [spec_Formed.l0, if_pos (by omega), if_pos (by omega), hb, ba_toList, if_neg h0, if_neg h1, hw]) ?_
      refine Ev.det' IH ?_
      simp [h0, h1]
theorem Formed_ev (L : List (List UInt8)) (hs : L.length ≤ 140737488351232) : Ev (fun k => spec_Formed.f k (L.map ba)) (formedB L) :=
  Formed_l0 L hs L [] 0 (by simp) (by simp)

def validB (l : List UInt8) : Bool := formedB (toks l) && !l.any blankB
theorem Valid_ev (l : List UInt8) (hs : l.length < 8796093022208) : Ev (fun k => spec_Valid.f k (ba l)) (validB l) := by
  have ht : (toks l).length ≤ 140737488351232 := by rw [toks_len]; have := List.count_le_length (a := (46 : UInt8)) (l := l); omega
  refine Ev.congr (fun k => by rw [spec_Valid.f]) ?_
  refine Ev.bind (Tokens_ev l hs) ?_
  refine Ev.bind (Formed_ev _ ht) ?_
  unfold validB
  cases formedB (toks l) with
  | true =>
    simp only [if_true, Bool.true_and]
    refine Ev.bind (Spaced_ev l (by omega)) ?_
    exact Ev.now _
  | false => simp only [Bool.false_eq_true, if_false, Bool.false_and]; exact Ev.now _

/-- No token is a wildcard. -/
def litT (t : List UInt8) : Bool := decide (t ≠ [42]) && decide (t ≠ [62])
theorem spec_Literal_l0 (L : List (List UInt8)) (hs : L.length ≤ 140737488351232) : ∀ (rest pre : List (List UInt8)) (i : Int), L = pre ++ rest → i = (pre.length : Int) →
    Ev (fun k => spec_Literal.l0 k (L.map ba) i) (rest.all litT) := by
  intro rest
  induction rest with
  | nil =>
    intro pre i h hi
    have hz : ((L.map ba).length : Int) = pre.length := by rw [h]; simp
    refine Ev.step (fun k => by rw [spec_Literal.l0, if_neg (by omega)]) ?_
    exact Ev.now _
  | cons c rest ih =>
    intro pre i h hi
    have hz : ((L.map ba).length : Int) = pre.length + rest.length + 1 := by rw [h]; simp; omega
    have hz2 : (L.length : Int) = pre.length + rest.length + 1 := by rw [h]; simp; omega
    have hb : rdOf ByteArray.empty (L.map ba) i = ba c := rdOf_mid _ (pre.map ba) (ba c) (rest.map ba) (by rw [h]; simp) (by simp; omega)
    have hw : wrap64 (i + 1) = i + 1 := w64 (by omega) (by omega)
    have IH := ih (pre ++ [c]) (i + 1) (by rw [h]; simp) (by simp; omega)
    by_cases h0 : c = [42]
    · refine Ev.step (fun k => by rw [spec_Literal.l0, if_pos (by omega), if_pos (by omega), hb, ba_toList, if_pos h0]) ?_
      exact Ev.const (by simp [litT, h0])
    by_cases h1 : c = [62]
    · refine Ev.step (fun k => by rw [spec_Literal.l0, if_pos (by omega), if_pos (by omega), hb, ba_toList, if_neg h0, if_pos h1]) ?_
      exact Ev.const (by simp [litT, h1])
    · refine Ev.step (fun k => by rw [spec_Literal.l0, if_pos (by omega), if_pos (by omega), hb, ba_toList, if_neg h0, if_neg h1, hw]) ?_
      refine Ev.det' IH ?_
      simp [litT, h0, h1]
theorem spec_Literal_ev (l : List UInt8) (hs : l.length < 8796093022208) : Ev (fun k => spec_Literal.f k (ba l)) ((toks l).all litT) := by
  have ht : (toks l).length ≤ 140737488351232 := by rw [toks_len]; have := List.count_le_length (a := (46 : UInt8)) (l := l); omega
  refine Ev.congr (fun k => by rw [spec_Literal.f]) ?_
  refine Ev.bind (Tokens_ev l hs) ?_
  exact spec_Literal_l0 (toks l) ht (toks l) [] 0 rfl rfl

theorem toksA_head : ∀ (l p : List UInt8), ∃ q r, toksA p l = (p ++ q) :: r
  | [], p => ⟨[], [], by simp [toksA]⟩
  | c :: l, p => by
    by_cases h : c = 46
    · subst h; exact ⟨[], toksA [] l, by rw [toksA_dot]; simp⟩
    · obtain ⟨q, r, e⟩ := toksA_head l (p ++ [c]); exact ⟨c :: q, r, by rw [toksA_other p h, e]; simp⟩
theorem toksA_ne (p l : List UInt8) : toksA p l ≠ [] := by obtain ⟨q, r, e⟩ := toksA_head l p; rw [e]; simp

theorem toksA_plain (p : List UInt8) : ∀ l : List UInt8, (46 : UInt8) ∉ l → toksA p l = [p ++ l] := by
  intro l
  induction l generalizing p with
  | nil => intro _; simp [toksA]
  | cons c l ih =>
    intro h
    simp only [List.mem_cons, not_or] at h
    rw [toksA_other _ (fun e => h.1 e.symm), ih _ h.2]; simp
theorem toksA_app : ∀ (q p l : List UInt8), toksA p (q ++ 46 :: l) = toksA p q ++ toks l
  | [], p, l => by rw [List.nil_append, toksA_dot]; simp [toksA, toks]
  | c :: q, p, l => by
    by_cases h : c = 46
    · subst h; rw [List.cons_append, toksA_dot, toksA_dot, toksA_app q [] l]; simp
    · rw [List.cons_append, toksA_other _ h, toksA_other _ h, toksA_app q _ l]
theorem dot_split : ∀ l : List UInt8, (46 : UInt8) ∉ l ∨ ∃ p r, l = p ++ 46 :: r ∧ (46 : UInt8) ∉ p
  | [] => .inl (by simp)
  | c :: l => by
    by_cases h : c = 46
    · exact .inr ⟨[], l, by rw [h]; rfl, by simp⟩
    · rcases dot_split l with g | ⟨p, r, rfl, g⟩
      · exact .inl (by simp only [List.mem_cons, not_or]; exact ⟨fun e => h e.symm, g⟩)
      · exact .inr ⟨c :: p, r, rfl, by simp only [List.mem_cons, not_or]; exact ⟨fun e => h e.symm, g⟩⟩
theorem zzIndex_none (s : ByteArray) (hs : s.size ≤ 140737488355328) : ∀ (rest pre : List UInt8) (i : Int), s = ba (pre ++ rest) → i = (pre.length : Int) → (46 : UInt8) ∉ rest → Ev (fun k => server_zzIndex.l0 k s (ba [46]) i) (-1) := by
  intro rest
  induction rest with
  | nil =>
    intro pre i h hi _
    have hz : (s.size : Int) = pre.length := by rw [h, ba_size]; simp
    have hw : wrap64 (i + ((ba [46]).size : Int)) = i + 1 := w64 (by rw [ba_size]; simp; omega) (by rw [ba_size]; simp; omega)
    refine Ev.step (fun k => by rw [server_zzIndex.l0, hw, if_neg (by omega)]) ?_
    exact Ev.now _
  | cons c rest ih =>
    intro pre i h hi hn
    have hz : (s.size : Int) = pre.length + rest.length + 1 := by rw [h, ba_size]; simp; omega
    have hw : wrap64 (i + ((ba [46]).size : Int)) = i + 1 := w64 (by rw [ba_size]; simp; omega) (by rw [ba_size]; simp; omega)
    have hw2 : wrap64 (i + 1) = i + 1 := w64 (by omega) (by omega)
    simp only [List.mem_cons, not_or] at hn
    have he : s.extract i.toNat (i + 1).toNat = ba [c] := ext_mid pre [c] rest (by rw [h]; simp) hi (by simp; omega)
    refine Ev.step (fun k => by rw [server_zzIndex.l0, hw, if_pos (by omega), if_pos (by omega), if_pos (by omega), he, ba_toList, ba_toList, if_neg (fun e => hn.1 (by injection e with e; exact e.symm)), hw2]) ?_
    exact ih (pre ++ [c]) (i + 1) (by rw [h]; simp) (by simp; omega) hn.2
theorem zzIndex_at (s : ByteArray) (hs : s.size ≤ 140737488355328) (r : List UInt8) : ∀ (p pre : List UInt8) (i : Int), s = ba (pre ++ p ++ 46 :: r) → i = (pre.length : Int) → (46 : UInt8) ∉ p → Ev (fun k => server_zzIndex.l0 k s (ba [46]) i) ((pre.length + p.length : Nat) : Int) := by
  intro p
  induction p with
  | nil =>
    intro pre i h hi _
    have hz : (s.size : Int) = pre.length + r.length + 1 := by rw [h, ba_size]; simp; omega
    have hw : wrap64 (i + ((ba [46]).size : Int)) = i + 1 := w64 (by rw [ba_size]; simp; omega) (by rw [ba_size]; simp; omega)
    have he : s.extract i.toNat (i + 1).toNat = ba [46] := ext_mid pre [46] r (by rw [h]; simp) hi (by simp; omega)
    refine Ev.step (fun k => by rw [server_zzIndex.l0, hw, if_pos (by omega), if_pos (by omega), if_pos (by omega), he, if_pos rfl]) ?_
    exact Ev.det' (Ev.now _) (by simp; omega)
  | cons c p ih =>
    intro pre i h hi hn
    have hz : (s.size : Int) = pre.length + p.length + r.length + 2 := by rw [h, ba_size]; simp; omega
    have hw : wrap64 (i + ((ba [46]).size : Int)) = i + 1 := w64 (by rw [ba_size]; simp; omega) (by rw [ba_size]; simp; omega)
    have hw2 : wrap64 (i + 1) = i + 1 := w64 (by omega) (by omega)
    simp only [List.mem_cons, not_or] at hn
    have he : s.extract i.toNat (i + 1).toNat = ba [c] := ext_mid pre [c] (p ++ 46 :: r) (by rw [h]; simp) hi (by simp; omega)
    refine Ev.step (fun k => by rw [server_zzIndex.l0, hw, if_pos (by omega), if_pos (by omega), if_pos (by omega), he, ba_toList, ba_toList, if_neg (fun e => hn.1 (by injection e with e; exact e.symm)), hw2]) ?_
    exact Ev.det' (ih (pre ++ [c]) (i + 1) (by rw [h]; simp) (by simp; omega) hn.2) (by simp; omega)
theorem zzSplit_l1 : ∀ (n : Nat) (l : List UInt8) (out : List ByteArray), l.length ≤ n → l.length + out.length < 8796093022208 → Ev (fun k => server_zzSplit.l1 k (ba l) (ba [46]) out) (out ++ (toks l).map ba) := by
  intro n
  induction n with
  | zero =>
    intro l out h1 h2
    have : l = [] := List.length_eq_zero_iff.1 (by omega)
    subst this
    refine Ev.step (fun k => by rw [server_zzSplit.l1]) ?_
    refine Ev.bind (Ev.congr (fun k => by rw [server_zzIndex.f]) (zzIndex_none (ba []) (by simp [ba_size]) [] [] 0 (by simp) (by simp) (by simp))) ?_
    refine Ev.pos (by omega) (Ev.pos (by omega) (Ev.det' (Ev.now _) ?_))
    simp [toks, toksA]
  | succ n ih =>
    intro l out h1 h2
    refine Ev.step (fun k => by rw [server_zzSplit.l1]) ?_
    rcases dot_split l with hd | ⟨p, r, rfl, hd⟩
    · refine Ev.bind (Ev.congr (fun k => by rw [server_zzIndex.f]) (zzIndex_none (ba l) (by rw [ba_size]; omega) l [] 0 (by simp) (by simp) hd)) ?_
      refine Ev.pos (by omega) (Ev.pos (by omega) (Ev.det' (Ev.now _) ?_))
      rw [toks, toksA_plain [] l hd]; simp
    · have hsz : ((ba (p ++ 46 :: r)).size : Int) = p.length + r.length + 1 := by rw [ba_size]; simp; omega
      simp only [List.length_append, List.length_cons] at h1 h2
      refine Ev.bind (Ev.congr (fun k => by rw [server_zzIndex.f]) (zzIndex_at (ba (p ++ 46 :: r)) (by omega) r p [] 0 (by simp) (by simp) hd)) ?_
      have hw : wrap64 ((((([] : List UInt8).length + p.length : Nat) : Int)) + ((ba [46]).size : Int)) = ((p.length : Int) + 1) := by
        rw [ba_size]
        have := w64 (x := (p.length : Int) + 1) (by omega) (by omega)
        simpa using this
      rw [hw]
      have e1 : (ba (p ++ 46 :: r)).extract ((p.length : Int) + 1).toNat (ba (p ++ 46 :: r)).size = ba r := ext_end (p ++ [46]) r (by simp) (by simp)
      have e2 : (ba (p ++ 46 :: r)).extract 0 ((([] : List UInt8).length + p.length : Nat) : Int).toNat = ba p := by
        have := ext_mid (s := ba (p ++ 46 :: r)) (a := 0) (b := (p.length : Int)) [] p (46 :: r) (by simp) (by simp) (by simp)
        simpa using this
      rw [e1, e2]
      refine Ev.neg (by simp <;> omega) (Ev.pos (by simp <;> omega) (Ev.pos (by rw [hsz]; simp <;> omega) (Ev.pos (by omega) (Ev.pos (by omega) (Ev.pos (by omega) ?_)))))
      refine Ev.det' (ih r (out ++ [ba p]) (by omega) (by simp; omega)) ?_
      rw [show toks (p ++ 46 :: r) = [p] ++ toks r from by rw [toks, toksA_app, toksA_plain [] p hd]; simp]
      simp
theorem zzSplit_ev (l : List UInt8) (h : l.length < 8796093022208) : Ev (fun k => server_zzSplit.f k (ba l) (ba [46])) ((toks l).map ba) := by
  refine Ev.congr (fun k => by rw [server_zzSplit.f, if_neg (by rw [ba_size]; simp)]) ?_
  exact Ev.det' (zzSplit_l1 l.length l [] (Nat.le_refl _) (by simpa using h)) (by simp)

theorem litOk_ba (t : List UInt8) : litOk (ba t) = (decide (t ≠ []) && litT t) := by
  unfold litOk
  rw [ba_size]
  rcases t with _ | ⟨x, t⟩
  · rfl
  rcases t with _ | ⟨y, t⟩
  · have hb : bt (ba [x]) 0 = (x.toNat : Int) := bt_mid [] x [] rfl rfl
    rw [hb]
    have h1 : ((x.toNat : Int) = 42) ↔ x = 42 := toNat_eq (n := 42) (by omega)
    have h2 : ((x.toNat : Int) = 62) ↔ x = 62 := toNat_eq (n := 62) (by omega)
    by_cases c1 : x = 42
    · subst c1; decide
    by_cases c2 : x = 62
    · subst c2; decide
    rw [decide_eq_true (show (x.toNat : Int) ≠ 42 from fun e => c1 (h1.1 e)), decide_eq_true (show (x.toNat : Int) ≠ 62 from fun e => c2 (h2.1 e))]
    simp [litT, c1, c2]
  · simp [litT]
theorem formed_lit : ∀ L : List (List UInt8), L.all (fun t => decide (t ≠ []) && litT t) = (formedB L && L.all litT)
  | [] => rfl
  | t :: L => by
    rw [List.all_cons, formed_lit L, formedB, List.all_cons]
    by_cases h0 : t = []
    · simp [h0]
    by_cases h1 : litT t = true
    · have : t ≠ [62] := by
        rintro rfl
        exact absurd h1 (by decide)
      simp [h0, h1, this]
    · simp [eq_false_of_ne_true h1]
theorem pure : laws_FnLiteral.Pure := by
  intro s hs
  obtain ⟨l, rfl⟩ := ba_surj s
  have hsz : (ba l).size = l.length := ba_size l
  apply Ev.rounds
  refine Ev.congr (fun k => by rw [laws_FnLiteral.f]) ?_
  by_cases c1 : ((ba l).size : Int) > 2147483647
  · exact Ev.pos c1 (Ev.now _)
  refine Ev.neg c1 ?_
  by_cases c2 : ((ba l).size : Int) > 400
  · exact Ev.pos c2 (Ev.now _)
  refine Ev.neg c2 ?_
  have hl : l.length ≤ 400 := by omega
  have ht : (toks l).length ≤ 401 := by rw [toks_len]; have := List.count_le_length (a := (46 : UInt8)) (l := l); omega
  refine Ev.bind (Spaced_ev l (by omega)) ?_
  cases hsp : l.any blankB with
  | true => exact Ev.pos rfl (Ev.now _)
  | false =>
    refine Ev.neg (by simp) ?_
    have hlit : Ev (fun k => impl_Literal.f k (ba l)) (formedB (toks l) && (toks l).all litT) := by
      refine Ev.congr (fun k => by rw [impl_Literal.f, server_IsValidLiteralSubject.f]) ?_
      refine Ev.bind (a := formedB (toks l) && (toks l).all litT) ?_ (Ev.now _)
      refine Ev.bind (zzSplit_ev l (by omega)) ?_
      refine Ev.pos (by rw [List.length_map]; omega) (Ev.det' (Ev.now _) ?_)
      rw [List.all_map, ← formed_lit]
      congr 1
      funext t
      exact litOk_ba t
    refine Ev.bind hlit ?_
    have hpl : Ev (fun k => spec_Plain.f k (ba l)) (formedB (toks l) && (toks l).all litT) := by
      refine Ev.congr (fun k => by rw [spec_Plain.f]) ?_
      refine Ev.bind (Valid_ev l (by omega)) ?_
      unfold validB
      rw [hsp]
      cases formedB (toks l) with
      | false => exact Ev.neg (by simp) (Ev.now _)
      | true =>
        refine Ev.pos rfl ?_
        exact Ev.bind (spec_Literal_ev l (by omega)) (Ev.det' (Ev.now _) (by simp))
    exact Ev.bind hpl (Ev.det' (Ev.now _) (by simp))

end Go.Proofs.Ytpgjcelglimpcaa.PlFnLiteral
