/- What the printed functions of FnListKinds come to, as plain functions on lists. -/
import Derived.Test.YtimffhpnfdikoaaDoorPlListC
import Derived.Test.YtimffhpnfdikoaaDoorLsPc
namespace Go.Proofs.YtimffhpnfdikoaaDoor.PlFnListKinds
open Go.RowKit Go.Proofs.YtimffhpnfdikoaaDoorW.PrintWords Go.Proofs.YtimffhpnfdikoaaDoorW.PrintLast Go.Proofs.YtimffhpnfdikoaaDoorW.PrintMore Go.Proofs.YtimffhpnfdikoaaDoor.Pl Go.Proofs.YtimffhpnfdikoaaDoor.GFnListKinds
set_option linter.unusedVariables false
set_option linter.unusedSimpArgs false

/-- All that one pattern matches is matched by the other one. -/
def subT : List (List UInt8) → List (List UInt8) → Bool
  | [], [] => true
  | _ :: _, [] => false
  | [], _ :: _ => false
  | t :: l, p :: ps => if p = [62] then true else if t = [62] then false else if p = [42] ∨ t = p then subT l ps else false
theorem tokenize_l0 (s : ByteArray) (hs : s.size < 8796093022208) : ∀ (rest pre p : List UInt8) (out : List ByteArray) (fr i : Int), s = ba (pre ++ p ++ rest) → fr = (pre.length : Int) → i = (pre.length : Int) + p.length → out.length ≤ pre.length →
    Ev (fun k => server_tokenizeSubjectIntoSlice.l0 k out s fr i) (out ++ (toksA p rest).map ba) := by
  intro rest
  induction rest with
  | nil =>
    intro pre p out fr i h hf hi ho
    have hz : (s.size : Int) = pre.length + p.length := by rw [h, ba_size]; simp
    have he : s.extract fr.toNat s.size = ba p := ext_end pre p (by rw [h, List.append_nil]) hf
    refine Ev.step (fun k => by rw [server_tokenizeSubjectIntoSlice.l0, if_neg (by omega), if_pos (by omega), if_pos (by omega), if_pos (by omega), he]) ?_
    exact Ev.now _
  | cons c rest ih =>
    intro pre p out fr i h hf hi ho
    have hz : (s.size : Int) = pre.length + p.length + rest.length + 1 := by rw [h, ba_size]; simp; omega
    have hb : bt s i = (c.toNat : Int) := bt_mid (pre ++ p) c rest h (by simp; omega)
    have hw : wrap64 (i + 1) = i + 1 := w64 (by omega) (by omega)
    have he : s.extract fr.toNat i.toNat = ba p := ext_mid pre p (c :: rest) h hf hi
    by_cases hc : c = 46
    · subst hc
      refine Ev.step (fun k => by rw [server_tokenizeSubjectIntoSlice.l0, if_pos (by omega), if_pos (by omega), hb, if_pos (by decide), if_pos (by omega), if_pos (by omega), if_pos (by omega), if_pos (by omega), he, hw]) ?_
      refine Ev.det' (ih (pre ++ p ++ [46]) [] (out ++ [ba p]) (i + 1) (i + 1) (by rw [h]; simp) (by simp; omega) (by simp; omega) (by simp; omega)) ?_
      rw [toksA_dot]; simp
    · have hne : ¬ ((c.toNat : Int) = 46) := fun e => hc ((toNat_eq (n := 46) (by omega)).1 e)
      refine Ev.step (fun k => by rw [server_tokenizeSubjectIntoSlice.l0, if_pos (by omega), if_pos (by omega), hb, if_neg hne, hw]) ?_
      refine Ev.det' (ih pre (p ++ [c]) out fr (i + 1) (by rw [h]; simp) hf (by simp; omega) ho) ?_
      rw [toksA_other _ hc]
theorem tokenize_ev (l : List UInt8) (hs : l.length < 8796093022208) : Ev (fun k => server_tokenizeSubjectIntoSlice.f k [] (ba l)) ((toks l).map ba) := by
  have := tokenize_l0 (ba l) hs l [] [] [] 0 0 (by simp) (by simp) (by simp) (by simp)
  exact this
theorem cmp_zero : ∀ (a b : List UInt8), Lib.compareBytes a b = 0 ↔ a = b
  | [], [] => by simp [Lib.compareBytes]
  | [], _ :: _ => by simp [Lib.compareBytes]
  | _ :: _, [] => by simp [Lib.compareBytes]
  | x :: a, y :: b => by
    have ih := cmp_zero a b
    simp only [Lib.compareBytes]
    by_cases h1 : x < y
    · rw [if_pos h1]; simp; intro h; subst h; exact absurd h1 (by simp)
    · rw [if_neg h1]
      by_cases h2 : y < x
      · rw [if_pos h2]; simp; intro h; subst h; exact absurd h2 (by simp)
      · rw [if_neg h2, ih]
        have : x = y := by
          apply UInt8.toNat_inj.1
          rw [UInt8.lt_iff_toNat_lt] at h1 h2
          omega
        simp [this]
theorem beq_one (n : Nat) : (((n : Int) + 1) == 1) = decide (n = 0) := by
  rw [Bool.eq_iff_iff]; simp; omega
theorem isSubset_l0 (L P : List (List UInt8)) (hP : P.length ≤ 140737488351232) : ∀ (p l preP preL : List (List UInt8)) (i : Int), P = preP ++ p → L = preL ++ l → i = (preP.length : Int) → preL.length = preP.length →
    (∀ t ∈ p, t ≠ []) → (∀ t ∈ l, t ≠ []) → p.all tameT = true → l.all tameT = true →
    Ev (fun k => server_isSubsetMatchTokenized.l0 k (L.map ba) (P.map ba) (P.map ba) ((P.map ba).length : Int) i) (subT l p) := by
  intro p
  induction p with
  | nil =>
    intro l preP preL i hp hl hi he _ _ _ _
    have hz : ((P.map ba).length : Int) = preP.length := by rw [hp]; simp
    have hz2 : ((L.map ba).length : Int) = preL.length + l.length := by rw [hl]; simp
    refine Ev.step (fun k => by rw [server_isSubsetMatchTokenized.l0, if_neg (by omega)]) ?_
    refine Ev.const ?_
    cases l with
    | nil => simp only [subT]; congr 1; rw [beq_iff_eq]; simp only [List.length_nil] at hz2; omega
    | cons t l => simp only [subT]; congr 1; rw [beq_eq_false_iff_ne]; simp only [List.length_cons] at hz2; omega
  | cons p ps ih =>
    intro l preP preL i hp hl hi he np nl tp tl
    have hz : ((P.map ba).length : Int) = preP.length + ps.length + 1 := by rw [hp]; simp; omega
    have hz3 : (P.length : Int) = preP.length + ps.length + 1 := by rw [hp]; simp; omega
    have hz2 : ((L.map ba).length : Int) = preL.length + l.length := by rw [hl]; simp
    have hrp : rdOf ByteArray.empty (P.map ba) i = ba p := rdOf_mid _ (preP.map ba) (ba p) (ps.map ba) (by rw [hp]; simp) (by simp; omega)
    have hw : wrap64 (i + 1) = i + 1 := w64 (by omega) (by omega)
    cases l with
    | nil =>
      simp only [List.length_nil] at hz2
      refine Ev.step (fun k => by rw [server_isSubsetMatchTokenized.l0, if_pos (by omega), if_pos (by omega), if_pos (by omega), if_pos (by omega)]) ?_
      exact Ev.now _
    | cons t l =>
      simp only [List.length_cons] at hz2
      have hrl : rdOf ByteArray.empty (L.map ba) i = ba t := rdOf_mid _ (preL.map ba) (ba t) (l.map ba) (by rw [hl]; simp) (by simp; omega)
      rw [List.all_cons, Bool.and_eq_true] at tp tl
      have IH := ih l (preP ++ [p]) (preL ++ [t]) (i + 1) (by rw [hp]; simp) (by rw [hl]; simp) (by simp; omega) (by simp [he]) (fun x hx => np x (List.mem_cons_of_mem _ hx)) (fun x hx => nl x (List.mem_cons_of_mem _ hx)) tp.2 tl.2
      obtain ⟨c, p', rfl⟩ := List.exists_cons_of_ne_nil (np p List.mem_cons_self)
      obtain ⟨d, t', rfl⟩ := List.exists_cons_of_ne_nil (nl t List.mem_cons_self)
      have sp : ((ba (c :: p')).size : Int) = (p'.length : Int) + 1 := by rw [ba_size]; simp
      have st : ((ba (d :: t')).size : Int) = (t'.length : Int) + 1 := by rw [ba_size]; simp
      have bp : bt (ba (c :: p')) 0 = (c.toNat : Int) := by rw [ba_bt]; rfl
      have bd : bt (ba (d :: t')) 0 = (d.toNat : Int) := by rw [ba_bt]; rfl
      have c42 := toNat_eq (c := c) (n := 42) (by omega)
      have c62 := toNat_eq (c := c) (n := 62) (by omega)
      have d42 := toNat_eq (c := d) (n := 42) (by omega)
      have d62 := toNat_eq (c := d) (n := 62) (by omega)
      simp at c42 c62 d42 d62
      have wp : c = 42 ∨ c = 62 → p' = [] := by
        intro h
        cases p' with
        | nil => rfl
        | cons x p' => have := tp.1; simp [tameT, wildB] at this; rcases h with h | h <;> simp [h] at this
      have wt : d = 42 ∨ d = 62 → t' = [] := by
        intro h
        cases t' with
        | nil => rfl
        | cons x t' => have := tl.1; simp [tameT, wildB] at this; rcases h with h | h <;> simp [h] at this
      rw [subT]
      -- the pattern's token: is it > ?
      by_cases h1 : c = 62
      · obtain rfl := wp (Or.inr h1)
        subst h1
        rw [if_pos rfl]
        refine Ev.step (fun k => by rw [server_isSubsetMatchTokenized.l0, if_pos (by omega), if_pos (by omega), if_pos (by omega), if_neg (by omega), hrp, sp, if_neg (by omega), if_pos (by omega), bp, if_pos (by decide), beq_one]) ?_
        refine Ev.step (fun k => by rw [server_isSubsetMatchTokenized.j1, if_pos (by simp)]) ?_
        exact Ev.now _
      · rw [if_neg (by simp [h1])]
        refine Ev.step (fun k => by rw [server_isSubsetMatchTokenized.l0, if_pos (by omega), if_pos (by omega), if_pos (by omega), if_neg (by omega), hrp, sp, if_neg (by omega), if_pos (by omega), bp, if_neg (fun e => h1 (c62.1 e))]) ?_
        by_cases h2 : d = 62
        · obtain rfl := wt (Or.inr h2)
          subst h2
          rw [if_pos rfl]
          refine Ev.step (fun k => by rw [server_isSubsetMatchTokenized.j1, if_neg (by simp), if_pos (by omega), if_pos (by omega), hrl, st, if_neg (by omega), if_pos (by omega), bd, if_pos (by decide), beq_one]) ?_
          refine Ev.step (fun k => by rw [server_isSubsetMatchTokenized.j2, if_pos (by simp)]) ?_
          exact Ev.now _
        · rw [if_neg (by simp [h2])]
          refine Ev.step (fun k => by rw [server_isSubsetMatchTokenized.j1, if_neg (by simp), if_pos (by omega), if_pos (by omega), hrl, st, if_neg (by omega), if_pos (by omega), bd, if_neg (fun e => h2 (d62.1 e))]) ?_
          by_cases h3 : d = 42
          · obtain rfl := wt (Or.inl h3)
            subst h3
            refine Ev.step (fun k => by rw [server_isSubsetMatchTokenized.j2, if_neg (by simp), st, if_pos (by omega), bd, if_pos (by decide), beq_one]) ?_
            by_cases h4 : c = 42
            · obtain rfl := wp (Or.inl h4)
              subst h4
              rw [if_pos (Or.inl rfl)]
              refine Ev.step (fun k => by rw [server_isSubsetMatchTokenized.j3, if_pos (by simp), sp, if_pos (by omega), bp, if_pos (by decide), beq_one]) ?_
              refine Ev.step (fun k => by rw [server_isSubsetMatchTokenized.j4, if_pos (by simp), if_neg (by omega), hw]) ?_
              exact IH
            · rw [if_neg (by simp [h4]; intro h; exact absurd h.symm h4)]
              refine Ev.step (fun k => by rw [server_isSubsetMatchTokenized.j3, if_pos (by simp), sp, if_pos (by omega), bp, if_neg (fun e => h4 (c42.1 e))]) ?_
              refine Ev.step (fun k => by rw [server_isSubsetMatchTokenized.j4, if_neg (by simp)]) ?_
              exact Ev.now _
          · refine Ev.step (fun k => by rw [server_isSubsetMatchTokenized.j2, if_neg (by simp), st, if_pos (by omega), bd, if_neg (fun e => h3 (d42.1 e))]) ?_
            by_cases h4 : c = 42
            · obtain rfl := wp (Or.inl h4)
              subst h4
              rw [if_pos (Or.inl rfl)]
              refine Ev.step (fun k => by rw [server_isSubsetMatchTokenized.j3, if_neg (by simp), sp, if_pos (by omega), bp, if_pos (by decide), hw]) ?_
              exact IH
            · refine Ev.step (fun k => by rw [server_isSubsetMatchTokenized.j3, if_neg (by simp), sp, if_pos (by omega), bp, if_neg (fun e => h4 (c42.1 e)), strings_Compare.f, Option.bind_some, ba_data, ba_data, hw]) ?_
              by_cases h5 : (d :: t') = (c :: p')
              · rw [if_pos (Or.inr h5)]
                refine Ev.pos ((cmp_zero _ _).2 h5) IH
              · rw [if_neg (fun h => h.elim (fun h => h4 (by simp at h; exact h.1)) h5)]
                refine Ev.neg (fun e => h5 ((cmp_zero _ _).1 e)) (Ev.now _)
theorem formed_ne : ∀ (L : List (List UInt8)), formedB L = true → ∀ t ∈ L, t ≠ []
  | [], _ => by simp
  | t :: ts, h => by
    simp only [formedB, Bool.and_eq_true, decide_eq_true_eq] at h
    intro x hx
    rcases List.mem_cons.1 hx with rfl | hx
    · exact h.1.1
    · exact formed_ne ts h.2 x hx
theorem subset_ev (l p : List UInt8) (hl : l.length < 8796093022208) (hp : p.length < 8796093022208) (fl : formedB (toks l) = true) (fp : formedB (toks p) = true) (tl : (toks l).all tameT = true) (tp : (toks p).all tameT = true) :
    Ev (fun k => server_subjectIsSubsetMatch.f k (ba l) (ba p)) (subT (toks l) (toks p)) := by
  have h2 : (toks p).length ≤ 140737488351232 := by rw [toks_len]; have := List.count_le_length (a := (46 : UInt8)) (l := p); omega
  refine Ev.congr (fun k => by rw [server_subjectIsSubsetMatch.f]) ?_
  refine Ev.bind (tokenize_ev l hl) ?_
  refine Ev.congr (fun k => by rw [server_isSubsetMatch.f]) ?_
  refine Ev.bind (tokenize_ev p hp) ?_
  refine Ev.congr (fun k => by rw [server_isSubsetMatchTokenized.f]) ?_
  exact isSubset_l0 _ _ h2 (toks p) (toks l) [] [] 0 rfl rfl rfl rfl (formed_ne _ fp) (formed_ne _ fl) tp tl
theorem impl_Matches_ev (l p : List UInt8) (hl : l.length < 8796093022208) (hp : p.length < 8796093022208) (fl : formedB (toks l) = true) (fp : formedB (toks p) = true) (tl : (toks l).all tameT = true) (tp : (toks p).all tameT = true) :
    Ev (fun k => impl_Matches.f k (ba l) (ba p)) (subT (toks l) (toks p)) := by
  refine Ev.congr (fun k => by rw [impl_Matches.f, server_SubjectMatchesFilter.f]) ?_
  exact Ev.bind (Ev.bind (subset_ev l p hl hp fl fp tl tp) (Ev.now _)) (Ev.now _)

theorem hasInt_l0 (L : List Int) (hs : L.length ≤ 1000000) (n : Int) : ∀ (rest pre : List Int) (i : Int), L = pre ++ rest → i = (pre.length : Int) →
    Ev (fun k => laws_hasInt.l0 k L n i) (decide (n ∈ rest)) := by
  intro rest
  induction rest with
  | nil =>
    intro pre i h hi
    have hz : (L.length : Int) = pre.length := by rw [h]; simp
    refine Ev.step (fun k => by rw [laws_hasInt.l0, if_neg (by omega)]) ?_
    exact Ev.det' (Ev.now _) (by simp)
  | cons c rest ih =>
    intro pre i h hi
    have hz : (L.length : Int) = pre.length + rest.length + 1 := by rw [h]; simp; omega
    have hb : rd L i = c := rd_mid pre c rest h hi
    have hw : wrap64 (i + 1) = i + 1 := w64 (by omega) (by omega)
    by_cases hc : c = n
    · refine Ev.step (fun k => by rw [laws_hasInt.l0, if_pos (by omega), if_pos (by omega), hb, if_pos hc]) ?_
      exact Ev.det' (Ev.now _) (by simp [hc])
    · refine Ev.step (fun k => by rw [laws_hasInt.l0, if_pos (by omega), if_pos (by omega), hb, if_neg hc, hw]) ?_
      refine Ev.det' (ih (pre ++ [c]) (i + 1) (by rw [h]; simp) (by simp; omega)) ?_
      have : n ≠ c := fun e => hc e.symm
      simp [this]
theorem hasInt_ev (L : List Int) (hs : L.length ≤ 1000000) (n : Int) : Ev (fun k => laws_hasInt.f k L n) (decide (n ∈ L)) := hasInt_l0 L hs n L [] 0 (by simp) (by simp)
theorem subT_lit : ∀ (L P : List (List UInt8)), L.all litT = true → subT L P = matchT L P
  | [], [], _ => rfl
  | _ :: _, [], _ => rfl
  | [], _ :: _, _ => rfl
  | t :: L, p :: P, h => by
    rw [List.all_cons, Bool.and_eq_true] at h
    have h6 : t ≠ [62] := by
      have := h.1
      unfold litT at this
      rw [Bool.and_eq_true, decide_eq_true_iff, decide_eq_true_iff] at this
      exact this.2
    rw [subT, matchT]
    by_cases c1 : p = [62]
    · rw [if_pos c1, if_pos c1]
    · rw [if_neg c1, if_neg c1, if_neg h6]
      by_cases c2 : p = [42] ∨ t = p
      · rw [if_pos c2, if_pos (c2.imp (fun h => h) (fun h => h.symm)), subT_lit L P h.2]
      · rw [if_neg c2, if_neg (fun e => c2 (e.imp (fun h => h) (fun h => h.symm)))]

end Go.Proofs.YtimffhpnfdikoaaDoor.PlFnListKinds
