/- What the printed functions of FnListKinds come to, as plain functions on lists. -/
import Derived.Test.YtimffhpnfdikoaaDoorPlListB
import Derived.Test.YtimffhpnfdikoaaDoorLsPb
namespace Go.Proofs.YtimffhpnfdikoaaDoor.PlFnListKinds
open Go.RowKit Go.Proofs.YtimffhpnfdikoaaDoorW.PrintWords Go.Proofs.YtimffhpnfdikoaaDoorW.PrintLast Go.Proofs.YtimffhpnfdikoaaDoorW.PrintMore Go.Proofs.YtimffhpnfdikoaaDoor.Pl Go.Proofs.YtimffhpnfdikoaaDoor.GFnListKinds
set_option linter.unusedVariables false
set_option linter.unusedSimpArgs false

theorem valid_ev (l : List UInt8) (hs : l.length < 8796093022208) : ∃ b, Ev (fun k => laws_valid.f k (ba l)) b ∧ (b = true ↔ (l.length ≤ 400 ∧ l.all cleanB = true) ∧ validB l = true ∧ (toks l).all tameT = true) := by
  obtain ⟨b, hb, hiff⟩ := clean_ev l (by omega)
  cases b with
  | false =>
    refine ⟨false, ?_, ?_⟩
    · refine Ev.congr (fun k => by rw [laws_valid.f]) ?_
      refine Ev.bind hb ?_
      simp only [Bool.false_eq_true, if_false]
      exact Ev.now _
    · simp only [Bool.false_eq_true, false_iff] at hiff ⊢
      exact fun h => hiff h.1
  | true =>
    refine ⟨validB l && (toks l).all tameT, ?_, ?_⟩
    · refine Ev.congr (fun k => by rw [laws_valid.f]) ?_
      refine Ev.bind hb ?_
      simp only [if_true]
      refine Ev.bind (Valid_ev l hs) ?_
      cases validB l with
      | true =>
        simp only [if_true, Bool.true_and]
        refine Ev.bind (tame_ev l hs) ?_
        exact Ev.now _
      | false => simp only [Bool.false_eq_true, if_false, Bool.false_and]; exact Ev.now _
    · rw [Bool.and_eq_true]
      exact ⟨fun h => ⟨hiff.1 rfl, h⟩, fun h => h.2⟩

/-- No token is a wildcard. -/
def litT (t : List UInt8) : Bool := decide (t ≠ [42]) && decide (t ≠ [62])
theorem spec_Literal_l0 (L : List (List UInt8)) (hs : L.length ≤ 140737488351232) : ∀ (rest pre : List (List UInt8)) (i : Int), L = pre ++ rest → i = (pre.length : Int) →
    Ev (fun k => spec_Literal.l0 k (L.map ba) i) (rest.all litT) := by
  intro rest
  induction rest with
  | nil =>
    intro pre i h hi
    have hz : ((L.map ba).length : Int) = pre.length := by rw [h]; simp
    refine Ev.step (fun k => by rw [spec_Literal.l0, if_neg (by omega)]) ?_
    exact Ev.now _
  | cons c rest ih =>
    intro pre i h hi
    have hz : ((L.map ba).length : Int) = pre.length + rest.length + 1 := by rw [h]; simp; omega
    have hz2 : (L.length : Int) = pre.length + rest.length + 1 := by rw [h]; simp; omega
    have hb : rdOf ByteArray.empty (L.map ba) i = ba c := rdOf_mid _ (pre.map ba) (ba c) (rest.map ba) (by rw [h]; simp) (by simp; omega)
    have hw : wrap64 (i + 1) = i + 1 := w64 (by omega) (by omega)
    have IH := ih (pre ++ [c]) (i + 1) (by rw [h]; simp) (by simp; omega)
    by_cases h0 : c = [42]
    · refine Ev.step (fun k => by rw [spec_Literal.l0, if_pos (by omega), if_pos (by omega), hb, ba_toList, if_pos h0]) ?_
      exact Ev.const (by simp [litT, h0])
    by_cases h1 : c = [62]
    · refine Ev.step (fun k => by rw [spec_Literal.l0, if_pos (by omega), if_pos (by omega), hb, ba_toList, if_neg h0, if_pos h1]) ?_
      exact Ev.const (by simp [litT, h1])
    · refine Ev.step (fun k => by rw [spec_Literal.l0, if_pos (by omega), if_pos (by omega), hb, ba_toList, if_neg h0, if_neg h1, hw]) ?_
      refine Ev.det' IH ?_
      simp [litT, h0, h1]
theorem spec_Literal_ev (l : List UInt8) (hs : l.length < 8796093022208) : Ev (fun k => spec_Literal.f k (ba l)) ((toks l).all litT) := by
  have ht : (toks l).length ≤ 140737488351232 := by rw [toks_len]; have := List.count_le_length (a := (46 : UInt8)) (l := l); omega
  refine Ev.congr (fun k => by rw [spec_Literal.f]) ?_
  refine Ev.bind (Tokens_ev l hs) ?_
  exact spec_Literal_l0 (toks l) ht (toks l) [] 0 rfl rfl

theorem plain_ev (l : List UInt8) (hs : l.length < 8796093022208) : ∃ b, Ev (fun k => laws_plain.f k (ba l)) b ∧ (b = true ↔ ((l.length ≤ 400 ∧ l.all cleanB = true) ∧ validB l = true ∧ (toks l).all tameT = true) ∧ (toks l).all litT = true) := by
  obtain ⟨b, hb, hiff⟩ := valid_ev l hs
  cases b with
  | false =>
    refine ⟨false, ?_, ?_⟩
    · refine Ev.congr (fun k => by rw [laws_plain.f]) ?_
      refine Ev.bind hb ?_
      simp only [Bool.false_eq_true, if_false]
      exact Ev.now _
    · simp only [Bool.false_eq_true, false_iff] at hiff ⊢
      exact fun h => hiff h.1
  | true =>
    refine ⟨(toks l).all litT, ?_, ?_⟩
    · refine Ev.congr (fun k => by rw [laws_plain.f]) ?_
      refine Ev.bind hb ?_
      simp only [if_true]
      refine Ev.bind (spec_Literal_ev l hs) ?_
      exact Ev.now _
    · exact ⟨fun h => ⟨hiff.1 rfl, h⟩, fun h => h.2⟩

/-- Tokens without wildcards are matched by a pattern's. -/
def matchT : List (List UInt8) → List (List UInt8) → Bool
  | [], [] => true
  | _ :: _, [] => false
  | [], _ :: _ => false
  | t :: l, p :: ps => if p = [62] then true else if p = [42] ∨ p = t then matchT l ps else false
theorem matchT_false {t p : List UInt8} {l ps : List (List UInt8)} (h1 : p ≠ [62]) (h2 : p ≠ [42]) (h3 : p ≠ t) : matchT (t :: l) (p :: ps) = false := by
  rw [matchT, if_neg h1, if_neg (by simp [h2, h3])]
theorem matchT_same {t : List UInt8} {l ps : List (List UInt8)} (h1 : t ≠ [62]) : matchT (t :: l) (t :: ps) = matchT l ps := by
  rw [matchT, if_neg h1, if_pos (Or.inr rfl)]
theorem spec_matches_l0 (L P : List (List UInt8)) (hP : P.length ≤ 140737488351232) : ∀ (p l preP preL : List (List UInt8)) (i : Int), P = preP ++ p → L = preL ++ l → i = (preP.length : Int) → preL.length = preP.length →
    Ev (fun k => spec_matches.l0 k (L.map ba) (P.map ba) i) (matchT l p) := by
  intro p
  induction p with
  | nil =>
    intro l preP preL i hp hl hi he
    have hz : ((P.map ba).length : Int) = preP.length := by rw [hp]; simp
    have hz2 : ((L.map ba).length : Int) = preL.length + l.length := by rw [hl]; simp
    refine Ev.step (fun k => by rw [spec_matches.l0, if_neg (by omega)]) ?_
    refine Ev.const ?_
    cases l with
    | nil => simp only [matchT]; congr 1; rw [beq_iff_eq]; simp only [List.length_nil] at hz2; omega
    | cons t l => simp only [matchT]; congr 1; rw [beq_eq_false_iff_ne]; simp only [List.length_cons] at hz2; omega
  | cons p ps ih =>
    intro l preP preL i hp hl hi he
    have hz : ((P.map ba).length : Int) = preP.length + ps.length + 1 := by rw [hp]; simp; omega
    have hz3 : (P.length : Int) = preP.length + ps.length + 1 := by rw [hp]; simp; omega
    have hz2 : ((L.map ba).length : Int) = preL.length + l.length := by rw [hl]; simp
    have hrp : rdOf ByteArray.empty (P.map ba) i = ba p := rdOf_mid _ (preP.map ba) (ba p) (ps.map ba) (by rw [hp]; simp) (by simp; omega)
    have hw : wrap64 (i + 1) = i + 1 := w64 (by omega) (by omega)
    cases l with
    | nil =>
      simp only [List.length_nil] at hz2
      refine Ev.step (fun k => by rw [spec_matches.l0, if_pos (by omega), if_pos (by omega)]) ?_
      exact Ev.now _
    | cons t l =>
      simp only [List.length_cons] at hz2
      have hrl : rdOf ByteArray.empty (L.map ba) i = ba t := rdOf_mid _ (preL.map ba) (ba t) (l.map ba) (by rw [hl]; simp) (by simp; omega)
      have IH := ih l (preP ++ [p]) (preL ++ [t]) (i + 1) (by rw [hp]; simp) (by rw [hl]; simp) (by simp; omega) (by simp [he])
      rw [matchT]
      by_cases h1 : p = [62]
      · rw [if_pos h1]
        refine Ev.step (fun k => by rw [spec_matches.l0, if_pos (by omega), if_neg (by omega), if_pos (by omega), hrp, ba_toList, if_pos h1]) ?_
        exact Ev.now _
      rw [if_neg h1]
      by_cases h2 : p = [42]
      · rw [if_pos (Or.inl h2)]
        refine Ev.step (fun k => by rw [spec_matches.l0, if_pos (by omega), if_neg (by omega), if_pos (by omega), hrp, ba_toList, if_neg h1, if_pos h2, hw]) ?_
        exact IH
      by_cases h3 : p = t
      · rw [if_pos (Or.inr h3)]
        refine Ev.step (fun k => by rw [spec_matches.l0, if_pos (by omega), if_neg (by omega), if_pos (by omega), hrp, ba_toList, if_neg h1, if_neg h2, if_pos (by omega), hrl, ba_toList, if_pos h3, hw]) ?_
        exact IH
      · rw [if_neg (by simp [h2, h3])]
        refine Ev.step (fun k => by rw [spec_matches.l0, if_pos (by omega), if_neg (by omega), if_pos (by omega), hrp, ba_toList, if_neg h1, if_neg h2, if_pos (by omega), hrl, ba_toList, if_neg h3]) ?_
        exact Ev.now _
theorem spec_Match_ev (l p : List UInt8) (hl : l.length < 8796093022208) (hp : p.length < 8796093022208) : Ev (fun k => spec_Match.f k (ba l) (ba p)) (matchT (toks l) (toks p)) := by
  have h2 : (toks p).length ≤ 140737488351232 := by rw [toks_len]; have := List.count_le_length (a := (46 : UInt8)) (l := p); omega
  refine Ev.congr (fun k => by rw [spec_Match.f]) ?_
  refine Ev.bind (Tokens_ev l hl) ?_
  refine Ev.bind (Tokens_ev p hp) ?_
  refine Ev.bind (spec_matches_l0 _ _ h2 (toks p) (toks l) [] [] 0 rfl rfl rfl rfl) ?_
  exact Ev.now _

def valsP (s : ByteArray) (l : List S35) : List Int := (l.filter (fun e => matchT (toks s.data.toList) (toks e.f0.data.toList))).map (fun e => e.f1)
theorem Values_l0 (L : List S35) (hs : L.length ≤ 1000000) (s : ByteArray) (hz : s.size < 8796093022208) (he : ∀ e ∈ L, e.f0.size < 8796093022208) : ∀ (rest pre : List S35) (out : List Int) (i : Int), L = pre ++ rest → i = (pre.length : Int) → out.length ≤ pre.length →
    Ev (fun k => spec_Values.l0 k L s out i) (out ++ valsP s rest) := by
  intro rest
  induction rest with
  | nil =>
    intro pre out i h hi ho
    have hz : (L.length : Int) = pre.length := by rw [h]; simp
    refine Ev.step (fun k => by rw [spec_Values.l0, if_neg (by omega)]) ?_
    exact Ev.det' (Ev.now _) (by simp [valsP])
  | cons c rest ih =>
    intro pre out i h hi ho
    have hzz : (L.length : Int) = pre.length + rest.length + 1 := by rw [h]; simp; omega
    have hb : rd_T35 L i = c := rd35_mid pre c rest h hi
    have hw : wrap64 (i + 1) = i + 1 := w64 (by omega) (by omega)
    have hm : Ev (fun k => spec_Match.f k s c.f0) (matchT (toks s.data.toList) (toks c.f0.data.toList)) := spec_Match_ev s.data.toList c.f0.data.toList hz (he c (by rw [h]; simp))
    refine Ev.step (fun k => by rw [spec_Values.l0, if_pos (by omega), if_pos (by omega), hb, hw]) ?_
    refine Ev.bind hm ?_
    cases hq : matchT (toks s.data.toList) (toks c.f0.data.toList) with
    | true =>
      refine Ev.pos rfl (Ev.pos (by omega) ?_)
      refine Ev.det' (ih (pre ++ [c]) (out ++ [c.f1]) (i + 1) (by rw [h]; simp) (by simp; omega) (by simp; omega)) ?_
      simp [valsP, hq]
    | false =>
      refine Ev.neg (by simp) ?_
      refine Ev.det' (ih (pre ++ [c]) out (i + 1) (by rw [h]; simp) (by simp; omega) (by simp; omega)) ?_
      simp [valsP, hq]
theorem Values_ev (L : List S35) (hs : L.length ≤ 1000000) (s : ByteArray) (hz : s.size < 8796093022208) (he : ∀ e ∈ L, e.f0.size < 8796093022208) : Ev (fun k => spec_Values.f k L s) (valsP s L) := by
  have := Values_l0 L hs s hz he L [] [] 0 (by simp) (by simp) (by simp)
  exact this

end Go.Proofs.YtimffhpnfdikoaaDoor.PlFnListKinds
