/- matchLevelForAny: what it finds, plainly, and its walk. -/
import Derived.Test.YtimffhpnfdikoaaDoorLsW
namespace Go.Proofs.YtimffhpnfdikoaaDoor.Ls
open Go.RowKit Go.Maps Go.Proofs.YtimffhpnfdikoaaDoor.Pl Go.Proofs.YtimffhpnfdikoaaDoor.Bs Go.Proofs.YtimffhpnfdikoaaDoorW.PrintWords Go.Proofs.YtimffhpnfdikoaaDoorW.PrintLast Go.Proofs.YtimffhpnfdikoaaDoorW.PrintMore Go.Proofs.YtimffhpnfdikoaaDoor.GFnListKinds Go.Proofs.YtimffhpnfdikoaaDoor.PlFnListKinds
set_option linter.unusedVariables false
set_option linter.unusedSimpArgs false
/-- Tokens without wildcards are matched by a pattern's. -/
def mt : Path → Path → Bool
  | [], [] => true
  | _ :: _, [] => false
  | [], _ :: _ => false
  | t :: l, p :: ps => if p = full then true else if p = star ∨ p = t then mt l ps else false
theorem mt_nil {q : Path} : mt [] q = true ↔ q = [] := by cases q <;> simp [mt]
theorem mt_cons {t u : ByteArray} {l q : Path} : mt (t :: l) (u :: q) = true ↔ u = full ∨ ((u = star ∨ u = t) ∧ mt l q = true) := by
  rw [mt]
  by_cases h1 : u = full
  · rw [if_pos h1]
    simp [h1]
  · rw [if_neg h1]
    by_cases h2 : u = star ∨ u = t
    · rw [if_pos h2]
      simp [h1, h2]
    · rw [if_neg h2]
      simp [h1, h2]
/-- Something at or below p is matched by tokens. -/
def HitP (sub : Path → Int → Option ByteArray) (p toks : Path) : Prop := ∃ q v s, sub (p ++ q) v = some s ∧ mt toks q = true
def SubAt (sub : Path → Int → Option ByteArray) (p : Path) : Prop := ∃ v s, sub p v = some s
theorem hit_nil {sub : Path → Int → Option ByteArray} {p : Path} : HitP sub p [] ↔ SubAt sub p := by
  constructor
  · rintro ⟨q, v, s, h1, h2⟩
    rw [mt_nil] at h2
    subst h2
    rw [List.append_nil] at h1
    exact ⟨v, s, h1⟩
  · rintro ⟨v, s, h⟩
    exact ⟨[], v, s, by rw [List.append_nil]; exact h, rfl⟩
/-- One token. -/
theorem hit_cons {sub : Path → Int → Option ByteArray} {p toks : Path} {t : ByteArray} (hf : ∀ r, ¬ SubAt sub (p ++ [full] ++ r)) : HitP sub p (t :: toks) ↔ HitP sub (p ++ [star]) toks ∨ HitP sub (p ++ [t]) toks := by
  constructor
  · rintro ⟨q, v, s, h1, h2⟩
    cases q with
    | nil => cases h2
    | cons u q =>
      have e : p ++ u :: q = p ++ [u] ++ q := by simp
      rw [e] at h1
      rcases mt_cons.1 h2 with h | ⟨h | h, h3⟩
      · rw [h] at h1
        exact (hf q ⟨v, s, h1⟩).elim
      · rw [h] at h1
        exact .inl ⟨q, v, s, h1, h3⟩
      · rw [h] at h1
        exact .inr ⟨q, v, s, h1, h3⟩
  · rintro (⟨q, v, s, h1, h2⟩ | ⟨q, v, s, h1, h2⟩)
    · exact ⟨star :: q, v, s, by rw [← h1]; simp, mt_cons.2 (.inr ⟨.inl rfl, h2⟩)⟩
    · exact ⟨t :: q, v, s, by rw [← h1]; simp, mt_cons.2 (.inr ⟨.inr rfl, h2⟩)⟩
theorem hit_full {sub : Path → Int → Option ByteArray} {p toks r : Path} {t : ByteArray} (h : SubAt sub (p ++ [full] ++ r)) : HitP sub p (t :: toks) := by
  obtain ⟨v, s, h⟩ := h
  exact ⟨full :: r, v, s, by rw [← h]; simp, mt_cons.2 (.inl rfl)⟩
theorem okF_end : ∀ {p r : Path} {sf : Bool}, okF sf (p ++ [full] ++ r) = true → r = []
  | [], r, sf, h => by
    have h : okF sf (full :: r) = true := h
    unfold okF at h
    split at h
    · cases h
    · exact okF_true_nil (by simpa using h)
  | t :: p, r, sf, h => by
    have h : okF sf (t :: (p ++ [full] ++ r)) = true := by simpa using h
    unfold okF at h
    split at h
    · cases h
    · exact okF_end h
/-- A list whose subjects are all formed, nothing empty in it. -/
structure Fine (nd : Pm) (sub : Path → Int → Option ByteArray) : Prop where
  out : ∀ p, nd p = none → ∀ v, sub p v = none
  live : Live nd sub (fun _ => False)
  ok : ∀ q v s, sub q v = some s → okF false q = true
section
variable {w : World} {B K : Nat} {nd lv : Pm} {sub : Path → Int → Option ByteArray}
theorem Fine.fullAt (h : Fine nd sub) {p : Path} {y : Nat × Nat} (hy : nd (p ++ [full]) = some y) : SubAt sub (p ++ [full]) := by
  rcases h.live _ _ hy with e | ⟨r, v, s, e⟩
  · exact e.elim
  · have := okF_end (h.ok _ _ _ e)
    subst this
    rw [List.append_nil] at e
    exact ⟨v, s, e⟩
theorem Fine.gone (h : Fine nd sub) (hT : Tri w B K nd lv sub) {p : Path} (hn : nd p = none) (hp : p ≠ []) (r : Path) : ¬ SubAt sub (p ++ r) := by
  rintro ⟨v, s, e⟩
  by_cases hr : r = []
  · subst hr
    rw [List.append_nil, h.out _ hn] at e
    cases e
  · have hl : lv p = none := by
      cases hq : lv p with
      | none => rfl
      | some x =>
        obtain ⟨y, hy⟩ := hT.lvnd _ _ hp hq
        rw [hn] at hy
        cases hy
    rw [h.out _ (hT.below hl _ r rfl hr)] at e
    cases e
theorem Fine.flat (h : Fine nd sub) (hT : Tri w B K nd lv sub) {p : Path} (hl : lv p = none) {toks : Path} (ht : toks ≠ []) : ¬ HitP sub p toks := by
  rintro ⟨q, v, s, h1, h2⟩
  cases q with
  | nil => cases toks with
    | nil => exact ht rfl
    | cons t l => cases h2
  | cons u q =>
    rw [h.out _ (hT.below hl _ (u :: q) rfl (by simp))] at h1
    cases h1
end
theorem Fine.gone_hit {w : World} {B K : Nat} {nd lv : Pm} {sub : Path → Int → Option ByteArray} (h : Fine nd sub) (hT : Tri w B K nd lv sub) {p : Path} (hn : nd p = none) (hp : p ≠ []) (toks : Path) : ¬ HitP sub p toks := by
  rintro ⟨q, v, s, h1, _⟩
  exact h.gone hT hn hp q ⟨v, s, h1⟩
/-- The counter that is handed on, if one is. -/
def NpA (w : World) (np : Option Nat) (c : Int) : Prop := ∀ b, np = some b → Blk w b 3 [.int .i64 c]
/-- What matchLevelForAny answers. -/
structure AnyPost (w : World) (K : Nat) (sub : Path → Int → Option ByteArray) (p toks : Path) (np : Option Nat) (e : Ending) (w' : World) : Prop where
  out : ∃ b : Bool, e = .returned (.bool b) ∧ (b = true ↔ toks ≠ [] ∧ HitP sub p toks) ∧ ∃ c : Nat, NpA w' np (c : Int) ∧ (b = false → c = 0) ∧ (b = true → 0 < c) ∧ c ≤ K + 1
  fr : Fr (fun k => np = some k) w w'
/-- The way along the tokens: i are behind, nothing is found. -/
structure AnyS (w0 : World) (sub : Path → Int → Option ByteArray) (nd lv : Pm) (p toks : Path) (np : Option Nat) (i : Nat) (vl vp vn : Value) (w : World) : Prop where
  fr : Fr (fun k => np = some k) w0 w
  np : NpA w np 0
  vl : vl = ptrA ((lv (p ++ toks.take i)).map Prod.fst)
  zero : i = 0 → vp = .pointer none ∧ vn = .pointer none
  pos : ∀ j t, i = j + 1 → toks[j]? = some t → vp = ptrA ((nd (p ++ toks.take j ++ [star])).map Prod.fst) ∧ vn = ptrA ((nd (p ++ toks.take j ++ [t])).map Prod.fst)
  hit : HitP sub p toks ↔ HitP sub (p ++ toks.take i) (toks.drop i) ∨ (i = toks.length ∧ ∃ j, i = j + 1 ∧ SubAt sub (p ++ toks.take j ++ [star]))
theorem path_snoc {p toks : Path} {i : Nat} {t : ByteArray} (ht : toks[i]? = some t) : p ++ toks.take (i + 1) = p ++ toks.take i ++ [t] := by
  rw [take_snoc ht, List.append_assoc]
/-- A round of it. -/
theorem any_round {sub : Path → Int → Option ByteArray} {p toks : Path} {i : Nat} {t : ByteArray} (ht : toks[i]? = some t) (hf : ∀ r, ¬ SubAt sub (p ++ toks.take i ++ [full] ++ r)) (hs : toks.drop (i + 1) = [] ∨ ¬ HitP sub (p ++ toks.take i ++ [star]) (toks.drop (i + 1))) :
    HitP sub (p ++ toks.take i) (toks.drop i) ↔ HitP sub (p ++ toks.take (i + 1)) (toks.drop (i + 1)) ∨ (i + 1 = toks.length ∧ ∃ j, i + 1 = j + 1 ∧ SubAt sub (p ++ toks.take j ++ [star])) := by
  have hlt := (List.getElem?_eq_some_iff.1 ht).1
  rw [drop_cons ht, hit_cons hf, path_snoc ht]
  constructor
  · rintro (h | h)
    · rcases hs with hs | hs
      · rw [hs] at h
        refine .inr ⟨?_, i, rfl, hit_nil.1 h⟩
        have := List.drop_eq_nil_iff.1 hs
        omega
      · exact (hs h).elim
    · exact .inl h
  · rintro (h | ⟨h1, j, h2, h3⟩)
    · exact .inr h
    · obtain rfl : j = i := by omega
      left
      rw [List.drop_of_length_le (by omega)]
      exact hit_nil.2 h3
theorem AnyS.hitn {w0 w : World} {sub : Path → Int → Option ByteArray} {nd lv : Pm} {p toks : Path} {np : Option Nat} {i : Nat} {vl vp vn : Value} (h : AnyS w0 sub nd lv p toks np i vl vp vn w) (hi : i < toks.length) : HitP sub p toks ↔ HitP sub (p ++ toks.take i) (toks.drop i) := by
  rw [h.hit]
  constructor
  · rintro (h | ⟨h1, _⟩)
    · exact h
    · omega
  · exact .inl
theorem AnyS.next {w0 w w' : World} {sub : Path → Int → Option ByteArray} {nd lv : Pm} {p toks : Path} {np : Option Nat} {i : Nat} {vl vp vn : Value} {t : ByteArray} (h : AnyS w0 sub nd lv p toks np i vl vp vn w) (ht : toks[i]? = some t) (hf : ∀ r, ¬ SubAt sub (p ++ toks.take i ++ [full] ++ r)) (hs : toks.drop (i + 1) = [] ∨ ¬ HitP sub (p ++ toks.take i ++ [star]) (toks.drop (i + 1)))
    (hF : Fr (fun k => np = some k) w w') (hN : NpA w' np 0) {vl' vp' vn' : Value} (h1 : vl' = ptrA ((lv (p ++ toks.take i ++ [t])).map Prod.fst)) (h2 : vp' = ptrA ((nd (p ++ toks.take i ++ [star])).map Prod.fst)) (h3 : vn' = ptrA ((nd (p ++ toks.take i ++ [t])).map Prod.fst)) :
    AnyS w0 sub nd lv p toks np (i + 1) vl' vp' vn' w' := by
  refine ⟨h.fr.trans hF (fun _ _ h => h), hN, by rw [h1, path_snoc ht], (fun e => by cases e), fun j u hj hu => ?_, ?_⟩
  · obtain rfl : j = i := by omega
    rw [ht] at hu
    injection hu with hu
    subst hu
    exact ⟨h2, h3⟩
  · rw [h.hitn (List.getElem?_eq_some_iff.1 ht).1]
    exact any_round ht hf hs
end Go.Proofs.YtimffhpnfdikoaaDoor.Ls
