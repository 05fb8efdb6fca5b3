/- What is written of a topic or a filter, level by level. Plain. -/
import Derived.Test.YtgbdjinanflhaaaDoorMqE
import Derived.Test.YtgbdjinanflhaaaDoorMqM
namespace Go.Proofs.YtgbdjinanflhaaaDoor.Mq
open Go.RowKit Go.Proofs.YtgbdjinanflhaaaDoorW.PrintWords Go.Proofs.YtgbdjinanflhaaaDoorW.PrintLast Go.Proofs.YtgbdjinanflhaaaDoorW.PrintMore Go.Proofs.YtgbdjinanflhaaaDoor.Pl
set_option linter.unusedVariables false
set_option linter.unusedSimpArgs false

/-- The sign of a wildcard. -/
def wv (c : UInt8) : UInt8 := if c = 43 then 42 else if c = 35 then 62 else c
/-- What is written for what is left; the flag: at a level's begin. -/
def encW : List UInt8 → Bool → List UInt8
  | [], true => [47]
  | [], false => []
  | c :: r, st =>
    if c = 47 then (if st = true then 47 :: 46 :: encW r true else if r = [] ∨ r.head? = some 47 then 46 :: 47 :: encW r false else 46 :: encW r true)
    else if c = 46 then 47 :: 47 :: encW r false
    else wv c :: encW r false
theorem nm_cons (c : UInt8) (r : List UInt8) : nm (c :: r) = (c.toNat : Int) :: nm r := rfl
theorem nm_app (a b : List UInt8) : nm (a ++ b) = nm a ++ nm b := List.map_append
theorem head_nm (r : List UInt8) : (nm r = [] ∨ (nm r).head? = some 47) ↔ (r = [] ∨ r.head? = some 47) := by
  cases r with
  | nil => simp [nm]
  | cons c r =>
    rw [nm_cons]
    simp only [List.head?_cons, Option.some.injEq, reduceCtorEq, false_or]
    exact toNat_eq (n := 47) (by omega)
/-- The bytes that a converted text may hold. -/
def okb (wc : Bool) (x : UInt8) : Prop := 33 ≤ x.toNat ∧ x.toNat ≤ 126 ∧ (wc = false → x ≠ 43 ∧ x ≠ 35)
theorem cv_encW (wc : Bool) : ∀ (rest : List UInt8) (i : Nat) (out : List Int) (cp : Bool), (∀ x ∈ rest, okb wc x) → (cp = false → out.getLast? ≠ some 46) → (cp = true → out ≠ []) → (rest = [] → i ≠ 0) →
    cv wc (nm rest) i out cp = some (some (out ++ nm (encW rest (decide (i = 0 ∨ out.getLast? = some 46)))))
  | [], i, out, cp, _, h1, h2, h3 => by
    have hi := h3 rfl
    rw [show nm [] = [] from rfl, cv]
    cases cp with
    | false => rw [if_neg (by simp), decide_eq_false (by simp [hi]; exact h1 rfl), encW, show nm [] = [] from rfl, List.append_nil]
    | true =>
      rw [if_pos rfl]
      by_cases hl : out.getLast? = some 46
      · rw [if_pos hl, decide_eq_true (.inr hl), encW]
        rfl
      · rw [if_neg hl, if_neg (h2 rfl), decide_eq_false (by simp [hi, hl]), encW, show nm [] = [] from rfl, List.append_nil]
  | c :: r, i, out, cp, ht, h1, h2, h3 => by
    obtain ⟨b1, b2, b3⟩ := ht c List.mem_cons_self
    have hr : ∀ x ∈ r, okb wc x := fun x hx => ht x (List.mem_cons_of_mem _ hx)
    have e47 : ((c.toNat : Int) = 47) ↔ c = 47 := toNat_eq (n := 47) (by omega)
    have e46 : ((c.toNat : Int) = 46) ↔ c = 46 := toNat_eq (n := 46) (by omega)
    have e43 : ((c.toNat : Int) = 43) ↔ c = 43 := toNat_eq (n := 43) (by omega)
    have e35 : ((c.toNat : Int) = 35) ↔ c = 35 := toNat_eq (n := 35) (by omega)
    rw [nm_cons, cv, encW]
    by_cases h47 : c = 47
    · rw [if_pos (e47.2 h47), if_pos h47]
      by_cases hA : i = 0 ∨ out.getLast? = some 46
      · rw [if_pos hA, if_pos, decide_eq_true hA, if_pos rfl, cv_encW wc r _ _ _ hr (by simp) (by simp) (by simp)]
        · rw [decide_eq_true (.inr (show (out ++ [47, 46]).getLast? = some (46 : Int) from last_app out [47] 46)), nm_cons, nm_cons]
          simp
        · cases cp with
          | true => exact .inl rfl
          | false => exact .inr (hA.resolve_right (h1 rfl))
      · rw [if_neg hA, decide_eq_false hA, if_neg (show ¬ (false = true) by simp)]
        by_cases hE : r = [] ∨ r.head? = some 47
        · rw [if_pos ((head_nm r).2 hE), if_pos hE, cv_encW wc r _ _ _ hr (by simp) (by simp) (by simp), decide_eq_false (show ¬ (i + 1 = 0 ∨ (out ++ [(46 : Int), 47]).getLast? = some (46 : Int)) by rw [show (out ++ [(46 : Int), 47]).getLast? = some (47 : Int) from last_app out [46] 47]; simp), nm_cons, nm_cons]
          simp
        · rw [if_neg (fun h => hE ((head_nm r).1 h)), if_neg hE, cv_encW wc r _ _ _ hr (by simp) (by simp) (by simp), decide_eq_true (.inr (show (out ++ [46]).getLast? = some (46 : Int) from last_app out [] 46)), nm_cons]
          simp
    rw [if_neg (fun h => h47 (e47.1 h)), if_neg h47, if_neg (by unfold badc; omega)]
    by_cases h46 : c = 46
    · rw [if_pos (e46.2 h46), if_pos h46, cv_encW wc r _ _ _ hr (by simp) (by simp) (by simp), decide_eq_false (show ¬ (i + 1 = 0 ∨ (out ++ [(47 : Int), 47]).getLast? = some (46 : Int)) by rw [show (out ++ [(47 : Int), 47]).getLast? = some (47 : Int) from last_app out [47] 47]; simp), nm_cons, nm_cons]
      simp
    rw [if_neg (fun h => h46 (e46.1 h)), if_neg h46]
    by_cases h43 : (c.toNat : Int) = 43 ∨ (c.toNat : Int) = 35
    · have hcw : c = 43 ∨ c = 35 := h43.imp e43.1 e35.1
      have hw : wc = true := by
        cases wc with
        | true => rfl
        | false => exact absurd hcw (by have := b3 rfl; rintro (h | h); exact this.1 h; exact this.2 h)
      have hv : (if (c.toNat : Int) = 43 then 42 else 62) = ((wv c).toNat : Int) := by
        rcases hcw with h | h
        · subst h; rfl
        · subst h; rfl
      have hv2 : ((wv c).toNat : Int) ≠ 46 := by
        rcases hcw with h | h
        · subst h; decide
        · subst h; decide
      rw [if_pos h43, if_neg (by rw [hw]; simp), hv, cv_encW wc r _ _ _ hr (by simp) (by simp) (by simp), decide_eq_false (by rw [show (out ++ [((wv c).toNat : Int)]).getLast? = some ((wv c).toNat : Int) from last_app out [] _]; simp; omega), nm_cons]
      simp
    · have hv : wv c = c := by
        unfold wv
        rw [if_neg (fun h => h43 (.inl (e43.2 h))), if_neg (fun h => h43 (.inr (e35.2 h)))]
      have h46' : (c.toNat : Int) ≠ 46 := fun h => h46 (e46.1 h)
      rw [if_neg h43, cv_encW wc r _ _ _ hr (fun _ => by rw [show (out ++ [(c.toNat : Int)]).getLast? = some (c.toNat : Int) from last_app out [] _]; simp; omega) (by simp) (by simp), decide_eq_false (by rw [show (out ++ [(c.toNat : Int)]).getLast? = some (c.toNat : Int) from last_app out [] _]; simp; omega), hv, nm_cons]
      simp
theorem encW_len : ∀ (r : List UInt8) (st : Bool), (encW r st).length ≤ 2 * r.length + 1
  | [], true => by simp [encW]
  | [], false => by simp [encW]
  | c :: r, st => by
    have h1 := encW_len r true
    have h2 := encW_len r false
    rw [encW]
    (repeat' split) <;> simp <;> omega
/-- A text cut at a sign; q: the begin of the first part. -/
def lvA : List UInt8 → List UInt8 → List (List UInt8)
  | q, [] => [q]
  | q, c :: l => if c = 47 then q :: lvA [] l else lvA (q ++ [c]) l
def lv (l : List UInt8) : List (List UInt8) := lvA [] l
/-- A level's token. -/
def leC (c : UInt8) : List UInt8 := if c = 46 then [47, 47] else [wv c]
def le (x : List UInt8) : List UInt8 := if x = [] then [47] else x.flatMap leC
theorem le_app {q : List UInt8} (h : q ≠ []) (c : UInt8) : le (q ++ [c]) = le q ++ leC c := by
  unfold le
  rw [if_neg (by simp), if_neg h, List.flatMap_append]
  simp
theorem le_one (c : UInt8) : le [c] = leC c := by unfold le; simp
theorem wv_ne {c : UInt8} (h : c ≠ 46) : wv c ≠ 46 := by
  unfold wv
  split
  · decide
  split
  · decide
  · exact h
theorem toks_enc : ∀ (r : List UInt8), toksA [] (encW r true) = (lvA [] r).map le ∧ (∀ q, q ≠ [] → toksA (le q) (encW r false) = (lvA q r).map le) ∧ ((r = [] ∨ r.head? = some 47) → toksA [47] (encW r false) = (lvA [] r).map le)
  | [] => by
    refine ⟨rfl, fun q hq => rfl, fun _ => rfl⟩
  | c :: r => by
    obtain ⟨iA, iB, iC⟩ := toks_enc r
    have hl : le [] = [47] := rfl
    by_cases h47 : c = 47
    · subst h47
      have hlv : ∀ q, lvA q (47 :: r) = q :: lvA [] r := fun q => by rw [lvA, if_pos rfl]
      have hF : ∀ p, toksA p (encW (47 :: r) false) = p :: (lvA [] r).map le := fun p => by
        rw [encW, if_pos rfl, if_neg (by simp)]
        by_cases hE : r = [] ∨ r.head? = some 47
        · rw [if_pos hE, toksA_dot, toksA_other _ (by decide), List.nil_append, iC hE]
        · rw [if_neg hE, toksA_dot, iA]
      refine ⟨?_, fun q hq => ?_, fun _ => ?_⟩
      · rw [hlv, encW, if_pos rfl, if_pos rfl, toksA_other _ (by decide), toksA_dot, iA]; rfl
      · rw [hlv, hF]; rfl
      · rw [hlv, hF]; rfl
    have hlv : ∀ q, lvA q (c :: r) = lvA (q ++ [c]) r := fun q => by rw [lvA, if_neg h47]
    have hF : ∀ p st, toksA p (encW (c :: r) st) = toksA (p ++ leC c) (encW r false) := fun p st => by
      rw [encW, if_neg h47]
      unfold leC
      by_cases h46 : c = 46
      · rw [if_pos h46, if_pos h46, toksA_other _ (by decide), toksA_other _ (by decide)]; simp
      · rw [if_neg h46, if_neg h46, toksA_other _ (wv_ne h46)]
    refine ⟨?_, fun q hq => ?_, fun h => ?_⟩
    · rw [hF, hlv, List.nil_append, ← le_one, iB [c] (by simp)]; rfl
    · rw [hF, hlv, ← le_app hq, iB _ (by simp)]
    · rcases h with h | h
      · cases h
      · exact absurd (Option.some.inj h) h47
theorem toks_encW (r : List UInt8) : toks (encW r true) = (lv r).map le := (toks_enc r).1
end Go.Proofs.YtgbdjinanflhaaaDoor.Mq
