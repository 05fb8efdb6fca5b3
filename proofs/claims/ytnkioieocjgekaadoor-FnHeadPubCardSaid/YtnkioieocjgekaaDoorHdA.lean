/- What HPUB's arguments say, as plain functions on lists. -/
import Derived.Test.YtnkioieocjgekaaDoorPlWalk
import Derived.Test.YtnkioieocjgekaaDoorBs
import Derived.Test.YtnkioieocjgekaaDoorProg
import Derived.Test.YtnkioieocjgekaaDoorWMore
namespace Go.Proofs.YtnkioieocjgekaaDoor.Hd
open Go.RowKit Go.Proofs.YtnkioieocjgekaaDoorW.PrintWords Go.Proofs.YtnkioieocjgekaaDoorW.PrintLast Go.Proofs.YtnkioieocjgekaaDoorW.PrintMore
set_option linter.unusedVariables false
set_option linter.unusedSimpArgs false

/-- White space within a line. -/
def blank (b : Int) : Bool := b == 32 || b == 9
/-- The words' places: from a place on, with the place where a word has begun. -/
def sp : List Int → Nat → Option Nat → List (Nat × Nat)
  | [], _, none => []
  | [], i, some s => [(s, i)]
  | b :: r, i, none => if blank b = true then sp r (i + 1) none else sp r (i + 1) (some i)
  | b :: r, i, some s => if blank b = true then (s, i) :: sp r (i + 1) none else sp r (i + 1) (some s)
theorem sp_bound : ∀ (l : List Int) (i : Nat) (o : Option Nat), (∀ s, o = some s → s < i) → ∀ p ∈ sp l i o, p.1 < p.2 ∧ p.2 ≤ i + l.length
  | [], i, none, _, p, hp => by simp [sp] at hp
  | [], i, some s, h, p, hp => by
    simp only [sp, List.mem_singleton] at hp
    subst hp
    exact ⟨h s rfl, Nat.le_refl _⟩
  | b :: r, i, none, h, p, hp => by
    rw [sp] at hp
    split at hp
    · have := sp_bound r (i + 1) none (fun s h => by cases h) p hp
      simp only [List.length_cons]; omega
    · have := sp_bound r (i + 1) (some i) (fun s h => by cases h; omega) p hp
      simp only [List.length_cons]; omega
  | b :: r, i, some s, h, p, hp => by
    have hs := h s rfl
    rw [sp] at hp
    split at hp
    · rcases List.mem_cons.1 hp with rfl | hp
      · simp only [List.length_cons]; omega
      · have := sp_bound r (i + 1) none (fun s h => by cases h) p hp
        simp only [List.length_cons]; omega
    · have := sp_bound r (i + 1) (some s) (fun s' h => by cases h; omega) p hp
      simp only [List.length_cons]; omega
def cut (l : List Int) (p : Nat × Nat) : List Int := (l.take p.2).drop p.1
/-- A number of digits, from what stands ahead. -/
def dig : List Int → Int → Int
  | [], n => n
  | b :: r, n => if b < 48 ∨ 57 < b then -1 else dig r (10 * n + (b - 48))
def psz (l : List Int) : Int := if l.length = 0 ∨ 9 < l.length then -1 else dig l 0
/-- What kind of an error. -/
def kindOf (h z most : Int) : Int := if h < 0 then 1 else if z < 0 then 1 else if z < h then 1 else if most ≠ -1 ∧ most < z then 2 else 0
def outOf (s r : List Int) (h z most : Int) : List Int × List Int × Int × Int × Int := if kindOf h z most = 0 then (s, r, h, z, 0) else ([], [], 0, 0, kindOf h z most)
def hpf (l : List Int) (most : Int) : List Int × List Int × Int × Int × Int :=
  match sp l 0 none with
  | [a, b, c] => outOf (cut l a) [] (psz (cut l b)) (psz (cut l c)) most
  | [a, b, c, d] => outOf (cut l a) (cut l b) (psz (cut l c)) (psz (cut l d)) most
  | _ => ([], [], 0, 0, 1)
end Go.Proofs.YtnkioieocjgekaaDoor.Hd
