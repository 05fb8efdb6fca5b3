/- Tokens of a subject, as lists of bytes. Plain. -/
import Derived.Test.YtjhmpcbpbdkddaaGreatPlBase
namespace Go.Proofs.YtjhmpcbpbdkddaaGreat.Pl
open Go.RowKit Go.Proofs.YtjhmpcbpbdkddaaGreatW.PrintWords

/-- The tokens of 'p' and what follows, p the begin of the first one. -/
def toksA : List UInt8 → List UInt8 → List (List UInt8)
  | p, [] => [p]
  | p, c :: l => if c = 46 then p :: toksA [] l else toksA (p ++ [c]) l
def toks (l : List UInt8) : List (List UInt8) := toksA [] l
theorem toksA_dot (p l : List UInt8) : toksA p (46 :: l) = p :: toksA [] l := by rw [toksA, if_pos rfl]
theorem toksA_other (p : List UInt8) {c : UInt8} (h : c ≠ 46) (l : List UInt8) : toksA p (c :: l) = toksA (p ++ [c]) l := by rw [toksA, if_neg h]
theorem toksA_len : ∀ (l p : List UInt8), (toksA p l).length = l.count 46 + 1
  | [], p => rfl
  | c :: l, p => by
    by_cases h : c = 46
    · subst h; rw [toksA_dot, List.length_cons, toksA_len l []]; simp
    · rw [toksA_other p h, toksA_len l]; simp [h]
theorem toks_len (l : List UInt8) : (toks l).length = l.count 46 + 1 := toksA_len l []
theorem toksA_short : ∀ (l p : List UInt8), ∀ t ∈ toksA p l, t.length ≤ p.length + l.length
  | [], p => by simp [toksA]
  | c :: l, p => by
    intro t ht
    by_cases h : c = 46
    · subst h
      rw [toksA_dot] at ht
      rcases List.mem_cons.1 ht with rfl | ht
      · omega
      · have := toksA_short l [] t ht; simp at this ⊢; omega
    · rw [toksA_other p h] at ht
      have := toksA_short l _ t ht; simp at this ⊢; omega
theorem toks_short (l : List UInt8) : ∀ t ∈ toks l, t.length ≤ l.length := fun t ht => by have := toksA_short l [] t ht; simpa using this

end Go.Proofs.YtjhmpcbpbdkddaaGreat.Pl
