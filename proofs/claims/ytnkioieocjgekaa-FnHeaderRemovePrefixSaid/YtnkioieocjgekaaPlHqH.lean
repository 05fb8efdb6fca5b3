/- What removing headers by a prefix comes to. -/
import Derived.Test.YtnkioieocjgekaaHqC
namespace Go.Proofs.Ytnkioieocjgekaa.PlHq
open Go.RowKit Go.Proofs.YtnkioieocjgekaaW.PrintWords Go.Proofs.YtnkioieocjgekaaW.PrintLast Go.Proofs.YtnkioieocjgekaaW.PrintMore Go.Proofs.Ytnkioieocjgekaa.Pl Go.Proofs.Ytnkioieocjgekaa.Hq Go.Proofs.Ytnkioieocjgekaa.GFnHeaderRemovePrefix
set_option linter.unusedVariables false
set_option linter.unusedSimpArgs false

theorem zi_off (key : List UInt8) : ∀ (l : List UInt8) (i : Nat), (zi key l i = -1 ∧ zi key l 0 = -1) ∨ ∃ n : Nat, zi key l i = ((i + n : Nat) : Int) ∧ zi key l 0 = (n : Int) := by
  have h : ∀ (l : List UInt8) (i d : Nat), (zi key l (i + d) = -1 ∧ zi key l i = -1) ∨ ∃ n : Nat, zi key l (i + d) = ((n + d : Nat) : Int) ∧ zi key l i = (n : Int) := by
    intro l
    induction l with
    | nil =>
      intro i d
      rw [zi, zi]
      split
      · exact .inr ⟨i, rfl, rfl⟩
      · exact .inl ⟨rfl, rfl⟩
    | cons b r ih =>
      intro i d
      rw [zi, zi]
      split
      · exact .inr ⟨i, rfl, rfl⟩
      · have := ih (i + 1) d
        rw [show i + 1 + d = i + d + 1 by omega] at this
        exact this
  intro l i
  rcases h l 0 i with ⟨h1, h2⟩ | ⟨n, h1, h2⟩
  · exact .inl ⟨by rw [Nat.zero_add] at h1; exact h1, h2⟩
  · exact .inr ⟨n, by rw [Nat.zero_add] at h1; rw [h1, Nat.add_comm], h2⟩
/-- A key to look for: nothing below a blank in it. -/
structure KeyP (p : List UInt8) : Prop where
  all : ∀ c ∈ p, 32 ≤ c.toNat
  pos : 0 < p.length
theorem take_key {p b r : List UInt8} (hp : KeyP p) (h : (b ++ 13 :: r).take p.length = p) : p.length ≤ b.length := by
  rcases Nat.lt_or_ge b.length p.length with h' | h'
  · exfalso
    have h1 : p[b.length]? = some 13 := by
      conv => lhs; rw [← h]
      rw [List.getElem?_take, if_pos h', List.getElem?_append_right (Nat.le_refl _)]
      simp
    have h2 := hp.all 13 (List.mem_of_getElem? h1)
    exact absurd h2 (by decide)
  · exact h'
theorem zi_line {p : List UInt8} (hp : KeyP p) (r : List UInt8) : ∀ (b : List UInt8) (i : Nat), (∃ n : Nat, zi p (b ++ 13 :: 10 :: r) i = ((i + n : Nat) : Int) ∧ n + p.length ≤ b.length ∧ (b.drop n).take p.length = p) ∨ (zi p (b ++ 13 :: 10 :: r) i = zi p r (i + b.length + 2) ∧ b.take p.length ≠ p)
  | [], i => by
    right
    have hc : ∀ (c : UInt8) (q : List UInt8), c.toNat < 32 → ¬ (c :: q).take p.length = p := fun c q hc h => by
      have hpos := hp.pos
      have h1 : c ∈ p := by
        rw [← h]
        cases hl : p.length with
        | zero => omega
        | succ n => simp
      have := hp.all c h1
      omega
    refine ⟨?_, fun h => ?_⟩
    · rw [List.nil_append, zi, if_neg (hc _ _ (by decide)), zi, if_neg (hc _ _ (by decide))]
      rfl
    · have := congrArg List.length h
      have := hp.pos
      simp at *
      omega
  | c :: b, i => by
    by_cases h : (c :: b ++ 13 :: 10 :: r).take p.length = p
    · have hle := take_key hp h
      left
      refine ⟨0, ?_, by omega, ?_⟩
      · rw [List.cons_append, zi, if_pos (by rw [← List.cons_append]; exact h)]
        rfl
      · rw [List.drop_zero, ← h, List.take_append_of_le_length hle]
        simp
    · rw [List.cons_append, zi, if_neg (by rw [← List.cons_append]; exact h)]
      rcases zi_line hp r b (i + 1) with ⟨n, h1, h2, h3⟩ | ⟨h1, h2⟩
      · left
        exact ⟨n + 1, by rw [h1]; congr 1; omega, by simp; omega, by simpa using h3⟩
      · right
        refine ⟨by rw [h1, List.length_cons]; congr 1; omega, fun he => h ?_⟩
        have hle : p.length ≤ (c :: b).length := by
          have := congrArg List.length he
          rw [List.length_take] at this
          omega
        rw [List.take_append_of_le_length hle]
        exact he
theorem zi_crlf (r : List UInt8) : ∀ (b : List UInt8) (i : Nat), (∀ c ∈ b, 32 ≤ c.toNat) → zi [13, 10] (b ++ 13 :: 10 :: r) i = ((i + b.length : Nat) : Int)
  | [], i, _ => by rw [List.nil_append, zi, if_pos (by simp)]; rfl
  | c :: b, i, h => by
    rw [List.cons_append, zi, if_neg (by
      intro e
      have h1 := h c List.mem_cons_self
      have : c = 13 := by
        have := congrArg List.head? e
        simpa using this
      subst this
      exact absurd h1 (by decide)), zi_crlf r b (i + 1) (fun x hx => h x (List.mem_cons_of_mem _ hx)), List.length_cons]
    congr 1
    omega
theorem rmp_skip {p L : List UInt8} {ix d : Nat} (h : zi p (L.drop ix) 0 = zi p (L.drop (ix + d)) d) (hlt : ix + d < L.length) (k : Nat) : rmp p k L ix = rmp p k L (ix + d) := by
  cases k with
  | zero => rfl
  | succ k =>
    rw [rmp, rmp, if_neg (show ¬ L.length ≤ ix by omega), if_neg (show ¬ L.length ≤ ix + d by omega)]
    rcases zi_off p (L.drop (ix + d)) d with ⟨h1, h2⟩ | ⟨n, h1, h2⟩
    · rw [h, h1, h2, if_pos (by omega), if_pos (by omega)]
    · have hj : jof p L ix = jof p L (ix + d) := by
        unfold jof
        rw [h, h1, h2, Int.toNat_natCast, Int.toNat_natCast]
        omega
      have n1 : ¬ ((d + n : Nat) : Int) < 0 := by omega
      have n2 : ¬ ((n : Nat) : Int) < 0 := by omega
      rw [h, h1, h2, if_neg n1, if_neg n2, hj]
theorem drop_at (A B : List UInt8) (d : Nat) : (A ++ B).drop (A.length + d) = B.drop d := List.drop_length_add_append d
/-- Through a line that does not begin so. -/
theorem rmp_line {p : List UInt8} (hp : KeyP p) (R : List UInt8) (hR : 0 < R.length) (r : List UInt8) : ∀ (n : Nat) (b A : List UInt8), b.length ≤ n → (∀ c ∈ b, 32 ≤ c.toNat) → (A = [] ∨ A.getLast? ≠ some 10 ∨ b.take p.length ≠ p) →
    Ev (fun k => rmp p k (A ++ (b ++ 13 :: 10 :: R)) (A.length + b.length + 2)) r → Ev (fun k => rmp p k (A ++ (b ++ 13 :: 10 :: R)) A.length) r := by
  intro n
  induction n with
  | zero =>
    intro b A hb hall hA h
    obtain rfl : b = [] := List.length_eq_zero_iff.1 (by omega)
    refine Ev.congr (fun k => rmp_skip (d := 2) ?_ ?_ k) h
    · have e1 : (A ++ ([] ++ 13 :: 10 :: R)).drop A.length = [] ++ 13 :: 10 :: R := List.drop_left' rfl
      rw [e1, drop_at]
      rcases zi_line hp R [] 0 with ⟨m, -, h2, -⟩ | ⟨h1, -⟩
      · have := hp.pos; rw [List.length_nil] at h2; omega
      · rw [h1]; rfl
    · simp; omega
  | succ n ih =>
    intro b A hb hall hA h
    have e1 : (A ++ (b ++ 13 :: 10 :: R)).drop A.length = b ++ 13 :: 10 :: R := List.drop_left' rfl
    rcases zi_line hp R b 0 with ⟨m, h1, h2, h3⟩ | ⟨h1, h2⟩
    · rw [Nat.zero_add] at h1
      have hj : jof p (A ++ (b ++ 13 :: 10 :: R)) A.length = A.length + m := by unfold jof; rw [e1, h1, Int.toNat_natCast]
      have hlast : A.length + m < 1 ∨ (A ++ (b ++ 13 :: 10 :: R))[A.length + m - 1]? ≠ some 10 := by
        rcases Nat.eq_zero_or_pos m with rfl | hm
        · rcases hA with rfl | hA | hA
          · left; simp
          · rcases List.eq_nil_or_concat A with rfl | ⟨A', z, rfl⟩
            · left; simp
            · right
              simp at hA ⊢
              intro e
              exact hA e
          · rw [List.drop_zero] at h3
            exact absurd h3 hA
        · right
          rw [List.getElem?_append_right (by omega), List.getElem?_append_left (by omega)]
          intro e
          have := hall 10 (List.mem_of_getElem? e)
          exact absurd this (by decide)
      refine Ev.step (f := fun k => rmp p k (A ++ (b ++ 13 :: 10 :: R)) (A.length + m + p.length)) (fun k => ?_) ?_
      · rw [rmp, if_neg (by simp; omega), e1, h1, if_neg (by omega), hj, if_neg (by simp; omega), if_pos hlast]
      · have hbb : b = b.take (m + p.length) ++ b.drop (m + p.length) := (List.take_append_drop _ _).symm
        have hlen : (A ++ b.take (m + p.length)).length = A.length + m + p.length := by simp; omega
        have hL : A ++ (b ++ 13 :: 10 :: R) = (A ++ b.take (m + p.length)) ++ (b.drop (m + p.length) ++ 13 :: 10 :: R) := by
          rw [List.append_assoc, ← List.append_assoc (b.take (m + p.length)), ← hbb]
        have hpos := hp.pos
        have := ih (b.drop (m + p.length)) (A ++ b.take (m + p.length)) (by simp; omega) (fun c hc => hall c (List.mem_of_mem_drop hc)) (.inr (.inl (by
          have e2 : A ++ b.take (m + p.length) = A ++ b.take m ++ p := by
            rw [List.append_assoc]
            congr 1
            conv => rhs; rw [← h3]
            rw [List.take_add]
          rw [e2]
          rcases List.eq_nil_or_concat p with hnil | ⟨p', z, hp'⟩
          · rw [hnil] at hpos; simp at hpos
          · rw [hp']
            simp
            rintro rfl
            have := hp.all 10 (by rw [hp']; simp)
            exact absurd this (by decide)))) (by
          rw [← hL, hlen]
          have : A.length + m + p.length + (b.drop (m + p.length)).length + 2 = A.length + b.length + 2 := by simp; omega
          rw [this]
          exact h)
        rw [← hL, hlen] at this
        exact this
    · refine Ev.congr (fun k => rmp_skip (d := b.length + 2) ?_ ?_ k) (by rw [← Nat.add_assoc]; exact h)
      · rw [e1, drop_at, h1]
        have e3 : (b ++ 13 :: 10 :: R).drop (b.length + 2) = R := by rw [drop_at]; rfl
        rw [e3, Nat.zero_add]
      · simp; omega
end Go.Proofs.Ytnkioieocjgekaa.PlHq
