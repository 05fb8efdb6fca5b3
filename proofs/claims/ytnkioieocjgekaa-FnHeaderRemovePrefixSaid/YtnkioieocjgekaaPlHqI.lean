/- The plain law of FnHeaderRemovePrefix. -/
import Derived.Test.YtnkioieocjgekaaPlHqH
namespace Go.Proofs.Ytnkioieocjgekaa.PlHq
open Go.RowKit Go.Proofs.YtnkioieocjgekaaW.PrintWords Go.Proofs.YtnkioieocjgekaaW.PrintLast Go.Proofs.YtnkioieocjgekaaW.PrintMore Go.Proofs.Ytnkioieocjgekaa.Pl Go.Proofs.Ytnkioieocjgekaa.Hq Go.Proofs.Ytnkioieocjgekaa.GFnHeaderRemovePrefix
set_option linter.unusedVariables false
set_option linter.unusedSimpArgs false

theorem good_ge {c : Int} (h : good c) : 32 ≤ c := by unfold good at h; omega
theorem Tok.key {p : List UInt8} (h : Tok p) : KeyP p := ⟨fun c hc => by have := good_ge (h.all c hc); omega, h.pos⟩
def body (x : S34) : List UInt8 := x.f0.data.toList ++ ([58, 32] ++ x.f1.data.toList)
theorem ln_body (x : S34) (R : List UInt8) : ln x ++ R = body x ++ 13 :: 10 :: R := by simp [ln, body]
/-- A line's key begins with a text. -/
def beg (p : List UInt8) (x : S34) : Bool := decide (x.f0.data.toList.take p.length = p)
structure LineOk (x : S34) : Prop where
  tok : Tok x.f0.data.toList
  fld : Fld x.f1.data.toList
theorem LineOk.all {x : S34} (h : LineOk x) : ∀ c ∈ body x, 32 ≤ c.toNat := by
  intro c hc
  simp only [body, List.mem_append] at hc
  rcases hc with hc | hc | hc
  · exact h.tok.key.all c hc
  · simp at hc; rcases hc with rfl | rfl <;> decide
  · exact h.fld.all c hc
theorem take_body {p : List UInt8} (hp : Tok p) {x : S34} : (body x).take p.length = p ↔ beg p x = true := by
  unfold beg
  rw [decide_eq_true_iff]
  constructor
  · intro h
    have hle : p.length ≤ x.f0.data.toList.length := by
      rcases Nat.lt_or_ge x.f0.data.toList.length p.length with h' | h'
      · exfalso
        have h1 : p[x.f0.data.toList.length]? = some 58 := by
          conv => lhs; rw [← h]
          rw [List.getElem?_take, if_pos h', body, List.getElem?_append_right (Nat.le_refl _), Nat.sub_self]
          rfl
        have h2 := hp.all 58 (List.mem_of_getElem? h1)
        exact absurd h2 (by decide)
      · exact h'
    rw [body, List.take_append_of_le_length hle] at h
    exact h
  · intro h
    have hle : p.length ≤ x.f0.data.toList.length := by
      have := congrArg List.length h
      rw [List.length_take] at this
      omega
    rw [body, List.take_append_of_le_length hle]
    exact h
def wo (p : List UInt8) (ls : List S34) : List S34 := ls.filter (fun x => !beg p x)
def txtA (A : List UInt8) (ls : List S34) : List UInt8 := A ++ (ls.flatMap ln ++ [13, 10])
def res (p A : List UInt8) (ls : List S34) : List UInt8 := if ls ≠ [] ∧ wo p ls = [] ∧ A.length ≤ 10 then [] else txtA A (wo p ls)
theorem ln_pos {x : S34} (h : LineOk x) : 5 ≤ (ln x).length := by
  have := h.tok.pos
  simp only [ln, List.length_append, List.length_cons, List.length_nil]
  omega
theorem rmp_lines {p : List UInt8} (hp : Tok p) : ∀ (ls : List S34) (A : List UInt8), (∀ x ∈ ls, LineOk x) → A.getLast? = some 10 → 10 ≤ A.length → Ev (fun k => rmp p k (txtA A ls) A.length) (res p A ls)
  | [], A, _, hA, hl => by
    have hk := hp.key
    refine Ev.step (f := fun _ => some (txtA A [])) (fun k => ?_) (Ev.det' (Ev.now _) (by simp [res, wo]))
    have e1 : (txtA A []).drop A.length = [] ++ 13 :: 10 :: [] := List.drop_left' rfl
    have e2 : zi p ([] ++ 13 :: 10 :: []) 0 = -1 := by
      rcases zi_line hk [] [] 0 with ⟨m, -, h2, -⟩ | ⟨h1, -⟩
      · have := hp.pos; rw [List.length_nil] at h2; omega
      · rw [h1, zi, if_neg]
        rintro rfl
        exact absurd hp.pos (by simp)
    rw [rmp, if_neg (by simp [txtA]), e1, e2, if_pos (by omega)]
  | x :: ls, A, hok, hA, hl => by
    have hk := hp.key
    have hx := hok x List.mem_cons_self
    have hR : 0 < (ls.flatMap ln ++ [13, 10]).length := by simp
    have hT : txtA A (x :: ls) = A ++ (body x ++ 13 :: 10 :: (ls.flatMap ln ++ [13, 10])) := by
      rw [txtA, List.flatMap_cons, List.append_assoc, ln_body]
    by_cases hb : beg p x = true
    · have htk := (take_body hp).2 hb
      have hle : p.length ≤ (body x).length := by
        have := congrArg List.length htk
        rw [List.length_take] at this
        omega
      have hpos := hp.pos
      have e1 : (txtA A (x :: ls)).drop A.length = body x ++ 13 :: 10 :: (ls.flatMap ln ++ [13, 10]) := by rw [hT]; exact List.drop_left' rfl
      have e2 : zi p (body x ++ 13 :: 10 :: (ls.flatMap ln ++ [13, 10])) 0 = 0 := by
        have h1 : (body x ++ 13 :: 10 :: (ls.flatMap ln ++ [13, 10])).take p.length = p := by rw [List.take_append_of_le_length hle, htk]
        generalize body x ++ 13 :: 10 :: (ls.flatMap ln ++ [13, 10]) = z at h1
        cases z with
        | nil => rw [List.take_nil] at h1; rw [← h1] at hpos; simp at hpos
        | cons c z => rw [zi, if_pos h1]; rfl
      have hj : jof p (txtA A (x :: ls)) A.length = A.length := by unfold jof; rw [e1, e2]; rfl
      have e3 : (txtA A (x :: ls)).drop (A.length + p.length) = (body x).drop p.length ++ 13 :: 10 :: (ls.flatMap ln ++ [13, 10]) := by
        rw [hT, drop_at, List.drop_append_of_le_length hle]
      have e4 : zi [13, 10] ((body x).drop p.length ++ 13 :: 10 :: (ls.flatMap ln ++ [13, 10])) 0 = (((body x).length - p.length : Nat) : Int) := by
        rw [zi_crlf _ _ _ (fun c hc => hx.all c (List.mem_of_mem_drop hc)), Nat.zero_add, List.length_drop]
      have hm : mof p (txtA A (x :: ls)) A.length = A.length + ((body x).length + 2) := by
        unfold mof
        rw [e3, e4, Int.toNat_natCast]
        omega
      have hcut : cutl (txtA A (x :: ls)) A.length (A.length + ((body x).length + 2)) = txtA A ls := by
        unfold cutl
        rw [hT, drop_at, List.take_left' rfl]
        have : (body x ++ 13 :: 10 :: (ls.flatMap ln ++ [13, 10])).drop ((body x).length + 2) = ls.flatMap ln ++ [13, 10] := by rw [drop_at]; rfl
        rw [this]
        rfl
      have hlen : (txtA A (x :: ls)).length = A.length + ((body x).length + 2) + (ls.flatMap ln ++ [13, 10]).length := by rw [hT]; simp; omega
      have hlast : ¬ (A.length < 1 ∨ (txtA A (x :: ls))[A.length - 1]? ≠ some 10) := by
        rintro (h | h)
        · omega
        · apply h
          rw [hT, List.getElem?_append_left (by omega), ← List.getLast?_eq_getElem?]
          exact hA
      have hlen2 : (txtA A ls).length = A.length + (ls.flatMap ln).length + 2 := by simp [txtA]; omega
      have hwo : wo p (x :: ls) = wo p ls := by simp [wo, hb]
      have hstep : ∀ k, rmp p (k + 1) (txtA A (x :: ls)) A.length = if (txtA A ls).length ≤ 12 then some [] else rmp p k (txtA A ls) A.length := fun k => by
        have n1 : ¬ (txtA A (x :: ls)).length ≤ A.length := by omega
        have n2 : ¬ (txtA A (x :: ls)).length ≤ A.length + p.length := by omega
        have n3 : ¬ (txtA A (x :: ls)).length ≤ A.length + ((body x).length + 2) := by omega
        have n4 : ¬ (((body x).length - p.length : Nat) : Int) < 0 := by omega
        rw [rmp, if_neg n1, e1, e2, if_neg (by omega), hj, if_neg n2, if_neg hlast, e3, e4, if_neg n4, hm, if_neg n3, hcut]
      by_cases h12 : (txtA A ls).length ≤ 12
      · have hls : ls = [] := by
          cases ls with
          | nil => rfl
          | cons y ls =>
            have := ln_pos (hok y (by simp))
            rw [hlen2, List.flatMap_cons, List.length_append] at h12
            omega
        subst hls
        refine Ev.step (f := fun _ => some []) (fun k => by rw [hstep, if_pos h12]) (Ev.det' (Ev.now _) ?_)
        rw [res, if_pos ⟨by simp, by rw [hwo]; rfl, by rw [hlen2] at h12; simp at h12; omega⟩]
      · refine Ev.step (f := fun k => rmp p k (txtA A ls) A.length) (fun k => by rw [hstep, if_neg h12]) ?_
        refine Ev.det' (rmp_lines hp ls A (fun y hy => hok y (List.mem_cons_of_mem _ hy)) hA hl) ?_
        unfold res
        rw [hwo]
        by_cases hls : ls = []
        · subst hls
          rw [if_neg (by simp), if_neg]
          rintro ⟨-, -, h⟩
          rw [hlen2] at h12
          simp at h12
          omega
        · by_cases hc : wo p ls = [] ∧ A.length ≤ 10
          · rw [if_pos ⟨hls, hc⟩, if_pos ⟨by simp, hc⟩]
          · rw [if_neg (fun h => hc h.2), if_neg (fun h => hc h.2)]
    · have hntk : (body x).take p.length ≠ p := fun h => hb ((take_body hp).1 h)
      have hT2 : txtA A (x :: ls) = txtA (A ++ ln x) ls := by simp [txtA]
      have hlnx : (ln x).length = (body x).length + 2 := by simp [ln, body]; omega
      have hln5 := ln_pos hx
      have hA2 : (A ++ ln x).getLast? = some 10 := by
        have : A ++ ln x = (A ++ body x ++ [13]) ++ [10] := by simp [ln, body]
        rw [this, List.getLast?_append]
        rfl
      have ih := rmp_lines hp ls (A ++ ln x) (fun y hy => hok y (List.mem_cons_of_mem _ hy)) hA2 (by simp; omega)
      have hres : res p (A ++ ln x) ls = res p A (x :: ls) := by
        have hwo : wo p (x :: ls) = x :: wo p ls := by simp [wo, hb]
        unfold res
        rw [if_neg (by rintro ⟨-, -, h⟩; simp at h; omega), if_neg (by rintro ⟨-, h, -⟩; rw [hwo] at h; cases h), hwo]
        simp [txtA]
      rw [hres, ← hT2, hT] at ih
      have := rmp_line hk _ hR _ (body x).length (body x) A (Nat.le_refl _) hx.all (.inr (.inr hntk)) (by
        rw [List.length_append, hlnx, ← Nat.add_assoc] at ih
        exact ih)
      rw [hT]
      exact this
theorem top_split : top = [78, 65, 84, 83, 47, 49, 46, 48] ++ [13, 10] := rfl
theorem rmp_all {p : List UInt8} (hp : Tok p) (ls : List S34) (hok : ∀ x ∈ ls, LineOk x) : Ev (fun k => rmp p k (txtA top ls) 0) (res p top ls) := by
  have h1 := rmp_lines hp ls top hok rfl (by decide)
  have hT : txtA top ls = [] ++ ([78, 65, 84, 83, 47, 49, 46, 48] ++ 13 :: 10 :: (ls.flatMap ln ++ [13, 10])) := rfl
  rw [hT] at h1 ⊢
  exact rmp_line hp.key _ (by simp) _ 8 [78, 65, 84, 83, 47, 49, 46, 48] [] (by decide) (by decide) (.inl rfl) h1
end Go.Proofs.Ytnkioieocjgekaa.PlHq
