/- The parts' texts, all kinds; what a source makes of a subject. -/
import Derived.Test.YtoopmpjgmgffoaaDoorPlXd
namespace Go.Proofs.YtoopmpjgmgffoaaDoor.PlFnTransformBack
open Go.RowKit Go.Proofs.YtoopmpjgmgffoaaDoorW.PrintWords Go.Proofs.YtoopmpjgmgffoaaDoorW.PrintLast Go.Proofs.YtoopmpjgmgffoaaDoorW.PrintMore Go.Proofs.YtoopmpjgmgffoaaDoor.Pl Go.Proofs.YtoopmpjgmgffoaaDoor.Bs Go.Proofs.YtoopmpjgmgffoaaDoor.GFnTransformBack Go.Proofs.YtoopmpjgmgffoaaDoor.Tr
set_option linter.unusedVariables false
set_option linter.unusedSimpArgs false
theorem textF_of {p : S42} {m : List UInt8} (h0 : p.f0 ≠ 0) (h11 : p.f0 ≠ 11) (hd : (46 : UInt8) ∉ m) (hl : m.length ≤ 1000) : TextF p (123 :: m) :=
  ⟨fun h => by rcases List.mem_cons.1 h with h | h; exact absurd h (by decide); exact hd h, by simp, by simp; omega, fun e => absurd e h0, fun e => absurd e h11, fun _ e => by injection e with e; exact absurd e (by decide)⟩
theorem dig_nd {d : List UInt8} (h : ∀ c ∈ d, 48 ≤ c.toNat ∧ c.toNat ≤ 57) : (46 : UInt8) ∉ d := fun hm => by have := h _ hm; revert this; decide
theorem name_ev (x : Int) (h : 4 ≤ x ∧ x ≤ 9) : ∃ nm : List UInt8, spec_name.f x = some (ba nm) ∧ (46 : UInt8) ∉ nm ∧ nm.length ≤ 20 := by
  have key : x = 4 ∨ x = 5 ∨ x = 6 ∨ x = 7 ∨ x = 8 ∨ x = 9 := by omega
  rcases key with rfl | rfl | rfl | rfl | rfl | rfl
  · exact ⟨[115, 112, 108, 105, 116, 102, 114, 111, 109, 108, 101, 102, 116], rfl, by decide, by decide⟩
  · exact ⟨[115, 112, 108, 105, 116, 102, 114, 111, 109, 114, 105, 103, 104, 116], rfl, by decide, by decide⟩
  · exact ⟨[115, 108, 105, 99, 101, 102, 114, 111, 109, 108, 101, 102, 116], rfl, by decide, by decide⟩
  · exact ⟨[115, 108, 105, 99, 101, 102, 114, 111, 109, 114, 105, 103, 104, 116], rfl, by decide, by decide⟩
  · exact ⟨[108, 101, 102, 116], rfl, by decide, by decide⟩
  exact ⟨[114, 105, 103, 104, 116], rfl, by decide, by decide⟩
theorem text_l0 (p : S42) (h4 : p.f4.length ≤ 5) (h4b : ∀ a ∈ p.f4, 0 ≤ a ∧ a ≤ 99) : ∀ (n j : Nat) (acc : List UInt8), n + j = p.f4.length → acc.length ≤ 100 + 3 * j → ∃ tl : List UInt8, Ev (fun k => spec_text.l0 k (ba acc) (j : Int) p.f0 p.f1 p.f2 p.f3 p.f4) (ba (acc ++ tl)) ∧ (46 : UInt8) ∉ tl ∧ tl.length ≤ 3 * n + 3
  | 0, j, acc, h, ha => by
    have e2 : (⟨#[41, 125, 125]⟩ : ByteArray) = ba [41, 125, 125] := rfl
    refine ⟨[41, 125, 125], Ev.step (fun k => by rw [spec_text.l0, if_neg (by omega), if_pos (by rw [ba_size]; omega), e2, ba_append]) (Ev.now _), by decide, by decide⟩
  | n + 1, j, acc, h, ha => by
    obtain ⟨a, haj⟩ : ∃ a, p.f4[j]? = some a := ⟨_, List.getElem?_eq_getElem (by omega)⟩
    obtain ⟨d, h1, h2, h3, h5⟩ := Digits_ev a (h4b a (List.mem_of_getElem? haj))
    have hw := w1 (i := j) (by omega)
    have e44 : (⟨#[44]⟩ : ByteArray) = ba [44] := rfl
    obtain ⟨tl, g1, g2, g3⟩ := text_l0 p h4 h4b n (j + 1) (acc ++ ([44] ++ d)) (by omega) (by simp; omega)
    refine ⟨44 :: d ++ tl, ?_, fun hm => ?_, by simp; omega⟩
    · refine Ev.step (fun k => by rw [spec_text.l0, if_pos (by omega), if_pos (by omega), rdI haj]) ?_
      refine Ev.bind h1 (Ev.congr (fun k => by rw [if_pos (by rw [ba_size]; omega), e44, ba_append, if_pos (by rw [ba_size, ba_size]; simp; omega), ba_append, hw]) (Ev.det' g1 ?_))
      simp
    rw [List.mem_append, List.mem_cons] at hm
    rcases hm with (hm | hm) | hm
    · exact absurd hm (by decide)
    · exact dig_nd h2 hm
    exact g2 hm
theorem textx_ev (n i : Nat) (p : S42) (hp : KnownP n i p) (hs : SizeP p) : ∃ t : List UInt8, Ev (fun k => spec_text.f k p.f0 p.f1 p.f2 p.f3 p.f4) (ba t) ∧ TextF p t := by
  have e2 : (⟨#[41, 125, 125]⟩ : ByteArray) = ba [41, 125, 125] := rfl
  have e44 : (⟨#[44]⟩ : ByteArray) = ba [44] := rfl
  have e40 : (⟨#[40]⟩ : ByteArray) = ba [40] := rfl
  have e123 : (⟨#[123, 123]⟩ : ByteArray) = ba [123, 123] := rfl
  have h0 := hp.f0
  by_cases k : p.f0 = 0 ∨ p.f0 = 11 ∨ wildK p
  · exact text_ev n i p k hp hs
  have k0 : p.f0 ≠ 0 := fun e => k (.inl e)
  have k11 : p.f0 ≠ 11 := fun e => k (.inr (.inl e))
  have k1 : p.f0 ≠ 1 := fun e => k (.inr (.inr (.inl e)))
  have k2 : p.f0 ≠ 2 := fun e => k (.inr (.inr (.inr e)))
  clear k
  by_cases k3 : p.f0 = 3
  · obtain ⟨d, h1, h2, h3, h4⟩ := Digits_ev p.f2 hp.f2
    obtain ⟨w, hw, hwd, hwl⟩ : ∃ w : List UInt8, p.f1 = ba w ∧ (46 : UInt8) ∉ w ∧ w.length ≤ 1 := by
      obtain ⟨l, hl⟩ := ba_surj p.f1
      have := hp.split k3
      rw [hl] at this
      have this : l = [45] ∨ l = [95] ∨ l = [64] := this
      refine ⟨l, hl, ?_⟩
      rcases this with rfl | rfl | rfl <;> exact ⟨by decide, by decide⟩
    have e1 : (⟨#[123, 123, 115, 112, 108, 105, 116, 40]⟩ : ByteArray) = ba [123, 123, 115, 112, 108, 105, 116, 40] := rfl
    refine ⟨123 :: ([123, 115, 112, 108, 105, 116, 40] ++ d ++ [44] ++ w ++ [41, 125, 125]), ?_, textF_of k0 k11 (fun hm => ?_) (by simp; omega)⟩
    · refine Ev.congr (fun k => by rw [spec_text.f, if_neg k0, if_neg k1, if_neg k11, if_neg k2, if_pos k3]) (Ev.bind h1 (Ev.congr (fun k => by rw [if_pos (by rw [ba_size]; omega), e1, ba_append, if_pos (by rw [ba_size]; simp; omega), e44, ba_append, hw, if_pos (by rw [ba_size, ba_size]; simp; omega), ba_append, if_pos (by rw [ba_size]; simp; omega), e2, ba_append]) (Ev.det' (Ev.now _) ?_)))
      simp
    simp only [List.mem_append] at hm
    rcases hm with (((hm | hm) | hm) | hm) | hm
    · revert hm; decide
    · exact dig_nd h2 hm
    · revert hm; decide
    · exact hwd hm
    revert hm; decide
  by_cases k10 : p.f0 = 10
  · obtain ⟨d, h1, h2, h3, h4⟩ := Digits_ev p.f3 hp.f3
    have e1 : (⟨#[123, 123, 112, 97, 114, 116, 105, 116, 105, 111, 110, 40]⟩ : ByteArray) = ba [123, 123, 112, 97, 114, 116, 105, 116, 105, 111, 110, 40] := rfl
    obtain ⟨tl, g1, g2, g3⟩ := text_l0 p hp.f4.1 hp.f4.2 p.f4.length 0 ([123, 123, 112, 97, 114, 116, 105, 116, 105, 111, 110, 40] ++ d) rfl (by simp; omega)
    have h45 := hp.f4.1
    refine ⟨123 :: ([123, 112, 97, 114, 116, 105, 116, 105, 111, 110, 40] ++ d ++ tl), ?_, textF_of k0 k11 (fun hm => ?_) (by simp; omega)⟩
    · refine Ev.congr (fun k => by rw [spec_text.f, if_neg k0, if_neg k1, if_neg k11, if_neg k2, if_neg k3, if_pos k10]) (Ev.bind h1 (Ev.congr (fun k => by rw [if_pos (by rw [ba_size]; omega), e1, ba_append]; rfl) (Ev.det' g1 ?_)))
      simp
    simp only [List.mem_append] at hm
    rcases hm with (hm | hm) | hm
    · revert hm; decide
    · exact dig_nd h2 hm
    exact g2 hm
  obtain ⟨nm, hn1, hn2, hn3⟩ := name_ev p.f0 (by omega)
  obtain ⟨d, h1, h2, h3, h4⟩ := Digits_ev p.f2 hp.f2
  obtain ⟨d', h1', h2', h3', h4'⟩ := Digits_ev p.f3 hp.f3
  refine ⟨123 :: ([123] ++ nm ++ [40] ++ d ++ [44] ++ d' ++ [41, 125, 125]), ?_, textF_of k0 k11 (fun hm => ?_) (by simp; omega)⟩
  · refine Ev.congr (fun k => by rw [spec_text.f, if_neg k0, if_neg k1, if_neg k11, if_neg k2, if_neg k3, if_neg k10, hn1, Option.bind_some, if_pos (by rw [ba_size]; omega), e123, ba_append, if_pos (by rw [ba_size]; simp; omega)]) (Ev.bind h1 (Ev.congr (fun k => by rw [e40, ba_append, if_pos (by rw [ba_size, ba_size]; simp; omega), ba_append, if_pos (by rw [ba_size]; simp; omega)]) (Ev.bind h1' (Ev.congr (fun k => by rw [e44, ba_append, if_pos (by rw [ba_size, ba_size]; simp; omega), ba_append, if_pos (by rw [ba_size]; simp; omega), e2, ba_append]) (Ev.det' (Ev.now _) ?_)))))
    simp
  simp only [List.mem_append] at hm
  rcases hm with (((((hm | hm) | hm) | hm) | hm) | hm) | hm
  · revert hm; decide
  · exact hn2 hm
  · revert hm; decide
  · exact dig_nd h2 hm
  · revert hm; decide
  · exact dig_nd h2' hm
  revert hm; decide
theorem split_ne (by_ : UInt8) : ∀ (l p acc : List UInt8), (acc ≠ [] ∨ p ≠ [] ∨ ∃ c ∈ l, c ≠ by_) → (toksC by_ p l).foldl fl acc ≠ []
  | [], p, acc, h => by
    show fl acc p ≠ []
    rcases h with h | h | ⟨c, hc, _⟩
    · unfold fl; split
      · exact h
      simp
    · by_cases h2 : acc = []
      · rw [h2, fl_first h]; exact h
      rw [fl_more h2 h]; simp
    cases hc
  | c :: l, p, acc, h => by
    rw [toksC]
    split
    · rw [List.foldl_cons]
      refine split_ne by_ l [] (fl acc p) ?_
      rcases h with h | h | ⟨d, hd, hne⟩
      · left; unfold fl; split
        · exact h
        simp
      · left
        by_cases h2 : acc = []
        · rw [h2, fl_first h]; exact h
        rw [fl_more h2 h]; simp
      rcases List.mem_cons.1 hd with rfl | hd
      · contradiction
      exact .inr (.inr ⟨d, hd, hne⟩)
    exact split_ne by_ l (p ++ [c]) acc (.inr (.inl (by simp)))
theorem gF_ne (z i : Nat) {l : List UInt8} (h : l ≠ []) : gF z i l ≠ [] := by
  cases l with
  | nil => exact absurd rfl h
  | cons c r => rw [gF]; simp
theorem gR_ne (z n i : Nat) {l : List UInt8} (h : l ≠ []) : gR z n i l ≠ [] := by
  cases l with
  | nil => exact absurd rfl h
  | cons c r => rw [gR]; simp
theorem inX_ne {t x : List UInt8} {n : Nat} (h : t ≠ []) (hx : 0 < n → n < t.length → x ≠ []) : inX t n x ≠ [] := by
  unfold inX
  split
  · next g => exact hx g.1 g.2
  exact h
theorem pieceL_ne (p : S42) {t : List UInt8} (h : t ≠ []) (hs : p.f0 = 3 → SplitOk (sepOf p) t) : pieceL p t ≠ [] := by
  unfold pieceL
  by_cases k3 : p.f0 = 3
  · rw [if_pos k3]
    exact split_ne _ t [] [] (.inr (.inr (hs k3).other))
  rw [if_neg k3]
  repeat' split
  · exact inX_ne h (fun _ _ => by unfold p4; simp)
  · exact inX_ne h (fun _ _ => by unfold p5; simp)
  · exact inX_ne h (fun _ _ => gF_ne _ _ h)
  · exact inX_ne h (fun _ _ => gR_ne _ _ _ h)
  · refine inX_ne h (fun h1 h2 e => ?_)
    unfold p9 at e
    have := congrArg List.length e
    rw [List.length_take] at this
    have h0 : ([] : List UInt8).length = 0 := rfl
    omega
  · refine inX_ne h (fun h1 h2 e => ?_)
    unfold p10 at e
    have := congrArg List.length e
    rw [List.length_drop] at this
    have h0 : ([] : List UInt8).length = 0 := rfl
    omega
  exact h
theorem toksC_len (by_ : UInt8) : ∀ (l p : List UInt8), (toksC by_ p l).length ≤ l.length + 1 ∧ 1 ≤ (toksC by_ p l).length
  | [], p => by simp [toksC]
  | c :: l, p => by
    rw [toksC]
    split
    · have := toksC_len by_ l []
      simp only [List.length_cons]
      omega
    have := toksC_len by_ l (p ++ [c])
    rw [List.length_cons]
    omega
theorem toksC_mem (by_ : UInt8) : ∀ (l p : List UInt8), ∀ t ∈ toksC by_ p l, t.length ≤ p.length + l.length
  | [], p, t, h => by
    have h : t = p := by simpa [toksC] using h
    rw [h]; simp
  | c :: l, p, t, h => by
    rw [toksC] at h
    split at h
    · rcases List.mem_cons.1 h with rfl | h
      · omega
      have := toksC_mem by_ l [] t h
      simp at this
      rw [List.length_cons]; omega
    have := toksC_mem by_ l (p ++ [c]) t h
    rw [List.length_append, List.length_singleton] at this
    rw [List.length_cons]; omega
theorem toksC_head (by_ : UInt8) : ∀ (l p : List UInt8), (toksC by_ p l).getD 0 [] = [] → p = [] ∧ (l = [] ∨ ∃ r, l = by_ :: r)
  | [], p, h => ⟨h, .inl rfl⟩
  | c :: l, p, h => by
    rw [toksC] at h
    split at h
    · next e => exact ⟨h, .inr ⟨l, by rw [e]⟩⟩
    have := (toksC_head by_ l (p ++ [c]) h).1
    simp at this
theorem split_two {by_ : UInt8} {t : List UInt8} (h : SplitOk by_ t) : ∀ (h2 : 2 ≤ (toksC by_ [] t).length), ¬ ((toksC by_ [] t).getD 0 [] = [] ∧ (toksC by_ [] t).getD 1 [] = []) := by
  rintro h2 ⟨a, b⟩
  rcases (toksC_head by_ t [] a).2 with rfl | ⟨r, rfl⟩
  · simp [toksC] at h2
  rw [toksC_dot] at b
  have b : (toksC by_ [] r).getD 0 [] = [] := b
  rcases (toksC_head by_ r [] b).2 with rfl | ⟨r', rfl⟩
  · obtain ⟨c, hc, hne⟩ := h.other
    exact hne (List.mem_singleton.1 hc)
  exact h.two r' rfl
end Go.Proofs.YtoopmpjgmgffoaaDoor.PlFnTransformBack
