/- The plain law of FnHeaderRemovePrefix, whole. -/
import Derived.Test.YtnkioieocjgekaaPlHqI
namespace Go.Proofs.Ytnkioieocjgekaa.PlHq
open Go.RowKit Go.Proofs.YtnkioieocjgekaaW.PrintWords Go.Proofs.YtnkioieocjgekaaW.PrintLast Go.Proofs.YtnkioieocjgekaaW.PrintMore Go.Proofs.Ytnkioieocjgekaa.Pl Go.Proofs.Ytnkioieocjgekaa.Hq Go.Proofs.Ytnkioieocjgekaa.GFnHeaderRemovePrefix
set_option linter.unusedVariables false
set_option linter.unusedSimpArgs false

theorem prefixed_ (x : S34) (p : ByteArray) : spec_prefixed.f x.f0 p = some (beg p.data.toList x) := by
  have hl : p.data.toList.length = p.size := rfl
  have hx : x.f0.data.toList.length = x.f0.size := rfl
  by_cases h : (x.f0.size : Int) ≥ (p.size : Int)
  · rw [spec_prefixed.f, if_pos h, if_pos (by omega), if_pos (by omega)]
    congr 1
    have e : (x.f0.extract 0 ((p.size : Int)).toNat).toList = x.f0.data.toList.take p.data.toList.length := by
      have h1 := ba_extract x.f0.data.toList 0 p.size
      rw [show ba x.f0.data.toList = x.f0 from rfl] at h1
      rw [Int.toNat_natCast, h1, ba_toList, hl, List.drop_zero]
    rw [e, ByteArray.toList_eq p]
    unfold beg
    by_cases hh : x.f0.data.toList.take p.data.toList.length = p.data.toList
    · rw [hh]; simp
    · rw [decide_eq_false hh]
      exact beq_eq_false_iff_ne.2 hh
  · rw [spec_prefixed.f, if_neg h]
    congr 1
    unfold beg
    rw [eq_comm, decide_eq_false_iff_not]
    intro hh
    have := congrArg List.length hh
    rw [List.length_take] at this
    omega
theorem without_l0 (l : List S34) (p : ByteArray) (hl : l.length ≤ 2147483647) : ∀ (rest pre acc : List S34) (i : Int), l = pre ++ rest → i = (pre.length : Int) → acc.length ≤ pre.length →
    Ev (fun k => spec_WithoutPrefix.l0 k l p acc i) (acc ++ wo p.data.toList rest) := by
  intro rest
  induction rest with
  | nil =>
    intro pre acc i h hi ha
    have hz : l.length = pre.length := by rw [h]; simp
    exact Ev.step (fun k => by rw [spec_WithoutPrefix.l0, if_neg (by omega)]) (Ev.det' (Ev.now _) (by simp [wo]))
  | cons x rest ih =>
    intro pre acc i h hi ha
    have hz : l.length = pre.length + rest.length + 1 := by rw [h]; simp; omega
    have hx := rdT pre x rest h hi
    have hw : wrap64 (i + 1) = i + 1 := w64 (by omega) (by omega)
    by_cases hb : beg p.data.toList x = true
    · refine Ev.step (fun k => by rw [spec_WithoutPrefix.l0, if_pos (by omega), if_pos (by omega), hx, prefixed_, Option.bind_some, if_pos hb, hw]) ?_
      refine Ev.det' (ih (pre ++ [x]) acc (i + 1) (by rw [h]; simp) (by simp; omega) (by simp; omega)) ?_
      simp [wo, hb]
    · refine Ev.step (fun k => by rw [spec_WithoutPrefix.l0, if_pos (by omega), if_pos (by omega), hx, prefixed_, Option.bind_some, if_neg hb, if_pos (by omega), hw]) ?_
      refine Ev.det' (ih (pre ++ [x]) (acc ++ [x]) (i + 1) (by rw [h]; simp) (by simp; omega) (by simp; omega)) ?_
      simp [wo, hb]
theorem data_len (s : ByteArray) : s.data.toList.length = s.size := rfl
theorem flat_len : ∀ (l : List S34), (∀ x ∈ l, x.f0.size ≤ 40 ∧ x.f1.size ≤ 60) → (l.flatMap ln).length ≤ 104 * l.length
  | [], _ => by simp
  | x :: r, h => by
    have h1 := flat_len r (fun y hy => h y (List.mem_cons_of_mem _ hy))
    have h2 := h x List.mem_cons_self
    rw [List.flatMap_cons, List.length_append, List.length_cons]
    have : (ln x).length = x.f0.size + 2 + x.f1.size + 2 := by
      simp only [ln, List.length_append, List.length_cons, List.length_nil, data_len]
      omega
    omega
theorem plain (l : List S34) (p : ByteArray) : ∃ k, Hq.Plain k l p := by
  obtain ⟨b1, ⟨K1, e1⟩, p1⟩ := Fits_ev2 l
  cases b1 with
  | false => exact ⟨K1, .inl (e1 K1 (Nat.le_refl _))⟩
  | true =>
    obtain ⟨hl, hsz⟩ := p1 rfl
    by_cases hk : (p.size : Int) > 2147483647
    · exact ⟨K1, .inr ⟨e1 K1 (Nat.le_refl _), .inl hk⟩⟩
    obtain ⟨b2, ⟨K2, e2⟩, p2⟩ := headed_ev l hl hsz
    cases b2 with
    | false => exact ⟨max K1 K2, .inr ⟨e1 _ (by omega), .inr ⟨by omega, .inl (e2 _ (by omega))⟩⟩⟩
    | true =>
      obtain ⟨hl8, hsf⟩ := p2 rfl
      obtain ⟨b3, ⟨K3, e3⟩, p3⟩ := Token_ev2 p (by omega)
      cases b3 with
      | false => exact ⟨max K1 (max K2 K3), .inr ⟨e1 _ (by omega), .inr ⟨by omega, .inr ⟨e2 _ (by omega), .inl (e3 _ (by omega))⟩⟩⟩⟩
      | true =>
        have hp := p3 rfl
        by_cases h40 : (p.size : Int) > 40
        · exact ⟨max K1 (max K2 K3), .inr ⟨e1 _ (by omega), .inr ⟨by omega, .inr ⟨e2 _ (by omega), .inr ⟨e3 _ (by omega), .inl h40⟩⟩⟩⟩⟩
        by_cases h0 : (l.length : Int) = 0
        · exact ⟨max K1 (max K2 K3), .inr ⟨e1 _ (by omega), .inr ⟨by omega, .inr ⟨e2 _ (by omega), .inr ⟨e3 _ (by omega), .inr ⟨by omega, .inl h0⟩⟩⟩⟩⟩⟩
        have hs2 : ∀ x ∈ l, x.f0.size ≤ 40 ∧ x.f1.size ≤ 60 := fun x hx => ⟨(hsf x hx).1, (hsf x hx).2.1⟩
        have hok : ∀ x ∈ l, LineOk x := fun x hx => ⟨(hsf x hx).2.2.2, (hsf x hx).2.2.1⟩
        obtain ⟨K4, e4⟩ := Header_ev l hl8 hs2
        obtain ⟨K5, e5⟩ := rmp_all hp l hok
        obtain ⟨K6, e6⟩ := without_l0 l p (by omega) l [] [] 0 rfl rfl (by simp)
        rw [List.nil_append] at e6
        have hw8 : (wo p.data.toList l).length ≤ 8 := Nat.le_trans (List.length_filter_le _ _) hl8
        have hws : ∀ x ∈ wo p.data.toList l, x.f0.size ≤ 40 ∧ x.f1.size ≤ 60 := fun x hx => hs2 x (List.mem_filter.1 hx).1
        obtain ⟨K7, e7⟩ := Header_ev (wo p.data.toList l) hw8 hws
        have hflat := flat_len l hs2
        refine ⟨max K1 (max K2 (max K3 (max K4 (max K5 (max K6 K7))))), .inr ⟨e1 _ (by omega), .inr ⟨by omega, .inr ⟨e2 _ (by omega), .inr ⟨e3 _ (by omega), .inr ⟨by omega, .inr ?_⟩⟩⟩⟩⟩⟩
        refine ⟨fun x hx => (hs2 x hx).1, fun s hs => ?_, hp.pos, ⟨by omega, hl8⟩, txtA top l, _, _, e4 _ (by omega), e5 _ (by omega), e6 _ (by omega), ?_, by simp [txtA]; omega, ?_⟩
        · obtain ⟨r, K, hr⟩ := low_ev s (by omega)
          exact ⟨K, r, hr K (Nat.le_refl _)⟩
        · have h7 : spec_Header.f (max K1 (max K2 (max K3 (max K4 (max K5 (max K6 K7)))))) (wo p.data.toList l) = some _ := e7 _ (by omega)
          rw [laws_left.f, h7, Option.bind_some]
          unfold res
          split
          · rename_i h
            rw [h.2.1]
            by_cases hq : (strOfNums (nm [])).toList = (ba (top ++ ((([] : List S34).flatMap ln) ++ [13, 10]))).toList
            · rw [if_pos hq]
            · rw [if_neg hq, if_pos (by simp)]; rfl
          · rw [nm, strOfNums_bytes, if_pos (by rfl)]
        · have : (txtA top l).length = 12 + (l.flatMap ln).length := by simp [txtA, top]; omega
          omega
end Go.Proofs.Ytnkioieocjgekaa.PlHq
