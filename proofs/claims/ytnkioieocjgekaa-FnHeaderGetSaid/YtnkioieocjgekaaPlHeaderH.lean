/- laws.knownKey, and the plain law. -/
import Derived.Test.YtnkioieocjgekaaPlHeaderG
namespace Go.Proofs.Ytnkioieocjgekaa.PlH
open Go.RowKit Go.Proofs.YtnkioieocjgekaaW.PrintWords Go.Proofs.YtnkioieocjgekaaW.PrintLast Go.Proofs.YtnkioieocjgekaaW.PrintMore Go.Proofs.Ytnkioieocjgekaa.Pl Go.Proofs.Ytnkioieocjgekaa.GFnHeaderGet
set_option linter.unusedVariables false
set_option linter.unusedSimpArgs false

theorem known_l0 (l : List S34) (hl : l.length ≤ 8) (hsz : ∀ x ∈ l, x.f0.size ≤ 40 ∧ x.f1.size ≤ 60) (key : ByteArray) (hk : key.size ≤ 40) : ∀ (rest pre : List S34) (i : Int), l = pre ++ rest → i = (pre.length : Int) → ∃ b, Ev (fun k => laws_knownKey.l0 k l key i) b := by
  intro rest
  induction rest with
  | nil =>
    intro pre i h hi
    have hz : l.length = pre.length := by rw [h]; simp
    obtain ⟨t, ht⟩ := Token_ev key (by omega) key.size 0 (by omega) (by omega)
    have ht' : Ev (fun k => spec_Token.f k key) t := ht
    cases t with
    | false => exact ⟨_, Ev.step (fun k => by rw [laws_knownKey.l0, if_neg (by omega)]) (Ev.bind ht' (Ev.congr (fun k => by rw [if_neg (by simp)]) (Ev.now _)))⟩
    | true => exact ⟨_, Ev.step (fun k => by rw [laws_knownKey.l0, if_neg (by omega)]) (Ev.bind ht' (Ev.congr (fun k => by rw [if_pos rfl]) (Ev.now _)))⟩
  | cons x rest ih =>
    intro pre i h hi
    have hz : l.length = pre.length + rest.length + 1 := by rw [h]; simp; omega
    have hx := rdT pre x rest h hi
    have hs := hsz x (by rw [h]; simp)
    have hw : wrap64 (i + 1) = i + 1 := w64 (by omega) (by omega)
    obtain ⟨b, hb⟩ := ih (pre ++ [x]) (i + 1) (by rw [h]; simp) (by simp; omega)
    by_cases he : x.f0.toList = key.toList
    · exact ⟨b, Ev.step (fun k => by rw [laws_knownKey.l0, if_pos (by omega), if_pos (by omega), hx, if_pos he, hw]) hb⟩
    · obtain ⟨r1, e1⟩ := low_ev x.f0 (by omega)
      obtain ⟨r2, e2⟩ := low_ev key (by omega)
      by_cases hq : r1.toList = r2.toList
      · refine ⟨false, Ev.step (fun k => by rw [laws_knownKey.l0, if_pos (by omega), if_pos (by omega), hx, if_neg he]) ?_⟩
        refine Ev.bind e1 ?_
        refine Ev.bind e2 ?_
        exact Ev.congr (fun k => by rw [if_pos hq]) (Ev.now _)
      · refine ⟨b, Ev.step (fun k => by rw [laws_knownKey.l0, if_pos (by omega), if_pos (by omega), hx, if_neg he]) ?_⟩
        refine Ev.bind e1 ?_
        refine Ev.bind e2 ?_
        exact Ev.congr (fun k => by rw [if_neg hq, hw]) hb
def txt (l : List S34) : List UInt8 := top ++ (l.flatMap ln ++ [13, 10])
theorem flat_len : ∀ (l : List S34), (∀ x ∈ l, x.f0.size ≤ 40 ∧ x.f1.size ≤ 60) → (l.flatMap ln).length ≤ 104 * l.length
  | [], _ => by simp
  | x :: r, h => by
    have h1 := flat_len r (fun y hy => h y (List.mem_cons_of_mem _ hy))
    have h2 := h x List.mem_cons_self
    rw [List.flatMap_cons, List.length_append, List.length_cons]
    have : (ln x).length = x.f0.size + 2 + x.f1.size + 2 := by
      simp only [ln, List.length_append, List.length_cons, List.length_nil, data_length]
      omega
    omega
theorem txt_len (l : List S34) (hl : l.length ≤ 8) (hsz : ∀ x ∈ l, x.f0.size ≤ 40 ∧ x.f1.size ≤ 60) : 0 < (txt l).length ∧ (txt l).length ≤ 1000000 := by
  have := flat_len l hsz
  have h10 : top.length = 10 := rfl
  rw [txt, List.length_append, List.length_append, h10]
  simp only [List.length_cons, List.length_nil]
  omega
theorem known_j0 (l : List S34) (hl : l.length ≤ 8) (hsz : ∀ x ∈ l, x.f0.size ≤ 40 ∧ x.f1.size ≤ 60) (key : ByteArray) (w : Int) : ∃ b, Ev (fun k => laws_knownKey.j0 k l key w) b ∧ (b = true → key.size ≤ 40 ∧ (tm key.data.toList (txt l) : Int) = w) := by
  by_cases hk : (key.size : Int) > 40
  · exact ⟨false, Ev.step (fun k => by rw [laws_knownKey.j0, if_pos hk]) (Ev.step (fun k => by rw [laws_knownKey.j1, if_pos rfl]) (Ev.now _)), fun h => by cases h⟩
  · have hH := Header_ev l hl hsz
    obtain ⟨g0, g1⟩ := txt_len l hl hsz
    have hT0 := Times_ev (ba (txt l)) key.data.toList g1 (by rw [data_length]; omega) (txt l) [] 0 0 rfl rfl (by omega) (by omega)
    have hT : Ev (fun k => laws_times.f k (ba (txt l)) key) ((tm key.data.toList (txt l) : Int)) := Ev.det' hT0 (by omega)
    by_cases he : (tm key.data.toList (txt l) : Int) = w
    · obtain ⟨b, hb⟩ := known_l0 l hl hsz key (by omega) l [] 0 (by simp) (by simp)
      refine ⟨b, Ev.step (fun k => by rw [laws_knownKey.j0, if_neg hk]) ?_, fun _ => ⟨by omega, he⟩⟩
      refine Ev.bind hH ?_
      refine Ev.bind hT ?_
      exact Ev.step (fun k => by rw [laws_knownKey.j1, if_neg (by simp [he])]) hb
    · refine ⟨false, Ev.step (fun k => by rw [laws_knownKey.j0, if_neg hk]) ?_, fun h => by cases h⟩
      refine Ev.bind hH ?_
      refine Ev.bind hT ?_
      exact Ev.step (fun k => by rw [laws_knownKey.j1, if_pos (by simp [he])]) (Ev.now _)
theorem tm_nil : ∀ T : List UInt8, tm [] T = T.length + 1
  | [] => by simp [tm]
  | b :: r => by rw [tm, tm_nil r, if_pos (by simp)]; simp; omega
theorem top_end (p : List S34) : ∃ P, top ++ p.flatMap ln = P ++ [13, 10] := by
  rcases List.eq_nil_or_concat p with rfl | ⟨q, y, rfl⟩
  · exact ⟨[78, 65, 84, 83, 47, 49, 46, 48], rfl⟩
  · refine ⟨top ++ q.flatMap ln ++ (y.f0.data.toList ++ ([58, 32] ++ y.f1.data.toList)), ?_⟩
    simp [List.flatMap_append, ln]
theorem plain (l : List S34) (key : ByteArray) : ∃ k, Hg.Plain k l key := by
  obtain ⟨b1, ⟨K1, e1⟩, p1⟩ := Fits_ev2 l
  cases b1 with
  | false => exact ⟨K1, .inl (e1 K1 (Nat.le_refl _))⟩
  | true =>
    obtain ⟨hl, hsz⟩ := p1 rfl
    by_cases hk : (key.size : Int) > 2147483647
    · exact ⟨K1, .inr ⟨e1 K1 (Nat.le_refl _), .inl hk⟩⟩
    obtain ⟨b2, ⟨K2, e2⟩, p2⟩ := headed_ev l hl hsz
    cases b2 with
    | false => exact ⟨max K1 K2, .inr ⟨e1 _ (by omega), .inr ⟨by omega, .inl (e2 _ (by omega))⟩⟩⟩
    | true =>
      obtain ⟨hl8, hsf⟩ := p2 rfl
      have hs2 : ∀ x ∈ l, x.f0.size ≤ 40 ∧ x.f1.size ≤ 60 := fun x hx => ⟨(hsf x hx).1, (hsf x hx).2.1⟩
      obtain ⟨r, hr, pr⟩ := Get_l0 l key hl l [] 0 (by simp) (by simp)
      have hr' : Ev (fun k => spec_Get.f k l key) r := hr
      obtain ⟨b3, h3, p3⟩ := known_j0 l hl8 hs2 key (if r.2 = true then 1 else 0)
      have h3' : Ev (fun k => laws_knownKey.f k l key) b3 := by
        refine Ev.bind hr' (Ev.congr (fun k => ?_) h3)
        split <;> rfl
      obtain ⟨K3, e3⟩ := h3'
      cases b3 with
      | false => exact ⟨max K1 (max K2 K3), .inr ⟨e1 _ (by omega), .inr ⟨by omega, .inr ⟨e2 _ (by omega), .inl (e3 _ (by omega))⟩⟩⟩⟩
      | true =>
        obtain ⟨hk40, htm⟩ := p3 rfl
        obtain ⟨g0, g1⟩ := txt_len l hl8 hs2
        obtain ⟨K4, e4⟩ := hr'
        obtain ⟨K5, e5⟩ := Header_ev l hl8 hs2
        have hkl : key.data.toList.length = key.size := data_length key
        rcases pr with hn | ⟨hy, p, x, q, hpl, hxk, hx1⟩
        · rw [hn, if_neg (by simp)] at htm
          obtain ⟨K6, e6⟩ := Key_none (txt l) key.data.toList g1 g0 (by omega) (by omega)
          refine ⟨max K1 (max K2 (max K3 (max K4 (max K5 K6)))), .inr ⟨e1 _ (by omega), .inr ⟨by omega, .inr ⟨e2 _ (by omega), .inr ⟨e3 _ (by omega), r.1, r.2, ba (txt l), -1, e4 _ (by omega), e5 _ (by omega), e6 _ (by omega), g0, g1, by omega, .inl ⟨hn, rfl⟩⟩⟩⟩⟩⟩
        · rw [hy, if_pos rfl] at htm
          obtain ⟨P, hP⟩ := top_end p
          have hne : 0 < key.data.toList.length := by
            rcases Nat.eq_zero_or_pos key.data.toList.length with h | h
            · rw [List.length_eq_zero_iff.1 h, tm_nil] at htm
              omega
            · exact h
          have hT : txt l = (P ++ [13, 10]) ++ (key.data.toList ++ 58 :: (32 :: (x.f1.data.toList ++ 13 :: 10 :: (q.flatMap ln ++ [13, 10])))) := by
            rw [txt, hpl, List.flatMap_append, List.flatMap_cons, ← hP, ← hxk]
            simp [ln]
          have hT2 : txt l = (P ++ [13, 10] ++ key.data.toList ++ [58]) ++ 32 :: (x.f1.data.toList ++ 13 :: 10 :: (q.flatMap ln ++ [13, 10])) := by rw [hT]; simp
          obtain ⟨K6, e6⟩ := Key_at P _ key.data.toList (txt l) hT g1 (by omega) hne (by omega)
          have hfld : Fld x.f1.data.toList := (hsf x (by rw [hpl]; simp)).2.2
          have hval := value_fld (P ++ [13, 10] ++ key.data.toList ++ [58]) x.f1.data.toList (q.flatMap ln ++ [13, 10]) hfld
          rw [← hT2] at hval
          have hln : (P ++ [13, 10] ++ key.data.toList ++ [58]).length = P.length + 2 + key.size + 1 := by
            simp only [List.length_append, List.length_cons, List.length_nil, hkl]
          have htl : P.length + 2 + key.size + 1 ≤ (txt l).length := by rw [hT2, List.length_append, hln]; omega
          rw [hln] at hval
          refine ⟨max K1 (max K2 (max K3 (max K4 (max K5 K6)))), .inr ⟨e1 _ (by omega), .inr ⟨by omega, .inr ⟨e2 _ (by omega), .inr ⟨e3 _ (by omega), r.1, r.2, ba (txt l), ((P.length + 2 : Nat) : Int), e4 _ (by omega), e5 _ (by omega), e6 _ (by omega), g0, g1, by omega, .inr ⟨hy, by omega, by rw [ba_size]; omega, ?_⟩⟩⟩⟩⟩⟩
          rw [Int.toNat_natCast, bytesOf_ba, hval, hx1, nm, strOfNums_bytes]
          rfl
end Go.Proofs.Ytnkioieocjgekaa.PlH
