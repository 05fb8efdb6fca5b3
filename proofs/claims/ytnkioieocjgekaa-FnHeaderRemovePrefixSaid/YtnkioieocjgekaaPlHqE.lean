/- laws.zzFits3, spec.Fine, laws.headed: they come to an end, and what they say. -/
import Derived.Test.YtnkioieocjgekaaPlHqD
namespace Go.Proofs.Ytnkioieocjgekaa.PlHq
open Go.RowKit Go.Proofs.YtnkioieocjgekaaW.PrintWords Go.Proofs.YtnkioieocjgekaaW.PrintLast Go.Proofs.YtnkioieocjgekaaW.PrintMore Go.Proofs.Ytnkioieocjgekaa.Pl Go.Proofs.Ytnkioieocjgekaa.GFnHeaderRemovePrefix
set_option linter.unusedVariables false
set_option linter.unusedSimpArgs false

theorem rdT {l : List S34} {i : Int} (pre : List S34) (x : S34) (rest : List S34) (h : l = pre ++ x :: rest) (hi : i = (pre.length : Int)) : rd_T34 l i = x := by
  subst h hi
  simp [rd_T34, List.getD_eq_getElem?_getD]
theorem Fits_l1 (l : List S34) (hl : l.length ≤ 2147483647) : ∀ (rest pre : List S34) (i : Int), l = pre ++ rest → i = (pre.length : Int) →
    ∃ b, Ev (fun k => laws_zzFits3.l0 k l (l.length : Int) i) b ∧ (b = true → ∀ x ∈ rest, x.f0.size ≤ 2147483647 ∧ x.f1.size ≤ 2147483647) := by
  intro rest
  induction rest with
  | nil =>
    intro pre i h hi
    have hz : l.length = pre.length := by rw [h]; simp
    exact ⟨true, Ev.step (fun k => by rw [laws_zzFits3.l0, if_neg (by omega)]) (Ev.now _), fun _ x hx => (by cases hx)⟩
  | cons x rest ih =>
    intro pre i h hi
    have hz : l.length = pre.length + rest.length + 1 := by rw [h]; simp; omega
    have hx := rdT pre x rest h hi
    have hw : wrap64 (i + 1) = i + 1 := w64 (by omega) (by omega)
    obtain ⟨b, hb, hp⟩ := ih (pre ++ [x]) (i + 1) (by rw [h]; simp) (by simp; omega)
    by_cases h1 : (x.f0.size : Int) > 2147483647
    · exact ⟨false, Ev.step (fun k => by rw [laws_zzFits3.l0, if_pos (by omega), if_pos (by omega), if_pos (by omega), hx, laws_zzFits4.f, if_pos h1, Option.bind_some, if_neg (by simp)]) (Ev.now _), fun h => by cases h⟩
    by_cases h2 : (x.f1.size : Int) > 2147483647
    · exact ⟨false, Ev.step (fun k => by rw [laws_zzFits3.l0, if_pos (by omega), if_pos (by omega), if_pos (by omega), hx, laws_zzFits4.f, if_neg h1, if_pos h2, Option.bind_some, if_neg (by simp)]) (Ev.now _), fun h => by cases h⟩
    refine ⟨b, Ev.step (fun k => by rw [laws_zzFits3.l0, if_pos (by omega), if_pos (by omega), if_pos (by omega), hx, laws_zzFits4.f, if_neg h1, if_neg h2, Option.bind_some, if_pos rfl, hw]) hb, fun ht y hy => ?_⟩
    rcases List.mem_cons.1 hy with rfl | hy
    · omega
    · exact hp ht y hy
theorem Fits_ev2 (l : List S34) : ∃ b, Ev (fun k => laws_zzFits3.f k l) b ∧ (b = true → l.length ≤ 2147483647 ∧ ∀ x ∈ l, x.f0.size ≤ 2147483647 ∧ x.f1.size ≤ 2147483647) := by
  by_cases h : (l.length : Int) > 2147483647
  · exact ⟨false, Ev.congr (fun k => by rw [laws_zzFits3.f, if_pos h]) (Ev.now _), fun h => by cases h⟩
  · obtain ⟨b, hb, hp⟩ := Fits_l1 l (by omega) l [] 0 (by simp) (by simp)
    exact ⟨b, Ev.congr (fun k => by rw [laws_zzFits3.f, if_neg h]) hb, fun ht => ⟨by omega, hp ht⟩⟩
/-- A text is a value. -/
def FldS (s : ByteArray) : Prop := Fld s.data.toList
theorem Fine_l0 (l : List S34) (hl : l.length ≤ 2147483647) (hsz : ∀ x ∈ l, x.f0.size ≤ 2147483647 ∧ x.f1.size ≤ 2147483647) : ∀ (rest pre : List S34) (i : Int), l = pre ++ rest → i = (pre.length : Int) →
    ∃ b, Ev (fun k => spec_Fine.l0 k l i) b ∧ (b = true → ∀ x ∈ rest, FldS x.f1 ∧ Tok x.f0.data.toList) := by
  intro rest
  induction rest with
  | nil =>
    intro pre i h hi
    have hz : l.length = pre.length := by rw [h]; simp
    exact ⟨true, Ev.step (fun k => by rw [spec_Fine.l0, if_neg (by omega)]) (Ev.now _), fun _ x hx => (by cases hx)⟩
  | cons x rest ih =>
    intro pre i h hi
    have hz : l.length = pre.length + rest.length + 1 := by rw [h]; simp; omega
    have hx := rdT pre x rest h hi
    have hs := hsz x (by rw [h]; simp)
    have hw : wrap64 (i + 1) = i + 1 := w64 (by omega) (by omega)
    obtain ⟨b, hb, hp⟩ := ih (pre ++ [x]) (i + 1) (by rw [h]; simp) (by simp; omega)
    obtain ⟨t1, ht1, hk⟩ := Token_ev2 x.f0 hs.1
    have ht1' : Ev (fun k => spec_Token.f k x.f0) t1 := ht1
    obtain ⟨t2, ht2, hf⟩ := Field_ev x.f1.data.toList hs.2
    have ht2' : Ev (fun k => spec_Field.f k x.f1) t2 := ht2
    cases t1 with
    | false => exact ⟨false, Ev.step (fun k => by rw [spec_Fine.l0, if_pos (by omega), if_pos (by omega), hx]) (Ev.bind ht1' (Ev.congr (fun k => by rw [if_neg (by simp)]) (Ev.now _))), fun h => by cases h⟩
    | true =>
      cases t2 with
      | false => exact ⟨false, Ev.step (fun k => by rw [spec_Fine.l0, if_pos (by omega), if_pos (by omega), hx]) (Ev.bind ht1' (Ev.congr (fun k => by rw [if_pos rfl]) (Ev.bind ht2' (Ev.congr (fun k => by rw [if_neg (by simp)]) (Ev.now _))))), fun h => by cases h⟩
      | true =>
        refine ⟨b, Ev.step (fun k => by rw [spec_Fine.l0, if_pos (by omega), if_pos (by omega), hx]) (Ev.bind ht1' (Ev.congr (fun k => by rw [if_pos rfl]) (Ev.bind ht2' (Ev.congr (fun k => by rw [if_pos rfl, hw]) hb)))), fun ht y hy => ?_⟩
        rcases List.mem_cons.1 hy with rfl | hy
        · exact ⟨hf rfl, hk rfl⟩
        · exact hp ht y hy
end Go.Proofs.Ytnkioieocjgekaa.PlHq
