/- laws.headed: it comes to an end, and what it says. -/
import Derived.Test.YtnkioieocjgekaaPlHqE
namespace Go.Proofs.Ytnkioieocjgekaa.PlHq
open Go.RowKit Go.Proofs.YtnkioieocjgekaaW.PrintWords Go.Proofs.YtnkioieocjgekaaW.PrintLast Go.Proofs.YtnkioieocjgekaaW.PrintMore Go.Proofs.Ytnkioieocjgekaa.Pl Go.Proofs.Ytnkioieocjgekaa.GFnHeaderRemovePrefix
set_option linter.unusedVariables false
set_option linter.unusedSimpArgs false

theorem low_ev (s : ByteArray) (hs : s.size ≤ 2147483647) : ∃ r, Ev (fun k => laws_lower.f k s) r := by
  obtain ⟨r, hr⟩ := lower_ev s hs s.size 0 (⟨#[]⟩ : ByteArray) (by omega) (by omega) (by show ((0 : Nat) : Int) ≤ 0; omega)
  exact ⟨r, hr⟩
theorem rdT_mem {l : List S34} {i : Int} (h0 : 0 ≤ i) (h1 : i < l.length) : rd_T34 l i ∈ l := by
  have : i.toNat < l.length := by omega
  unfold rd_T34
  rw [List.getD_eq_getElem?_getD, List.getElem?_eq_getElem this]
  exact List.getElem_mem this
theorem headed_l1 (l : List S34) (hl : l.length ≤ 2147483647) (hsz : ∀ x ∈ l, x.f0.size ≤ 2147483647 ∧ x.f1.size ≤ 2147483647) (i : Int) (h0 : 0 ≤ i) (h1 : i < l.length) {b' : Bool} (hb : Ev (fun k => laws_headed.l0 k l (i + 1)) b') :
    ∀ (n : Nat) (j : Int), 0 ≤ j → j + n = i → ∃ b, Ev (fun k => laws_headed.l1 k l i j) b ∧ (b = true → b' = true) := by
  intro n
  have hw : wrap64 (i + 1) = i + 1 := w64 (by omega) (by omega)
  induction n with
  | zero => intro j hj h; exact ⟨b', Ev.step (fun k => by rw [laws_headed.l1, if_neg (by omega), hw]) hb, id⟩
  | succ n ih =>
    intro j hj h
    have hwj : wrap64 (j + 1) = j + 1 := w64 (by omega) (by omega)
    obtain ⟨b, hbb, hp⟩ := ih (j + 1) (by omega) (by omega)
    obtain ⟨r1, e1⟩ := low_ev (rd_T34 l j).f0 (hsz _ (rdT_mem hj (by omega))).1
    obtain ⟨r2, e2⟩ := low_ev (rd_T34 l i).f0 (hsz _ (rdT_mem h0 h1)).1
    by_cases he : r1.toList = r2.toList
    · exact ⟨false, Ev.step (fun k => by rw [laws_headed.l1, if_pos (by omega), if_pos hj, if_pos (by omega)]) (Ev.bind e1 (Ev.congr (fun k => by rw [if_pos h0, if_pos h1]) (Ev.bind e2 (Ev.congr (fun k => by rw [if_pos he]) (Ev.now _))))), fun h => by cases h⟩
    · exact ⟨b, Ev.step (fun k => by rw [laws_headed.l1, if_pos (by omega), if_pos hj, if_pos (by omega)]) (Ev.bind e1 (Ev.congr (fun k => by rw [if_pos h0, if_pos h1]) (Ev.bind e2 (Ev.congr (fun k => by rw [if_neg he, hwj]) hbb)))), hp⟩
theorem headed_l0 (l : List S34) (hl : l.length ≤ 2147483647) (hsz : ∀ x ∈ l, x.f0.size ≤ 2147483647 ∧ x.f1.size ≤ 2147483647) : ∀ (rest pre : List S34) (i : Int), l = pre ++ rest → i = (pre.length : Int) →
    ∃ b, Ev (fun k => laws_headed.l0 k l i) b ∧ (b = true → ∀ x ∈ rest, x.f0.size ≤ 40 ∧ x.f1.size ≤ 60) := by
  intro rest
  induction rest with
  | nil =>
    intro pre i h hi
    have hz : l.length = pre.length := by rw [h]; simp
    exact ⟨true, Ev.step (fun k => by rw [laws_headed.l0, if_neg (by omega)]) (Ev.now _), fun _ x hx => (by cases hx)⟩
  | cons x rest ih =>
    intro pre i h hi
    have hz : l.length = pre.length + rest.length + 1 := by rw [h]; simp; omega
    have hx := rdT pre x rest h hi
    obtain ⟨b', hb', hp'⟩ := ih (pre ++ [x]) (i + 1) (by rw [h]; simp) (by simp; omega)
    obtain ⟨b, hb, hp⟩ := headed_l1 l hl hsz i (by omega) (by omega) hb' i.toNat 0 (by omega) (by omega)
    by_cases h1 : (x.f0.size : Int) > 40
    · exact ⟨false, Ev.step (fun k => by rw [laws_headed.l0, if_pos (by omega), if_pos (by omega), hx, if_pos h1]) (Ev.step (fun k => by rw [laws_headed.j2, if_pos rfl]) (Ev.now _)), fun h => by cases h⟩
    by_cases h2 : (x.f1.size : Int) > 60
    · exact ⟨false, Ev.step (fun k => by rw [laws_headed.l0, if_pos (by omega), if_pos (by omega), hx, if_neg h1, decide_eq_true h2]) (Ev.step (fun k => by rw [laws_headed.j2, if_pos rfl]) (Ev.now _)), fun h => by cases h⟩
    refine ⟨b, Ev.step (fun k => by rw [laws_headed.l0, if_pos (by omega), if_pos (by omega), hx, if_neg h1, decide_eq_false h2]) (Ev.step (fun k => by rw [laws_headed.j2, if_neg (by simp)]) hb), fun ht y hy => ?_⟩
    rcases List.mem_cons.1 hy with rfl | hy
    · omega
    · exact hp' (hp ht) y hy
theorem headed_ev (l : List S34) (hl : l.length ≤ 2147483647) (hsz : ∀ x ∈ l, x.f0.size ≤ 2147483647 ∧ x.f1.size ≤ 2147483647) :
    ∃ b, Ev (fun k => laws_headed.f k l) b ∧ (b = true → l.length ≤ 8 ∧ ∀ x ∈ l, x.f0.size ≤ 40 ∧ x.f1.size ≤ 60 ∧ FldS x.f1 ∧ Tok x.f0.data.toList) := by
  by_cases h : (l.length : Int) > 8
  · exact ⟨false, Ev.congr (fun k => by rw [laws_headed.f, if_pos h]) (Ev.step (fun k => by rw [laws_headed.j0, if_pos rfl]) (Ev.now _)), fun h => by cases h⟩
  · obtain ⟨t, ht, hf⟩ := Fine_l0 l hl hsz l [] 0 (by simp) (by simp)
    have ht' : Ev (fun k => spec_Fine.f k l) t := ht
    cases t with
    | false => exact ⟨false, Ev.congr (fun k => by rw [laws_headed.f, if_neg h]) (Ev.bind ht' (Ev.step (fun k => by rw [laws_headed.j0, if_pos (by rfl)]) (Ev.now _))), fun h => by cases h⟩
    | true =>
      obtain ⟨b, hb, hp⟩ := headed_l0 l hl hsz l [] 0 (by simp) (by simp)
      exact ⟨b, Ev.congr (fun k => by rw [laws_headed.f, if_neg h]) (Ev.bind ht' (Ev.step (fun k => by rw [laws_headed.j0, if_neg (by simp)]) hb)), fun hbt => ⟨by omega, fun x hx => ⟨(hp hbt x hx).1, (hp hbt x hx).2, hf rfl x hx⟩⟩⟩
end Go.Proofs.Ytnkioieocjgekaa.PlHq
