/- The plain law of FnHeadPub, whole. -/
import Derived.Test.YtnkioieocjgekaaDoorPlHd
namespace Go.Proofs.YtnkioieocjgekaaDoor.PlHd
open Go.RowKit Go.Proofs.YtnkioieocjgekaaDoorW.PrintWords Go.Proofs.YtnkioieocjgekaaDoorW.PrintLast Go.Proofs.YtnkioieocjgekaaDoorW.PrintMore Go.Proofs.YtnkioieocjgekaaDoor.Pl Go.Proofs.YtnkioieocjgekaaDoor.GFnHeadPub
set_option linter.unusedVariables false
set_option linter.unusedSimpArgs false

/-- What the arguments are read as. -/
def rdh (W : List (List UInt8)) : ByteArray × ByteArray × Int × Int × Bool :=
  match W with
  | [a, b, c] => (ba a, ⟨#[]⟩, Hd.psz (nm b), Hd.psz (nm c), decide (0 ≤ Hd.psz (nm b)) && decide (Hd.psz (nm b) ≤ Hd.psz (nm c)))
  | [a, b, c, d] => (ba a, ba b, Hd.psz (nm c), Hd.psz (nm d), decide (0 ≤ Hd.psz (nm c)) && decide (Hd.psz (nm c) ≤ Hd.psz (nm d)))
  | _ => (⟨#[]⟩, ⟨#[]⟩, 0, 0, false)
theorem wd_len : ∀ (l p : List UInt8), (wd p l).length ≤ l.length + 1 ∧ ∀ w ∈ wd p l, w.length ≤ p.length + l.length
  | [], p => by
    rw [wd]
    split <;> simp
  | c :: r, p => by
    rw [wd]
    split
    · split
      · obtain ⟨h1, h2⟩ := wd_len r []
        refine ⟨by simp; omega, fun w hw => ?_⟩
        have := h2 w hw
        simp at this ⊢; omega
      · obtain ⟨h1, h2⟩ := wd_len r []
        refine ⟨by simp; omega, fun w hw => ?_⟩
        rcases List.mem_cons.1 hw with rfl | hw
        · omega
        · have := h2 w hw
          simp at this ⊢; omega
    · obtain ⟨h1, h2⟩ := wd_len r (p ++ [c])
      refine ⟨by simp; omega, fun w hw => ?_⟩
      have := h2 w hw
      simp at this ⊢; omega
theorem Read_ev (l : List UInt8) (hs : l.length ≤ 200) (hn : ∀ c ∈ l, ¬ (c.toNat : Int) = 13 ∧ ¬ (c.toNat : Int) = 10) : Ev (fun k => spec_ReadHPub.f k (ba l)) (rdh (wd [] l)) := by
  have hW := Words_ev l (by omega) hn
  obtain ⟨hl1, hl2⟩ := wd_len l []
  have hsz : ∀ w ∈ wd [] l, w.length ≤ 2147483647 := fun w hw => by have := hl2 w hw; simp at this; omega
  refine Ev.bind hW ?_
  generalize wd [] l = W at *
  by_cases h3 : W.length < 3
  · refine Ev.congr (f := fun k => spec_ReadHPub.j0 k (W.map ba) true) (fun k => by rw [if_pos (by rw [List.length_map]; omega)]) ?_
    refine Ev.step (f := fun _ => some (rdh W)) (fun k => by
      rw [spec_ReadHPub.j0, if_pos rfl]
      congr 1
      match W, h3 with
      | [], _ => rfl
      | [a], _ => rfl
      | [a, b], _ => rfl) (Ev.now _)
  by_cases h4 : 4 < W.length
  · refine Ev.congr (f := fun k => spec_ReadHPub.j0 k (W.map ba) true) (fun k => by rw [if_neg (by rw [List.length_map]; omega), decide_eq_true (by rw [List.length_map]; omega)]) ?_
    refine Ev.step (f := fun _ => some (rdh W)) (fun k => by
      rw [spec_ReadHPub.j0, if_pos rfl]
      congr 1
      match W, h4 with
      | _ :: _ :: _ :: _ :: _ :: _, _ => rfl) (Ev.now _)
  refine Ev.congr (f := fun k => spec_ReadHPub.j0 k (W.map ba) false) (fun k => by rw [if_neg (by rw [List.length_map]; omega), decide_eq_false (by rw [List.length_map]; omega)]) ?_
  have hr : ∀ (L : List ByteArray) (i : Int), rdOf ByteArray.empty L i = L.getD i.toNat ByteArray.empty := fun _ _ => rfl
  match W, h3, h4 with
  | [a, b, c], _, _ =>
    have e1 := Size_ev b (hsz b (by simp))
    have e2 := Size_ev c (hsz c (by simp))
    have w1 : wrap64 ((([a, b, c].map ba).length : Int) - 2) = 1 := by rw [List.length_map, show ((([a, b, c] : List (List UInt8)).length : Nat) : Int) - 2 = 1 from by simp]; exact w64 (by omega) (by omega)
    have w2 : wrap64 ((([a, b, c].map ba).length : Int) - 1) = 2 := by rw [List.length_map, show ((([a, b, c] : List (List UInt8)).length : Nat) : Int) - 1 = 2 from by simp]; exact w64 (by omega) (by omega)
    have r0 : rdOf ByteArray.empty ([a, b, c].map ba) 0 = ba a := rfl
    have r1 : rdOf ByteArray.empty ([a, b, c].map ba) 1 = ba b := rfl
    have r2 : rdOf ByteArray.empty ([a, b, c].map ba) 2 = ba c := rfl
    refine Ev.step (fun k => by rw [spec_ReadHPub.j0, if_neg (by simp), if_pos (by simp), w1, w2, if_pos (by omega), if_pos (by simp), r0, r1, r2]) ?_
    refine Ev.bind e1 ?_
    refine Ev.congr (f := fun k => (spec_Size.f k (ba c)).bind fun t114 => _) (fun k => by rw [if_pos (by omega), if_pos (by simp)]) ?_
    refine Ev.bind e2 ?_
    refine Ev.congr (f := fun _ => some (rdh [a, b, c])) (fun k => ?_) (Ev.now _)
    rw [if_neg (by simp)]
    by_cases g : Hd.psz (nm b) ≥ 0
    · rw [if_pos g, rdh, decide_eq_true (show 0 ≤ Hd.psz (nm b) from g), Bool.true_and]
    · rw [if_neg g, rdh, decide_eq_false (show ¬ 0 ≤ Hd.psz (nm b) from g), Bool.false_and]
  | [a, b, c, d], _, _ =>
    have e1 := Size_ev c (hsz c (by simp))
    have e2 := Size_ev d (hsz d (by simp))
    have w1 : wrap64 ((([a, b, c, d].map ba).length : Int) - 2) = 2 := by rw [List.length_map, show ((([a, b, c, d] : List (List UInt8)).length : Nat) : Int) - 2 = 2 from by simp]; exact w64 (by omega) (by omega)
    have w2 : wrap64 ((([a, b, c, d].map ba).length : Int) - 1) = 3 := by rw [List.length_map, show ((([a, b, c, d] : List (List UInt8)).length : Nat) : Int) - 1 = 3 from by simp]; exact w64 (by omega) (by omega)
    have r0 : rdOf ByteArray.empty ([a, b, c, d].map ba) 0 = ba a := rfl
    have r1 : rdOf ByteArray.empty ([a, b, c, d].map ba) 1 = ba b := rfl
    have r2 : rdOf ByteArray.empty ([a, b, c, d].map ba) 2 = ba c := rfl
    have r3 : rdOf ByteArray.empty ([a, b, c, d].map ba) 3 = ba d := rfl
    refine Ev.step (fun k => by rw [spec_ReadHPub.j0, if_neg (by simp), if_pos (by simp), w1, w2, if_pos (by omega), if_pos (by simp), r0, r1, r2, r3]) ?_
    refine Ev.bind e1 ?_
    refine Ev.congr (f := fun k => (spec_Size.f k (ba d)).bind fun t114 => _) (fun k => by rw [if_pos (by omega), if_pos (by simp)]) ?_
    refine Ev.bind e2 ?_
    refine Ev.congr (f := fun _ => some (rdh [a, b, c, d])) (fun k => ?_) (Ev.now _)
    rw [if_pos (by simp), if_pos (by simp)]
    by_cases g : Hd.psz (nm c) ≥ 0
    · rw [if_pos g, rdh, decide_eq_true (show 0 ≤ Hd.psz (nm c) from g), Bool.true_and]
    · rw [if_neg g, rdh, decide_eq_false (show ¬ 0 ≤ Hd.psz (nm c) from g), Bool.false_and]
  | [], h, _ => exact absurd (by simp) h
  | [a], h, _ => exact absurd (by simp) h
  | [a, b], h, _ => exact absurd (by simp) h
  | _ :: _ :: _ :: _ :: _ :: _, _, h => exact absurd (by simp) h
def Fin (s r : ByteArray) (h z : Int) (ok : Bool) (t : List Int × List Int × Int × Int × Int) (a1 : Int) : Prop :=
  (ok = false ∧ t.2.2.2.2 = 1) ∨ (ok = true ∧ ((0 ≤ a1 ∧ a1 < z ∧ t.2.2.2.2 = 2) ∨ ((a1 < 0 ∨ z ≤ a1) ∧ t.2.2.2.2 = 0 ∧ strOfNums t.1 = s ∧ strOfNums t.2.1 = r ∧ t.2.2.1 = h ∧ t.2.2.2.1 = z)))
theorem fin_of (S R : Option (Nat × Nat)) (l : List Int) (s r : ByteArray) (h z a1 : Int) (ha : -1 ≤ a1) (hs : strOfNums (Hd.oc l S) = s) (hr : strOfNums (Hd.oc l R) = r) :
    Fin s r h z (decide (0 ≤ h) && decide (h ≤ z)) (Hd.out2 l (S, R, h, z, Hd.kindOf h z a1)) a1 := by
  unfold Fin
  by_cases h0 : 0 ≤ h
  · by_cases hz : h ≤ z
    · right
      refine ⟨by simp [h0, hz], ?_⟩
      by_cases hm : 0 ≤ a1 ∧ a1 < z
      · left
        have hk : Hd.kindOf h z a1 = 2 := by
          unfold Hd.kindOf
          rw [if_neg (by omega), if_neg (by omega), if_neg (by omega), if_pos (by omega)]
        rw [hk]
        exact ⟨hm.1, hm.2, rfl⟩
      · right
        have hk : Hd.kindOf h z a1 = 0 := by
          unfold Hd.kindOf
          rw [if_neg (by omega), if_neg (by omega), if_neg (by omega), if_neg (by omega)]
        rw [hk]
        exact ⟨by omega, rfl, hs, hr, rfl, rfl⟩
    · left
      have hk : Hd.kindOf h z a1 = 1 := by
        unfold Hd.kindOf
        by_cases h1 : z < 0
        · rw [if_neg (by omega), if_pos h1]
        · rw [if_neg (by omega), if_neg h1, if_pos (by omega)]
      rw [hk]
      exact ⟨by simp [hz], rfl⟩
  · left
    have hk : Hd.kindOf h z a1 = 1 := by unfold Hd.kindOf; rw [if_pos (by omega)]
    rw [hk]
    exact ⟨by simp [h0], rfl⟩
theorem str_nm (a : List UInt8) : strOfNums (nm a) = ba a := strOfNums_bytes a
theorem fin_all (L : List UInt8) (a1 : Int) (ha : -1 ≤ a1) : Fin (rdh (wd [] L)).1 (rdh (wd [] L)).2.1 (rdh (wd [] L)).2.2.1 (rdh (wd [] L)).2.2.2.1 (rdh (wd [] L)).2.2.2.2 (Hd.out2 (nm L) (Hd.hps (Hd.sp (nm L) 0 none) (nm L) a1)) a1 := by
  have hw := words_wd L
  generalize Hd.sp (nm L) 0 none = ws at *
  generalize wd [] L = W at *
  generalize nm L = l at *
  have hlen : ws.length = W.length := by have := congrArg List.length hw; simpa using this
  by_cases h3 : W.length = 3
  · obtain ⟨a, b, c, rfl⟩ : ∃ a b c, W = [a, b, c] := by
      match W, h3 with
      | [a, b, c], _ => exact ⟨a, b, c, rfl⟩
    obtain ⟨p, q, r, rfl⟩ : ∃ a b c, ws = [a, b, c] := by
      match ws, hlen with
      | [a, b, c], _ => exact ⟨a, b, c, rfl⟩
    simp only [List.map_cons, List.map_nil, List.cons.injEq, and_true] at hw
    obtain ⟨e1, e2, e3⟩ := hw
    have := fin_of (some p) none l (ba a) ⟨#[]⟩ (Hd.psz (Hd.cut l q)) (Hd.psz (Hd.cut l r)) a1 ha (by rw [Hd.oc, e1, str_nm]) rfl
    rw [e2, e3] at this
    unfold Hd.hps rdh
    dsimp only
    rw [e2, e3]
    exact this
  by_cases h4 : W.length = 4
  · obtain ⟨a, b, c, d, rfl⟩ : ∃ a b c d, W = [a, b, c, d] := by
      match W, h4 with
      | [a, b, c, d], _ => exact ⟨a, b, c, d, rfl⟩
    obtain ⟨p, q, r, s, rfl⟩ : ∃ a b c d, ws = [a, b, c, d] := by
      match ws, hlen with
      | [a, b, c, d], _ => exact ⟨a, b, c, d, rfl⟩
    simp only [List.map_cons, List.map_nil, List.cons.injEq, and_true] at hw
    obtain ⟨e1, e2, e3, e4⟩ := hw
    have := fin_of (some p) (some q) l (ba a) (ba b) (Hd.psz (Hd.cut l r)) (Hd.psz (Hd.cut l s)) a1 ha (by rw [Hd.oc, e1, str_nm]) (by rw [Hd.oc, e2, str_nm])
    rw [e3, e4] at this
    unfold Hd.hps rdh
    dsimp only
    rw [e3, e4]
    exact this
  have e1 : Hd.hps ws l a1 = (none, none, 0, 0, 1) := by
    unfold Hd.hps
    split
    · exact absurd hlen.symm h3
    · exact absurd hlen.symm h4
    · rfl
  have e2 : rdh W = (⟨#[]⟩, ⟨#[]⟩, 0, 0, false) := by
    unfold rdh
    split
    · exact absurd rfl h3
    · exact absurd rfl h4
    · rfl
  rw [e1, e2]
  exact .inl ⟨rfl, rfl⟩
theorem plain (L : List UInt8) (a1 : Int) : ∃ k, Hd.Plain k (nm L) a1 := by
  have hnl : (nm L).length = L.length := nm_len L
  by_cases h : (2147483647 : Int) < (nm L).length
  · exact ⟨0, .inl h⟩
  obtain ⟨b, ⟨K1, e1⟩, hb⟩ := within_ev L (by omega)
  cases b with
  | false => exact ⟨K1, .inr ⟨by omega, .inl (e1 K1 (Nat.le_refl _))⟩⟩
  | true =>
    obtain ⟨h200, hn⟩ := hb rfl
    by_cases h1 : a1 < -1
    · exact ⟨K1, .inr ⟨by omega, .inr ⟨e1 K1 (Nat.le_refl _), .inl h1⟩⟩⟩
    by_cases h2 : 2147483647 < a1
    · exact ⟨K1, .inr ⟨by omega, .inr ⟨e1 K1 (Nat.le_refl _), .inr ⟨by omega, .inl h2⟩⟩⟩⟩
    obtain ⟨K2, e2⟩ := Read_ev L h200 hn
    refine ⟨max K1 K2, .inr ⟨by omega, .inr ⟨e1 _ (by omega), .inr ⟨by omega, .inr ⟨by omega, by omega, by omega, ?_⟩⟩⟩⟩⟩
    exact ⟨_, _, _, _, _, by rw [str_nm]; exact e2 _ (by omega), fin_all L a1 (by omega)⟩
end Go.Proofs.YtnkioieocjgekaaDoor.PlHd
