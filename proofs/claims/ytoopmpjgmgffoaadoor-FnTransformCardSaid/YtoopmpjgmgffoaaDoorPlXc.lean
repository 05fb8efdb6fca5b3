/- Piece, Taken, Mapped, plainly. -/
import Derived.Test.YtoopmpjgmgffoaaDoorPlXb
namespace Go.Proofs.YtoopmpjgmgffoaaDoor.PlFnTransformBack
open Go.RowKit Go.Proofs.YtoopmpjgmgffoaaDoorW.PrintWords Go.Proofs.YtoopmpjgmgffoaaDoorW.PrintLast Go.Proofs.YtoopmpjgmgffoaaDoorW.PrintMore Go.Proofs.YtoopmpjgmgffoaaDoor.Pl Go.Proofs.YtoopmpjgmgffoaaDoor.Bs Go.Proofs.YtoopmpjgmgffoaaDoor.GFnTransformBack Go.Proofs.YtoopmpjgmgffoaaDoor.Tr
set_option linter.unusedVariables false
set_option linter.unusedSimpArgs false
def sepOf (p : S42) : UInt8 := p.f1.data.toList.headD 0
def pieceL (p : S42) (t : List UInt8) : List UInt8 :=
  if p.f0 = 3 then (toksC (sepOf p) [] t).foldl fl []
  else if p.f0 = 4 then inX t p.f3.toNat (p4 t p.f3.toNat)
  else if p.f0 = 5 then inX t p.f3.toNat (p5 t p.f3.toNat)
  else if p.f0 = 6 then inX t p.f3.toNat (gF p.f3.toNat 0 t)
  else if p.f0 = 7 then inX t p.f3.toNat (gR p.f3.toNat t.length 0 t)
  else if p.f0 = 8 then inX t p.f3.toNat (p9 t p.f3.toNat)
  else if p.f0 = 9 then inX t p.f3.toNat (p10 t p.f3.toNat)
  else t
theorem sep_bt {p : S42} (h : p.f1.data.toList ≠ []) : bt p.f1 0 = ((sepOf p).toNat : Int) ∧ 0 < (p.f1.size : Int) := by
  obtain ⟨l, hl⟩ := ba_surj p.f1
  unfold sepOf
  rw [hl] at h ⊢
  rcases l with _ | ⟨c, r⟩
  · exact absurd rfl h
  exact ⟨bt_i (i := 0) rfl, by rw [ba_size]; simp⟩
theorem Piece_j0 (p : S42) (t : List UInt8) (n : Nat) (hn : p.f3 = (n : Int)) (hn9 : n ≤ 99) (ht : t.length ≤ 1000000) (hsp : p.f0 = 3 → p.f1.data.toList ≠ []) (b : Bool) (hb : b = true ↔ (0 < n ∧ n < t.length)) :
    Ev (fun k => spec_Piece.j0 k (ba t) b p.f0 p.f1 p.f2 p.f3 p.f4) (ba (pieceL p t)) := by
  have hnn : p.f3.toNat = n := by omega
  unfold pieceL
  rw [hnn]
  by_cases k3 : p.f0 = 3
  · obtain ⟨e1, e2⟩ := sep_bt (hsp k3)
    rw [if_pos k3]
    exact Ev.step (fun k => by rw [spec_Piece.j0, if_pos k3, if_pos e2, e1]) (Ev.bind (split_ev _ t ht) (Ev.now _))
  rw [if_neg k3]
  cases b with
  | false =>
    have hi : ¬ (0 < n ∧ n < t.length) := fun h => by cases hb.2 h
    have hx : ∀ x, inX t n x = t := fun x => by unfold inX; rw [if_neg hi]
    simp only [hx, ite_self]
    refine Ev.step (fun k => by rw [spec_Piece.j0, if_neg k3, ite_self]) ?_
    refine Ev.step (fun k => by rw [spec_Piece.j1, if_neg (by decide), ite_self]) ?_
    refine Ev.step (fun k => by rw [spec_Piece.j2, if_neg (by decide), ite_self]) ?_
    refine Ev.step (fun k => by rw [spec_Piece.j3, if_neg (by decide), ite_self]) ?_
    refine Ev.step (fun k => by rw [spec_Piece.j4, if_neg (by decide), ite_self]) ?_
    exact Ev.step (fun k => by rw [spec_Piece.j5, if_neg (by decide), if_neg (show ¬ false = true by decide), ite_self]) (Ev.now _)
  | true =>
    have hi : 0 < n ∧ n < t.length := hb.1 rfl
    have hx : ∀ x, inX t n x = x := fun x => by unfold inX; rw [if_pos hi]
    simp only [hx]
    have hw : wrap64 (((ba t).size : Int) - p.f3) = ((t.length - n : Nat) : Int) := by rw [ba_size, hn, w64 (by omega) (by omega)]; omega
    have e46 : (⟨#[46]⟩ : ByteArray) = ba [46] := rfl
    have x1 : ∀ m : Nat, (ba t).extract 0 ((m : Nat) : Int).toNat = ba (t.take m) := fun m => by rw [Int.toNat_natCast, ba_extract, List.drop_zero]
    have x2 : ∀ m : Nat, (ba t).extract ((m : Nat) : Int).toNat (ba t).size = ba (t.drop m) := fun m => by rw [Int.toNat_natCast, ba_extract, List.take_of_length_le (by rw [ba_size]; exact Nat.le_refl _)]
    by_cases k4 : p.f0 = 4
    · rw [if_pos k4]
      refine Ev.step (fun k => by rw [spec_Piece.j0, if_neg k3, if_pos k4]) ?_
      refine Ev.step (fun k => by rw [spec_Piece.j1, if_pos rfl, if_pos (by omega), if_pos (by rw [ba_size]; omega), hn, x1, x2, e46, if_pos (by rw [ba_size, List.length_take]; omega), ba_append, if_pos (by rw [ba_size, ba_size, List.length_append, List.length_take, List.length_drop]; simp; omega), ba_append]) ?_
      exact Ev.det' (Ev.now _) (by rw [p4]; simp)
    rw [if_neg k4]
    by_cases k5 : p.f0 = 5
    · rw [if_pos k5]
      refine Ev.step (fun k => by rw [spec_Piece.j0, if_neg k3, if_neg k4]) ?_
      refine Ev.step (fun k => by rw [spec_Piece.j1, if_neg (by decide), if_pos k5]) ?_
      refine Ev.step (fun k => by rw [spec_Piece.j2, if_pos rfl, hw, if_pos (by omega), if_pos (by rw [ba_size]; omega), x1, x2, e46, if_pos (by rw [ba_size, List.length_take]; omega), ba_append, if_pos (by rw [ba_size, ba_size, List.length_append, List.length_take, List.length_drop]; simp; omega), ba_append]) ?_
      exact Ev.det' (Ev.now _) (by rw [p5]; simp)
    rw [if_neg k5]
    by_cases k6 : p.f0 = 6
    · rw [if_pos k6]
      refine Ev.step (fun k => by rw [spec_Piece.j0, if_neg k3, if_neg k4]) ?_
      refine Ev.step (fun k => by rw [spec_Piece.j1, if_neg (by decide), if_neg k5]) ?_
      refine Ev.step (fun k => by rw [spec_Piece.j2, if_neg (by decide), if_pos k6]) ?_
      refine Ev.step (fun k => by rw [spec_Piece.j3, if_pos rfl, hn]) ?_
      exact Ev.bind (Ev.det' (slices_ev t ht n ⟨hi.1, hn9⟩ false) rfl) (Ev.now _)
    rw [if_neg k6]
    by_cases k7 : p.f0 = 7
    · rw [if_pos k7]
      refine Ev.step (fun k => by rw [spec_Piece.j0, if_neg k3, if_neg k4]) ?_
      refine Ev.step (fun k => by rw [spec_Piece.j1, if_neg (by decide), if_neg k5]) ?_
      refine Ev.step (fun k => by rw [spec_Piece.j2, if_neg (by decide), if_neg k6]) ?_
      refine Ev.step (fun k => by rw [spec_Piece.j3, if_neg (by decide), if_pos k7]) ?_
      refine Ev.step (fun k => by rw [spec_Piece.j4, if_pos rfl, hn]) ?_
      exact Ev.bind (Ev.det' (slices_ev t ht n ⟨hi.1, hn9⟩ true) rfl) (Ev.now _)
    rw [if_neg k7]
    refine Ev.step (fun k => by rw [spec_Piece.j0, if_neg k3, if_neg k4]) ?_
    refine Ev.step (fun k => by rw [spec_Piece.j1, if_neg (by decide), if_neg k5]) ?_
    refine Ev.step (fun k => by rw [spec_Piece.j2, if_neg (by decide), if_neg k6]) ?_
    refine Ev.step (fun k => by rw [spec_Piece.j3, if_neg (by decide), if_neg k7]) ?_
    by_cases k8 : p.f0 = 8
    · rw [if_pos k8]
      refine Ev.step (fun k => by rw [spec_Piece.j4, if_neg (by decide), if_pos k8]) ?_
      refine Ev.step (fun k => by rw [spec_Piece.j5, if_pos rfl, if_pos (by omega), if_pos (by rw [ba_size]; omega), hn, x1]) ?_
      exact Ev.now _
    rw [if_neg k8]
    refine Ev.step (fun k => by rw [spec_Piece.j4, if_neg (by decide), if_neg k8]) ?_
    by_cases k9 : p.f0 = 9
    · rw [if_pos k9]
      refine Ev.step (fun k => by rw [spec_Piece.j5, if_neg (by decide), if_pos k9, if_pos rfl, hw, if_pos (by omega), if_pos (by rw [ba_size]; omega), x2]) ?_
      exact Ev.now _
    rw [if_neg k9]
    exact Ev.step (fun k => by rw [spec_Piece.j5, if_neg (by decide), if_neg k9]) (Ev.now _)
theorem Piece_ev (p : S42) (t : List UInt8) (h3 : 0 ≤ p.f3 ∧ p.f3 ≤ 99) (ht : t.length ≤ 1000000) (hsp : p.f0 = 3 → p.f1.data.toList ≠ []) :
    Ev (fun k => spec_Piece.f k p.f0 p.f1 p.f2 p.f3 p.f4 (ba t)) (ba (pieceL p t)) := by
  obtain ⟨n, hn⟩ : ∃ n : Nat, p.f3 = (n : Int) := ⟨p.f3.toNat, by omega⟩
  by_cases h : p.f3 > 0
  · refine Ev.congr (fun k => by rw [spec_Piece.f, if_pos h]) (Piece_j0 p t n hn (by omega) ht hsp _ ?_)
    rw [decide_eq_true_iff, ba_size]
    omega
  refine Ev.congr (fun k => by rw [spec_Piece.f, if_neg h]) (Piece_j0 p t n hn (by omega) ht hsp _ ?_)
  constructor
  · intro h; cases h
  intro h; omega
def takW : List (List UInt8) → List (List UInt8) → List (List UInt8)
  | [], _ => []
  | _ :: _, [] => []
  | s :: S, t :: T => if s = [62] then [] else if s = [42] then t :: takW S T else takW S T
def takR : List (List UInt8) → List (List UInt8) → List (List UInt8)
  | [], _ => []
  | _ :: _, [] => []
  | s :: S, t :: T => if s = [62] then t :: T else takR S T
theorem Taken_l0 (S T : List (List UInt8)) (hS : S.length ≤ 1000000) (hT : T.length ≤ 1000000) : ∀ (n i : Nat) (out : List (List UInt8)), n + i = S.length → out.length ≤ i →
    Ev (fun k => spec_Taken.l0 k (S.map ba) (T.map ba) (out.map ba) (i : Int)) ((out ++ takW (S.drop i) (T.drop i)).map ba, (takR (S.drop i) (T.drop i)).map ba)
  | 0, i, out, h, ho => by
    refine Ev.step (fun k => by rw [spec_Taken.l0, if_neg (by rw [List.length_map]; omega)]) ?_
    refine Ev.step (fun k => by rw [spec_Taken.j1, if_neg (by decide)]) ?_
    rw [List.drop_eq_nil_of_le (by omega)]
    exact Ev.det' (Ev.now _) (by simp [takW, takR])
  | n + 1, i, out, h, ho => by
    obtain ⟨s, hs⟩ : ∃ s, S[i]? = some s := ⟨_, List.getElem?_eq_getElem (by omega)⟩
    have hw := w1 (i := i) (by omega)
    rw [drop_i hs]
    by_cases hl : i < T.length
    · obtain ⟨t, ht⟩ : ∃ t, T[i]? = some t := ⟨_, List.getElem?_eq_getElem hl⟩
      refine Ev.step (fun k => by rw [spec_Taken.l0, if_pos (by rw [List.length_map]; omega), decide_eq_true (show (i : Int) < ((T.map ba).length : Int) by rw [List.length_map]; omega)]) ?_
      by_cases e : s = [62]
      · refine Ev.step (fun k => by rw [spec_Taken.j1, if_pos rfl, if_pos (by omega), if_pos (by rw [List.length_map]; omega), rdB hs, ba_toList, if_pos e, if_pos (by rw [List.length_map]; omega), Int.toNat_natCast]) ?_
        rw [drop_i ht]
        refine Ev.det' (Ev.now _) ?_
        rw [takW, takR, if_pos e, if_pos e, List.append_nil, ← List.map_drop, drop_i ht]
      by_cases e2 : s = [42]
      · have IH := Taken_l0 S T hS hT n (i + 1) (out ++ [t]) (by omega) (by simp; omega)
        refine Ev.step (fun k => by rw [spec_Taken.j1, if_pos rfl, if_pos (by omega), if_pos (by rw [List.length_map]; omega), rdB hs, ba_toList, if_neg e, if_pos e2, if_pos (by rw [List.length_map]; omega), if_pos (by rw [List.length_map]; omega), hw, rdB ht]) ?_
        rw [drop_i ht, takW, takR, if_neg e, if_neg e, if_pos e2]
        rw [List.map_append] at IH
        refine Ev.det' IH ?_
        simp
      have IH := Taken_l0 S T hS hT n (i + 1) out (by omega) (by omega)
      refine Ev.step (fun k => by rw [spec_Taken.j1, if_pos rfl, if_pos (by omega), if_pos (by rw [List.length_map]; omega), rdB hs, ba_toList, if_neg e, if_neg e2, hw]) ?_
      rw [drop_i ht, takW, takR, if_neg e, if_neg e, if_neg e2]
      exact IH
    refine Ev.step (fun k => by rw [spec_Taken.l0, if_pos (by rw [List.length_map]; omega), decide_eq_false (show ¬ (i : Int) < ((T.map ba).length : Int) by rw [List.length_map]; omega)]) ?_
    refine Ev.step (fun k => by rw [spec_Taken.j1, if_neg (by decide)]) ?_
    rw [List.drop_eq_nil_of_le (show T.length ≤ i by omega)]
    exact Ev.det' (Ev.now _) (by simp [takW, takR])
theorem Taken_ev (sl ul : List UInt8) (h1 : sl.length ≤ 100000) (h2 : ul.length ≤ 100000) : Ev (fun k => spec_Taken.f k (ba sl) (ba ul)) ((takW (toks sl) (toks ul)).map ba, (takR (toks sl) (toks ul)).map ba) := by
  have c1 := List.count_le_length (a := (46 : UInt8)) (l := sl)
  have c2 := List.count_le_length (a := (46 : UInt8)) (l := ul)
  refine Ev.congr (fun k => by rw [spec_Taken.f]) (Ev.bind (Tokens_ev sl (by omega)) (Ev.bind (Tokens_ev ul (by omega)) ?_))
  have := Taken_l0 (toks sl) (toks ul) (by rw [toks_len]; omega) (by rw [toks_len]; omega) _ 0 [] rfl (Nat.le_refl _)
  rw [List.drop_zero, List.drop_zero, List.nil_append] at this
  exact this
theorem takW_at : ∀ (S T : List (List UInt8)) (o m : Nat) (x : Int), formedB S = true → matchT T S = true → (plc o S)[m]? = some x → ∃ (q : Nat) (t : List UInt8), x = ((o + q : Nat) : Int) ∧ T[q]? = some t ∧ (takW S T)[m]? = some t
  | [], T, o, m, x, _, _, h => by simp [plc] at h
  | s :: S, [], o, m, x, _, hm, h => by cases hm
  | s :: S, t :: T, o, m, x, hf, hm, h => by
    obtain ⟨g0, g1, g2⟩ := formed_cons hf
    rw [matchT] at hm
    by_cases e : s = [62]
    · rw [g1.resolve_left (fun h => h e), e, plc_other _ (by decide)] at h
      simp [plc] at h
    rw [if_neg e] at hm
    by_cases e2 : s = [42]
    · rw [if_pos (.inl e2)] at hm
      rw [e2, plc_star] at h
      rw [takW, if_neg e, if_pos e2]
      cases m with
      | zero =>
        have h : (o : Int) = x := by simpa using h
        exact ⟨0, t, by rw [← h]; simp, rfl, rfl⟩
      | succ m =>
        obtain ⟨q, u, h1, h2, h3⟩ := takW_at S T (o + 1) m x g2 hm (by simpa using h)
        exact ⟨q + 1, u, by rw [h1]; congr 1; omega, by simpa using h2, by simpa using h3⟩
    by_cases e3 : s = [42] ∨ s = t
    · rw [if_pos e3] at hm
      rw [plc_other _ e2] at h
      rw [takW, if_neg e, if_neg e2]
      obtain ⟨q, u, h1, h2, h3⟩ := takW_at S T (o + 1) m x g2 hm h
      exact ⟨q + 1, u, by rw [h1]; congr 1; omega, by simpa using h2, h3⟩
    rw [if_neg e3] at hm; cases hm
theorem takR_at : ∀ (S T : List (List UInt8)), formedB S = true → matchT T S = true → S.getLast? = some [62] → takR S T = T.drop (S.length - 1)
  | [], T, _, _, h => by simp at h
  | s :: S, [], _, hm, h => by cases hm
  | s :: S, t :: T, hf, hm, h => by
    obtain ⟨g0, g1, g2⟩ := formed_cons hf
    rw [matchT] at hm
    by_cases e : s = [62]
    · rw [g1.resolve_left (fun h => h e), takR, if_pos e]
      rfl
    rw [if_neg e] at hm
    rw [takR, if_neg e]
    by_cases e3 : s = [42] ∨ s = t
    · rw [if_pos e3] at hm
      rcases S with _ | ⟨x, S⟩
      · have h : s = [62] := by simpa using h
        exact absurd h e
      rw [takR_at (x :: S) T g2 hm (by simpa using h)]
      simp
    rw [if_neg e3] at hm; cases hm
theorem takW_mem : ∀ (S T : List (List UInt8)), ∀ t ∈ takW S T, t ∈ T
  | [], T, t, h => by simp [takW] at h
  | s :: S, [], t, h => by simp [takW] at h
  | s :: S, u :: T, t, h => by
    rw [takW] at h
    split at h
    · cases h
    split at h
    · rcases List.mem_cons.1 h with rfl | h
      · exact List.mem_cons_self
      exact List.mem_cons_of_mem _ (takW_mem S T t h)
    exact List.mem_cons_of_mem _ (takW_mem S T t h)
theorem takR_mem : ∀ (S T : List (List UInt8)), ∀ t ∈ takR S T, t ∈ T
  | [], T, t, h => by simp [takR] at h
  | s :: S, [], t, h => by simp [takR] at h
  | s :: S, u :: T, t, h => by
    rw [takR] at h
    split at h
    · exact h
    exact List.mem_cons_of_mem _ (takR_mem S T t h)
theorem digit_at (n : Nat) (h : n ≤ 99) : strOfNums [(wrap64 (48 + (Int.tmod (n : Int) 10))) % 256] = ba [UInt8.ofNat (48 + n % 10)] := by
  have e : Int.tmod (n : Int) 10 = (n : Int) % 10 := Int.tmod_eq_emod_of_nonneg (by omega)
  have hw : wrap64 (48 + (Int.tmod (n : Int) 10)) = 48 + (n : Int) % 10 := by rw [e, w64 (by omega) (by omega)]
  have hc : ((UInt8.ofNat (48 + n % 10)).toNat : Int) = 48 + (n : Int) % 10 := by rw [UInt8.toNat_ofNat']; omega
  rw [hw, show (48 + (n : Int) % 10) % 256 = ((UInt8.ofNat (48 + n % 10)).toNat : Int) by rw [hc]; omega, ← strOfNums_bytes]
  rfl
theorem Digits_num (n : Nat) (h : n ≤ 99) : Ev (fun k => spec_Digits.f k (n : Int)) (ba (numB n)) := by
  have h1 := digit_at n h
  by_cases hx : n < 10
  · refine Ev.congr (fun k => by rw [spec_Digits.f, h1]) ?_
    refine Ev.step (fun k => by rw [spec_Digits.l0, if_neg (by omega)]) (Ev.det' (Ev.now _) ?_)
    unfold numB
    rw [if_pos hx, show n % 10 = n by omega]
  have e : Int.tdiv (n : Int) 10 = ((n / 10 : Nat) : Int) := by rw [Int.tdiv_eq_ediv_of_nonneg (by omega)]; omega
  have hw : wrap64 (Int.tdiv (n : Int) 10) = ((n / 10 : Nat) : Int) := by rw [e, w64 (by omega) (by omega)]
  have g1 := digit_at (n / 10) (by omega)
  refine Ev.congr (fun k => by rw [spec_Digits.f, h1]) ?_
  refine Ev.step (fun k => by rw [spec_Digits.l0, if_pos (by omega), hw, Option.bind_some, g1, if_pos (by rw [ba_size, ba_size]; simp), ba_append]) ?_
  refine Ev.step (f := fun _ => some (ba ([UInt8.ofNat (48 + n / 10 % 10)] ++ [UInt8.ofNat (48 + n % 10)]))) (fun k => by rw [spec_Digits.l0, if_neg (by omega)]) (Ev.det' (Ev.now _) ?_)
  unfold numB
  rw [if_neg hx, show n / 10 % 10 = n / 10 by omega]
  rfl
end Go.Proofs.YtoopmpjgmgffoaaDoor.PlFnTransformBack
