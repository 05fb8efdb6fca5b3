/- Mapped, plainly; the splits' guard; the parts' texts. -/
import Derived.Test.YtoopmpjgmgffoaaDoorPlXc
namespace Go.Proofs.YtoopmpjgmgffoaaDoor.PlFnTransformBack
open Go.RowKit Go.Proofs.YtoopmpjgmgffoaaDoorW.PrintWords Go.Proofs.YtoopmpjgmgffoaaDoorW.PrintLast Go.Proofs.YtoopmpjgmgffoaaDoorW.PrintMore Go.Proofs.YtoopmpjgmgffoaaDoor.Pl Go.Proofs.YtoopmpjgmgffoaaDoor.Bs Go.Proofs.YtoopmpjgmgffoaaDoor.GFnTransformBack Go.Proofs.YtoopmpjgmgffoaaDoor.Tr
set_option linter.unusedVariables false
set_option linter.unusedSimpArgs false
theorem fl_len (out p : List UInt8) : (fl out p).length ≤ out.length + p.length + 1 := by
  unfold fl
  split
  · omega
  split
  · omega
  simp; omega
theorem split_len (by_ : UInt8) : ∀ (l p acc : List UInt8), ((toksC by_ p l).foldl fl acc).length ≤ acc.length + p.length + 2 * l.length + 1
  | [], p, acc => by
    have := fl_len acc p
    show (fl acc p).length ≤ _
    simp; omega
  | c :: l, p, acc => by
    rw [toksC]
    split
    · have := split_len by_ l [] (fl acc p)
      have h2 := fl_len acc p
      rw [List.foldl_cons, List.length_cons]
      have h0 : ([] : List UInt8).length = 0 := rfl
      omega
    have := split_len by_ l (p ++ [c]) acc
    rw [List.length_append, List.length_singleton] at this
    rw [List.length_cons]
    omega
theorem gF_len (z : Nat) : ∀ (l : List UInt8) (i : Nat), (gF z i l).length ≤ 2 * l.length
  | [], i => by simp [gF]
  | c :: r, i => by
    have := gF_len z r (i + 1)
    rw [gF, List.length_append, List.length_cons, List.length_cons]
    split <;> simp <;> omega
theorem gR_len (z n : Nat) : ∀ (l : List UInt8) (i : Nat), (gR z n i l).length ≤ 2 * l.length
  | [], i => by simp [gR]
  | c :: r, i => by
    have := gR_len z n r (i + 1)
    rw [gR, List.length_append, List.length_cons, List.length_cons]
    split <;> simp <;> omega
theorem inX_len {t x : List UInt8} {n m : Nat} (h : t.length ≤ m) (hx : x.length ≤ m) : (inX t n x).length ≤ m := by unfold inX; split <;> assumption
theorem pieceL_len (p : S42) (t : List UInt8) : (pieceL p t).length ≤ 2 * t.length + 1 := by
  unfold pieceL
  repeat' split
  · have := split_len (sepOf p) t [] []
    simp at this; omega
  · exact inX_len (by omega) (by unfold p4; simp; omega)
  · exact inX_len (by omega) (by unfold p5; simp; omega)
  · exact inX_len (by omega) (by have := gF_len p.f3.toNat t 0; omega)
  · exact inX_len (by omega) (by have := gR_len p.f3.toNat t.length t 0; omega)
  · exact inX_len (by omega) (by unfold p9; simp; omega)
  · exact inX_len (by omega) (by unfold p10; simp; omega)
  omega
def keyL (W : List (List UInt8)) (at_ : List Int) : List UInt8 := at_.flatMap fun a => W.getD (a - 1).toNat []
def outM (W R : List (List UInt8)) (p : S42) : List (List UInt8) := if p.f0 = 0 then [p.f1.data.toList] else if p.f0 = 11 then R else if p.f0 = 10 then [numB (fnvB (keyL W p.f4) % p.f3.toNat)] else [pieceL p (W.getD (p.f2 - 1).toNat [])]
structure MapP (m : Nat) (p : S42) : Prop where
  f3 : 0 ≤ p.f3 ∧ p.f3 ≤ 99
  sp : p.f0 = 3 → p.f1.data.toList ≠ []
  word : p.f1.size ≤ 2147483647
  part : p.f0 = 10 → 1 ≤ p.f3 ∧ p.f4.length ≤ 5 ∧ ∀ a ∈ p.f4, 1 ≤ a ∧ a ≤ m
  one : p.f0 ≠ 0 → p.f0 ≠ 11 → p.f0 ≠ 10 → 1 ≤ p.f2 ∧ p.f2 ≤ m
theorem wild_at {W : List (List UInt8)} (hW : W.length ≤ 1000000) {N : Int} (h : 1 ≤ N ∧ N ≤ W.length) : ∃ (q : Nat) (t : List UInt8), wrap64 (N - 1) = (q : Int) ∧ W[q]? = some t ∧ W.getD (N - 1).toNat [] = t ∧ q < W.length := by
  obtain ⟨q, hq⟩ : ∃ q : Nat, N - 1 = (q : Int) := ⟨(N - 1).toNat, by omega⟩
  obtain ⟨t, ht⟩ : ∃ t, W[q]? = some t := ⟨_, List.getElem?_eq_getElem (by omega)⟩
  refine ⟨q, t, by rw [w64 (by omega) (by omega), hq], ht, ?_, by omega⟩
  rw [hq, Int.toNat_natCast, List.getD_eq_getElem?_getD, ht]
  rfl
theorem Mapped_l1 (L : List S42) (W R O : List (List UInt8)) (hW : W.length ≤ 1000000) (hWb : ∀ t ∈ W, t.length ≤ 1000) (i : Nat) (hi : i ≤ 1000) (hO : O.length ≤ 1000000) (p : S42) (hp : 1 ≤ p.f3 ∧ p.f3 ≤ 99) (h4 : p.f4.length ≤ 5) (h4b : ∀ a ∈ p.f4, 1 ≤ a ∧ a ≤ W.length) (r : ByteArray) (H : Nat) (hH : Aside0 (fnvB (keyL W p.f4) = H))
    (hk : Ev (fun k => spec_Mapped.l0 k L (W.map ba) (R.map ba) ((O ++ [numB (H % p.f3.toNat)]).map ba) ((i + 1 : Nat) : Int)) r) :
    ∀ (n j : Nat) (acc : List UInt8), n + j = p.f4.length → acc.length ≤ 1000 * j → acc ++ keyL W (p.f4.drop j) = keyL W p.f4 → Ev (fun k => spec_Mapped.l1 k L (W.map ba) (R.map ba) (O.map ba) (i : Int) (ba acc) (j : Int) p.f0 p.f1 p.f2 p.f3 p.f4) r
  | 0, j, acc, h, ha, hacc => by
    rw [List.drop_eq_nil_of_le (by omega)] at hacc
    have hacc : acc = keyL W p.f4 := by rw [← hacc]; simp [keyL]
    obtain ⟨m, hm⟩ : ∃ m : Nat, p.f3 = (m : Int) := ⟨p.f3.toNat, by omega⟩
    have hmm : p.f3.toNat = m := by omega
    have hm32 : p.f3 % 4294967296 = (m : Int) := by omega
    have hlt : H % m < m := Nat.mod_lt _ (by omega)
    have he : (H : Int) % (m : Int) = ((H % m : Nat) : Int) := rfl
    have hw : Aside0 (wrap64 (Int.tmod (H : Int) (m : Int)) = ((H % m : Nat) : Int)) := ⟨by
      rw [Int.tmod_eq_emod_of_nonneg (by omega), he, w64 (by omega) (by omega)]⟩
    have hF : Ev (fun k => spec_Fnv.f k (ba acc)) ((H : Nat) : Int) := by
      have hF := Fnv_ev acc (by omega)
      rw [show fnvB acc = H by rw [hacc]; exact hH.out] at hF
      exact hF
    have hwi := w1 (i := i) (by omega)
    rw [hmm] at hk
    refine Ev.step (fun k => by rw [spec_Mapped.l1, if_neg (by omega)]) ?_
    refine Ev.bind hF ?_
    refine Ev.congr (fun k => by rw [hm32, if_neg (by omega), hw.out]) ?_
    refine Ev.bind (Digits_num (H % m) (by omega)) ?_
    refine Ev.congr (fun k => by rw [if_pos (by rw [List.length_map]; omega), hwi, show O.map ba ++ [ba (numB (H % m))] = (O ++ [numB (H % m)]).map ba from by simp]) ?_
    exact hk
  | n + 1, j, acc, h, ha, hacc => by
    obtain ⟨a, haj⟩ : ∃ a, p.f4[j]? = some a := ⟨_, List.getElem?_eq_getElem (by omega)⟩
    obtain ⟨q, t, e1, e2, e3, e4⟩ := wild_at hW (h4b a (List.mem_of_getElem? haj))
    have E1 := Aside0.mk e1
    clear e1
    have htb := hWb t (List.mem_of_getElem? e2)
    have hwj := Aside0.mk (w1 (i := j) (by omega))
    refine Ev.step (fun k => by rw [spec_Mapped.l1, if_pos (by omega), if_pos (by omega), rdI haj, E1.out, if_pos (by omega), if_pos (by rw [List.length_map]; omega), rdB e2, if_pos (by rw [ba_size, ba_size]; omega), ba_append, hwj.out]) ?_
    refine Mapped_l1 L W R O hW hWb i hi hO p hp h4 h4b r H hH hk n (j + 1) (acc ++ t) (by omega) (by rw [List.length_append]; omega) ?_
    rw [drop_i haj] at hacc
    rw [← hacc, List.append_assoc]
    congr 1
    unfold keyL
    rw [List.flatMap_cons, e3]
theorem Mapped_l0 (L : List S42) (hL : L.length ≤ 10) (W R : List (List UInt8)) (hW : W.length ≤ 1000000) (hWb : ∀ t ∈ W, t.length ≤ 1000) (hR : R.length ≤ 1000) (hRb : ∀ t ∈ R, t.length ≤ 1000) (hP : ∀ p ∈ L, MapP W.length p) : ∀ (n i : Nat) (out : List (List UInt8)), n + i = L.length → out.length ≤ 1000 * i → (∀ t ∈ out, t.length ≤ 2147483647) →
    Ev (fun k => spec_Mapped.l0 k L (W.map ba) (R.map ba) (out.map ba) (i : Int)) (ba (join (out ++ (L.drop i).flatMap (outM W R))))
  | 0, i, out, h, ho, hb => by
    have hj := join_len 2147483647 out hb
    have : 2147483648 * out.length ≤ 2147483648 * 10000 := Nat.mul_le_mul_left _ (by omega)
    refine Ev.step (fun k => by rw [spec_Mapped.l0, if_neg (by omega)]) ?_
    refine Ev.bind (Join_ev out (by omega) (by omega)) ?_
    rw [List.drop_eq_nil_of_le (by omega), List.flatMap_nil, List.append_nil]
    exact Ev.now _
  | n + 1, i, out, h, ho, hb => by
    obtain ⟨p, hp⟩ : ∃ p, L[i]? = some p := ⟨_, List.getElem?_eq_getElem (by omega)⟩
    have hPp := hP p (List.mem_of_getElem? hp)
    have hw := w1 (i := i) (by omega)
    have hz : (out.map ba).length < 8796093022208 := by rw [List.length_map]; omega
    have IH := fun (D : List (List UInt8)) (hD : D.length ≤ 1000) (hDb : ∀ t ∈ D, t.length ≤ 2147483647) => Mapped_l0 L hL W R hW hWb hR hRb hP n (i + 1) (out ++ D) (by omega) (by rw [List.length_append]; omega) (fun t ht => by
      rcases List.mem_append.1 ht with ht | ht
      · exact hb t ht
      exact hDb t ht)
    rw [drop_i hp, List.flatMap_cons, ← List.append_assoc]
    by_cases k0 : p.f0 = 0
    · have e : outM W R p = [p.f1.data.toList] := by unfold outM; rw [if_pos k0]
      rw [e]
      have := IH [p.f1.data.toList] (by simp) (fun t ht => by rw [List.mem_singleton.1 ht]; exact hPp.word)
      rw [List.map_append] at this
      refine Ev.step (fun k => by rw [spec_Mapped.l0, if_pos (by omega), if_pos (by omega), rdT hp, if_pos k0, if_pos hz, hw]; rfl) this
    by_cases k11 : p.f0 = 11
    · have e : outM W R p = R := by unfold outM; rw [if_neg k0, if_pos k11]
      rw [e]
      have := IH R hR (fun t ht => by have := hRb t ht; omega)
      rw [List.map_append] at this
      refine Ev.step (fun k => by rw [spec_Mapped.l0, if_pos (by omega), if_pos (by omega), rdT hp, if_neg k0, if_pos k11, if_pos (by rw [List.length_map, List.length_map]; omega), hw]) this
    by_cases k10 : p.f0 = 10
    · have e : outM W R p = [numB (fnvB (keyL W p.f4) % p.f3.toNat)] := by unfold outM; rw [if_neg k0, if_neg k11, if_pos k10]
      rw [e]
      have := IH [numB (fnvB (keyL W p.f4) % p.f3.toNat)] (by simp) (fun t ht => by rw [List.mem_singleton.1 ht]; have := numB_len (fnvB (keyL W p.f4) % p.f3.toNat); omega)
      obtain ⟨g1, g2, g3⟩ := hPp.part k10
      refine Ev.step (fun k => by rw [spec_Mapped.l0, if_pos (by omega), if_pos (by omega), rdT hp, if_neg k0, if_neg k11, if_pos k10]) ?_
      exact Mapped_l1 L W R out hW hWb i (by omega) (by omega) p ⟨g1, hPp.f3.2⟩ g2 g3 _ _ ⟨rfl⟩ this p.f4.length 0 [] rfl (by simp) (by rw [List.drop_zero, List.nil_append])
    obtain ⟨q, t, e1, e2, e3, e4⟩ := wild_at hW (hPp.one k0 k11 k10)
    have E1 := Aside0.mk e1
    clear e1
    have htb := hWb t (List.mem_of_getElem? e2)
    have e : outM W R p = [pieceL p t] := by unfold outM; rw [if_neg k0, if_neg k11, if_neg k10, e3]
    rw [e]
    have := IH [pieceL p t] (by simp) (fun u hu => by rw [List.mem_singleton.1 hu]; have := pieceL_len p t; omega)
    rw [List.map_append] at this
    refine Ev.step (fun k => by rw [spec_Mapped.l0, if_pos (by omega), if_pos (by omega), rdT hp, if_neg k0, if_neg k11, if_neg k10, E1.out, if_pos (by omega), if_pos (by rw [List.length_map]; omega), rdB e2]) ?_
    refine Ev.bind (Piece_ev p t hPp.f3 (by omega) hPp.sp) (Ev.congr (fun k => by rw [if_pos hz, hw]; rfl) this)
theorem Mapped_ev (sl ul : List UInt8) (h1 : sl.length ≤ 100000) (h2 : ul.length ≤ 100000) (L : List S42) (hL : L.length ≤ 10) (hTb : (toks ul).length ≤ 1000 ∧ ∀ t ∈ toks ul, t.length ≤ 1000)
    (hW : (takW (toks sl) (toks ul)).length ≤ 1000000) (hR : (takR (toks sl) (toks ul)).length ≤ 1000) (hP : ∀ p ∈ L, MapP (takW (toks sl) (toks ul)).length p) :
    Ev (fun k => spec_Mapped.f k (ba sl) L (ba ul)) (ba (join (L.flatMap (outM (takW (toks sl) (toks ul)) (takR (toks sl) (toks ul)))))) := by
  refine Ev.congr (fun k => by rw [spec_Mapped.f]) (Ev.bind (Taken_ev sl ul h1 h2) ?_)
  have := Mapped_l0 L hL (takW (toks sl) (toks ul)) (takR (toks sl) (toks ul)) hW (fun t ht => hTb.2 t (takW_mem _ _ t ht)) hR (fun t ht => hTb.2 t (takR_mem _ _ t ht)) hP L.length 0 [] rfl (by simp) (by simp)
  rw [List.drop_zero, List.nil_append] at this
  exact this
structure SplitOk (by_ : UInt8) (t : List UInt8) : Prop where
  other : ∃ c ∈ t, c ≠ by_
  two : ∀ r, t ≠ by_ :: by_ :: r
theorem splits_l2 (L : List S42) (T : List (List UInt8)) (hT : T.length ≤ 1000000) (hTb : ∀ t ∈ T, t.length ≤ 1000000) (i m : Nat) (by_ : UInt8) (t : List UInt8) (ht : T[m]? = some t) {F : Prop} (S : Said (fun k => laws_splits.l1 k L (T.map ba) (i : Int) ((m + 1 : Nat) : Int)) F) :
    ∀ (n j : Nat) (o : Bool), n + j = t.length → (o = true → ∃ c ∈ t, c ≠ by_) → Said (fun k => laws_splits.l2 k L (T.map ba) (i : Int) (m : Int) (by_.toNat : Int) o (j : Int)) (F ∧ SplitOk by_ t)
  | n + 1, j, o, h, ho => by
    have hlm := (List.getElem?_eq_some_iff.1 ht).1
    have hlt := hTb t (List.mem_of_getElem? ht)
    obtain ⟨c, hc⟩ : ∃ c, t[j]? = some c := ⟨_, List.getElem?_eq_getElem (by omega)⟩
    have hw := w1 (i := j) (by omega)
    cases o with
    | true =>
      exact Said.step (fun k => by rw [laws_splits.l2, if_pos (by omega), if_pos (by rw [List.length_map]; omega), rdB ht, if_pos (by rw [ba_size]; omega), if_pos rfl, hw]) (splits_l2 L T hT hTb i m by_ t ht S n (j + 1) true (by omega) ho)
    | false =>
      refine Said.step (fun k => by rw [laws_splits.l2, if_pos (by omega), if_pos (by rw [List.length_map]; omega), rdB ht, if_pos (by rw [ba_size]; omega), if_neg (by decide), if_pos (by omega), bt_i hc, hw]) (splits_l2 L T hT hTb i m by_ t ht S n (j + 1) _ (by omega) fun e => ⟨c, List.mem_of_getElem? hc, fun e2 => ?_⟩)
      rw [e2] at e
      simp at e
  | 0, j, o, h, ho => by
    have hlm := (List.getElem?_eq_some_iff.1 ht).1
    have hlt := hTb t (List.mem_of_getElem? ht)
    have hw := w1 (i := m) (by omega)
    have hsz : ((ba t).size : Int) = t.length := by rw [ba_size]
    cases o with
    | false => exact Said.step (fun k => by rw [laws_splits.l2, if_pos (by omega), if_pos (by rw [List.length_map]; omega), rdB ht, if_neg (by rw [ba_size]; omega), if_neg (by decide)]) Said.no
    | true =>
      by_cases h1 : t.length > 1
      · obtain ⟨a, b, r, rfl⟩ : ∃ a b r, t = a :: b :: r := by
          match t, h1 with
          | a :: b :: r, _ => exact ⟨a, b, r, rfl⟩
        have b0 : bt (ba (a :: b :: r)) 0 = (a.toNat : Int) := bt_i (i := 0) rfl
        have b1 : bt (ba (a :: b :: r)) 1 = (b.toNat : Int) := bt_i (i := 1) rfl
        by_cases ea : a = by_
        · by_cases eb : b = by_
          · exact Said.step (fun k => by rw [laws_splits.l2, if_pos (by omega), if_pos (by rw [List.length_map]; omega), rdB ht, if_neg (by rw [ba_size]; omega), if_pos rfl, if_pos (by omega), if_pos (by omega), b0, if_pos (by rw [ea]), if_pos (by omega), b1, if_pos (by rw [eb])]) Said.no
          exact Said.step (fun k => by rw [laws_splits.l2, if_pos (by omega), if_pos (by rw [List.length_map]; omega), rdB ht, if_neg (by rw [ba_size]; omega), if_pos rfl, if_pos (by omega), if_pos (by omega), b0, if_pos (by rw [ea]), if_pos (by omega), b1, if_neg (fun e => eb (UInt8.toNat_inj.1 (by omega))), hw]) (S.mono fun f => ⟨f, ho rfl, fun r' e => eb (by injection e with e1 e2; injection e2)⟩)
        exact Said.step (fun k => by rw [laws_splits.l2, if_pos (by omega), if_pos (by rw [List.length_map]; omega), rdB ht, if_neg (by rw [ba_size]; omega), if_pos rfl, if_pos (by omega), if_pos (by omega), b0, if_neg (fun e => ea (UInt8.toNat_inj.1 (by omega))), hw]) (S.mono fun f => ⟨f, ho rfl, fun r' e => ea (by injection e)⟩)
      exact Said.step (fun k => by rw [laws_splits.l2, if_pos (by omega), if_pos (by rw [List.length_map]; omega), rdB ht, if_neg (by rw [ba_size]; omega), if_pos rfl, if_neg (by omega), hw]) (S.mono fun f => ⟨f, ho rfl, fun r' e => h1 (by rw [e]; simp)⟩)
theorem splits_l1 (L : List S42) (T : List (List UInt8)) (hT : T.length ≤ 1000000) (hTb : ∀ t ∈ T, t.length ≤ 1000000) (i : Nat) (hi : i ≤ 1000000) (p : S42) (hp : L[i]? = some p) (hsp : p.f0 = 3 → p.f1.data.toList ≠ []) {F : Prop} (S : Said (fun k => laws_splits.l0 k L (T.map ba) ((i + 1 : Nat) : Int)) F) :
    ∀ (n m : Nat), n + m = T.length → Said (fun k => laws_splits.l1 k L (T.map ba) (i : Int) (m : Int)) (F ∧ (p.f0 = 3 → ∀ j t, m ≤ j → T[j]? = some t → SplitOk (sepOf p) t))
  | 0, m, h => by
    have hil := (List.getElem?_eq_some_iff.1 hp).1
    have hw := w1 (i := i) (by omega)
    refine Said.step (fun k => by rw [laws_splits.l1, if_neg (by rw [List.length_map]; omega)]) ?_
    exact Said.step (fun k => by rw [laws_splits.j2, if_neg (by decide), hw]) (S.mono fun f => ⟨f, fun _ j t hj ht => by have := (List.getElem?_eq_some_iff.1 ht).1; omega⟩)
  | n + 1, m, h => by
    have hil := (List.getElem?_eq_some_iff.1 hp).1
    have hw := w1 (i := i) (by omega)
    obtain ⟨t, ht⟩ : ∃ t, T[m]? = some t := ⟨_, List.getElem?_eq_getElem (by omega)⟩
    refine Said.step (fun k => by rw [laws_splits.l1, if_pos (by rw [List.length_map]; omega), if_pos (by omega), if_pos (by omega), rdT hp]) ?_
    by_cases k3 : p.f0 = 3
    · obtain ⟨e1, e2⟩ := sep_bt (hsp k3)
      refine Said.step (fun k => by rw [laws_splits.j2, if_pos (show (p.f0 == 3) = true by rw [beq_iff_eq]; exact k3), if_pos (by omega), if_pos (by omega), rdT hp, if_pos e2, e1]) ?_
      refine (splits_l2 L T hT hTb i m (sepOf p) t ht (splits_l1 L T hT hTb i hi p hp hsp S n (m + 1) (by omega)) t.length 0 false rfl (fun e => by cases e)).mono fun q => ⟨q.1.1, fun _ j u hj hu => ?_⟩
      by_cases e : j = m
      · rw [e, ht] at hu
        injection hu with hu
        rw [← hu]
        exact q.2
      exact q.1.2 k3 j u (by omega) hu
    exact Said.step (fun k => by rw [laws_splits.j2, if_neg (show ¬ (p.f0 == 3) = true by rw [beq_iff_eq]; exact k3), hw]) (S.mono fun f => ⟨f, fun e => absurd e k3⟩)
theorem splits_l0 (L : List S42) (hL : L.length ≤ 1000) (T : List (List UInt8)) (hT : T.length ≤ 1000000) (hTb : ∀ t ∈ T, t.length ≤ 1000000) (hsp : ∀ p ∈ L, p.f0 = 3 → p.f1.data.toList ≠ []) : ∀ (n i : Nat), n + i = L.length → Said (fun k => laws_splits.l0 k L (T.map ba) (i : Int)) (∀ j p, i ≤ j → L[j]? = some p → p.f0 = 3 → ∀ t ∈ T, SplitOk (sepOf p) t)
  | 0, i, h => Said.step (fun k => by rw [laws_splits.l0, if_neg (by omega)]) (Said.yes fun j p hj hp => by have := (List.getElem?_eq_some_iff.1 hp).1; omega)
  | n + 1, i, h => by
    obtain ⟨p, hp⟩ : ∃ p, L[i]? = some p := ⟨_, List.getElem?_eq_getElem (by omega)⟩
    refine Said.step (fun k => by rw [laws_splits.l0, if_pos (by omega)]; rfl) ((splits_l1 L T hT hTb i (by omega) p hp (hsp p (List.mem_of_getElem? hp)) (splits_l0 L hL T hT hTb hsp n (i + 1) (by omega)) T.length 0 (by omega)).mono fun q j r hj hr => ?_)
    by_cases e : j = i
    · rw [e, hp] at hr
      injection hr with hr
      subst hr
      intro k3 t ht
      obtain ⟨x, hx, rfl⟩ := List.getElem_of_mem ht
      exact q.2 k3 x _ (Nat.zero_le _) (List.getElem?_eq_getElem hx)
    exact q.1 j r (by omega) hr
theorem splits_said (L : List S42) (hL : L.length ≤ 1000) (ul : List UInt8) (hul : ul.length ≤ 100000) (hTb : ∀ t ∈ toks ul, t.length ≤ 1000000) (hsp : ∀ p ∈ L, p.f0 = 3 → p.f1.data.toList ≠ []) : Said (fun k => laws_splits.f k L (ba ul)) (∀ p ∈ L, p.f0 = 3 → ∀ t ∈ toks ul, SplitOk (sepOf p) t) := by
  have c2 := List.count_le_length (a := (46 : UInt8)) (l := ul)
  obtain ⟨b, h1, h2⟩ := splits_l0 L hL (toks ul) (by rw [toks_len]; omega) hTb hsp L.length 0 rfl
  refine ⟨b, Ev.congr (fun k => by rw [laws_splits.f]) (Ev.bind (Tokens_ev ul (by omega)) h1), fun e p hp => ?_⟩
  obtain ⟨j, hj, rfl⟩ := List.getElem_of_mem hp
  exact h2 e j _ (Nat.zero_le _) (List.getElem?_eq_getElem hj)
end Go.Proofs.YtoopmpjgmgffoaaDoor.PlFnTransformBack
