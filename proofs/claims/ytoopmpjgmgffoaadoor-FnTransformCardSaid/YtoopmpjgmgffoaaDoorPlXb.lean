/- The pieces of a token: the specification's functions, plainly, and that the program's ways give the same. -/
import Derived.Test.YtoopmpjgmgffoaaDoorPlXa
namespace Go.Proofs.YtoopmpjgmgffoaaDoor.PlFnTransformBack
open Go.RowKit Go.Proofs.YtoopmpjgmgffoaaDoorW.PrintWords Go.Proofs.YtoopmpjgmgffoaaDoorW.PrintLast Go.Proofs.YtoopmpjgmgffoaaDoorW.PrintMore Go.Proofs.YtoopmpjgmgffoaaDoor.Pl Go.Proofs.YtoopmpjgmgffoaaDoor.Bs Go.Proofs.YtoopmpjgmgffoaaDoor.GFnTransformBack Go.Proofs.YtoopmpjgmgffoaaDoor.Tr
set_option linter.unusedVariables false
set_option linter.unusedSimpArgs false
theorem bt_i {l : List UInt8} {i : Nat} {c : UInt8} (h : l[i]? = some c) : bt (ba l) (i : Int) = (c.toNat : Int) := by
  rw [ba_bt, Int.toNat_natCast, List.getD_eq_getElem?_getD, h]; rfl
theorem drop_i {α : Type} {l : List α} {i : Nat} {c : α} (h : l[i]? = some c) : l.drop i = c :: l.drop (i + 1) := by
  have hlt := (List.getElem?_eq_some_iff.1 h).1
  rw [List.drop_eq_getElem_cons hlt]
  congr 1
  exact Option.some.inj ((List.getElem?_eq_getElem hlt).symm.trans h)
theorem ext_i {l : List UInt8} {i : Nat} {c : UInt8} (h : l[i]? = some c) : (ba l).extract (i : Int).toNat ((i + 1 : Nat) : Int).toNat = ba [c] := by
  have hlt := (List.getElem?_eq_some_iff.1 h).1
  rw [Int.toNat_natCast, Int.toNat_natCast, ba_extract]
  congr 1
  rw [List.take_add_one, h, List.drop_append_of_le_length (by rw [List.length_take]; omega), List.drop_eq_nil_of_le (by rw [List.length_take]; omega)]
  rfl
theorem Fnv_l0 (l : List UInt8) (hl : l.length ≤ 140737488351232) : ∀ (n i h : Nat), n + i = l.length → h < 4294967296 → Ev (fun k => spec_Fnv.l0 k (ba l) (h : Int) (i : Int)) (((l.drop i).foldl fnvS h : Nat) : Int)
  | 0, i, h, hi, hh => by
    refine Ev.step (fun k => by rw [spec_Fnv.l0, if_neg (by rw [ba_size]; omega)]) ?_
    rw [List.drop_eq_nil_of_le (by omega)]
    exact Ev.now _
  | n + 1, i, h, hi, hh => by
    obtain ⟨c, hc⟩ : ∃ c, l[i]? = some c := ⟨_, List.getElem?_eq_getElem (by omega)⟩
    have hw := w1 (i := i) (by omega)
    have hcl := c.toNat_lt
    have e : (Go.bits .xor .u32 (h : Int) ((bt (ba l) (i : Int)) % 4294967296) * 16777619) % 4294967296 = ((fnvS h c : Nat) : Int) := by
      rw [bt_i hc, show ((c.toNat : Int) % 4294967296) = (c.toNat : Int) by omega, u32_xor_nat h c.toNat hh (by omega)]
      unfold fnvS
      omega
    refine Ev.step (fun k => by rw [spec_Fnv.l0, if_pos (by rw [ba_size]; omega), if_pos (by omega), e, hw]) ?_
    rw [drop_i hc, List.foldl_cons]
    exact Fnv_l0 l hl n (i + 1) (fnvS h c) (by omega) (Nat.mod_lt _ (by decide))
theorem Fnv_ev (l : List UInt8) (hl : l.length ≤ 140737488351232) : Ev (fun k => spec_Fnv.f k (ba l)) ((fnvB l : Nat) : Int) := by
  have := Fnv_l0 l hl l.length 0 2166136261 rfl (by decide)
  exact this
def fl (out piece : List UInt8) : List UInt8 := if piece = [] then out else if out = [] then piece else out ++ 46 :: piece
theorem fl_nil (out : List UInt8) : fl out [] = out := by unfold fl; rw [if_pos rfl]
theorem fl_first {p : List UInt8} (h : p ≠ []) : fl [] p = p := by unfold fl; rw [if_neg h, if_pos rfl]
theorem fl_more {out p : List UInt8} (h0 : out ≠ []) (h : p ≠ []) : fl out p = out ++ 46 :: p := by unfold fl; rw [if_neg h, if_neg h0]
theorem split_l0 (by_ : UInt8) (l : List UInt8) (hl : l.length ≤ 1000000) : ∀ (n i : Nat) (out piece : List UInt8), n + i = l.length → out.length + piece.length ≤ 2 * i →
    Ev (fun k => spec_split.l0 k (ba l) (by_.toNat : Int) (ba out) (ba piece) (i : Int)) (ba ((toksC by_ piece (l.drop i)).foldl fl out))
  | n, i, out, piece, hi, ho => by
    have hw := w1 (i := i) (by omega)
    have stop : ∀ (F : ByteArray), (∀ k, spec_split.l0 (k + 1) (ba l) (by_.toNat : Int) F (⟨#[]⟩ : ByteArray) ((l.length + 1 : Nat) : Int) = some F) := fun F k => by
      rw [spec_split.l0, if_neg (by rw [ba_size]; omega)]
    have eb : (⟨#[]⟩ : ByteArray) = ba [] := rfl
    have e46 : (⟨#[46]⟩ : ByteArray) = ba [46] := rfl
    have flush : ∀ (q : Nat) (hq : i = q) , ∀ {r : ByteArray}, Ev (fun k => spec_split.l0 k (ba l) (by_.toNat : Int) (ba (fl out piece)) (ba []) ((i + 1 : Nat) : Int)) r → Ev (fun k => spec_split.j1 k (ba l) (by_.toNat : Int) (ba out) (ba piece) (i : Int) false) r := fun q hq r H => by
      by_cases c1 : piece = []
      · refine Ev.step (fun k => by rw [spec_split.j1, if_neg (by decide), ba_toList, if_pos c1, if_pos (by rw [ba_size, ba_size]; omega), ba_append, hw, eb]) ?_
        rw [show fl out piece = out ++ piece by unfold fl; rw [if_pos c1, c1, List.append_nil]] at H
        exact H
      by_cases c2 : out = []
      · refine Ev.step (fun k => by rw [spec_split.j1, if_neg (by decide), ba_toList, if_neg c1, ba_toList, if_pos c2, if_pos (by rw [ba_size, ba_size]; omega), ba_append, hw, eb]) ?_
        rw [show fl out piece = out ++ piece by unfold fl; rw [if_neg c1, if_pos c2, c2, List.nil_append]] at H
        exact H
      refine Ev.step (fun k => by rw [spec_split.j1, if_neg (by decide), ba_toList, if_neg c1, ba_toList, if_neg c2, if_pos (by rw [ba_size]; omega), e46, ba_append, if_pos (by rw [ba_size, ba_size, List.length_append]; simp; omega), ba_append, hw, eb]) ?_
      rw [show fl out piece = out ++ [46] ++ piece by unfold fl; rw [if_neg c1, if_neg c2]; simp] at H
      exact H
    have hfl : (fl out piece).length + ([] : List UInt8).length ≤ 2 * (i + 1) := by
      unfold fl
      split
      · simp; omega
      split
      · simp; omega
      simp; omega
    match n with
    | 0 =>
      have hil : i = l.length := by omega
      refine Ev.step (fun k => by rw [spec_split.l0, if_pos (by rw [ba_size]; omega), if_neg (by rw [ba_size]; omega)]) ?_
      refine flush i rfl ?_
      rw [List.drop_eq_nil_of_le (by omega)]
      refine Ev.step (f := fun _ => some (ba (fl out piece))) (fun k => ?_) (Ev.now _)
      have := stop (ba (fl out piece)) k
      rw [hil]
      exact this
    | n + 1 =>
      obtain ⟨c, hc⟩ : ∃ c, l[i]? = some c := ⟨_, List.getElem?_eq_getElem (by omega)⟩
      refine Ev.step (fun k => by rw [spec_split.l0, if_pos (by rw [ba_size]; omega), if_pos (by rw [ba_size]; omega), if_pos (by omega), bt_i hc]) ?_
      rw [drop_i hc]
      by_cases e : c = by_
      · subst e
        rw [show ((c.toNat : Int) != (c.toNat : Int)) = false by simp, toksC_dot, List.foldl_cons]
        exact flush i rfl (split_l0 c l hl n (i + 1) (fl out piece) [] (by omega) hfl)
      have hne : ((c.toNat : Int) != (by_.toNat : Int)) = true := by
        rw [bne_iff_ne]
        intro h
        exact e (UInt8.toNat_inj.1 (by omega))
      rw [hne, toksC_other by_ _ e]
      refine Ev.step (fun k => by rw [spec_split.j1, if_pos rfl, if_pos (by omega), hw, if_pos (by omega), if_pos (by rw [ba_size]; omega), ext_i hc, if_pos (by rw [ba_size, ba_size]; simp; omega), ba_append]) ?_
      exact split_l0 by_ l hl n (i + 1) out (piece ++ [c]) (by omega) (by simp; omega)
theorem split_ev (by_ : UInt8) (l : List UInt8) (hl : l.length ≤ 1000000) : Ev (fun k => spec_split.f k (ba l) (by_.toNat : Int)) (ba ((toksC by_ [] l).foldl fl [])) :=
  split_l0 by_ l hl l.length 0 [] [] rfl (by simp)
theorem spB_fl (D : List (List UInt8)) (h : ∀ (h2 : 2 ≤ D.length), ¬ (D.getD 0 [] = [] ∧ D.getD 1 [] = [])) : ∀ j, j ≤ D.length → spB D j = (D.take j).foldl fl [] ++ (if 0 < j ∧ j < D.length ∧ D.getD j [] ≠ [] ∧ ¬ (j = 1 ∧ D.getD 0 [] = []) then [46] else [])
  | 0, _ => by simp [spB]
  | j + 1, hj => by
    obtain ⟨t, ht⟩ : ∃ t, D[j]? = some t := ⟨_, List.getElem?_eq_getElem (by omega)⟩
    have etk : D.take (j + 1) = D.take j ++ [t] := by rw [List.take_add_one, ht]; rfl
    have eg : D.getD j [] = t := by rw [List.getD_eq_getElem?_getD, ht]; rfl
    rw [spB, spB_fl D h j (by omega), etk, List.foldl_append, eg]
    show _ = fl _ t ++ _
    have hA : 0 < j → (t ≠ []) → ((D.take j).foldl fl [] ≠ [] ↔ ¬ (j = 1 ∧ D.getD 0 [] = [])) := fun h0 ht0 => by
      have key : ∀ (E : List (List UInt8)) (acc : List UInt8), (E.foldl fl acc ≠ [] ↔ (acc ≠ [] ∨ ∃ p ∈ E, p ≠ [])) := by
        intro E
        induction E with
        | nil => intro acc; simp
        | cons p E ih =>
          intro acc
          rw [List.foldl_cons, ih]
          have : fl acc p ≠ [] ↔ (acc ≠ [] ∨ p ≠ []) := by
            unfold fl
            by_cases c1 : p = []
            · rw [if_pos c1, c1]; simp
            rw [if_neg c1]
            by_cases c2 : acc = []
            · rw [if_pos c2]; simp [c1, c2]
            rw [if_neg c2]; simp [c1, c2]
          rw [this]
          constructor
          · rintro ((h | h) | ⟨q, hq, h⟩)
            · exact .inl h
            · exact .inr ⟨p, List.mem_cons_self, h⟩
            exact .inr ⟨q, List.mem_cons_of_mem _ hq, h⟩
          rintro (h | ⟨q, hq, h⟩)
          · exact .inl (.inl h)
          rcases List.mem_cons.1 hq with rfl | hq
          · exact .inl (.inr h)
          exact .inr ⟨q, hq, h⟩
      rw [key]
      obtain ⟨u, hu⟩ : ∃ u, D[0]? = some u := ⟨_, List.getElem?_eq_getElem (by omega)⟩
      have e0 : D.getD 0 [] = u := by rw [List.getD_eq_getElem?_getD, hu]; rfl
      have m0 : u ∈ D.take j := List.mem_iff_getElem?.2 ⟨0, by rw [List.getElem?_take_of_lt h0, hu]⟩
      rw [e0]
      constructor
      · rintro (h1 | ⟨p, hp, h1⟩)
        · exact absurd rfl h1
        rintro ⟨rfl, h2⟩
        have : D.take 1 = [u] := by rw [List.take_add_one, hu]; rfl
        rw [this, List.mem_singleton] at hp
        rw [hp] at h1
        exact h1 h2
      intro h1
      right
      by_cases hu0 : u = []
      · have hj2 : 2 ≤ j := by
          rcases Nat.lt_or_ge j 2 with h2 | h2
          · exact absurd ⟨by omega, hu0⟩ h1
          exact h2
        obtain ⟨v, hv⟩ : ∃ v, D[1]? = some v := ⟨_, List.getElem?_eq_getElem (by omega)⟩
        have e1 : D.getD 1 [] = v := by rw [List.getD_eq_getElem?_getD, hv]; rfl
        have := h (by omega)
        rw [e0, e1] at this
        exact ⟨v, List.mem_iff_getElem?.2 ⟨1, by rw [List.getElem?_take_of_lt (by omega), hv]⟩, fun hv0 => this ⟨hu0, hv0⟩⟩
      exact ⟨u, m0, hu0⟩
    have last : (if j + 1 < D.length ∧ D.getD (j + 1) [] ≠ [] ∧ ¬ (j = 0 ∧ t = []) then ([46] : List UInt8) else []) = (if 0 < j + 1 ∧ j + 1 < D.length ∧ D.getD (j + 1) [] ≠ [] ∧ ¬ (j + 1 = 1 ∧ D.getD 0 [] = []) then [46] else []) := by
      have : (j + 1 < D.length ∧ D.getD (j + 1) [] ≠ [] ∧ ¬ (j = 0 ∧ t = [])) ↔ (0 < j + 1 ∧ j + 1 < D.length ∧ D.getD (j + 1) [] ≠ [] ∧ ¬ (j + 1 = 1 ∧ D.getD 0 [] = [])) := by
        constructor
        · rintro ⟨a, b, c⟩
          refine ⟨by omega, a, b, fun ⟨d, e⟩ => c ⟨by omega, ?_⟩⟩
          have : j = 0 := by omega
          subst this
          rw [← eg]; exact e
        rintro ⟨_, a, b, c⟩
        refine ⟨a, b, fun ⟨d, e⟩ => c ⟨by omega, ?_⟩⟩
        subst d
        rw [eg]; exact e
      simp only [this]
    rw [last, ← List.append_assoc]
    congr 1
    by_cases ht0 : t = []
    · rw [ht0, if_neg (fun h => h.2.2.1 rfl), List.append_nil, List.append_nil, fl_nil]
    by_cases h0 : 0 < j
    · have := hA h0 ht0
      by_cases hq : (D.take j).foldl fl [] = []
      · have hn : ¬ ((D.take j).foldl fl [] ≠ []) := fun h => h hq
        rw [this] at hn
        rw [if_neg (fun h => hn h.2.2.2), hq, fl_first ht0]
        rfl
      rw [if_pos ⟨h0, by omega, ht0, this.1 hq⟩]
      rw [fl_more hq ht0]
      simp
    have hj0 : j = 0 := by omega
    subst hj0
    rw [if_neg (fun h => h0 h.1)]
    show [] ++ [] ++ t = fl [] t
    rw [fl_first ht0]
    simp
theorem spB_eq (D : List (List UInt8)) (h : ∀ (h2 : 2 ≤ D.length), ¬ (D.getD 0 [] = [] ∧ D.getD 1 [] = [])) : spB D D.length = D.foldl fl [] := by
  rw [spB_fl D h _ (Nat.le_refl _), List.take_length, if_neg (fun h => by omega), List.append_nil]
def gF (z : Nat) : Nat → List UInt8 → List UInt8
  | _, [] => []
  | i, c :: r => (if 0 < i ∧ i % z = 0 then [46] else []) ++ c :: gF z (i + 1) r
def gR (z n : Nat) : Nat → List UInt8 → List UInt8
  | _, [] => []
  | i, c :: r => (if 0 < i ∧ (n - i) % z = 0 then [46] else []) ++ c :: gR z n (i + 1) r
theorem slices_l0 (l : List UInt8) (hl : l.length ≤ 1000000) (z : Nat) (hz : 1 ≤ z ∧ z ≤ 99) (right : Bool) : ∀ (n i : Nat) (out : List UInt8), n + i = l.length → out.length ≤ 2 * i →
    Ev (fun k => spec_slices.l0 k (ba l) (z : Int) right (ba out) (i : Int)) (ba (out ++ (if right = true then gR z l.length i (l.drop i) else gF z i (l.drop i))))
  | 0, i, out, hi, ho => by
    refine Ev.step (fun k => by rw [spec_slices.l0, if_neg (by rw [ba_size]; omega)]) ?_
    rw [List.drop_eq_nil_of_le (by omega)]
    refine Ev.det' (Ev.now _) ?_
    cases right <;> simp [gF, gR]
  | n + 1, i, out, hi, ho => by
    obtain ⟨c, hc⟩ : ∃ c, l[i]? = some c := ⟨_, List.getElem?_eq_getElem (by omega)⟩
    have hw := w1 (i := i) (by omega)
    have e46 : (⟨#[46]⟩ : ByteArray) = ba [46] := rfl
    have hz0 : ¬ ((z : Int) = 0) := by omega
    have hws : wrap64 (((ba l).size : Int) - (i : Int)) = ((l.length - i : Nat) : Int) := by rw [ba_size, w64 (by omega) (by omega)]; omega
    have IH := fun (o : List UInt8) (ho : o.length ≤ 2 * (i + 1)) => slices_l0 l hl z hz right n (i + 1) o (by omega) ho
    have tmod : ∀ a : Nat, (Int.tmod (a : Int) (z : Int) = 0 ↔ a % z = 0) := fun a => by
      rw [Int.tmod_eq_emod_of_nonneg (by omega)]
      omega
    have hdot : ∀ {r : ByteArray}, r = ba (out ++ [46] ++ [c] ++ (if right = true then gR z l.length (i + 1) (l.drop (i + 1)) else gF z (i + 1) (l.drop (i + 1)))) → Ev (fun k => spec_slices.l0 k (ba l) (z : Int) right (ba (out ++ [46] ++ [c])) ((i + 1 : Nat) : Int)) r := fun hr => hr ▸ IH _ (by simp; omega)
    have hno : ∀ {r : ByteArray}, r = ba (out ++ [c] ++ (if right = true then gR z l.length (i + 1) (l.drop (i + 1)) else gF z (i + 1) (l.drop (i + 1)))) → Ev (fun k => spec_slices.l0 k (ba l) (z : Int) right (ba (out ++ [c])) ((i + 1 : Nat) : Int)) r := fun hr => hr ▸ IH _ (by simp; omega)
    rw [drop_i hc]
    by_cases h0 : 0 < i
    · cases right with
      | true =>
        by_cases hm : (l.length - i) % z = 0
        · refine Ev.step (fun k => by rw [spec_slices.l0, if_pos (by rw [ba_size]; omega), if_pos (by omega), if_pos rfl, if_neg hz0, hws, if_pos ((tmod _).2 hm), if_pos (by rw [ba_size]; omega), if_pos (by omega), hw, if_pos (by omega), if_pos (by rw [ba_size]; omega), e46, ba_append, ext_i hc, if_pos (by rw [ba_size, ba_size]; simp; omega), ba_append]) (hdot ?_)
          simp [gR, h0, hm]
        refine Ev.step (fun k => by rw [spec_slices.l0, if_pos (by rw [ba_size]; omega), if_pos (by omega), if_pos rfl, if_neg hz0, hws, if_neg (fun h => hm ((tmod _).1 h)), if_pos (by omega), hw, if_pos (by omega), if_pos (by rw [ba_size]; omega), ext_i hc, if_pos (by rw [ba_size, ba_size]; simp; omega), ba_append]) (hno ?_)
        simp [gR, hm]
      | false =>
        by_cases hm : i % z = 0
        · refine Ev.step (fun k => by rw [spec_slices.l0, if_pos (by rw [ba_size]; omega), if_pos (by omega), if_neg (by decide), if_neg hz0, if_pos ((tmod _).2 hm), if_pos (by rw [ba_size]; omega), if_pos (by omega), hw, if_pos (by omega), if_pos (by rw [ba_size]; omega), e46, ba_append, ext_i hc, if_pos (by rw [ba_size, ba_size]; simp; omega), ba_append]) (hdot ?_)
          simp [gF, h0, hm]
        refine Ev.step (fun k => by rw [spec_slices.l0, if_pos (by rw [ba_size]; omega), if_pos (by omega), if_neg (by decide), if_neg hz0, if_neg (fun h => hm ((tmod _).1 h)), if_pos (by omega), hw, if_pos (by omega), if_pos (by rw [ba_size]; omega), ext_i hc, if_pos (by rw [ba_size, ba_size]; simp; omega), ba_append]) (hno ?_)
        simp [gF, hm]
    refine Ev.step (fun k => by rw [spec_slices.l0, if_pos (by rw [ba_size]; omega), if_neg (by omega), if_pos (by omega), hw, if_pos (by omega), if_pos (by rw [ba_size]; omega), ext_i hc, if_pos (by rw [ba_size, ba_size]; simp; omega), ba_append]) (hno ?_)
    cases right <;> simp [gF, gR, h0]
theorem slices_ev (l : List UInt8) (hl : l.length ≤ 1000000) (z : Nat) (hz : 1 ≤ z ∧ z ≤ 99) (right : Bool) : Ev (fun k => spec_slices.f k (ba l) (z : Int) right) (ba (if right = true then gR z l.length 0 l else gF z 0 l)) := by
  have := slices_l0 l hl z hz right l.length 0 [] rfl (by simp)
  exact this
theorem gF_run (z : Nat) (hz : 1 ≤ z) : ∀ (r : List UInt8) (i q : Nat), 0 < q → q ≤ z → i % z = z - q → gF z i r = (if q = z ∧ 0 < i ∧ r ≠ [] then [46] else []) ++ r.take q ++ gF z (i + q) (r.drop q)
  | [], i, q, h0, h1, hm => by simp [gF]
  | c :: r, i, q, h0, h1, hm => by
    have hd : (0 < i ∧ i % z = 0) ↔ (q = z ∧ 0 < i) := by
      rw [hm]
      constructor
      · rintro ⟨a, b⟩; exact ⟨by omega, a⟩
      rintro ⟨a, b⟩; exact ⟨b, by omega⟩
    rw [gF]
    by_cases hq : q = 1
    · subst hq
      simp only [hd, List.take_succ_cons, List.take_zero, List.drop_succ_cons, List.drop_zero, ne_eq, reduceCtorEq, not_false_eq_true, and_true]
      simp
    have hm2 : (i + 1) % z = z - (q - 1) := by
      have h3 : i = z * (i / z) + i % z := (Nat.div_add_mod i z).symm
      rw [h3, hm, Nat.add_assoc, Nat.mul_add_mod, Nat.mod_eq_of_lt (by omega)]
      omega
    have IH := gF_run z hz r (i + 1) (q - 1) (by omega) (by omega) hm2
    obtain ⟨q', rfl⟩ : ∃ q', q = q' + 1 := ⟨q - 1, by omega⟩
    rw [IH, if_neg (show ¬ (q' + 1 - 1 = z ∧ 0 < i + 1 ∧ r ≠ []) from fun h => by have := h.1; omega), List.take_succ_cons, List.drop_succ_cons]
    simp only [hd, ne_eq, reduceCtorEq, not_false_eq_true, and_true, Nat.add_sub_cancel]
    rw [show i + 1 + q' = i + (q' + 1) by omega]
    simp
theorem gF_slL (l : List UInt8) (z : Nat) (hz : 1 ≤ z) : ∀ (d j : Nat), l.length < d + j → j % z = 0 → j + z ≤ l.length → gF z j (l.drop j) = slL l z d j
  | 0, j, h, hm, hj => by omega
  | d + 1, j, h, hm, hj => by
    have hr := gF_run z hz (l.drop j) j z (by omega) (Nat.le_refl _) (by omega)
    have hne : l.drop j ≠ [] := by
      intro e
      have := congrArg List.length e
      rw [List.length_drop] at this
      have h0 : ([] : List UInt8).length = 0 := rfl
      omega
    have e1 : (l.take (j + z)).drop j = (l.drop j).take z := by rw [List.drop_take, Nat.add_sub_cancel_left]
    have e2 : (l.drop j).drop z = l.drop (j + z) := by rw [List.drop_drop]
    rw [hr, slL, if_pos hj, e1, e2]
    congr 1
    · congr 1
      by_cases h0 : j = 0
      · rw [if_neg (by omega), h0]
        rfl
      rw [if_pos ⟨rfl, by omega, hne⟩]
      unfold dotJ
      rw [if_neg h0]
    by_cases he : j + z = l.length
    · rw [if_neg (fun h => h.1 he), List.drop_eq_nil_of_le (by omega)]
      cases d with
      | zero => rfl
      | succ d => rw [slL, if_neg (by omega)]; rfl
    by_cases h2 : j + z + z > l.length
    · rw [if_pos ⟨he, h2⟩]
      have hr2 := gF_run z hz (l.drop (j + z)) (j + z) z (by omega) (Nat.le_refl _) (by rw [Nat.add_mod_right, hm]; omega)
      have hne2 : l.drop (j + z) ≠ [] := by
        intro e
        have := congrArg List.length e
        rw [List.length_drop] at this
        have h0 : ([] : List UInt8).length = 0 := rfl
        omega
      rw [hr2, if_pos ⟨rfl, by omega, hne2⟩, List.take_of_length_le (show (l.drop (j + z)).length ≤ z by rw [List.length_drop]; omega), (show (l.drop (j + z)).drop z = [] from List.drop_eq_nil_of_le (by rw [List.length_drop]; omega))]
      simp [gF]
    rw [if_neg (fun h => h2 h.2)]
    exact gF_slL l z hz d (j + z) (by omega) (by rw [Nat.add_mod_right]; exact hm) (by omega)
theorem p6_eq (l : List UInt8) (z : Nat) (hz : 1 ≤ z) (h : z < l.length) : p6 l z = gF z 0 l := by
  have := gF_slL l z hz (l.length + 1) 0 (by omega) (by simp) (by omega)
  rw [List.drop_zero] at this
  exact this.symm
theorem gR_run (z n : Nat) (hz : 1 ≤ z) : ∀ (r : List UInt8) (i q a : Nat), 0 < q → q ≤ z → i + r.length = n → n - i = z * a + q → gR z n i r = (if q = z ∧ 0 < i then [46] else []) ++ r.take q ++ gR z n (i + q) (r.drop q)
  | [], i, q, a, h0, h1, hl, hm => by
    have hl : i + 0 = n := hl
    omega
  | c :: r, i, q, a, h0, h1, hl, hm => by
    have hl : i + (r.length + 1) = n := hl
    have hd : (0 < i ∧ (n - i) % z = 0) ↔ (q = z ∧ 0 < i) := by
      have e : (n - i) % z = q % z := by rw [hm, Nat.mul_add_mod]
      rw [e]
      constructor
      · rintro ⟨x, y⟩
        refine ⟨?_, x⟩
        rcases Nat.lt_or_ge q z with h | h
        · rw [Nat.mod_eq_of_lt h] at y; omega
        omega
      rintro ⟨x, y⟩
      refine ⟨y, by rw [x]; exact Nat.mod_self z⟩
    rw [gR]
    by_cases hq : q = 1
    · subst hq
      simp only [hd, List.take_succ_cons, List.take_zero, List.drop_succ_cons, List.drop_zero]
      simp
    have IH := gR_run z n hz r (i + 1) (q - 1) a (by omega) (by omega) (by omega) (by omega)
    obtain ⟨q', rfl⟩ : ∃ q', q = q' + 1 := ⟨q - 1, by omega⟩
    rw [IH, if_neg (show ¬ (q' + 1 - 1 = z ∧ 0 < i + 1) from fun h => by have := h.1; omega), List.take_succ_cons, List.drop_succ_cons]
    simp only [hd, Nat.add_sub_cancel]
    rw [show i + 1 + q' = i + (q' + 1) by omega]
    simp
theorem gR_srL (l : List UInt8) (z : Nat) (hz : 1 ≤ z) : ∀ (d i a : Nat), l.length < d + i → i ≤ l.length → l.length - i = z * a → gR z l.length i (l.drop i) = (if 0 < i ∧ i < l.length then [46] else []) ++ srL l z d i
  | 0, i, a, h, hi, ha => by omega
  | d + 1, i, a, h, hi, ha => by
    by_cases he : i = l.length
    · rw [List.drop_eq_nil_of_le (by omega), if_neg (by omega), srL, if_neg (by omega)]
      rfl
    obtain ⟨a', rfl⟩ : ∃ a', a = a' + 1 := ⟨a - 1, by
      rcases a with _ | a
      · simp at ha; omega
      rfl⟩
    rw [Nat.mul_add, Nat.mul_one] at ha
    have hr := gR_run z l.length hz (l.drop i) i z a' (by omega) (Nat.le_refl _) (by rw [List.length_drop]; omega) ha
    have e1 : (l.take (i + z)).drop i = (l.drop i).take z := by rw [List.drop_take, Nat.add_sub_cancel_left]
    have e2 : (l.drop i).drop z = l.drop (i + z) := by rw [List.drop_drop]
    rw [hr, srL, if_pos (show i + z ≤ l.length by omega), e1, e2, gR_srL l z hz d (i + z) a' (by omega) (by omega) (by omega)]
    have c1 : (if z = z ∧ 0 < i then ([46] : List UInt8) else []) = (if 0 < i ∧ i < l.length then [46] else []) := by
      by_cases h0 : 0 < i
      · rw [if_pos ⟨rfl, h0⟩, if_pos ⟨h0, by omega⟩]
      rw [if_neg (fun h => h0 h.2), if_neg (fun h => h0 h.1)]
    have c2 : (if 0 < i + z ∧ i + z < l.length then ([46] : List UInt8) else []) = (if i + z < l.length then [46] else []) := by
      by_cases h0 : i + z < l.length
      · rw [if_pos h0, if_pos ⟨by omega, h0⟩]
      rw [if_neg h0, if_neg (fun h => h0 h.2)]
    rw [c1, c2]
    simp
theorem p7_eq (l : List UInt8) (z : Nat) (hz : 1 ≤ z) (h : z < l.length) : p7 l z = gR z l.length 0 l := by
  have hrz : l.length % z < z := Nat.mod_lt _ (by omega)
  have hdm := Nat.div_add_mod l.length z
  have hs := gR_srL l z hz (l.length + 1) (l.length % z) (l.length / z) (by omega) (Nat.mod_le _ _) (by omega)
  unfold p7
  by_cases h0 : 0 < l.length % z
  · have hr := gR_run z l.length hz l 0 (l.length % z) (l.length / z) h0 (by omega) (by omega) (by omega)
    rw [if_pos ⟨h0, by omega⟩] at hs
    rw [if_pos h0, hr, if_neg (by omega), Nat.zero_add, hs]
    simp
  have h1 : l.length % z = 0 := by omega
  rw [h1, List.drop_zero, if_neg (by omega)] at hs
  rw [if_neg h0, hs, h1]
end Go.Proofs.YtoopmpjgmgffoaaDoor.PlFnTransformBack
