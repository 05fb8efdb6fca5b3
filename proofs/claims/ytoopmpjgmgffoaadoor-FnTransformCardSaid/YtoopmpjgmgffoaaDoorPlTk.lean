/- What the guards of a mapping say, plainly. -/
import Derived.Test.YtoopmpjgmgffoaaDoorPlTr
namespace Go.Proofs.YtoopmpjgmgffoaaDoor.PlFnTransformBack
open Go.RowKit Go.Proofs.YtoopmpjgmgffoaaDoorW.PrintWords Go.Proofs.YtoopmpjgmgffoaaDoorW.PrintLast Go.Proofs.YtoopmpjgmgffoaaDoorW.PrintMore Go.Proofs.YtoopmpjgmgffoaaDoor.Pl Go.Proofs.YtoopmpjgmgffoaaDoor.GFnTransformBack
set_option linter.unusedVariables false
set_option linter.unusedSimpArgs false
def Said (g : Nat → Option Bool) (F : Prop) : Prop := ∃ b, Ev g b ∧ (b = true → F)
theorem Said.step {g g' : Nat → Option Bool} {F : Prop} (h : ∀ k, g (k + 1) = g' k) (s : Said g' F) : Said g F := by
  obtain ⟨b, h1, h2⟩ := s
  exact ⟨b, Ev.step h h1, h2⟩
theorem Said.congr {g g' : Nat → Option Bool} {F : Prop} (h : ∀ k, g k = g' k) (s : Said g' F) : Said g F := by
  obtain ⟨b, h1, h2⟩ := s
  exact ⟨b, Ev.congr h h1, h2⟩
theorem Said.no {F : Prop} : Said (fun _ => some false) F := ⟨false, Ev.now _, fun h => by cases h⟩
theorem Said.yes {F : Prop} (h : F) : Said (fun _ => some true) F := ⟨true, Ev.now _, fun _ => h⟩
theorem Said.mono {g : Nat → Option Bool} {F F' : Prop} (s : Said g F) (h : F → F') : Said g F' := by
  obtain ⟨b, h1, h2⟩ := s
  exact ⟨b, h1, fun e => h (h2 e)⟩
theorem Said.bind {g g' : Nat → Option Bool} {F F' : Prop} (s : Said g F) (h : F → Said g' F') : Said (fun k => (g k).bind fun t => if t = true then g' k else some false) F' := by
  obtain ⟨b, h1, h2⟩ := s
  cases b with
  | false => exact ⟨false, Ev.bind h1 (Ev.now _), fun e => by cases e⟩
  | true =>
    obtain ⟨b', h3, h4⟩ := h (h2 rfl)
    exact ⟨b', Ev.bind h1 (Ev.congr (fun k => by rw [if_pos rfl]) h3), h4⟩
theorem Said.last {g : Nat → Option Bool} {F : Prop} (s : Said g F) : Said (fun k => (g k).bind fun t => some t) F := by
  obtain ⟨b, h1, h2⟩ := s
  exact ⟨b, Ev.bind h1 (Ev.now _), h2⟩
theorem rdT {L : List S42} {i : Nat} {p : S42} (h : L[i]? = some p) : rd_T42 L (i : Int) = p := by
  unfold rd_T42
  rw [Int.toNat_natCast, List.getD_eq_getElem?_getD, h]
  rfl
theorem rdI {L : List Int} {i : Nat} {p : Int} (h : L[i]? = some p) : rd L (i : Int) = p := by
  unfold rd
  rw [Int.toNat_natCast, List.getD_eq_getElem?_getD, h]
  rfl
theorem rdB {L : List (List UInt8)} {i : Nat} {p : List UInt8} (h : L[i]? = some p) : rdOf ByteArray.empty (L.map ba) (i : Int) = ba p := by
  rw [rdOf_ba, Int.toNat_natCast, List.getD_eq_getElem?_getD, h]
  rfl
theorem w1 {i : Nat} (h : i ≤ 140737488351232) : wrap64 ((i : Int) + 1) = ((i + 1 : Nat) : Int) := by rw [w64 (by omega) (by omega)]; omega
def letB (c : UInt8) : Bool := (decide (97 ≤ c.toNat) && decide (c.toNat ≤ 122)) || (decide (48 ≤ c.toNat) && decide (c.toNat ≤ 57))
theorem letters_l0 (l : List UInt8) (hl : l.length ≤ 140737488351232) : ∀ (n i : Nat), n + i = l.length → Said (fun k => spec_letters.l0 k (ba l) (i : Int)) (l ≠ [] ∧ ∀ j c, i ≤ j → l[j]? = some c → letB c = true)
  | 0, i, h => by
    refine Said.step (fun k => by rw [spec_letters.l0, if_neg (by rw [ba_size]; omega), ba_toList]) ?_
    cases l with
    | nil => exact Said.no
    | cons c l => exact Said.yes ⟨by simp, fun j c hj hc => by have := (List.getElem?_eq_some_iff.1 hc).1; omega⟩
  | n + 1, i, h => by
    obtain ⟨c, hc⟩ : ∃ c, l[i]? = some c := ⟨_, List.getElem?_eq_getElem (by omega)⟩
    have hb : bt (ba l) (i : Int) = (c.toNat : Int) := by rw [ba_bt, Int.toNat_natCast, List.getD_eq_getElem?_getD, hc]; rfl
    have IH := (letters_l0 l hl n (i + 1) (by omega)).mono (F' := letB c = true → (l ≠ [] ∧ ∀ j c, i ≤ j → l[j]? = some c → letB c = true)) (fun h hc' => ⟨h.1, fun j d hj hd => by
      by_cases e : j = i
      · subst e
        rw [hc] at hd
        injection hd with hd
        rw [← hd]
        exact hc'
      exact h.2 j d (by omega) hd⟩)
    have hw := w1 (i := i) (by omega)
    by_cases h1 : (c.toNat : Int) < 97
    · by_cases h2 : (c.toNat : Int) < 48
      · refine Said.step (fun k => by rw [spec_letters.l0, if_pos (by rw [ba_size]; omega), if_pos (by omega), hb, if_pos h1, if_pos h2]) Said.no
      by_cases h3 : (c.toNat : Int) > 57
      · refine Said.step (fun k => by rw [spec_letters.l0, if_pos (by rw [ba_size]; omega), if_pos (by omega), hb, if_pos h1, if_neg h2, if_pos h3]) Said.no
      refine Said.step (fun k => by rw [spec_letters.l0, if_pos (by rw [ba_size]; omega), if_pos (by omega), hb, if_pos h1, if_neg h2, if_neg h3, hw]) (IH.mono fun h => h ?_)
      unfold letB
      rw [decide_eq_true (p := 48 ≤ c.toNat) (by omega), decide_eq_true (p := c.toNat ≤ 57) (by omega)]
      simp
    by_cases h2 : (c.toNat : Int) > 122
    · refine Said.step (fun k => by rw [spec_letters.l0, if_pos (by rw [ba_size]; omega), if_pos (by omega), hb, if_neg h1, if_pos h2, if_neg (by omega), if_pos (by omega)]) Said.no
    refine Said.step (fun k => by rw [spec_letters.l0, if_pos (by rw [ba_size]; omega), if_pos (by omega), hb, if_neg h1, if_neg h2, hw]) (IH.mono fun h => h ?_)
    unfold letB
    rw [decide_eq_true (p := 97 ≤ c.toNat) (by omega), decide_eq_true (p := c.toNat ≤ 122) (by omega)]
    simp
theorem letters_said (s : ByteArray) (hs : s.size ≤ 140737488351232) : Said (fun k => spec_letters.f k s) (s.data.toList ≠ [] ∧ ∀ c ∈ s.data.toList, letB c = true) :=
  (letters_l0 s.data.toList hs _ 0 rfl).mono fun h => ⟨h.1, fun c hc => by
    obtain ⟨j, hj, rfl⟩ := List.getElem_of_mem hc
    exact h.2 j _ (Nat.zero_le _) (List.getElem?_eq_getElem hj)⟩
def SizeP (p : S42) : Prop := p.f1.size ≤ 2147483647 ∧ p.f4.length ≤ 2147483647
theorem fits_l0 (L : List S42) (hL : L.length ≤ 2147483647) : ∀ (n i : Nat), n + i = L.length → Said (fun k => laws_zzFits10.l0 k L (L.length : Int) (i : Int)) (∀ j p, i ≤ j → L[j]? = some p → SizeP p)
  | 0, i, h => by
    refine Said.step (fun k => by rw [laws_zzFits10.l0, if_neg (by omega)]) (Said.yes fun j p hj hp => by have := (List.getElem?_eq_some_iff.1 hp).1; omega)
  | n + 1, i, h => by
    obtain ⟨p, hp⟩ : ∃ p, L[i]? = some p := ⟨_, List.getElem?_eq_getElem (by omega)⟩
    have IH := fits_l0 L hL n (i + 1) (by omega)
    have hw := w1 (i := i) (by omega)
    refine Said.step (fun k => by rw [laws_zzFits10.l0, if_pos (by omega), if_pos (by omega), if_pos (by omega), rdT hp, hw]) ?_
    by_cases h1 : (p.f1.size : Int) > 2147483647
    · refine Said.congr (fun k => by rw [laws_zzFits11.f, if_pos h1]; rfl) Said.no
    by_cases h2 : (p.f4.length : Int) > 2147483647
    · refine Said.congr (fun k => by rw [laws_zzFits11.f, if_neg h1, if_pos h2]; rfl) Said.no
    refine Said.congr (g' := fun k => laws_zzFits10.l0 k L (L.length : Int) ((i + 1 : Nat) : Int)) (fun k => by rw [laws_zzFits11.f, if_neg h1, if_neg h2]; rfl) (IH.mono fun h j q hj hq => ?_)
    by_cases e : j = i
    · subst e
      rw [hp] at hq
      injection hq with hq
      subst hq
      exact ⟨by omega, by omega⟩
    exact h j q (by omega) hq
theorem fits_said (L : List S42) : Said (fun k => laws_zzFits10.f k L) (L.length ≤ 2147483647 ∧ ∀ p ∈ L, SizeP p) := by
  by_cases h : (L.length : Int) > 2147483647
  · exact Said.congr (fun k => by rw [laws_zzFits10.f, if_pos h]) Said.no
  refine Said.congr (fun k => by rw [laws_zzFits10.f, if_neg h]; rfl) ((fits_l0 L (by omega) _ 0 rfl).mono fun q => ⟨by omega, fun p hp => ?_⟩)
  obtain ⟨j, hj, rfl⟩ := List.getElem_of_mem hp
  exact q j _ (Nat.zero_le _) (List.getElem?_eq_getElem hj)
structure KnownP (n i : Nat) (p : S42) : Prop where
  f0 : 0 ≤ p.f0 ∧ p.f0 ≤ 11
  f2 : 0 ≤ p.f2 ∧ p.f2 ≤ 99
  f3 : 0 ≤ p.f3 ∧ p.f3 ≤ 99
  f4 : p.f4.length ≤ 5 ∧ ∀ a ∈ p.f4, 0 ≤ a ∧ a ≤ 99
  word : p.f0 = 0 → p.f1.data.toList ≠ [] ∧ ∀ c ∈ p.f1.data.toList, letB c = true
  split : p.f0 = 3 → p.f1.data.toList = [45] ∨ p.f1.data.toList = [95] ∨ p.f1.data.toList = [64]
  size : 4 ≤ p.f0 → p.f0 ≤ 9 → 1 ≤ p.f3
  part : p.f0 = 10 → 1 ≤ p.f3 ∧ p.f4 ≠ []
  rest : p.f0 = 11 → i + 1 = n
theorem Known_j3 (L : List S42) (hL : L.length ≤ 140737488351232) (i : Nat) (hi : i < L.length) (p : S42) {F F' : Prop} (S : Said (fun k => spec_Known.l0 k L ((i + 1 : Nat) : Int)) F) (z : Int) (b : Bool) (hb : b = true ↔ 4 ≤ p.f0 ∧ p.f0 ≤ 9) (hz : z = p.f0)
    (hF : F → (4 ≤ p.f0 → p.f0 ≤ 9 → 1 ≤ p.f3) → (p.f0 = 10 → 1 ≤ p.f3 ∧ p.f4 ≠ []) → (p.f0 = 11 → i + 1 = L.length) → F') :
    Said (fun k => spec_Known.j3 k L (i : Int) z b p.f0 p.f1 p.f2 p.f3 p.f4) F' := by
  subst hz
  have hw := w1 (i := i) (by omega)
  by_cases h : b = true
  · have hh := hb.1 h
    by_cases h1 : p.f3 < 1
    · exact Said.step (fun k => by rw [spec_Known.j3, if_pos h, if_pos h1]) Said.no
    exact Said.step (fun k => by rw [spec_Known.j3, if_pos h, if_neg h1, hw]) (S.mono fun f => hF f (fun _ _ => by omega) (fun e => by omega) (fun e => by omega))
  have hh : ¬ (4 ≤ p.f0 ∧ p.f0 ≤ 9) := fun e => h (hb.2 e)
  by_cases h10 : p.f0 = 10
  · by_cases h1 : p.f3 < 1
    · exact Said.step (fun k => by rw [spec_Known.j3, if_neg h, if_pos h10, if_pos h1]) Said.no
    by_cases h2 : (p.f4.length : Int) = 0
    · exact Said.step (fun k => by rw [spec_Known.j3, if_neg h, if_pos h10, if_neg h1, if_pos h2]) Said.no
    exact Said.step (fun k => by rw [spec_Known.j3, if_neg h, if_pos h10, if_neg h1, if_neg h2, hw]) (S.mono fun f => hF f (fun a b => absurd ⟨a, b⟩ hh) (fun e => ⟨by omega, fun e => h2 (by rw [e]; rfl)⟩) (fun e => by omega))
  by_cases h11 : p.f0 = 11
  · by_cases h1 : ((i + 1 : Nat) : Int) < (L.length : Int)
    · exact Said.step (fun k => by rw [spec_Known.j3, if_neg h, if_neg h10, if_pos h11, hw, if_pos h1]) Said.no
    exact Said.step (fun k => by rw [spec_Known.j3, if_neg h, if_neg h10, if_pos h11, hw, if_neg h1]) (S.mono fun f => hF f (fun a b => absurd ⟨a, b⟩ hh) (fun e => absurd e h10) (fun e => by omega))
  exact Said.step (fun k => by rw [spec_Known.j3, if_neg h, if_neg h10, if_neg h11, hw]) (S.mono fun f => hF f (fun a b => absurd ⟨a, b⟩ hh) (fun e => absurd e h10) (fun e => absurd e h11))
theorem Known_l1 (L : List S42) (hL : L.length ≤ 140737488351232) (i : Nat) (hi : i < L.length) (p : S42) (hp : L[i]? = some p) (hs : SizeP p) (h0 : 0 ≤ p.f0 ∧ p.f0 ≤ 11) (h2 : 0 ≤ p.f2 ∧ p.f2 ≤ 99) (h3 : 0 ≤ p.f3 ∧ p.f3 ≤ 99) (h4 : p.f4.length ≤ 5) {F : Prop} (S : Said (fun k => spec_Known.l0 k L ((i + 1 : Nat) : Int)) F) :
    ∀ (n x : Nat), n + x = p.f4.length → Said (fun k => spec_Known.l1 k L (i : Int) (x : Int) p.f0 p.f1 p.f2 p.f3 p.f4) (F ∧ (∀ j a, x ≤ j → p.f4[j]? = some a → 0 ≤ a ∧ a ≤ 99) ∧
      ((p.f0 = 0 → p.f1.data.toList ≠ [] ∧ ∀ c ∈ p.f1.data.toList, letB c = true) ∧ (p.f0 = 3 → p.f1.data.toList = [45] ∨ p.f1.data.toList = [95] ∨ p.f1.data.toList = [64]) ∧ (4 ≤ p.f0 → p.f0 ≤ 9 → 1 ≤ p.f3) ∧ (p.f0 = 10 → 1 ≤ p.f3 ∧ p.f4 ≠ []) ∧ (p.f0 = 11 → i + 1 = L.length)))
  | n + 1, x, h => by
    obtain ⟨a, ha⟩ : ∃ a, p.f4[x]? = some a := ⟨_, List.getElem?_eq_getElem (by omega)⟩
    have hw := w1 (i := x) (by omega)
    by_cases c1 : a < 0
    · exact Said.step (fun k => by rw [spec_Known.l1, if_pos (by omega), if_pos (by omega), rdI ha, if_pos c1]) Said.no
    by_cases c2 : a > 99
    · exact Said.step (fun k => by rw [spec_Known.l1, if_pos (by omega), if_pos (by omega), rdI ha, if_neg c1, if_pos c2]) Said.no
    refine Said.step (fun k => by rw [spec_Known.l1, if_pos (by omega), if_pos (by omega), rdI ha, if_neg c1, if_neg c2, hw]) ((Known_l1 L hL i hi p hp hs h0 h2 h3 h4 S n (x + 1) (by omega)).mono fun q => ⟨q.1, fun j b hj hb => ?_, q.2.2⟩)
    by_cases e : j = x
    · subst e
      rw [ha] at hb
      injection hb with hb
      omega
    exact q.2.1 j b (by omega) hb
  | 0, x, h => by
    have tail : ∀ (b : Prop), (∀ j a, x ≤ j → p.f4[j]? = some a → 0 ≤ a ∧ a ≤ 99) := fun _ j a hj ha => by have := (List.getElem?_eq_some_iff.1 ha).1; omega
    have hw := w1 (i := i) (by omega)
    by_cases k0 : p.f0 = 0
    · refine Said.step (fun k => by rw [spec_Known.l1, if_neg (by omega), if_pos k0, hw]) ?_
      refine Said.bind (letters_said p.f1 (by have := hs.1; omega)) fun hl => S.mono fun f => ⟨f, tail True, fun _ => hl, fun e => by omega, fun e => by omega, fun e => by omega, fun e => by omega⟩
    by_cases k3 : p.f0 = 3
    · have fin : (p.f1.data.toList = [45] ∨ p.f1.data.toList = [95] ∨ p.f1.data.toList = [64]) → F → (F ∧ (∀ j a, x ≤ j → p.f4[j]? = some a → 0 ≤ a ∧ a ≤ 99) ∧ ((p.f0 = 0 → p.f1.data.toList ≠ [] ∧ ∀ c ∈ p.f1.data.toList, letB c = true) ∧ (p.f0 = 3 → p.f1.data.toList = [45] ∨ p.f1.data.toList = [95] ∨ p.f1.data.toList = [64]) ∧ (4 ≤ p.f0 → p.f0 ≤ 9 → 1 ≤ p.f3) ∧ (p.f0 = 10 → 1 ≤ p.f3 ∧ p.f4 ≠ []) ∧ (p.f0 = 11 → i + 1 = L.length))) :=
        fun g f => ⟨f, tail True, fun e => by omega, fun _ => g, fun e => by omega, fun e => by omega, fun e => by omega⟩
      by_cases e1 : p.f1.data.toList = [45]
      · exact Said.step (fun k => by rw [spec_Known.l1, if_neg (by omega), if_neg k0, if_pos k3, ByteArray.toList_eq, if_pos e1, hw]) (S.mono (fin (.inl e1)))
      by_cases e2 : p.f1.data.toList = [95]
      · exact Said.step (fun k => by rw [spec_Known.l1, if_neg (by omega), if_neg k0, if_pos k3, ByteArray.toList_eq, if_neg e1, if_pos e2, hw]) (S.mono (fin (.inr (.inl e2))))
      by_cases e3 : p.f1.data.toList = [64]
      · exact Said.step (fun k => by rw [spec_Known.l1, if_neg (by omega), if_neg k0, if_pos k3, ByteArray.toList_eq, if_neg e1, if_neg e2, if_pos e3, hw]) (S.mono (fin (.inr (.inr e3))))
      exact Said.step (fun k => by rw [spec_Known.l1, if_neg (by omega), if_neg k0, if_pos k3, ByteArray.toList_eq, if_neg e1, if_neg e2, if_neg e3]) Said.no
    have J := fun (b : Bool) (hb : b = true ↔ 4 ≤ p.f0 ∧ p.f0 ≤ 9) => Known_j3 L hL i hi p (F' := F ∧ (∀ j a, x ≤ j → p.f4[j]? = some a → 0 ≤ a ∧ a ≤ 99) ∧ ((p.f0 = 0 → p.f1.data.toList ≠ [] ∧ ∀ c ∈ p.f1.data.toList, letB c = true) ∧ (p.f0 = 3 → p.f1.data.toList = [45] ∨ p.f1.data.toList = [95] ∨ p.f1.data.toList = [64]) ∧ (4 ≤ p.f0 → p.f0 ≤ 9 → 1 ≤ p.f3) ∧ (p.f0 = 10 → 1 ≤ p.f3 ∧ p.f4 ≠ []) ∧ (p.f0 = 11 → i + 1 = L.length))) S p.f0 b hb rfl
      (fun f a b c => ⟨f, tail True, fun e => absurd e k0, fun e => absurd e k3, a, b, c⟩)
    by_cases k4 : p.f0 = 4
    · exact Said.step (fun k => by rw [spec_Known.l1, if_neg (by omega), if_neg k0, if_neg k3, if_pos k4]) (J _ (by rw [beq_iff_eq]; omega))
    by_cases k5 : p.f0 = 5
    · exact Said.step (fun k => by rw [spec_Known.l1, if_neg (by omega), if_neg k0, if_neg k3, if_neg k4, if_pos k5]) (J _ (by rw [beq_iff_eq]; omega))
    by_cases k6 : p.f0 = 6
    · exact Said.step (fun k => by rw [spec_Known.l1, if_neg (by omega), if_neg k0, if_neg k3, if_neg k4, if_neg k5, if_pos k6]) (J _ (by rw [beq_iff_eq]; omega))
    by_cases k7 : p.f0 = 7
    · exact Said.step (fun k => by rw [spec_Known.l1, if_neg (by omega), if_neg k0, if_neg k3, if_neg k4, if_neg k5, if_neg k6, if_pos k7]) (J _ (by rw [beq_iff_eq]; omega))
    by_cases k8 : p.f0 = 8
    · exact Said.step (fun k => by rw [spec_Known.l1, if_neg (by omega), if_neg k0, if_neg k3, if_neg k4, if_neg k5, if_neg k6, if_neg k7, if_pos k8]) (J _ (by rw [beq_iff_eq]; omega))
    exact Said.step (fun k => by rw [spec_Known.l1, if_neg (by omega), if_neg k0, if_neg k3, if_neg k4, if_neg k5, if_neg k6, if_neg k7, if_neg k8]) (J _ (by rw [beq_iff_eq]; omega))
theorem Known_l0 (L : List S42) (hL : L.length ≤ 140737488351232) (hs : ∀ p ∈ L, SizeP p) : ∀ (n i : Nat), n + i = L.length → Said (fun k => spec_Known.l0 k L (i : Int)) (L ≠ [] ∧ ∀ j p, i ≤ j → L[j]? = some p → KnownP L.length j p)
  | 0, i, h => by
    refine Said.step (fun k => by rw [spec_Known.l0, if_neg (by omega)]) ?_
    by_cases h0 : (L.length : Int) > 0
    · rw [decide_eq_true h0]
      exact Said.yes ⟨fun e => by rw [e] at h0; exact absurd h0 (by decide), fun j p hj hp => by have := (List.getElem?_eq_some_iff.1 hp).1; omega⟩
    rw [decide_eq_false h0]
    exact Said.no
  | n + 1, i, h => by
    obtain ⟨p, hp⟩ : ∃ p, L[i]? = some p := ⟨_, List.getElem?_eq_getElem (by omega)⟩
    have no : ∀ {F : Prop}, Said (fun k => spec_Known.j1 k L (i : Int) true p.f0 p.f1 p.f2 p.f3 p.f4) F := Said.step (fun k => by rw [spec_Known.j1, if_pos rfl]) Said.no
    by_cases c1 : p.f0 < 0
    · exact Said.step (fun k => by rw [spec_Known.l0, if_pos (by omega), if_pos (by omega), rdT hp, if_pos c1]) no
    by_cases c2 : p.f0 > 11
    · exact Said.step (fun k => by rw [spec_Known.l0, if_pos (by omega), if_pos (by omega), rdT hp, if_neg c1, if_pos c2]) no
    by_cases c3 : p.f2 < 0
    · exact Said.step (fun k => by rw [spec_Known.l0, if_pos (by omega), if_pos (by omega), rdT hp, if_neg c1, if_neg c2, if_pos c3]) no
    by_cases c4 : p.f2 > 99
    · exact Said.step (fun k => by rw [spec_Known.l0, if_pos (by omega), if_pos (by omega), rdT hp, if_neg c1, if_neg c2, if_neg c3, if_pos c4]) no
    by_cases c5 : p.f3 < 0
    · exact Said.step (fun k => by rw [spec_Known.l0, if_pos (by omega), if_pos (by omega), rdT hp, if_neg c1, if_neg c2, if_neg c3, if_neg c4, if_pos c5]) no
    by_cases c6 : p.f3 > 99
    · exact Said.step (fun k => by rw [spec_Known.l0, if_pos (by omega), if_pos (by omega), rdT hp, if_neg c1, if_neg c2, if_neg c3, if_neg c4, if_neg c5, if_pos c6]) no
    by_cases c7 : (p.f4.length : Int) > 5
    · exact Said.step (fun k => by rw [spec_Known.l0, if_pos (by omega), if_pos (by omega), rdT hp, if_neg c1, if_neg c2, if_neg c3, if_neg c4, if_neg c5, if_neg c6, decide_eq_true c7]) no
    refine Said.step (fun k => by rw [spec_Known.l0, if_pos (by omega), if_pos (by omega), rdT hp, if_neg c1, if_neg c2, if_neg c3, if_neg c4, if_neg c5, if_neg c6, decide_eq_false c7]) ?_
    refine Said.step (fun k => by rw [spec_Known.j1, if_neg (by decide)]) ?_
    refine (Known_l1 L hL i (by omega) p hp (hs p (List.mem_of_getElem? hp)) (by omega) (by omega) (by omega) (by omega) (Known_l0 L hL hs n (i + 1) (by omega)) p.f4.length 0 rfl).mono fun q => ⟨q.1.1, fun j r hj hr => ?_⟩
    by_cases e : j = i
    · subst e
      rw [hp] at hr
      injection hr with hr
      subst hr
      obtain ⟨_, q2, q3, q4, q5, q6, q7⟩ := q
      exact ⟨by omega, by omega, by omega, ⟨by omega, fun a ha => by
        obtain ⟨x, hx, rfl⟩ := List.getElem_of_mem ha
        exact q2 x _ (Nat.zero_le _) (List.getElem?_eq_getElem hx)⟩, q3, q4, q5, q6, q7⟩
    exact q.1.2 j r (by omega) hr
theorem Known_said (L : List S42) (hL : L.length ≤ 140737488351232) (hs : ∀ p ∈ L, SizeP p) : Said (fun k => spec_Known.f k L) (L ≠ [] ∧ ∀ j p, L[j]? = some p → KnownP L.length j p) :=
  (Known_l0 L hL hs _ 0 rfl).mono fun h => ⟨h.1, fun j p hp => h.2 j p (Nat.zero_le _) hp⟩
end Go.Proofs.YtoopmpjgmgffoaaDoor.PlFnTransformBack
