/- What the guards of a mapping say, plainly: sound mappings. -/
import Derived.Test.YtoopmpjgmgffoaaDoorPlTk
namespace Go.Proofs.YtoopmpjgmgffoaaDoor.PlFnTransformBack
open Go.RowKit Go.Proofs.YtoopmpjgmgffoaaDoorW.PrintWords Go.Proofs.YtoopmpjgmgffoaaDoorW.PrintLast Go.Proofs.YtoopmpjgmgffoaaDoorW.PrintMore Go.Proofs.YtoopmpjgmgffoaaDoor.Pl Go.Proofs.YtoopmpjgmgffoaaDoor.GFnTransformBack
set_option linter.unusedVariables false
set_option linter.unusedSimpArgs false
theorem toks_small (l : List UInt8) (hl : l.length ≤ 35184372088832) : (toks l).length ≤ 140737488351232 := by rw [toks_len]; have := List.count_le_length (a := (46 : UInt8)) (l := l); omega
theorem Wilds_l0 (S : List (List UInt8)) (hS : S.length ≤ 140737488351232) : ∀ (n i c : Nat), n + i = S.length → c ≤ i → Ev (fun k => spec_Wilds.l0 k (c : Int) (S.map ba) (i : Int)) (((c + (S.drop i).count [42] : Nat)) : Int)
  | 0, i, c, h, hc => by
    refine Ev.step (fun k => by rw [spec_Wilds.l0, if_neg (by rw [List.length_map]; omega)]) ?_
    rw [List.drop_eq_nil_of_le (by omega), List.count_nil]
    exact Ev.now _
  | n + 1, i, c, h, hc => by
    obtain ⟨t, ht⟩ : ∃ t, S[i]? = some t := ⟨_, List.getElem?_eq_getElem (by omega)⟩
    have hd : S.drop i = t :: S.drop (i + 1) := by
      rw [List.drop_eq_getElem_cons (by omega)]
      congr 1
      exact Option.some.inj ((List.getElem?_eq_getElem (by omega)).symm.trans ht)
    have hw := w1 (i := i) (by omega)
    have hwc := w1 (i := c) (by omega)
    by_cases e : t = [42]
    · refine Ev.step (fun k => by rw [spec_Wilds.l0, if_pos (by rw [List.length_map]; omega), if_pos (by omega), rdB ht, ba_toList, if_pos e, hw, hwc]) ?_
      refine Ev.det' (Wilds_l0 S hS n (i + 1) (c + 1) (by omega) (by omega)) ?_
      rw [hd, e, List.count_cons_self]
      omega
    refine Ev.step (fun k => by rw [spec_Wilds.l0, if_pos (by rw [List.length_map]; omega), if_pos (by omega), rdB ht, ba_toList, if_neg e, hw]) ?_
    refine Ev.det' (Wilds_l0 S hS n (i + 1) c (by omega) (by omega)) ?_
    rw [hd, List.count_cons_of_ne (fun h => e h)]
def stars (l : List UInt8) : Nat := (toks l).count [42]
theorem Wilds_ev (l : List UInt8) (hl : l.length < 8796093022208) : Ev (fun k => spec_Wilds.f k (ba l)) (stars l : Int) := by
  refine Ev.congr (fun k => by rw [spec_Wilds.f]) (Ev.bind (Tokens_ev l hl) ?_)
  refine Ev.det' (Wilds_l0 (toks l) (toks_small l (by omega)) _ 0 0 rfl (Nat.le_refl _)) ?_
  rw [Nat.zero_add, List.drop_zero]
  rfl
theorem stars_le (l : List UInt8) : stars l ≤ l.length + 1 := by
  have := List.count_le_length (a := ([42] : List UInt8)) (l := toks l)
  have h2 := toks_len l
  have := List.count_le_length (a := (46 : UInt8)) (l := l)
  unfold stars
  omega
def plc : Nat → List (List UInt8) → List Int
  | _, [] => []
  | i, t :: r => if t = [42] then (i : Int) :: plc (i + 1) r else plc (i + 1) r
theorem plc_star (i : Nat) (r : List (List UInt8)) : plc i ([42] :: r) = (i : Int) :: plc (i + 1) r := by
  rw [plc, if_pos rfl]
theorem plc_other (i : Nat) {t : List UInt8} (e : t ≠ [42]) (r : List (List UInt8)) : plc i (t :: r) = plc (i + 1) r := by
  rw [plc, if_neg e]
theorem plc_len : ∀ (S : List (List UInt8)) (i : Nat), (plc i S).length = S.count [42]
  | [], i => rfl
  | t :: r, i => by
    unfold plc
    by_cases e : t = [42]
    · rw [if_pos e, e, List.count_cons_self, List.length_cons, plc_len r]
    rw [if_neg e, List.count_cons_of_ne (fun h => e h), plc_len r]
theorem plc_mem : ∀ (S : List (List UInt8)) (i : Nat) (m : Nat) (x : Int), (plc i S)[m]? = some x → ∃ q : Nat, x = ((i + q : Nat) : Int) ∧ S[q]? = some [42]
  | [], i, m, x, h => by simp [plc] at h
  | t :: r, i, m, x, h => by
    unfold plc at h
    by_cases e : t = [42]
    · rw [if_pos e] at h
      cases m with
      | zero =>
        have h : (i : Int) = x := by simpa using h
        exact ⟨0, h.symm, by rw [e]; rfl⟩
      | succ m =>
        obtain ⟨q, h1, h2⟩ := plc_mem r (i + 1) m x (by simpa using h)
        exact ⟨q + 1, by rw [h1]; congr 1; omega, by simpa using h2⟩
    rw [if_neg e] at h
    obtain ⟨q, h1, h2⟩ := plc_mem r (i + 1) m x h
    exact ⟨q + 1, by rw [h1]; congr 1; omega, by simpa using h2⟩
theorem Places_l0 (S : List (List UInt8)) (hS : S.length ≤ 8796093022208) : ∀ (n i : Nat) (out : List Int), n + i = S.length → out.length ≤ i → Ev (fun k => spec_Places.l0 k out (S.map ba) (i : Int)) (out ++ plc i (S.drop i))
  | 0, i, out, h, hc => by
    refine Ev.step (fun k => by rw [spec_Places.l0, if_neg (by rw [List.length_map]; omega)]) ?_
    rw [List.drop_eq_nil_of_le (by omega)]
    refine Ev.det' (Ev.now _) (by simp [plc])
  | n + 1, i, out, h, hc => by
    obtain ⟨t, ht⟩ : ∃ t, S[i]? = some t := ⟨_, List.getElem?_eq_getElem (by omega)⟩
    have hd : S.drop i = t :: S.drop (i + 1) := by
      rw [List.drop_eq_getElem_cons (by omega)]
      congr 1
      exact Option.some.inj ((List.getElem?_eq_getElem (by omega)).symm.trans ht)
    have hw := w1 (i := i) (by omega)
    by_cases e : t = [42]
    · refine Ev.step (fun k => by rw [spec_Places.l0, if_pos (by rw [List.length_map]; omega), if_pos (by omega), rdB ht, ba_toList, if_pos e, if_pos (by omega), hw]) ?_
      refine Ev.det' (Places_l0 S hS n (i + 1) (out ++ [(i : Int)]) (by omega) (by simp; omega)) ?_
      rw [hd, e, plc_star, List.append_assoc]
      rfl
    refine Ev.step (fun k => by rw [spec_Places.l0, if_pos (by rw [List.length_map]; omega), if_pos (by omega), rdB ht, ba_toList, if_neg e, hw]) ?_
    refine Ev.det' (Places_l0 S hS n (i + 1) out (by omega) (by omega)) ?_
    rw [hd, plc_other i e]
theorem Places_ev (l : List UInt8) (hl : l.length < 8796093022207) : Ev (fun k => spec_Places.f k (ba l)) (plc 0 (toks l)) := by
  refine Ev.congr (fun k => by rw [spec_Places.f]) (Ev.bind (Tokens_ev l (by omega)) ?_)
  refine Ev.det' (Places_l0 (toks l) (by rw [toks_len]; have := List.count_le_length (a := (46 : UInt8)) (l := l); omega) _ 0 [] rfl (Nat.le_refl _)) ?_
  rw [List.nil_append, List.drop_zero]
theorem toks_ne (l : List UInt8) : toks l ≠ [] := by
  intro h
  have := toks_len l
  rw [h] at this
  simp at this
theorem Rest_ev (l : List UInt8) (hl : l.length < 8796093022208) : Ev (fun k => spec_Rest.f k (ba l)) (decide ((toks l).getLast? = some [62])) := by
  have hn : 1 ≤ (toks l).length := by rw [toks_len]; omega
  have hs := toks_small l (by omega)
  obtain ⟨t, ht⟩ : ∃ t, (toks l)[(toks l).length - 1]? = some t := ⟨_, List.getElem?_eq_getElem (by omega)⟩
  have hw : wrap64 (((toks l).length : Int) - 1) = (((toks l).length - 1 : Nat) : Int) := by rw [w64 (by omega) (by omega)]; omega
  refine Ev.congr (fun k => by rw [spec_Rest.f]) (Ev.bind (Tokens_ev l hl) ?_)
  refine Ev.congr (fun k => by rw [List.length_map, hw, if_pos (by omega), if_pos (by omega), rdB ht, ba_toList]) ?_
  refine Ev.det' (Ev.now _) ?_
  rw [List.getLast?_eq_getElem?, ht]
  by_cases e : t = [62]
  · rw [e]; rfl
  rw [decide_eq_false (by simpa using e), beq_eq_false_iff_ne]; exact e
structure SndP (n : Nat) (p : S42) : Prop where
  one : p.f0 ≠ 0 → p.f0 ≠ 11 → p.f0 ≠ 10 → 1 ≤ p.f2 ∧ p.f2 ≤ n
  part : p.f0 = 10 → ∀ a ∈ p.f4, 1 ≤ a ∧ a ≤ n
theorem Sound_l1 (L : List S42) (m : Nat) (hL : L.length ≤ 140737488351232) (i : Nat) (hi : i < L.length) (p : S42) (hs : p.f4.length ≤ 2147483647) {F : Prop} (S : Said (fun k => spec_Sound.l0 k L (m : Int) ((i + 1 : Nat) : Int)) F) :
    ∀ (n x : Nat), n + x = p.f4.length → Said (fun k => spec_Sound.l1 k L (m : Int) (i : Int) (x : Int) p.f0 p.f1 p.f2 p.f3 p.f4) (F ∧ (p.f0 = 10 → ∀ j a, x ≤ j → p.f4[j]? = some a → 1 ≤ a ∧ a ≤ m))
  | 0, x, h => by
    have hw := w1 (i := i) (by omega)
    refine Said.step (fun k => by rw [spec_Sound.l1, if_neg (by omega)]) ?_
    exact Said.step (fun k => by rw [spec_Sound.j4, if_neg (by decide), hw]) (S.mono fun f => ⟨f, fun _ j a hj ha => by have := (List.getElem?_eq_some_iff.1 ha).1; omega⟩)
  | n + 1, x, h => by
    have hw := w1 (i := i) (by omega)
    have hwx := w1 (i := x) (by omega)
    obtain ⟨a, ha⟩ : ∃ a, p.f4[x]? = some a := ⟨_, List.getElem?_eq_getElem (by omega)⟩
    refine Said.step (fun k => by rw [spec_Sound.l1, if_pos (by omega)]) ?_
    by_cases h10 : p.f0 = 10
    · have hb : (p.f0 == 10) = true := by rw [beq_iff_eq]; exact h10
      by_cases c1 : a < 1
      · exact Said.step (fun k => by rw [spec_Sound.j4, if_pos hb, if_pos (by omega), if_pos (by omega), rdI ha, if_pos c1]) Said.no
      by_cases c2 : a > (m : Int)
      · exact Said.step (fun k => by rw [spec_Sound.j4, if_pos hb, if_pos (by omega), if_pos (by omega), rdI ha, if_neg c1, if_pos c2]) Said.no
      refine Said.step (fun k => by rw [spec_Sound.j4, if_pos hb, if_pos (by omega), if_pos (by omega), rdI ha, if_neg c1, if_neg c2, hwx]) ((Sound_l1 L m hL i hi p hs S n (x + 1) (by omega)).mono fun q => ⟨q.1, fun e j b hj hb => ?_⟩)
      by_cases e2 : j = x
      · subst e2
        rw [ha] at hb
        injection hb with hb
        omega
      exact q.2 e j b (by omega) hb
    have hb : ¬ (p.f0 == 10) = true := by rw [beq_iff_eq]; exact h10
    exact Said.step (fun k => by rw [spec_Sound.j4, if_neg hb, hw]) (S.mono fun f => ⟨f, fun e => absurd e h10⟩)
theorem Sound_l0 (L : List S42) (m : Nat) (hL : L.length ≤ 140737488351232) (hs : ∀ p ∈ L, SizeP p) : ∀ (n i : Nat), n + i = L.length → Said (fun k => spec_Sound.l0 k L (m : Int) (i : Int)) (∀ j p, i ≤ j → L[j]? = some p → SndP m p)
  | 0, i, h => Said.step (fun k => by rw [spec_Sound.l0, if_neg (by omega)]) (Said.yes fun j p hj hp => by have := (List.getElem?_eq_some_iff.1 hp).1; omega)
  | n + 1, i, h => by
    obtain ⟨p, hp⟩ : ∃ p, L[i]? = some p := ⟨_, List.getElem?_eq_getElem (by omega)⟩
    have hz := hs p (List.mem_of_getElem? hp)
    have no : ∀ {F : Prop}, Said (fun k => spec_Sound.j2 k L (m : Int) (i : Int) true p.f0 p.f1 p.f2 p.f3 p.f4) F := Said.step (fun k => by rw [spec_Sound.j2, if_pos rfl]) Said.no
    have go : (p.f0 ≠ 0 → p.f0 ≠ 11 → p.f0 ≠ 10 → 1 ≤ p.f2 ∧ p.f2 ≤ (m : Int)) → Said (fun k => spec_Sound.j2 k L (m : Int) (i : Int) false p.f0 p.f1 p.f2 p.f3 p.f4) (∀ j q, i ≤ j → L[j]? = some q → SndP m q) := fun h1 =>
      Said.step (fun k => by rw [spec_Sound.j2, if_neg (by decide)]; rfl) ((Sound_l1 L m hL i (by omega) p hz.2 (Sound_l0 L m hL hs n (i + 1) (by omega)) p.f4.length 0 rfl).mono fun q j r hj hr => by
        by_cases e : j = i
        · subst e
          rw [hp] at hr
          injection hr with hr
          subst hr
          exact ⟨h1, fun e a ha => by
            obtain ⟨x, hx, rfl⟩ := List.getElem_of_mem ha
            exact q.2 e x _ (Nat.zero_le _) (List.getElem?_eq_getElem hx)⟩
        exact q.1 j r (by omega) hr)
    by_cases c0 : p.f0 = 0
    · exact Said.step (fun k => by rw [spec_Sound.l0, if_pos (by omega), if_pos (by omega), rdT hp, if_pos c0]) (go fun e => absurd c0 e)
    by_cases c1 : p.f0 = 11
    · exact Said.step (fun k => by rw [spec_Sound.l0, if_pos (by omega), if_pos (by omega), rdT hp, if_neg c0, if_pos c1]) (go fun _ e => absurd c1 e)
    by_cases c2 : p.f0 = 10
    · exact Said.step (fun k => by rw [spec_Sound.l0, if_pos (by omega), if_pos (by omega), rdT hp, if_neg c0, if_neg c1, if_pos c2]) (go fun _ _ e => absurd c2 e)
    by_cases c3 : p.f2 < 1
    · exact Said.step (fun k => by rw [spec_Sound.l0, if_pos (by omega), if_pos (by omega), rdT hp, if_neg c0, if_neg c1, if_neg c2, if_pos c3]) no
    by_cases c4 : p.f2 > (m : Int)
    · exact Said.step (fun k => by rw [spec_Sound.l0, if_pos (by omega), if_pos (by omega), rdT hp, if_neg c0, if_neg c1, if_neg c2, if_neg c3, decide_eq_true c4]) no
    exact Said.step (fun k => by rw [spec_Sound.l0, if_pos (by omega), if_pos (by omega), rdT hp, if_neg c0, if_neg c1, if_neg c2, if_neg c3, decide_eq_false c4]) (go fun _ _ _ => by omega)
structure SoundF (l : List UInt8) (L : List S42) : Prop where
  valid : validB l = true
  rest : ∀ p, L.getLast? = some p → (p.f0 = 11 ↔ (toks l).getLast? = some [62])
  snd : ∀ p ∈ L, SndP (stars l) p
theorem Sound_said (l : List UInt8) (hl : l.length ≤ 1000) (L : List S42) (hL0 : L ≠ []) (hL : L.length ≤ 1000) (hs : ∀ p ∈ L, SizeP p) : Said (fun k => spec_Sound.f k (ba l) L) (SoundF l L) := by
  have hn : 1 ≤ L.length := by
    rcases L with _ | ⟨p, L⟩
    · exact absurd rfl hL0
    simp
  have no : ∀ {F : Prop}, Said (fun k => spec_Sound.j0 k (ba l) L true) F := Said.step (fun k => by rw [spec_Sound.j0, if_pos rfl]) Said.no
  refine Said.congr (fun k => by rw [spec_Sound.f]) ?_
  obtain ⟨b, hb⟩ : ∃ b, validB l = b := ⟨_, rfl⟩
  have hv := Valid_ev l (by omega)
  rw [hb] at hv
  cases b with
  | false =>
    obtain ⟨b', h1, h2⟩ := no (F := SoundF l L)
    exact ⟨b', Ev.bind hv (Ev.congr (fun k => by rw [if_neg (by decide)]) h1), h2⟩
  | true =>
    obtain ⟨p, hp⟩ : ∃ p, L[L.length - 1]? = some p := ⟨_, List.getElem?_eq_getElem (by omega)⟩
    have hw : wrap64 ((L.length : Int) - 1) = ((L.length - 1 : Nat) : Int) := by rw [w64 (by omega) (by omega)]; omega
    have key : Said (fun k => spec_Sound.j0 k (ba l) L (decide ((toks l).getLast? = some [62]) != (p.f0 == 11))) (SoundF l L) := by
      have hlast : ∀ q, L.getLast? = some q → q = p := fun q hq => by
        rw [List.getLast?_eq_getElem?, hp] at hq
        injection hq with hq
        exact hq.symm
      by_cases e : (decide ((toks l).getLast? = some [62]) != (p.f0 == 11)) = true
      · rw [e]; exact no
      rw [Bool.not_eq_true] at e
      rw [e]
      have hiff : (p.f0 = 11 ↔ (toks l).getLast? = some [62]) := by
        rw [bne_eq_false_iff_eq] at e
        by_cases h : (toks l).getLast? = some [62]
        · rw [decide_eq_true h] at e
          exact ⟨fun _ => h, fun _ => by simpa using e.symm⟩
        rw [decide_eq_false h] at e
        refine ⟨fun h2 => ?_, fun h2 => absurd h2 h⟩
        rw [h2] at e
        exact absurd e (by decide)
      obtain ⟨b', h1, h2⟩ := Sound_l0 L (stars l) (by omega) hs L.length 0 rfl
      refine ⟨b', Ev.step (fun k => by rw [spec_Sound.j0, if_neg (by decide)]) (Ev.bind (Wilds_ev l (by omega)) h1), fun hb' => ⟨hb, fun q hq => by rw [hlast q hq]; exact hiff, fun q hq => ?_⟩⟩
      obtain ⟨j, hj, rfl⟩ := List.getElem_of_mem hq
      exact h2 hb' j _ (Nat.zero_le _) (List.getElem?_eq_getElem hj)
    obtain ⟨b', h1, h2⟩ := key
    refine ⟨b', Ev.bind hv (Ev.congr (fun k => by rw [if_pos rfl]) (Ev.bind (Rest_ev l (by omega)) (Ev.congr (fun k => by rw [hw, if_pos (by omega), if_pos (by omega), rdT hp]) h1))), h2⟩
structure MapF (l : List UInt8) (L : List S42) : Prop where
  size : l.length ≤ 100
  clean : l.all cleanB = true
  tame : (toks l).all tameT = true
  len : L.length ≤ 10
  ne : L ≠ []
  known : ∀ j p, L[j]? = some p → KnownP L.length j p
  sound : SoundF l L
theorem mapping_said (l : List UInt8) (L : List S42) (hs : ∀ p ∈ L, SizeP p) : Said (fun k => laws_mapping.f k (ba l) L) (MapF l L) := by
  by_cases h1 : ((ba l).size : Int) ≤ 100
  · refine Said.congr (fun k => by rw [laws_mapping.f, if_pos h1]) ?_
    rw [ba_size] at h1
    have sc : Said (fun k => laws_clean.f k (ba l)) (l.all cleanB = true) := by
      obtain ⟨b, hb, hi⟩ := clean_ev l (by omega)
      exact ⟨b, hb, fun e => (hi.1 e).2⟩
    refine Said.bind sc fun hc => ?_
    have st : Said (fun k => laws_tame.f k (ba l)) ((toks l).all tameT = true) := ⟨_, tame_ev l (by omega), fun e => e⟩
    refine Said.bind st fun ht => ?_
    by_cases h2 : (L.length : Int) ≤ 10
    · refine Said.congr (fun k => by rw [if_pos h2]) ?_
      refine Said.bind (Known_said L (by omega) hs) fun hk => ?_
      refine Said.last ((Sound_said l (by omega) L hk.1 (by omega) hs).mono fun hq => ⟨by omega, hc, ht, by omega, hk.1, hk.2, hq⟩)
    exact Said.congr (fun k => by rw [if_neg h2]) Said.no
  exact Said.congr (fun k => by rw [laws_mapping.f, if_neg h1]) Said.no
end Go.Proofs.YtoopmpjgmgffoaaDoor.PlFnTransformBack
