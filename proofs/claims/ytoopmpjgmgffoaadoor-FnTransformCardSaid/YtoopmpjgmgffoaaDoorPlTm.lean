/- Reversible, back, Dest, plainly. -/
import Derived.Test.YtoopmpjgmgffoaaDoorPlTl
namespace Go.Proofs.YtoopmpjgmgffoaaDoor.PlFnTransformBack
open Go.RowKit Go.Proofs.YtoopmpjgmgffoaaDoorW.PrintWords Go.Proofs.YtoopmpjgmgffoaaDoorW.PrintLast Go.Proofs.YtoopmpjgmgffoaaDoorW.PrintMore Go.Proofs.YtoopmpjgmgffoaaDoor.Pl Go.Proofs.YtoopmpjgmgffoaaDoor.GFnTransformBack
set_option linter.unusedVariables false
set_option linter.unusedSimpArgs false
def jn : List UInt8 → List (List UInt8) → List UInt8
  | acc, [] => acc
  | acc, t :: r => jn (acc ++ 46 :: t) r
def join : List (List UInt8) → List UInt8
  | [] => []
  | t :: r => jn t r
theorem jn_le : ∀ (r : List (List UInt8)) (acc : List UInt8), acc.length ≤ (jn acc r).length
  | [], acc => Nat.le_refl _
  | t :: r, acc => by have := jn_le r (acc ++ 46 :: t); simp only [List.length_append, List.length_cons] at this; rw [jn]; omega
theorem jn_len (n : Nat) : ∀ (r : List (List UInt8)) (acc : List UInt8), (∀ t ∈ r, t.length ≤ n) → (jn acc r).length ≤ acc.length + (n + 1) * r.length
  | [], acc, _ => by simp [jn]
  | t :: r, acc, h => by
    have := jn_len n r (acc ++ 46 :: t) (fun t q => h t (List.mem_cons_of_mem _ q))
    have ht := h t List.mem_cons_self
    rw [jn, List.length_cons, Nat.mul_add]
    simp only [List.length_append, List.length_cons] at this
    omega
theorem toks_jn : ∀ (r : List (List UInt8)) (acc : List UInt8), (∀ t ∈ r, (46 : UInt8) ∉ t) → toks (jn acc r) = toks acc ++ r
  | [], acc, _ => by simp [jn]
  | t :: r, acc, h => by
    rw [jn, toks_jn r _ (fun t q => h t (List.mem_cons_of_mem _ q)), toks, toksA_app, toks, toksA_plain [] t (h t List.mem_cons_self)]
    simp [toks]
theorem toks_join (C : List (List UInt8)) (h0 : C ≠ []) (h : ∀ t ∈ C, (46 : UInt8) ∉ t) : toks (join C) = C := by
  rcases C with _ | ⟨t, r⟩
  · exact absurd rfl h0
  rw [join, toks_jn r t (fun t q => h t (List.mem_cons_of_mem _ q)), toks, toksA_plain [] t (h t List.mem_cons_self)]; simp
theorem Join_l0 (L : List (List UInt8)) (hL : L.length ≤ 140737488351232) : ∀ (rest pre : List (List UInt8)) (acc : List UInt8) (i : Int), L = pre ++ rest → i = (pre.length : Int) → 0 < pre.length → (jn acc rest).length ≤ 9223372036854775807 →
    Ev (fun k => spec_Join.l0 k (L.map ba) (ba acc) i) (ba (jn acc rest)) := by
  intro rest
  induction rest with
  | nil =>
    intro pre acc i h hi _ _
    have hz : ((L.map ba).length : Int) = pre.length := by rw [h]; simp
    refine Ev.step (fun k => by rw [spec_Join.l0, if_neg (by omega)]) ?_
    exact Ev.now _
  | cons c rest ih =>
    intro pre acc i h hi hp hn
    have hz : ((L.map ba).length : Int) = pre.length + rest.length + 1 := by rw [h]; simp; omega
    have hz2 : (L.length : Int) = pre.length + rest.length + 1 := by rw [h]; simp; omega
    have hb : rdOf ByteArray.empty (L.map ba) i = ba c := rdOf_mid _ (pre.map ba) (ba c) (rest.map ba) (by rw [h]; simp) (by simp; omega)
    have hw : wrap64 (i + 1) = i + 1 := w64 (by omega) (by omega)
    have hle := jn_le rest (acc ++ 46 :: c)
    rw [jn] at hn
    simp only [List.length_append, List.length_cons] at hle
    have IH := ih (pre ++ [c]) (acc ++ 46 :: c) (i + 1) (by rw [h]; simp) (by simp; omega) (by simp) hn
    have e46 : (⟨#[46]⟩ : ByteArray) = ba [46] := rfl
    refine Ev.step (fun k => by rw [spec_Join.l0, if_pos (by omega), if_pos (by omega), if_pos (by rw [ba_size]; omega), if_pos (by omega), hb, e46, ba_append, if_pos (by rw [ba_size, ba_size]; simp; omega), ba_append, hw]) ?_
    refine Ev.det' (Ev.congr (fun k => by rw [show acc ++ [46] ++ c = acc ++ 46 :: c from by simp]) IH) rfl
theorem Join_ev (L : List (List UInt8)) (hL : L.length ≤ 140737488351232) (h : (join L).length ≤ 9223372036854775807) : Ev (fun k => spec_Join.f k (L.map ba)) (ba (join L)) := by
  rcases L with _ | ⟨c, rest⟩
  · refine Ev.congr (fun k => by rw [spec_Join.f]) ?_
    refine Ev.step (fun k => by rw [spec_Join.l0, if_neg (by simp)]) ?_
    exact Ev.now _
  refine Ev.congr (fun k => by rw [spec_Join.f]) ?_
  have hb : rdOf ByteArray.empty ((c :: rest).map ba) 0 = ba c := rdOf_mid _ [] (ba c) (rest.map ba) (by simp) rfl
  have hw : wrap64 (0 + 1) = 0 + 1 := w64 (by omega) (by omega)
  have e0 : (⟨#[]⟩ : ByteArray) = ba [] := rfl
  rw [join] at h
  have hle := jn_le rest c
  refine Ev.step (fun k => by rw [spec_Join.l0, if_pos (by simp <;> omega), if_neg (by omega), if_pos (by omega), hb, e0, ba_append, if_pos (by rw [ba_size, ba_size]; simp; omega), hw]) ?_
  exact Join_l0 (c :: rest) hL rest [c] ([] ++ c) (0 + 1) rfl rfl (by simp) h
theorem join_len (n : Nat) (C : List (List UInt8)) (h : ∀ t ∈ C, t.length ≤ n) : (join C).length ≤ (n + 1) * C.length := by
  rcases C with _ | ⟨t, r⟩
  · simp [join]
  have := jn_len n r t (fun t q => h t (List.mem_cons_of_mem _ q))
  have ht := h t List.mem_cons_self
  rw [join, List.length_cons, Nat.mul_add]
  omega
def wildK (p : S42) : Prop := p.f0 = 1 ∨ p.f0 = 2
theorem u8_of (x : Int) (h : 48 ≤ x ∧ x ≤ 57) : ∃ c : UInt8, (c.toNat : Int) = x ∧ 48 ≤ c.toNat ∧ c.toNat ≤ 57 := ⟨UInt8.ofNat x.toNat, by rw [UInt8.toNat_ofNat']; omega, by rw [UInt8.toNat_ofNat']; omega, by rw [UInt8.toNat_ofNat']; omega⟩
theorem digit_of (x : Int) (h : 0 ≤ x ∧ x ≤ 99) : ∃ c : UInt8, strOfNums [(wrap64 (48 + (Int.tmod x 10))) % 256] = ba [c] ∧ 48 ≤ c.toNat ∧ c.toNat ≤ 57 := by
  have e : Int.tmod x 10 = x % 10 := Int.tmod_eq_emod_of_nonneg h.1
  have hw : wrap64 (48 + (Int.tmod x 10)) = 48 + x % 10 := by rw [e, w64 (by omega) (by omega)]
  obtain ⟨c, h1, h2, h3⟩ := u8_of (48 + x % 10) (by omega)
  refine ⟨c, ?_, h2, h3⟩
  rw [hw, show (48 + x % 10) % 256 = (c.toNat : Int) by omega, ← strOfNums_bytes]
  rfl
theorem Digits_ev (x : Int) (h : 0 ≤ x ∧ x ≤ 99) : ∃ d : List UInt8, Ev (fun k => spec_Digits.f k x) (ba d) ∧ (∀ c ∈ d, 48 ≤ c.toNat ∧ c.toNat ≤ 57) ∧ d ≠ [] ∧ d.length ≤ 2 := by
  obtain ⟨c, h1, h2⟩ := digit_of x h
  by_cases hx : x ≥ 10
  · have e : Int.tdiv x 10 = x / 10 := Int.tdiv_eq_ediv_of_nonneg h.1
    have hw : wrap64 (Int.tdiv x 10) = x / 10 := by rw [e, w64 (by omega) (by omega)]
    obtain ⟨c2, g1, g2⟩ := digit_of (x / 10) (by omega)
    refine ⟨[c2, c], Ev.congr (fun k => by rw [spec_Digits.f, h1]) ?_, fun d hd => ?_, by simp, by simp⟩
    · refine Ev.step (fun k => by rw [spec_Digits.l0, if_pos hx, hw, Option.bind_some, g1, if_pos (by rw [ba_size, ba_size]; simp), ba_append]) ?_
      exact Ev.step (f := fun _ => some (ba ([c2] ++ [c]))) (fun k => by rw [spec_Digits.l0, if_neg (by omega)]) (Ev.now _)
    rcases List.mem_cons.1 hd with rfl | hd
    · exact g2
    rw [List.mem_singleton.1 hd]; exact h2
  refine ⟨[c], Ev.congr (fun k => by rw [spec_Digits.f, h1]) ?_, fun d hd => by rw [List.mem_singleton.1 hd]; exact h2, by simp, by simp⟩
  exact Ev.step (fun k => by rw [spec_Digits.l0, if_neg hx]) (Ev.now _)
structure TextF (p : S42) (t : List UInt8) : Prop where
  nd : (46 : UInt8) ∉ t
  ne : t ≠ []
  len : t.length ≤ 2147483747
  word : p.f0 = 0 → t = p.f1.data.toList
  rest : p.f0 = 11 → t = [62]
  gt : p.f0 ≠ 11 → t ≠ [62]
theorem let_dot {c : UInt8} (h : letB c = true) : c ≠ 46 ∧ c ≠ 62 ∧ c ≠ 42 ∧ 32 < c.toNat ∧ c.toNat < 127 := by
  unfold letB at h
  have h1 : (97 ≤ c.toNat ∧ c.toNat ≤ 122) ∨ (48 ≤ c.toNat ∧ c.toNat ≤ 57) := by simpa using h
  refine ⟨?_, ?_, ?_, by omega, by omega⟩ <;> (intro e; rw [e] at h1; revert h1; decide)
theorem text_ev (n i : Nat) (p : S42) (hk : p.f0 = 0 ∨ p.f0 = 11 ∨ wildK p) (hp : KnownP n i p) (hs : SizeP p) : ∃ t : List UInt8, Ev (fun k => spec_text.f k p.f0 p.f1 p.f2 p.f3 p.f4) (ba t) ∧ TextF p t := by
  rcases hk with k0 | k11 | k1 | k2
  · have h := hp.word k0
    refine ⟨p.f1.data.toList, Ev.congr (fun k => by rw [spec_text.f, if_pos k0]; rfl) (Ev.now _), ⟨fun hm => (let_dot (h.2 _ hm)).1 rfl, h.1, by have := hs.1; show p.f1.size ≤ _; omega, fun _ => rfl, fun e => by omega, fun _ e => ?_⟩⟩
    have := h.2 62 (by rw [e]; simp)
    exact (let_dot this).2.1 rfl
  · refine ⟨[62], Ev.congr (fun k => by rw [spec_text.f, if_neg (by omega), if_neg (by omega), if_pos k11]; rfl) (Ev.now _), ⟨by decide, by decide, by decide, fun e => by omega, fun _ => rfl, fun e => absurd k11 e⟩⟩
  · obtain ⟨d, h1, h2, h3, h4⟩ := Digits_ev p.f2 hp.f2
    have e36 : (⟨#[36]⟩ : ByteArray) = ba [36] := rfl
    refine ⟨36 :: d, Ev.congr (fun k => by rw [spec_text.f, if_neg (by omega), if_pos k1]) (Ev.bind h1 (Ev.congr (fun k => by rw [if_pos (by rw [ba_size]; omega), e36, ba_append]; rfl) (Ev.now _))), ⟨fun hm => ?_, by simp, by simp; omega, fun e => by omega, fun e => by omega, fun _ e => ?_⟩⟩
    · rcases List.mem_cons.1 hm with hm | hm
      · exact absurd hm (by decide)
      have := h2 _ hm
      revert this
      decide
    injection e with e
    exact absurd e (by decide)
  obtain ⟨d, h1, h2, h3, h4⟩ := Digits_ev p.f2 hp.f2
  have e1 : (⟨#[123, 123, 119, 105, 108, 100, 99, 97, 114, 100, 40]⟩ : ByteArray) = ba [123, 123, 119, 105, 108, 100, 99, 97, 114, 100, 40] := rfl
  have e2 : (⟨#[41, 125, 125]⟩ : ByteArray) = ba [41, 125, 125] := rfl
  refine ⟨[123, 123, 119, 105, 108, 100, 99, 97, 114, 100, 40] ++ d ++ [41, 125, 125], Ev.congr (fun k => by rw [spec_text.f, if_neg (by omega), if_neg (by omega), if_neg (by omega), if_pos k2]) (Ev.bind h1 (Ev.congr (fun k => by rw [if_pos (by rw [ba_size]; omega), e1, ba_append, if_pos (by rw [ba_size]; simp; omega), e2, ba_append]) (Ev.now _))), ⟨fun hm => ?_, by simp, by simp; omega, fun e => by omega, fun e => by omega, fun _ e => ?_⟩⟩
  · rcases List.mem_append.1 hm with hm | hm
    · rcases List.mem_append.1 hm with hm | hm
      · revert hm; decide
      have := h2 _ hm
      revert this
      decide
    revert hm; decide
  have := congrArg List.length e
  simp at this
theorem Dest_l0 (L : List S42) (hL : L.length ≤ 1000) (hT : ∀ p ∈ L, ∃ t : List UInt8, Ev (fun k => spec_text.f k p.f0 p.f1 p.f2 p.f3 p.f4) (ba t) ∧ TextF p t) : ∀ (n i : Nat) (out : List (List UInt8)), n + i = L.length → out.length = i → (∀ t ∈ out, t.length ≤ 2147483747) →
    ∃ ts : List (List UInt8), ts.length = n ∧ (∀ (j : Nat) (p : S42), L[i + j]? = some p → ∃ t, ts[j]? = some t ∧ TextF p t) ∧ (∀ t ∈ ts, t.length ≤ 2147483747) ∧ Ev (fun k => spec_Dest.l0 k L (out.map ba) (i : Int)) (ba (join (out ++ ts)))
  | 0, i, out, h, ho, hb => by
    refine ⟨[], rfl, fun j p hp => by have := (List.getElem?_eq_some_iff.1 hp).1; omega, by simp, Ev.step (fun k => by rw [spec_Dest.l0, if_neg (by omega)]) ?_⟩
    have hl := join_len 2147483747 out hb
    have : 2147483748 * out.length ≤ 2147483748 * 1000 := Nat.mul_le_mul_left _ (by omega)
    refine Ev.bind (Join_ev out (by omega) (by omega)) ?_
    rw [List.append_nil]
    exact Ev.now _
  | n + 1, i, out, h, ho, hb => by
    obtain ⟨p, hp⟩ : ∃ p, L[i]? = some p := ⟨_, List.getElem?_eq_getElem (by omega)⟩
    obtain ⟨t, ht, htf⟩ := hT p (List.mem_of_getElem? hp)
    have hw := w1 (i := i) (by omega)
    obtain ⟨ts, g1, g2, g3, g4⟩ := Dest_l0 L hL hT n (i + 1) (out ++ [t]) (by omega) (by simp; omega) (fun u hu => by
      rcases List.mem_append.1 hu with hu | hu
      · exact hb u hu
      rw [List.mem_singleton.1 hu]; exact htf.len)
    refine ⟨t :: ts, by rw [List.length_cons, g1], fun j q hq => ?_, fun u hu => ?_, ?_⟩
    · cases j with
      | zero =>
        rw [Nat.add_zero, hp] at hq
        injection hq with hq
        subst hq
        exact ⟨t, rfl, htf⟩
      | succ j =>
        obtain ⟨u, h1, h2⟩ := g2 j q (by rw [show i + 1 + j = i + (j + 1) by omega]; exact hq)
        exact ⟨u, by simpa using h1, h2⟩
    · rcases List.mem_cons.1 hu with rfl | hu
      · exact htf.len
      exact g3 u hu
    refine Ev.step (fun k => by rw [spec_Dest.l0, if_pos (by omega), if_pos (by omega), rdT hp]) (Ev.bind ht (Ev.congr (fun k => by rw [if_pos (by rw [List.length_map]; omega), hw]) ?_))
    refine Ev.det' (Ev.congr (fun k => by rw [show out.map ba ++ [ba t] = (out ++ [t]).map ba from by simp]) g4) (by rw [List.append_assoc]; rfl)
theorem Dest_ev (L : List S42) (hL : L.length ≤ 1000) (hT : ∀ p ∈ L, ∃ t : List UInt8, Ev (fun k => spec_text.f k p.f0 p.f1 p.f2 p.f3 p.f4) (ba t) ∧ TextF p t) :
    ∃ ts : List (List UInt8), ts.length = L.length ∧ (∀ (j : Nat) (p : S42), L[j]? = some p → ∃ t, ts[j]? = some t ∧ TextF p t) ∧ (∀ t ∈ ts, t.length ≤ 2147483747) ∧ Ev (fun k => spec_Dest.f k L) (ba (join ts)) := by
  obtain ⟨ts, h1, h2, h3, h4⟩ := Dest_l0 L hL hT L.length 0 [] rfl rfl (by simp)
  refine ⟨ts, h1, fun j p (hp : L[j]? = some p) => h2 j p (by rw [Nat.zero_add]; exact hp), h3, ?_⟩
  rw [List.nil_append] at h4
  exact h4
end Go.Proofs.YtoopmpjgmgffoaaDoor.PlFnTransformBack
