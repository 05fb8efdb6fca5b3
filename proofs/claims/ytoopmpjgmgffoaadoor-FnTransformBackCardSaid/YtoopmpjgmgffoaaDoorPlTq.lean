/- The law FnTransformBack, plainly. -/
import Derived.Test.YtoopmpjgmgffoaaDoorPlTp
namespace Go.Proofs.YtoopmpjgmgffoaaDoor.PlFnTransformBack
open Go.RowKit Go.Proofs.YtoopmpjgmgffoaaDoorW.PrintWords Go.Proofs.YtoopmpjgmgffoaaDoorW.PrintLast Go.Proofs.YtoopmpjgmgffoaaDoorW.PrintMore Go.Proofs.YtoopmpjgmgffoaaDoor.Pl Go.Proofs.YtoopmpjgmgffoaaDoor.Bs Go.Proofs.YtoopmpjgmgffoaaDoor.GFnTransformBack Go.Proofs.YtoopmpjgmgffoaaDoor.Tr
set_option linter.unusedVariables false
set_option linter.unusedSimpArgs false
theorem toksA_nodot : ∀ (l p : List UInt8), (46 : UInt8) ∉ p → ∀ t ∈ toksA p l, (46 : UInt8) ∉ t
  | [], p, h, t, ht => by
    have : t = p := by simpa [toksA] using ht
    rw [this]; exact h
  | c :: l, p, h, t, ht => by
    by_cases e : c = 46
    · subst e
      rw [toksA_dot] at ht
      rcases List.mem_cons.1 ht with rfl | ht
      · exact h
      exact toksA_nodot l [] (by simp) t ht
    rw [toksA_other _ e] at ht
    exact toksA_nodot l _ (fun hm => by
      rcases List.mem_append.1 hm with hm | hm
      · exact h hm
      exact e (List.mem_singleton.1 hm).symm) t ht
theorem toksA_bytes : ∀ (l p : List UInt8), ∀ t ∈ toksA p l, ∀ c ∈ t, c ∈ p ∨ c ∈ l
  | [], p, t, ht, c, hc => by
    have : t = p := by simpa [toksA] using ht
    rw [this] at hc
    exact .inl hc
  | d :: l, p, t, ht, c, hc => by
    by_cases e : d = 46
    · subst e
      rw [toksA_dot] at ht
      rcases List.mem_cons.1 ht with rfl | ht
      · exact .inl hc
      rcases toksA_bytes l [] t ht c hc with h | h
      · cases h
      exact .inr (List.mem_cons_of_mem _ h)
    rw [toksA_other _ e] at ht
    rcases toksA_bytes l _ t ht c hc with h | h
    · rcases List.mem_append.1 h with h | h
      · exact .inl h
      exact .inr (by rw [List.mem_singleton.1 h]; exact List.mem_cons_self)
    exact .inr (List.mem_cons_of_mem _ h)
abbrev PlainF (ul : List UInt8) : Prop := ((ul.length ≤ 400 ∧ ul.all cleanB = true) ∧ validB ul = true ∧ (toks ul).all tameT = true) ∧ (toks ul).all litT = true
theorem toks_count (ul : List UInt8) (h : ul.length ≤ 400) : (toks ul).length ≤ 401 ∧ ∀ t ∈ toks ul, t.length ≤ 400 := by
  refine ⟨?_, fun t ht => Nat.le_trans (toks_short ul t ht) h⟩
  rw [toks_len]
  have := List.count_le_length (a := (46 : UInt8)) (l := ul)
  omega
theorem fits_plain {sl ul : List UInt8} {L : List S42} (hM : MapF sl L) (hP : PlainF ul) (hx : matchT (toks ul) (toks sl) = true) : Fits (toks sl) (toks ul) := by
  obtain ⟨⟨⟨h1, h2⟩, h3, h4⟩, h5⟩ := hP
  have hc := toks_count ul h1
  refine ⟨validB_formed hM.sound.valid, hx, fun t ht => ⟨formed_ne _ (validB_formed h3) t ht, toksA_nodot ul [] (by simp) t ht, fun c hc => ?_, List.all_eq_true.1 h5 t ht, List.all_eq_true.1 h4 t ht⟩, by omega, fun t ht => by have := hc.2 t ht; omega⟩
  rcases toksA_bytes ul [] t ht c hc with h | h
  · cases h
  have := List.all_eq_true.1 h2 c h
  unfold cleanB at this
  rw [Bool.and_eq_true, decide_eq_true_iff, decide_eq_true_iff] at this
  exact UInt8.lt_iff_toNat_lt.1 this.1
theorem back_len {sl : List UInt8} {L : List S42} (hM : MapF sl L) (hz : ∀ p ∈ L, SizeP p) (hk : ∀ p ∈ L, p.f0 = 0 ∨ p.f0 = 11 ∨ wildK p) : (join (L.map fw)).length ≤ 9223372036854775807 := by
  have h1 := join_len 2147483647 (L.map fw) (fun t ht => by
    obtain ⟨p, hp, rfl⟩ := List.mem_map.1 ht
    unfold fw
    split
    · exact (hz p hp).1
    split <;> decide)
  have h2 := hM.len
  rw [List.length_map] at h1
  have : (2147483647 + 1) * L.length ≤ 2147483648 * 10 := Nat.mul_le_mul_left _ h2
  omega
theorem oth_all (Q : S42 → Prop) : ∀ (S : List (List UInt8)) (at_ : List Int) (n : Nat), (∀ x, Q ⟨2, ⟨#[]⟩, x, 0, []⟩) → Q ⟨11, ⟨#[]⟩, 0, 0, []⟩ → (∀ t ∈ S, Q ⟨0, ba t, 0, 0, []⟩) → ∀ p ∈ oth S at_ n, Q p
  | [], _, _, _, _, _, p, hp => by cases hp
  | t :: S, at_, n, h1, h2, h3, p, hp => by
    rw [oth] at hp
    have h3' := fun t ht => h3 t (List.mem_cons_of_mem _ ht)
    split at hp
    · rcases List.mem_cons.1 hp with rfl | hp
      · exact h1 _
      exact oth_all Q S at_ _ h1 h2 h3' p hp
    split at hp
    · rcases List.mem_cons.1 hp with rfl | hp
      · exact h2
      exact oth_all Q S at_ _ h1 h2 h3' p hp
    rcases List.mem_cons.1 hp with rfl | hp
    · exact h3 t List.mem_cons_self
    exact oth_all Q S at_ _ h1 h2 h3' p hp
theorem oth_size {sl : List UInt8} {L : List S42} {at_ : List Int} {n : Nat} (hM : MapF sl L) : ∀ p ∈ oth (toks sl) at_ n, SizeP p :=
  oth_all SizeP _ _ _ (fun x => ⟨by show (0 : Nat) ≤ _; omega, by show (0 : Nat) ≤ _; omega⟩) ⟨by show (0 : Nat) ≤ _; omega, by show (0 : Nat) ≤ _; omega⟩ (fun t ht => ⟨by
    have h1 := toks_short sl t ht
    have h2 := hM.size
    show t.length ≤ _
    omega, by show (0 : Nat) ≤ _; omega⟩)
theorem oth_kinds (S : List (List UInt8)) (at_ : List Int) (n : Nat) : ∀ p ∈ oth S at_ n, p.f0 = 0 ∨ p.f0 = 11 ∨ wildK p :=
  oth_all _ _ _ _ (fun x => .inr (.inr (.inr rfl))) (.inr (.inl rfl)) (fun t _ => .inl rfl)
theorem back_all {sl ul fl : List UInt8} {L M : List S42} (hM : MapF sl L) (hz : ∀ p ∈ L, SizeP p) (hP : PlainF ul) (hF : Fits (toks sl) (toks ul)) (hR : RevF (stars sl) L) (hfl : fl = join (L.map fw)) (hMo : M = oth (toks sl) (bk L (List.replicate (stars sl + 1) 0) 0) 0) (hM2 : MapF fl M) :
    Ready sl ul L (join (outT (toks sl) (toks ul) L)) ∧ Ready fl (join (outT (toks sl) (toks ul) L)) M ul ∧ (∃ k, impl_Publish.f k (ba (join (outT (toks sl) (toks ul) L))) = some true) ∧ ∃ k, impl_Matches.f k (ba (join (outT (toks sl) (toks ul) L))) (ba fl) = some true := by
  have hk := hR.kinds
  have hT := toks_count ul hP.1.1.1
  have htf : toks fl = L.map fw := by rw [hfl]; exact toks_back hM hk
  have hto := toks_out hM hF hk
  have hsz := hM2.size
  have hfb := fits_back hM hF hk (by rw [← hfl]; exact hM2.sound.valid) (by rw [← hfl]; exact hsz) hT
  have hF2 : Fits (toks fl) (toks (join (outT (toks sl) (toks ul) L))) := by rw [htf, hto]; exact hfb.1
  have hr2 := ready hM2 (by rw [hMo]; exact oth_size hM) (by rw [hMo]; exact oth_kinds _ _ _) hF2 hfb.2
  have e2 : join (outT (toks fl) (toks (join (outT (toks sl) (toks ul) L))) M) = ul := by
    rw [htf, hto, hMo, back_out hM hF hk hR.all, join_toks]
  rw [e2] at hr2
  have hoP := out_pub hM hF hk
  refine ⟨ready hM hz hk hF (by have := hP.1.1.1; omega), hr2, ?_, ?_⟩
  · exact (Publish_ev _ (by have := hfb.2; omega) (nonempty_pieces _ (fun t ht => (hoP t ht).ne) (out_ne hM hF hk)) (by rw [hto]; exact List.all_eq_true.2 fun t ht => (hoP t ht).lit) (by rw [hto]; exact fun t ht => ⟨(hoP t ht).ne, (hoP t ht).clean⟩)).rounds
  have h := impl_Matches_ev (join (outT (toks sl) (toks ul) L)) fl (by have := hfb.2; omega) (by omega) (by
    rw [hto]
    have : ∀ (S : List (List UInt8)), (∀ t ∈ S, PubT t) → formedB S = true := by
      intro S
      induction S with
      | nil => intro _; rfl
      | cons t S ih =>
        intro h
        rw [formedB, ih (fun u hu => h u (List.mem_cons_of_mem _ hu)), decide_eq_true (h t List.mem_cons_self).ne, decide_eq_true (pub_ne (h t List.mem_cons_self)).2]
        rfl
    exact this _ hoP) (validB_formed hM2.sound.valid) (by rw [hto]; exact List.all_eq_true.2 fun t ht => (hoP t ht).tame) hM2.tame
  rw [hto, subT_lit _ _ (List.all_eq_true.2 fun t ht => (hoP t ht).lit), htf, hfb.1.mt] at h
  exact h.rounds
end Go.Proofs.YtoopmpjgmgffoaaDoor.PlFnTransformBack
