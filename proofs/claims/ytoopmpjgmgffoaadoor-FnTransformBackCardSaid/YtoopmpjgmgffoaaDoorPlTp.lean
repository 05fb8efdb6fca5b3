/- The way back of a mapping, plainly. -/
import Derived.Test.YtoopmpjgmgffoaaDoorPlTo
namespace Go.Proofs.YtoopmpjgmgffoaaDoor.PlFnTransformBack
open Go.RowKit Go.Proofs.YtoopmpjgmgffoaaDoorW.PrintWords Go.Proofs.YtoopmpjgmgffoaaDoorW.PrintLast Go.Proofs.YtoopmpjgmgffoaaDoorW.PrintMore Go.Proofs.YtoopmpjgmgffoaaDoor.Pl Go.Proofs.YtoopmpjgmgffoaaDoor.Bs Go.Proofs.YtoopmpjgmgffoaaDoor.GFnTransformBack Go.Proofs.YtoopmpjgmgffoaaDoor.Tr
set_option linter.unusedVariables false
set_option linter.unusedSimpArgs false
section
variable {sl : List UInt8} {L : List S42} {T : List (List UInt8)}
theorem fw_cases (hM : MapF sl L) (hk : ∀ p ∈ L, p.f0 = 0 ∨ p.f0 = 11 ∨ wildK p) {p : S42} (hp : p ∈ L) : (p.f0 = 0 ∧ fw p = p.f1.data.toList ∧ PubT (fw p)) ∨ (p.f0 = 11 ∧ fw p = [62]) ∨ (wildK p ∧ fw p = [42]) := by
  rcases hk p hp with h | h | h
  · have e : fw p = p.f1.data.toList := by unfold fw; rw [if_pos h]
    exact .inl ⟨h, e, e ▸ word_of hM hp h⟩
  · exact .inr (.inl ⟨h, by unfold fw; rw [if_neg (by omega), if_pos h]⟩)
  exact .inr (.inr ⟨h, fw_wild h⟩)
theorem pub_ne {t : List UInt8} (h : PubT t) : t ≠ [42] ∧ t ≠ [62] := by
  have := h.lit
  unfold litT at this
  rw [Bool.and_eq_true, decide_eq_true_iff, decide_eq_true_iff] at this
  exact this
theorem fw_dot (hM : MapF sl L) (hk : ∀ p ∈ L, p.f0 = 0 ∨ p.f0 = 11 ∨ wildK p) : ∀ t ∈ L.map fw, (46 : UInt8) ∉ t := fun t ht => by
  obtain ⟨p, hp, rfl⟩ := List.mem_map.1 ht
  rcases fw_cases hM hk hp with ⟨_, _, h⟩ | ⟨_, h⟩ | ⟨_, h⟩
  · exact h.dot
  · rw [h]; decide
  rw [h]; decide
theorem toks_back (hM : MapF sl L) (hk : ∀ p ∈ L, p.f0 = 0 ∨ p.f0 = 11 ∨ wildK p) : toks (join (L.map fw)) = L.map fw := toks_join _ (by intro e; exact hM.ne (List.map_eq_nil_iff.1 e)) (fw_dot hM hk)
theorem toks_out (hM : MapF sl L) (hF : Fits (toks sl) T) (hk : ∀ p ∈ L, p.f0 = 0 ∨ p.f0 = 11 ∨ wildK p) : toks (join (outT (toks sl) T L)) = outT (toks sl) T L := toks_join _ (out_ne hM hF hk) (fun t ht => (out_pub hM hF hk t ht).dot)
theorem out_len (hM : MapF sl L) (hF : Fits (toks sl) T) (hk : ∀ p ∈ L, p.f0 = 0 ∨ p.f0 = 11 ∨ wildK p) : ∃ L' p, L = L' ++ [p] ∧ ((p.f0 = 11 ∧ (outT (toks sl) T L).length + (toks sl).length = L.length + T.length ∧ (outT (toks sl) T L).drop (L.length - 1) = T.drop ((toks sl).length - 1) ∧ (toks sl).getLast? = some [62]) ∨ (p.f0 ≠ 11 ∧ (outT (toks sl) T L).length = L.length ∧ (toks sl).getLast? ≠ some [62])) := by
  obtain ⟨L', p, e⟩ := last_split hM.ne
  have hP := parts_of hM hk e
  have hl := last_iff (e ▸ hM)
  have hm := match_at _ _ hF.formed hF.mt
  have hS : 1 ≤ (toks sl).length := by rw [toks_len]; omega
  refine ⟨L', p, e, ?_⟩
  rw [e, outT_split _ _ hP]
  by_cases h : p.f0 = 11
  · refine .inl ⟨h, ?_, ?_, hl.1 h⟩
    · rw [if_pos h]
      simp only [List.length_append, List.length_map, List.length_drop, List.length_singleton]
      omega
    rw [if_pos h, List.length_append, List.length_singleton, Nat.add_sub_cancel, List.drop_append_of_le_length (by rw [List.length_map]; exact Nat.le_refl _), List.drop_eq_nil_of_le (by rw [List.length_map]; exact Nat.le_refl _)]
    rfl
  refine .inr ⟨h, ?_, fun h2 => h (hl.2 h2)⟩
  rw [if_neg h]
  simp
theorem out_get (hM : MapF sl L) (hk : ∀ p ∈ L, p.f0 = 0 ∨ p.f0 = 11 ∨ wildK p) {j : Nat} {q : S42} (hj : L[j]? = some q) (hq : q.f0 ≠ 11) : (outT (toks sl) T L)[j]? = some (pcL (toks sl) T q) := by
  obtain ⟨L', p, e⟩ := last_split hM.ne
  have hP := parts_of hM hk e
  rw [e] at hj ⊢
  exact out_at _ _ hP hj hq
theorem outT_cons (S T : List (List UInt8)) (p : S42) (r : List S42) : outT S T (p :: r) = outP S T p ++ outT S T r := by
  unfold outT
  rw [List.flatMap_cons]
theorem fits_back (hM : MapF sl L) (hF : Fits (toks sl) T) (hk : ∀ p ∈ L, p.f0 = 0 ∨ p.f0 = 11 ∨ wildK p) (hf : validB (join (L.map fw)) = true) (hfl : (join (L.map fw)).length ≤ 100) (hT : T.length ≤ 401 ∧ ∀ t ∈ T, t.length ≤ 400) :
    Fits (L.map fw) (outT (toks sl) T L) ∧ (join (outT (toks sl) T L)).length ≤ 500000 := by
  obtain ⟨L', p, e, h⟩ := out_len hM hF hk
  have hm := match_at _ _ hF.formed hF.mt
  have hS : 1 ≤ (toks sl).length := by rw [toks_len]; omega
  have hL : 1 ≤ L.length := by rw [e]; simp
  have hL10 := hM.len
  have hlast : (L.map fw).getLast? = some (fw p) := by rw [e]; simp
  have hpL : p ∈ L := by rw [e]; simp
  have hlen : (outT (toks sl) T L).length ≤ 411 := by rcases h with ⟨_, h, _⟩ | ⟨_, h, _⟩ <;> omega
  have hsz : ∀ t ∈ outT (toks sl) T L, t.length ≤ 400 := fun t ht => by
    obtain ⟨q, hq, h⟩ := List.mem_flatMap.1 ht
    unfold outP at h
    by_cases h11 : q.f0 = 11
    · rw [if_pos h11] at h
      exact hT.2 t (List.mem_of_mem_drop h)
    rw [if_neg h11, List.mem_singleton] at h
    rw [h]
    rcases hk q hq with g | g | g
    · unfold pcL
      rw [if_pos g]
      have h1 : q.f1.data.toList ∈ toks (join (L.map fw)) := by
        rw [toks_back hM hk]
        exact List.mem_map.2 ⟨q, hq, by unfold fw; rw [if_pos g]⟩
      have := toks_short _ _ h1
      omega
    · exact absurd g h11
    obtain ⟨x, u, _, _, g3, g4⟩ := wild_tok hM hF hq g
    rw [g4]
    exact hT.2 u (List.mem_of_getElem? g3)
  have hform : formedB (L.map fw) = true := by have := validB_formed hf; rwa [toks_back hM hk] at this
  refine ⟨⟨hform, match_of _ _ hform ?_ (fun hl => ?_) (fun i s t hs ht hn => ?_), out_pub hM hF hk, by omega, fun t ht => by have := hsz t ht; omega⟩, ?_⟩
  · rw [List.length_map]
    rcases h with ⟨_, h, _⟩ | ⟨_, h, _⟩ <;> omega
  · rw [List.length_map]
    rcases h with ⟨h1, h, _⟩ | ⟨_, h, _⟩
    · exact absurd (by rw [hlast]; unfold fw; rw [if_neg (by omega), if_pos h1]) hl
    exact h
  · obtain ⟨q, hq, rfl⟩ : ∃ q, L[i]? = some q ∧ fw q = s := by
      rw [List.getElem?_map] at hs
      obtain ⟨q, h1, h2⟩ := Option.map_eq_some_iff.1 hs
      exact ⟨q, h1, h2⟩
    have hmem := List.mem_of_getElem? hq
    rcases fw_cases hM hk hmem with ⟨g0, g1, _⟩ | ⟨_, g1⟩ | ⟨_, g1⟩
    · right
      rw [out_get hM hk hq (by omega)] at ht
      injection ht with ht
      rw [← ht, g1]
      unfold pcL
      rw [if_pos g0]
    · exact absurd g1 hn
    exact .inl g1
  have := join_len 400 _ hsz
  have : (400 + 1) * (outT (toks sl) T L).length ≤ 401 * 411 := Nat.mul_le_mul_left _ hlen
  omega
/-- The parts that lead back, at work. -/
theorem back_flat (hM : MapF sl L) (hF : Fits (toks sl) T) (hk : ∀ p ∈ L, p.f0 = 0 ∨ p.f0 = 11 ∨ wildK p) (hR : ∀ N : Nat, 1 ≤ N → N ≤ stars sl → ∃ (j : Nat) (p : S42), L[j]? = some p ∧ wildK p ∧ p.f2 = (N : Int)) : ∀ (n i : Nat), n + i = (toks sl).length → (i < (toks sl).length ∨ (toks sl).getLast? ≠ some [62]) →
    outT (L.map fw) (outT (toks sl) T L) (oth ((toks sl).drop i) (bk L (List.replicate (stars sl + 1) 0) 0) (((toks sl).take i).count [42])) = T.drop i
  | 0, i, h, hi => by
    have hm := match_at _ _ hF.formed hF.mt
    have hl := hm.2.1 (hi.resolve_left (by omega))
    rw [List.drop_eq_nil_of_le (by omega), List.drop_eq_nil_of_le (by omega)]
    rfl
  | n + 1, i, h, hi => by
    have hm := match_at _ _ hF.formed hF.mt
    obtain ⟨s, hs⟩ : ∃ s, (toks sl)[i]? = some s := ⟨_, List.getElem?_eq_getElem (by omega)⟩
    have hd : (toks sl).drop i = s :: (toks sl).drop (i + 1) := by
      rw [List.drop_eq_getElem_cons (by omega)]
      congr 1
      exact Option.some.inj ((List.getElem?_eq_getElem (by omega)).symm.trans hs)
    have htk : (toks sl).take (i + 1) = (toks sl).take i ++ [s] := by rw [List.take_add_one, hs]; rfl
    by_cases c1 : s = [62]
    · have hi1 : i + 1 = (toks sl).length := by
        have hfm := hF.formed
        have : ∀ (S : List (List UInt8)) (j : Nat), formedB S = true → S[j]? = some [62] → j + 1 = S.length := by
          intro S
          induction S with
          | nil => intro j _ hj; simp at hj
          | cons x S ih =>
            intro j hf hj
            obtain ⟨k0, k1, k2⟩ := formed_cons hf
            cases j with
            | zero =>
              have hj : x = [62] := Option.some.inj hj
              rcases k1 with k1 | k1
              · exact absurd hj k1
              rw [k1]; rfl
            | succ j =>
              have := ih j k2 hj
              rw [List.length_cons, ← this]
        exact this _ _ hfm (c1 ▸ hs)
      have hlast : (toks sl).getLast? = some [62] := by rw [List.getLast?_eq_getElem?, show (toks sl).length - 1 = i by omega, hs, c1]
      rw [hd, c1, List.drop_eq_nil_of_le (show (toks sl).length ≤ i + 1 by omega), oth, if_neg (by decide), if_pos rfl]
      obtain ⟨L', p, e, hh⟩ := out_len hM hF hk
      rcases hh with ⟨_, _, h3, _⟩ | ⟨_, _, h3⟩
      · have e1 : oth [] (bk L (List.replicate (stars sl + 1) 0) 0) (((toks sl).take i).count [42]) = [] := rfl
        rw [e1, outT_cons]
        have e2 : outP (L.map fw) (outT (toks sl) T L) ⟨11, ⟨#[]⟩, 0, 0, []⟩ = (outT (toks sl) T L).drop ((L.map fw).length - 1) := rfl
        rw [e2, List.length_map, h3, show (toks sl).length - 1 = i by omega]
        show T.drop i ++ [] = _
        rw [List.append_nil]
      exact absurd hlast h3
    have hi2 : i + 1 < (toks sl).length ∨ (toks sl).getLast? ≠ some [62] := by
      by_cases hl : (toks sl).getLast? = some [62]
      · left
        by_cases h3 : i + 1 < (toks sl).length
        · exact h3
        rw [List.getLast?_eq_getElem?, show (toks sl).length - 1 = i by omega, hs] at hl
        exact absurd (Option.some.inj hl) c1
      exact .inr hl
    have IH := back_flat hM hF hk hR n (i + 1) (by omega) hi2
    obtain ⟨t, ht, hst⟩ := hm.2.2 i s hs c1
    have hdT : T.drop i = t :: T.drop (i + 1) := by
      have hlt := (List.getElem?_eq_some_iff.1 ht).1
      rw [List.drop_eq_getElem_cons hlt]
      congr 1
      exact Option.some.inj ((List.getElem?_eq_getElem hlt).symm.trans ht)
    rw [htk, List.count_append] at IH
    by_cases c2 : s = [42]
    · rw [c2] at IH hs
      have e1 : List.count [42] [([42] : List UInt8)] = 1 := by decide
      rw [e1] at IH
      rw [hd, c2, oth, if_pos rfl, outT_cons, IH, hdT]
      obtain ⟨m, hm0⟩ : ∃ m, m = ((toks sl).take i).count [42] := ⟨_, rfl⟩
      rw [← hm0]
      have hm1 : m + 1 ≤ stars sl := by
        have h1 : ((toks sl).take (i + 1)).count [42] ≤ (toks sl).count [42] := (List.take_sublist _ _).count_le _
        rw [htk, List.count_append, c2, e1, ← hm0] at h1
        exact h1
      obtain ⟨j0, p0, h1, h2, h3⟩ := hR (m + 1) (by omega) hm1
      obtain ⟨c, j, p, k1, k2, k3, k4, k5⟩ := (bk_spec L (List.replicate (stars sl + 1) 0) 0 0 hk (fun q hq hn => by
        rcases fw_cases hM hk hq with ⟨_, _, g⟩ | ⟨_, g⟩ | ⟨g, _⟩
        · exact (pub_ne g).1
        · rw [g]; decide
        exact absurd g hn) (m + 1) (by simp; omega)).2 ⟨p0, List.mem_of_getElem? h1, h2, by rw [h3]; rfl⟩
      rw [rdI k1]
      rw [Nat.zero_add] at k2
      have hpl := plc_at (toks sl) 0 i hs
      rw [← hm0, Nat.zero_add] at hpl
      have hpj := out_get (T := T) hM hk k3 (wildK_not k4).2.1
      have e2 : pcL (toks sl) T p = t := by
        unfold pcL
        rw [if_neg (wildK_not k4).1, if_neg (wildK_not k4).2.1, show (p.f2 - 1).toNat = m by omega, List.getD_eq_getElem?_getD (l := plc 0 (toks sl)), hpl]
        show T.getD (((i : Nat) : Int)).toNat [] = t
        rw [Int.toNat_natCast, List.getD_eq_getElem?_getD, ht]
        rfl
      have e3 : outP (L.map fw) (outT (toks sl) T L) ⟨2, ⟨#[]⟩, ((0 + c + 1 : Nat) : Int), 0, []⟩ = [(outT (toks sl) T L).getD ((plc 0 (L.map fw)).getD (((0 + c + 1 : Nat) : Int) - 1).toNat 0).toNat []] := rfl
      rw [e3, show (((0 + c + 1 : Nat) : Int) - 1).toNat = c by omega, List.getD_eq_getElem?_getD (l := plc 0 (L.map fw)), k2]
      show [(outT (toks sl) T L).getD ((j : Nat) : Int).toNat []] ++ T.drop (i + 1) = t :: T.drop (i + 1)
      rw [Int.toNat_natCast, List.getD_eq_getElem?_getD, hpj, e2]
      rfl
    have hst : s = t := hst.resolve_left c2
    have e1 : List.count [42] [s] = 0 := List.count_eq_zero.2 (fun h => c2 (List.mem_singleton.1 h).symm)
    rw [e1] at IH; replace IH : outT (L.map fw) (outT (toks sl) T L) (oth ((toks sl).drop (i + 1)) (bk L (List.replicate (stars sl + 1) 0) 0) (((toks sl).take i).count [42])) = T.drop (i + 1) := IH
    rw [hd, oth, if_neg c2, if_neg c1, outT_cons, IH, hdT, hst]
    rfl
theorem back_out (hM : MapF sl L) (hF : Fits (toks sl) T) (hk : ∀ p ∈ L, p.f0 = 0 ∨ p.f0 = 11 ∨ wildK p) (hR : ∀ N : Nat, 1 ≤ N → N ≤ stars sl → ∃ (j : Nat) (p : S42), L[j]? = some p ∧ wildK p ∧ p.f2 = (N : Int)) :
    outT (L.map fw) (outT (toks sl) T L) (oth (toks sl) (bk L (List.replicate (stars sl + 1) 0) 0) 0) = T := by
  have := back_flat hM hF hk hR _ 0 rfl (.inl (by rw [toks_len]; omega))
  exact this
end
end Go.Proofs.YtoopmpjgmgffoaaDoor.PlFnTransformBack
