/- A mapping of all kinds: what its calls do. -/
import Derived.Test.YtoopmpjgmgffoaaDoorPlXe
import Derived.Test.YtoopmpjgmgffoaaDoorTrXj
namespace Go.Proofs.YtoopmpjgmgffoaaDoor.PlFnTransformBack
open Go.RowKit Go.Proofs.YtoopmpjgmgffoaaDoorW.PrintWords Go.Proofs.YtoopmpjgmgffoaaDoorW.PrintLast Go.Proofs.YtoopmpjgmgffoaaDoorW.PrintMore Go.Proofs.YtoopmpjgmgffoaaDoor.Pl Go.Proofs.YtoopmpjgmgffoaaDoor.Bs Go.Proofs.YtoopmpjgmgffoaaDoor.GFnTransformBack Go.Proofs.YtoopmpjgmgffoaaDoor.Tr
set_option linter.unusedVariables false
set_option linter.unusedSimpArgs false
def pcM (W : List (List UInt8)) (p : S42) : List UInt8 := if p.f0 = 0 then p.f1.data.toList else if p.f0 = 11 then [] else if p.f0 = 10 then numB (fnvB (keyL W p.f4) % p.f3.toNat) else pieceL p (W.getD (p.f2 - 1).toNat [])
theorem outM_one (W R : List (List UInt8)) {p : S42} (h : p.f0 ≠ 11) : outM W R p = [pcM W p] := by
  unfold outM pcM
  by_cases h0 : p.f0 = 0
  · rw [if_pos h0, if_pos h0]
  rw [if_neg h0, if_neg h0, if_neg h, if_neg h]
  split <;> rfl
theorem flatM_one (W R : List (List UInt8)) : ∀ L : List S42, (∀ p ∈ L, p.f0 ≠ 11) → L.flatMap (outM W R) = L.map (pcM W)
  | [], _ => rfl
  | p :: L, h => by
    rw [List.flatMap_cons, List.map_cons, flatM_one W R L (fun q hq => h q (List.mem_cons_of_mem _ hq)), outM_one W R (h p List.mem_cons_self)]
    rfl
theorem rest_of {sl : List UInt8} {L : List S42} (hM : MapF sl L) {L' : List S42} {p : S42} (e : L = L' ++ [p]) : ∀ q ∈ L', q.f0 ≠ 11 := by
  subst e
  intro q hq h
  obtain ⟨j, hj, rfl⟩ := List.getElem_of_mem hq
  have := (hM.known j _ (by rw [List.getElem?_append_left hj, List.getElem?_eq_getElem hj])).rest h
  rw [List.length_append, List.length_singleton] at this
  omega
theorem outM_split (W R : List (List UInt8)) {L' : List S42} {p : S42} (h : ∀ q ∈ L', q.f0 ≠ 11) : (L' ++ [p]).flatMap (outM W R) = L'.map (pcM W) ++ (if p.f0 = 11 then R else [pcM W p]) := by
  rw [List.flatMap_append, flatM_one W R L' h, List.flatMap_cons, List.flatMap_nil, List.append_nil]
  congr 1
  by_cases h11 : p.f0 = 11
  · rw [if_pos h11]
    unfold outM
    rw [if_neg (by omega), if_pos h11]
  rw [if_neg h11, outM_one W R h11]
theorem wildX {S T : List (List UInt8)} (hF : Fits S T) {N : Int} (h : 1 ≤ N ∧ N ≤ S.count [42]) : ∃ (q : Nat) (t : List UInt8), (plc 0 S)[(N - 1).toNat]? = some (q : Int) ∧ (plc 0 S).getD (N - 1).toNat 0 = (q : Int) ∧ T[q]? = some t ∧ (takW S T)[(N - 1).toNat]? = some t ∧ (takW S T).getD (N - 1).toNat [] = t := by
  obtain ⟨q, h1, h2, h3⟩ := plc_ok h
  obtain ⟨q', t, g1, g2, g3⟩ := takW_at S T 0 _ _ hF.formed hF.mt h1
  have hq : q' = q := by omega
  subst hq
  exact ⟨q', t, h1, h2, g2, g3, by rw [List.getD_eq_getElem?_getD, g3]; rfl⟩
theorem pcM_len {sl : List UInt8} {L : List S42} {T : List (List UInt8)} (hM : MapF sl L) (hF : Fits (toks sl) T) (hz : ∀ p ∈ L, SizeP p) {p : S42} (hp : p ∈ L) : (pcM (takW (toks sl) T) p).length ≤ 2147483647 := by
  unfold pcM
  by_cases h0 : p.f0 = 0
  · rw [if_pos h0]; have := (hz p hp).1; exact this
  rw [if_neg h0]
  by_cases h11 : p.f0 = 11
  · rw [if_pos h11]; simp
  rw [if_neg h11]
  by_cases h10 : p.f0 = 10
  · rw [if_pos h10]
    exact Nat.le_trans (numB_len _) (by decide)
  rw [if_neg h10]
  obtain ⟨q, t, -, -, h3, -, h5⟩ := wildX hF ((hM.sound.snd p hp).one h0 h11 h10)
  rw [h5]
  have := pieceL_len p t
  have := hF.few.2 t (List.mem_of_getElem? h3)
  omega
theorem outM_ne {sl : List UInt8} {L : List S42} {T : List (List UInt8)} (hM : MapF sl L) (hF : Fits (toks sl) T) (hsp : ∀ p ∈ L, p.f0 = 3 → ∀ t ∈ T, SplitOk (sepOf p) t) : join (L.flatMap (outM (takW (toks sl) T) (takR (toks sl) T))) ≠ [] := by
  obtain ⟨L', p, e⟩ := last_split hM.ne
  have hP := rest_of hM e
  have hm := match_at T (toks sl) hF.formed hF.mt
  have hS : 1 ≤ (toks sl).length := by rw [toks_len]; omega
  have numne : ∀ n, numB n ≠ [] := fun n => by unfold numB; split <;> simp
  have each : ∀ q ∈ L, q.f0 ≠ 11 → pcM (takW (toks sl) T) q ≠ [] := fun q hq h11 => by
    unfold pcM
    by_cases h0 : q.f0 = 0
    · rw [if_pos h0]; exact (word_of hM hq h0).ne
    rw [if_neg h0, if_neg h11]
    by_cases h10 : q.f0 = 10
    · rw [if_pos h10]; exact numne _
    rw [if_neg h10]
    obtain ⟨x, t, -, -, h3, -, h5⟩ := wildX hF ((hM.sound.snd q hq).one h0 h11 h10)
    rw [h5]
    exact pieceL_ne q (hF.pub t (List.mem_of_getElem? h3)).ne (fun k3 => hsp q hq k3 t (List.mem_of_getElem? h3))
  refine nonempty_pieces _ (fun t ht => ?_) ?_
  · obtain ⟨q, hq, h⟩ := List.mem_flatMap.1 ht
    by_cases h11 : q.f0 = 11
    · unfold outM at h
      rw [if_neg (by omega), if_pos h11] at h
      exact (hF.pub t (takR_mem _ _ t h)).ne
    rw [outM_one _ _ h11, List.mem_singleton] at h
    rw [h]
    exact each q hq h11
  subst e
  rw [outM_split _ _ hP]
  intro h
  have h2 := (List.append_eq_nil_iff.1 h).2
  split at h2
  · next h11 =>
    rw [takR_at _ _ hF.formed hF.mt ((last_iff hM).1 h11)] at h2
    have := congrArg List.length h2
    rw [List.length_drop] at this
    have h0 : ([] : List (List UInt8)).length = 0 := rfl
    omega
  cases h2
theorem part_ok {sl : List UInt8} {L : List S42} {T : List (List UInt8)} (hM : MapF sl L) (hF : Fits (toks sl) T) {q : S42} (hq : q ∈ L) (h10 : q.f0 = 10) {P : PlanL} {i : Nat} (hki : P.ks[i]? = some (kindP (kindN 10))) (hpi : P.ps[i]? = some (placesN (plc 0 (toks sl)) q)) (hni : P.ns[i]? = some ((q.f3.toNat : Nat) : Int)) :
    ∃ qs n, PartX P (T.map ba) i qs n (ba (pcM (takW (toks sl) T) q)) := by
  obtain ⟨j, hj⟩ := mem_at hq
  have hK := hM.known j q hj
  have hS := (hM.sound.snd q hq).part h10
  have hw : ∀ a ∈ q.f4, ∃ (x : Nat) (t : List UInt8), (plc 0 (toks sl)).getD (a - 1).toNat 0 = (x : Int) ∧ T[x]? = some t ∧ (takW (toks sl) T).getD (a - 1).toNat [] = t := fun a ha => by
    obtain ⟨x, t, -, h2, h3, -, h5⟩ := wildX hF (hS a ha)
    exact ⟨x, t, h2, h3, h5⟩
  obtain ⟨g1, g2⟩ := hK.part h10
  refine ⟨q.f4.map (fun a => ((plc 0 (toks sl)).getD (a - 1).toNat 0).toNat), q.f3.toNat, ⟨hki, ?_, hni, by have := hK.f3; omega, ?_, fun x hx => ?_, ?_⟩⟩
  · rw [hpi]
    unfold placesN
    rw [if_pos h10, List.map_map]
    congr 1
    refine List.map_congr_left fun a ha => ?_
    obtain ⟨x, t, h1, h2, h3⟩ := hw a ha
    show _ = ((((plc 0 (toks sl)).getD (a - 1).toNat 0).toNat : Nat) : Int)
    rw [h1, Int.toNat_natCast]
  · rw [List.length_map]
    have h5 := hK.f4.1
    rcases h : q.f4 with _ | ⟨a, r⟩
    · exact absurd h g2
    rw [h] at h5
    simp only [List.length_cons] at h5 ⊢
    omega
  · obtain ⟨a, ha, rfl⟩ := List.mem_map.1 hx
    obtain ⟨x, t, h1, h2, h3⟩ := hw a ha
    rw [h1, Int.toNat_natCast]
    refine ⟨ba t, by rw [List.getElem?_map, h2]; rfl, ?_⟩
    have := (hF.pub t (List.mem_of_getElem? h2)).ne
    rw [ba_size]
    rcases t with _ | ⟨c, r⟩
    · exact absurd rfl this
    simp
  have e1 : pcM (takW (toks sl) T) q = numB (fnvB (keyL (takW (toks sl) T) q.f4) % q.f3.toNat) := by
    unfold pcM
    rw [if_neg (by omega), if_neg (by omega), if_pos h10]
  have e2 : keyL (takW (toks sl) T) q.f4 = keyQ (T.map ba) (q.f4.map (fun a => ((plc 0 (toks sl)).getD (a - 1).toNat 0).toNat)) := by
    unfold keyL keyQ
    rw [List.flatMap_map]
    have key : ∀ l : List Int, (∀ a ∈ l, a ∈ q.f4) → (l.flatMap fun a => (takW (toks sl) T).getD (a - 1).toNat []) = l.flatMap fun a => (((T.map ba)[((plc 0 (toks sl)).getD (a - 1).toNat 0).toNat]?).getD ByteArray.empty).data.toList := by
      intro l
      induction l with
      | nil => intro _; rfl
      | cons a l ih =>
        intro hl
        rw [List.flatMap_cons, List.flatMap_cons, ih (fun b hb => hl b (List.mem_cons_of_mem _ hb))]
        congr 1
        obtain ⟨x, t, h1, h2, h3⟩ := hw a (hl a List.mem_cons_self)
        rw [h3, h1, Int.toNat_natCast, List.getElem?_map, h2]
        rfl
    exact key q.f4 (fun _ h => h)
  rw [e1, e2]
  rfl
theorem inX_congr {t x y : List UInt8} {n : Nat} (h : 0 < n → n < t.length → x = y) : inX t n x = inX t n y := by
  unfold inX
  split
  · next g => exact h g.1 g.2
  rfl
theorem one_ok {sl : List UInt8} {L : List S42} {T : List (List UInt8)} (hM : MapF sl L) (hF : Fits (toks sl) T) {q : S42} (hq : q ∈ L) (h0 : q.f0 ≠ 0) (h11 : q.f0 ≠ 11) (h10 : q.f0 ≠ 10) (hsp : q.f0 = 3 → ∀ t ∈ T, SplitOk (sepOf q) t) {P : PlanL} {i : Nat}
    (hki : P.ks[i]? = some (kindP (kindN q.f0))) (hpi : P.ps[i]? = some (placesN (plc 0 (toks sl)) q)) (hni : P.ns[i]? = some ((q.f3.toNat : Nat) : Int)) (hti : P.ts[i]? = some (wordN q)) :
    ∃ kd x n t by_, OneX P (T.map ba) i kd x n t by_ (ba (pcM (takW (toks sl) T) q)) := by
  obtain ⟨j, hj⟩ := mem_at hq
  have hK := hM.known j q hj
  obtain ⟨x, t, h1, h2, h3, h4, h5⟩ := wildX hF ((hM.sound.snd q hq).one h0 h11 h10)
  have e1 : pcM (takW (toks sl) T) q = pieceL q t := by
    unfold pcM
    rw [if_neg h0, if_neg h11, if_neg h10, h5]
  rw [e1]
  refine ⟨_, x, q.f3.toNat, ba t, _, ⟨hki, ?_, by rw [List.getElem?_map, h3]; rfl, hni, by have := hK.f3; omega, hti, ?_⟩⟩
  · rw [hpi]
    unfold placesN
    rw [if_neg h10, if_pos ⟨h0, h11⟩, h2]
  have hb := hK.f0
  have htl : ∀ l : List UInt8, (ba l).data.toList = l := fun l => rfl
  rw [htl, htl]
  unfold pieceL
  have key : q.f0 = 1 ∨ q.f0 = 2 ∨ q.f0 = 3 ∨ q.f0 = 4 ∨ q.f0 = 5 ∨ q.f0 = 6 ∨ q.f0 = 7 ∨ q.f0 = 8 ∨ q.f0 = 9 := by omega
  rcases key with h | h | h | h | h | h | h | h | h
  · left; rw [h]; exact ⟨by decide, rfl⟩
  · left; rw [h]; exact ⟨by decide, rfl⟩
  · right; right; right; right; right; right; right
    have hs := hsp h t (List.mem_of_getElem? h3)
    obtain ⟨c, hc⟩ : ∃ c, q.f1.data.toList = [c] := by rcases hK.split h with e | e | e <;> exact ⟨_, e⟩
    have hcs : sepOf q = c := by unfold sepOf; rw [hc]; rfl
    have hwd : wordN q = ba [c] := by
      unfold wordN
      rw [if_pos h]
      obtain ⟨l, hl⟩ := ba_surj q.f1
      rw [hl] at hc ⊢
      have hc : l = [c] := hc
      rw [hc]
    have htb := hF.few.2 t (List.mem_of_getElem? h3)
    obtain ⟨k, hk⟩ := zzSplitC_ev c t (by omega)
    have hl := toksC_len c t []
    rw [hcs] at hs
    refine ⟨by rw [h]; decide, k, toksC c [] t, by rw [hwd]; exact hk k (Nat.le_refl _), ⟨hl.2, by omega⟩, fun p hp => by have := toksC_mem c t [] p hp; simp at this; omega, ?_⟩
    rw [if_pos h, hcs, spB_eq _ (split_two hs)]
  · right; left; rw [h]; exact ⟨by decide, rfl⟩
  · right; right; left; rw [h]; exact ⟨by decide, rfl⟩
  · right; right; right; left; rw [h]; exact ⟨by decide, inX_congr fun a b => (p6_eq t _ a b).symm⟩
  · right; right; right; right; left; rw [h]; exact ⟨by decide, inX_congr fun a b => (p7_eq t _ a b).symm⟩
  · right; right; right; right; right; left; rw [h]; exact ⟨by decide, rfl⟩
  right; right; right; right; right; right; left; rw [h]; exact ⟨by decide, rfl⟩
theorem readyX {sl ul : List UInt8} {L : List S42} (hM : MapF sl L) (hz : ∀ p ∈ L, SizeP p) (hF : Fits (toks sl) (toks ul)) (hsp : ∀ p ∈ L, p.f0 = 3 → ∀ t ∈ toks ul, SplitOk (sepOf p) t) (hul : ul.length ≤ 500000) : Ready sl ul L (join (L.flatMap (outM (takW (toks sl) (toks ul)) (takR (toks sl) (toks ul))))) := by
  have hsl := hM.size
  have hS1 : 1 ≤ (toks sl).length := by rw [toks_len]; omega
  have hS2 : (toks sl).length ≤ 101 := by rw [toks_len]; have := List.count_le_length (a := (46 : UInt8)) (l := sl); omega
  have hT1 : 1 ≤ (toks ul).length := by rw [toks_len]; omega
  have hmt := match_at _ _ hF.formed hF.mt
  have hL1 : 1 ≤ L.length := by
    rcases hc : L with _ | ⟨p, r⟩
    · exact absurd hc hM.ne
    simp
  have hL2 := hM.len
  obtain ⟨ts, d1, d2, d3, hdest⟩ := Dest_ev L (by omega) (fun p hp => by
    obtain ⟨j, hj⟩ := mem_at hp
    exact textx_ev _ _ p (hM.known j p hj) (hz p hp))
  have hts0 : ts ≠ [] := by intro e; rw [e] at d1; simp at d1; omega
  have htsF : ∀ t ∈ ts, ∃ p ∈ L, TextF p t := fun t ht => by
    obtain ⟨j, hj⟩ := mem_at ht
    obtain ⟨p, hp⟩ : ∃ p, L[j]? = some p := ⟨_, List.getElem?_eq_getElem (by rw [← d1]; exact (List.getElem?_eq_some_iff.1 hj).1)⟩
    obtain ⟨u, h1, h2⟩ := d2 j p hp
    rw [hj] at h1
    injection h1 with h1
    exact ⟨p, List.mem_of_getElem? hp, h1 ▸ h2⟩
  have htoks : toks (join ts) = ts := toks_join ts hts0 (fun t ht => by obtain ⟨p, _, h⟩ := htsF t ht; exact h.nd)
  have hdl : (join ts).length ≤ 2147483748 * 10 := by
    have := join_len 2147483747 ts d3
    have : 2147483748 * ts.length ≤ 2147483748 * 10 := Nat.mul_le_mul_left _ (by omega)
    omega
  obtain ⟨k1, hk1⟩ := Places_ev sl (by omega)
  obtain ⟨k2, hk2⟩ := hdest
  obtain ⟨k3, hk3⟩ := Tokens_ev sl (by omega)
  obtain ⟨k4, hk4⟩ := Tokens_ev (join ts) (by omega)
  obtain ⟨k5, hk5⟩ := isSub_ev (toks ul) sl (by omega) hF.pub hF.formed hM.tame
  obtain ⟨K, hK⟩ : ∃ K, K = max k1 (max k2 (max k3 (max k4 k5))) := ⟨_, rfl⟩
  obtain ⟨P, hP⟩ : ∃ P, P = planOf (ba sl) (ba (join ts)) (plc 0 (toks sl)) ((toks sl).map ba) ((toks (join ts)).map ba) L := ⟨_, rfl⟩
  have hks : P.ks = L.map (fun p => kindN p.f0) := by rw [hP]; rfl
  have hps : P.ps = L.map (placesN (plc 0 (toks sl))) := by rw [hP]; rfl
  have hns : P.ns = L.map (·.f3) := by rw [hP]; rfl
  have hdt : P.dt = ts.map ba := by rw [hP, htoks]; rfl
  have hst : P.st = (toks sl).map ba := by rw [hP]; rfl
  have hsrc : P.src = ba sl := by rw [hP]; rfl
  have hdst : P.dest = ba (join ts) := by rw [hP]; rfl
  have hPts : P.ts = L.map wordN := by rw [hP]; rfl
  obtain ⟨C, hC⟩ : ∃ C, C = L.map (pcM (takW (toks sl) (toks ul))) := ⟨_, rfl⟩
  obtain ⟨pc, hpc⟩ : ∃ pc : Nat → ByteArray, pc = fun i => ba (C.getD i []) := ⟨_, rfl⟩
  have hCl : C.length = L.length := by rw [hC, List.length_map]
  have hkl : (planP P).ks.length = L.length := by show (P.ks.map kindP).length = _; rw [List.length_map, hks, List.length_map]
  have hacc : accB (planP P).ks.length pc (planP P).ks.length = join C := by
    rw [hkl, accB_sep _ pc C (fun i => by rw [hpc]; rfl), ← hCl, sepB_join]
  have hpcat : ∀ (i : Nat) (p : S42), L[i]? = some p → pc i = ba (pcM (takW (toks sl) (toks ul)) p) := fun i p hp => by
    rw [hpc]
    show ba (C.getD i []) = _
    rw [List.getD_eq_getElem?_getD, hC, List.getElem?_map, hp]
    rfl
  have hpcs : ∀ i, (pc i).size ≤ 2147483647 := fun i => by
    by_cases hi : i < L.length
    · obtain ⟨p, hp⟩ : ∃ p, L[i]? = some p := ⟨_, List.getElem?_eq_getElem hi⟩
      have hmem := List.mem_of_getElem? hp
      rw [hpcat i p hp, ba_size]
      exact pcM_len hM hF hz hmem
    rw [hpc]
    show (ba (C.getD i [])).size ≤ _
    rw [List.getD_eq_getElem?_getD, List.getElem?_eq_none (by omega)]
    simp [ba_size]
  obtain ⟨L', p, e⟩ := last_split hM.ne
  have hPt := rest_of hM e
  have hlast : P.dt.getLast? = some ⟨#[62]⟩ ↔ p.f0 = 11 := by
    have hlp : L[L.length - 1]? = some p := by rw [e]; simp
    obtain ⟨t, ht, htf⟩ := d2 _ p hlp
    rw [hdt, List.getLast?_eq_getElem?, List.length_map, d1, List.getElem?_map, ht]
    constructor
    · intro h
      have h : ba t = ba [62] := Option.some.inj h
      by_cases h11 : p.f0 = 11
      · exact h11
      exact absurd (ba_inj.1 h) (htf.gt h11)
    intro h
    rw [htf.rest h]
    rfl
  have hmade : madeB (planP P) ((toks ul).map ba) pc = join (L.flatMap (outM (takW (toks sl) (toks ul)) (takR (toks sl) (toks ul)))) := by
    unfold madeB
    rw [hacc]
    have hdtp : (planP P).dt = P.dt := rfl
    have hstp : (planP P).st = P.st := rfl
    rw [hdtp, hstp, e, outM_split _ _ hPt]
    have hCe : C = L'.map (pcM (takW (toks sl) (toks ul))) ++ [pcM (takW (toks sl) (toks ul)) p] := by rw [hC, e, List.map_append]; rfl
    by_cases h11 : p.f0 = 11
    · rw [if_pos (hlast.2 h11), if_pos h11, hst, List.length_map, List.length_map, restB_join, takR_at _ _ hF.formed hF.mt ((last_iff (e ▸ hM)).1 h11)]
      have hp0 : pcM (takW (toks sl) (toks ul)) p = [] := by unfold pcM; rw [if_neg (by omega), if_pos h11]
      rw [hCe, hp0]
      have hD : (toks ul).drop ((toks sl).length - 1) ≠ [] := by
        intro h
        have := congrArg List.length h
        rw [List.length_drop] at this
        have h0 : ([] : List (List UInt8)).length = 0 := rfl
        omega
      by_cases hL' : L'.map (pcM (takW (toks sl) (toks ul))) = []
      · rw [hL', List.nil_append, List.nil_append, join_one]
        rfl
      rw [join_snoc _ _ hL', join_app _ _ hL' hD, List.append_assoc]
      rfl
    rw [if_neg (fun h => h11 (hlast.1 h)), if_neg h11, List.append_nil, hCe]
  have hGood : Tr.GoodX (planP P) ((toks ul).map ba) pc := by
    refine ⟨by rw [hkl]; omega, ?_, ?_, ?_, ?_, ?_, ?_, hpcs, fun i hi => ?_⟩
    · rw [hkl]; show P.dt.length = _; rw [hdt, List.length_map, d1]
    · rw [hkl]; show P.ps.length = _; rw [hps, List.length_map]
    · rw [hkl]; show P.ns.length = _; rw [hns, List.length_map]
    · rw [hkl]; show P.ts.length = _; rw [hPts, List.length_map]
    · show 1 ≤ P.st.length ∧ P.st.length ≤ 1000
      rw [hst, List.length_map]
      omega
    · rw [List.length_map]
      refine ⟨hT1, hF.few.1, fun t ht => ?_⟩
      obtain ⟨u, hu, rfl⟩ := List.mem_map.1 ht
      exact hF.few.2 u hu
    rw [hkl] at hi
    obtain ⟨q, hq⟩ : ∃ q, L[i]? = some q := ⟨_, List.getElem?_eq_getElem hi⟩
    have hmem := List.mem_of_getElem? hq
    obtain ⟨t, ht, htf⟩ := d2 i q hq
    have hki : (planP P).ks[i]? = some (kindP (kindN q.f0)) := by
      show (P.ks.map kindP)[i]? = _
      rw [hks, List.getElem?_map, List.getElem?_map, hq]
      rfl
    have hdi : (planP P).dt[i]? = some (ba t) := by
      show P.dt[i]? = _
      rw [hdt, List.getElem?_map, ht]
      rfl
    have hKn := hM.known i q hq
    have hSn := hM.sound.snd q hmem
    rw [hpcat i q hq]
    by_cases h : q.f0 = 0
    · rw [h] at hki
      have hw := word_of hM hmem h
      have e1 : pcM (takW (toks sl) (toks ul)) q = t := by unfold pcM; rw [if_pos h, htf.word h]
      refine ⟨.inl ⟨hki, by rw [hdi, e1], fun hh => ?_⟩⟩
      rw [e1] at hh
      exact htf.gt (by omega) (ba_inj.1 hh)
    by_cases h11 : q.f0 = 11
    · rw [h11] at hki
      have e1 : pcM (takW (toks sl) (toks ul)) q = [] := by unfold pcM; rw [if_neg (by omega), if_pos h11]
      refine ⟨.inr (.inl ⟨hki, by rw [hdi, htf.rest h11]; rfl, ?_, by rw [e1]; rfl⟩)⟩
      rw [hkl]
      exact hKn.rest h11
    have hpi : (planP P).ps[i]? = some (placesN (plc 0 (toks sl)) q) := by
      show P.ps[i]? = _
      rw [hps, List.getElem?_map, hq]
      rfl
    have hni : (planP P).ns[i]? = some ((q.f3.toNat : Nat) : Int) := by
      show P.ns[i]? = _
      rw [hns, List.getElem?_map, hq]
      show some q.f3 = _
      have := hKn.f3
      congr 1
      omega
    have hti : (planP P).ts[i]? = some (wordN q) := by
      show P.ts[i]? = _
      rw [hPts, List.getElem?_map, hq]
      rfl
    by_cases h10 : q.f0 = 10
    · rw [h10] at hki
      exact ⟨.inr (.inr (.inr (part_ok hM hF hmem h10 hki hpi hni)))⟩
    exact ⟨.inr (.inr (.inl (one_ok hM hF hmem h h11 h10 (hsp q hmem) hki hpi hni hti)))⟩
  have hnec : madeB (planP P) ((toks ul).map ba) pc ≠ [] := by
    rw [hmade]
    exact outM_ne hM hF hsp
  have hstars : (plc 0 (toks sl)).length = stars sl := plc_len _ _
  refine ⟨⟨P, fun w A c hC hc => ?_, fun w v hV => ?_⟩⟩
  · rw [hP]
    refine plan_calls (k := K) hC hc (by omega) (hk1 K (by omega)) (by rw [hstars]; have := stars_le sl; omega) (hk2 K (by omega)) (hk3 K (by omega)) (hk4 K (by omega)) (fun q hq => ?_)
    obtain ⟨j, hj⟩ := mem_at hq
    rw [hstars]
    exact ⟨fun h => ⟨(hM.known j q hj).f4.1, (hM.sound.snd q hq).part h⟩, fun h10 h0 h11 => (hM.sound.snd q hq).one h0 h11 h10⟩
  refine transformx_calls (k := K) (P := P) (s := ba ul) (r := ba (join (L.flatMap (outM (takW (toks sl) (toks ul)) (takR (toks sl) (toks ul)))))) (pc := pc) hV (by rw [hks, List.length_map]; omega) (by rw [hns, List.length_map]; omega) (fun x hx => ?_) hul ?_ (fun _ => ?_) ?_ ?_ hGood hnec ?_ (fun hs hd => ?_)
  · rw [hns] at hx
    obtain ⟨q, hq, rfl⟩ := List.mem_map.1 hx
    obtain ⟨j, hj⟩ := mem_at hq
    exact (hM.known j q hj).f3
  · refine List.all_eq_true.2 fun t ht => ?_
    obtain ⟨u, hu, rfl⟩ := List.mem_map.1 ht
    exact litOk_of (hF.pub u hu)
  · rw [hsrc]
    have := hk5 K (by omega)
    rw [hF.mt] at this
    exact this
  · rw [hsrc]
    intro e2
    have e2 : sl = [] := e2
    have h1 := formed_cons (t := []) (S := []) (by have := hF.formed; rw [e2] at this; exact this)
    exact h1.1 rfl
  · rw [hdst]
    intro e2
    have e2 : join ts = [] := e2
    exact nonempty_pieces ts (fun t ht => by obtain ⟨q, _, h⟩ := htsF t ht; exact h.ne) hts0 e2
  · rw [← hmade]
    rfl
  rw [hsrc] at hs
  rw [hdst] at hd
  have hs : sl = [62] := hs
  have hd : join ts = [62] := hd
  have hts : ts = [[62]] := by rw [← htoks, hd]; rfl
  have hl1 : L.length = 1 := by rw [← d1, hts]; rfl
  have hL' : L' = [] := by
    rw [e, List.length_append, List.length_singleton] at hl1
    exact List.length_eq_zero_iff.1 (by omega)
  have h11 : p.f0 = 11 := (last_iff (e ▸ hM)).2 (by rw [hs]; rfl)
  have : L.flatMap (outM (takW (toks sl) (toks ul)) (takR (toks sl) (toks ul))) = toks ul := by
    rw [e, outM_split _ _ hPt, hL', if_pos h11, takR_at _ _ hF.formed hF.mt ((last_iff (e ▸ hM)).1 h11), hs]
    rfl
  rw [this, join_toks]
end Go.Proofs.YtoopmpjgmgffoaaDoor.PlFnTransformBack
