/- A mapping of words and wildcards: what its calls do, and the way back. -/
import Derived.Test.YtoopmpjgmgffoaaDoorPlTn
namespace Go.Proofs.YtoopmpjgmgffoaaDoor.PlFnTransformBack
open Go.RowKit Go.Proofs.YtoopmpjgmgffoaaDoorW.PrintWords Go.Proofs.YtoopmpjgmgffoaaDoorW.PrintLast Go.Proofs.YtoopmpjgmgffoaaDoorW.PrintMore Go.Proofs.YtoopmpjgmgffoaaDoor.Pl Go.Proofs.YtoopmpjgmgffoaaDoor.Bs Go.Proofs.YtoopmpjgmgffoaaDoor.GFnTransformBack Go.Proofs.YtoopmpjgmgffoaaDoor.Tr
set_option linter.unusedVariables false
set_option linter.unusedSimpArgs false
theorem last_split {α : Type} {L : List α} (h : L ≠ []) : ∃ L' p, L = L' ++ [p] := by
  rcases List.eq_nil_or_concat L with e | ⟨L', p, e⟩
  · exact absurd e h
  exact ⟨L', p, by rw [e, List.concat_eq_append]⟩
theorem flat_one (S T : List (List UInt8)) : ∀ L : List S42, (∀ p ∈ L, p.f0 ≠ 11) → L.flatMap (outP S T) = L.map (pcL S T)
  | [], _ => rfl
  | p :: L, h => by
    rw [List.flatMap_cons, List.map_cons, flat_one S T L (fun q hq => h q (List.mem_cons_of_mem _ hq)), outP, if_neg (h p List.mem_cons_self)]
    rfl
/-- What is known of a mapping's parts, the last one apart. -/
structure Parts (L' : List S42) (p : S42) : Prop where
  kinds : ∀ q ∈ L' ++ [p], q.f0 = 0 ∨ q.f0 = 11 ∨ wildK q
  rest : ∀ q ∈ L', q.f0 ≠ 11
theorem parts_of {sl : List UInt8} {L : List S42} (hM : MapF sl L) (hk : ∀ p ∈ L, p.f0 = 0 ∨ p.f0 = 11 ∨ wildK p) {L' : List S42} {p : S42} (e : L = L' ++ [p]) : Parts L' p := by
  subst e
  refine ⟨hk, fun q hq h => ?_⟩
  obtain ⟨j, hj, rfl⟩ := List.getElem_of_mem hq
  have := (hM.known j _ (by rw [List.getElem?_append_left hj, List.getElem?_eq_getElem hj])).rest h
  rw [List.length_append, List.length_singleton] at this
  omega
theorem outT_split (S T : List (List UInt8)) {L' : List S42} {p : S42} (h : Parts L' p) : outT S T (L' ++ [p]) = L'.map (pcL S T) ++ (if p.f0 = 11 then T.drop (S.length - 1) else [pcL S T p]) := by
  unfold outT
  rw [List.flatMap_append, flat_one S T L' h.rest, List.flatMap_cons, List.flatMap_nil, List.append_nil]
  rfl
theorem out_at (S T : List (List UInt8)) {L' : List S42} {p : S42} (h : Parts L' p) {j : Nat} {q : S42} (hj : (L' ++ [p])[j]? = some q) (hq : q.f0 ≠ 11) : (outT S T (L' ++ [p]))[j]? = some (pcL S T q) := by
  rw [outT_split S T h]
  by_cases hl : j < L'.length
  · rw [List.getElem?_append_left hl] at hj
    rw [List.getElem?_append_left (by rw [List.length_map]; exact hl), List.getElem?_map, hj]
    rfl
  rw [List.getElem?_append_right (by omega)] at hj
  have hl2 : j - L'.length < 1 := by
    have := (List.getElem?_eq_some_iff.1 hj).1
    simpa using this
  have hjl : j = L'.length := by omega
  subst hjl
  rw [Nat.sub_self] at hj
  have hj : p = q := Option.some.inj hj
  rw [hj, if_neg hq, List.getElem?_append_right (by rw [List.length_map]; exact Nat.le_refl _), List.length_map, Nat.sub_self]
  rfl
theorem plc_ok {S : List (List UInt8)} {N : Int} (h : 1 ≤ N ∧ N ≤ S.count [42]) : ∃ q : Nat, (plc 0 S)[(N - 1).toNat]? = some (q : Int) ∧ (plc 0 S).getD (N - 1).toNat 0 = (q : Int) ∧ S[q]? = some [42] := by
  obtain ⟨x, hx⟩ : ∃ x, (plc 0 S)[(N - 1).toNat]? = some x := ⟨_, List.getElem?_eq_getElem (by rw [plc_len]; omega)⟩
  obtain ⟨q, h1, h2⟩ := plc_mem S 0 _ x hx
  rw [Nat.zero_add] at h1
  exact ⟨q, by rw [hx, h1], by rw [List.getD_eq_getElem?_getD, hx, h1]; rfl, h2⟩
/-- The subject is one that the source matches. -/
structure Fits (S T : List (List UInt8)) : Prop where
  formed : formedB S = true
  mt : matchT T S = true
  pub : ∀ t ∈ T, PubT t
  few : T.length ≤ 1000 ∧ ∀ t ∈ T, t.length ≤ 1000
theorem validB_formed {l : List UInt8} (h : validB l = true) : formedB (toks l) = true := by
  unfold validB at h
  rw [Bool.and_eq_true] at h
  exact h.1
theorem wildK_not {p : S42} (h : wildK p) : p.f0 ≠ 0 ∧ p.f0 ≠ 11 ∧ p.f0 ≠ 10 := by rcases h with h | h <;> omega
/-- A wildcard's token. -/
theorem wild_tok {sl : List UInt8} {L : List S42} {T : List (List UInt8)} (hM : MapF sl L) (hF : Fits (toks sl) T) {p : S42} (hp : p ∈ L) (hw : wildK p) :
    ∃ (q : Nat) (t : List UInt8), (plc 0 (toks sl))[(p.f2 - 1).toNat]? = some (q : Int) ∧ (toks sl)[q]? = some [42] ∧ T[q]? = some t ∧ pcL (toks sl) T p = t := by
  obtain ⟨h0, h11, h10⟩ := wildK_not hw
  obtain ⟨q, h1, h2, h3⟩ := plc_ok ((hM.sound.snd p hp).one h0 h11 h10)
  obtain ⟨t, h4, h5⟩ := (match_at T (toks sl) hF.formed hF.mt).2.2 q _ h3 (by decide)
  refine ⟨q, t, h1, h3, h4, ?_⟩
  unfold pcL
  rw [if_neg h0, if_neg h11, h2, Int.toNat_natCast, List.getD_eq_getElem?_getD, h4]
  rfl
theorem let_pub {t : List UInt8} (h0 : t ≠ []) (h : ∀ c ∈ t, letB c = true) : PubT t := by
  refine ⟨h0, fun hm => (let_dot (h _ hm)).1 rfl, fun c hc => (let_dot (h c hc)).2.2.2.1, ?_, ?_⟩
  · unfold litT
    rw [decide_eq_true (p := t ≠ [42]) (by intro e; exact (let_dot (h 42 (by rw [e]; simp))).2.2.1 rfl), decide_eq_true (p := t ≠ [62]) (by intro e; exact (let_dot (h 62 (by rw [e]; simp))).2.1 rfl)]
    rfl
  unfold tameT
  rw [Bool.or_eq_true]
  right
  rw [Bool.not_eq_true', List.any_eq_false]
  intro c hc
  unfold wildB
  rw [decide_eq_false (p := c = 42) (let_dot (h c hc)).2.2.1, decide_eq_false (p := c = 62) (let_dot (h c hc)).2.1]
  decide
theorem mem_at {α : Type} {L : List α} {p : α} (h : p ∈ L) : ∃ j : Nat, L[j]? = some p := by
  obtain ⟨j, hj, rfl⟩ := List.getElem_of_mem h
  exact ⟨j, List.getElem?_eq_getElem hj⟩
theorem word_of {sl : List UInt8} {L : List S42} (hM : MapF sl L) {p : S42} (hp : p ∈ L) (h : p.f0 = 0) : PubT p.f1.data.toList := by
  obtain ⟨j, hj⟩ := mem_at hp
  have := (hM.known j p hj).word h
  exact let_pub this.1 this.2
theorem pc_pub {sl : List UInt8} {L : List S42} {T : List (List UInt8)} (hM : MapF sl L) (hF : Fits (toks sl) T) (hk : ∀ p ∈ L, p.f0 = 0 ∨ p.f0 = 11 ∨ wildK p) {p : S42} (hp : p ∈ L) (h11 : p.f0 ≠ 11) : PubT (pcL (toks sl) T p) := by
  rcases hk p hp with h | h | h
  · unfold pcL
    rw [if_pos h]
    exact word_of hM hp h
  · exact absurd h h11
  obtain ⟨q, t, _, _, h3, h4⟩ := wild_tok hM hF hp h
  rw [h4]
  exact hF.pub t (List.mem_of_getElem? h3)
theorem out_pub {sl : List UInt8} {L : List S42} {T : List (List UInt8)} (hM : MapF sl L) (hF : Fits (toks sl) T) (hk : ∀ p ∈ L, p.f0 = 0 ∨ p.f0 = 11 ∨ wildK p) : ∀ t ∈ outT (toks sl) T L, PubT t := by
  intro t ht
  obtain ⟨p, hp, h⟩ := List.mem_flatMap.1 ht
  unfold outP at h
  by_cases h11 : p.f0 = 11
  · rw [if_pos h11] at h
    exact hF.pub t (List.mem_of_mem_drop h)
  rw [if_neg h11, List.mem_singleton] at h
  rw [h]
  exact pc_pub hM hF hk hp h11
theorem last_iff {sl : List UInt8} {L' : List S42} {p : S42} (hM : MapF sl (L' ++ [p])) : p.f0 = 11 ↔ (toks sl).getLast? = some [62] := hM.sound.rest p (by simp)
theorem out_ne {sl : List UInt8} {L : List S42} {T : List (List UInt8)} (hM : MapF sl L) (hF : Fits (toks sl) T) (hk : ∀ p ∈ L, p.f0 = 0 ∨ p.f0 = 11 ∨ wildK p) : outT (toks sl) T L ≠ [] := by
  obtain ⟨L', p, e⟩ := last_split hM.ne
  have hP := parts_of hM hk e
  subst e
  have hm := match_at T (toks sl) hF.formed hF.mt
  have hS : 1 ≤ (toks sl).length := by rw [toks_len]; omega
  rw [outT_split _ _ hP]
  intro h
  have h2 := (List.append_eq_nil_iff.1 h).2
  split at h2
  · have := congrArg List.length h2
    rw [List.length_drop] at this
    have h0 : ([] : List (List UInt8)).length = 0 := rfl
    omega
  cases h2
theorem nonempty_pieces (C : List (List UInt8)) (h : ∀ t ∈ C, t ≠ []) (h0 : C ≠ []) : join C ≠ [] := by
  rcases C with _ | ⟨t, r⟩
  · exact absurd rfl h0
  rw [join]
  intro e
  have := jn_le r t
  rw [e] at this
  exact h t List.mem_cons_self (List.length_eq_zero_iff.1 (by simpa using this))
/-- What the calls of a mapping do. -/
structure Ready (sl ul : List UInt8) (L : List S42) (r : List UInt8) : Prop where
  out : ∃ P, (∀ (w : World) (A : Option Addr) (c : Nat), Kd.C k42 w A L.length L → L.length ≤ c → Calls Tryd.prog 11 #[.string (ba sl), .slice A L.length c] w (PlanPost w P)) ∧
    (∀ (w : World) (v : Value), PlanV w v P → Calls Tryd.prog 10 #[v, .string (ba ul)] w (XPost w (ba r)))
theorem kindP_of {p : S42} (h : p.f0 = 0 ∨ p.f0 = 11 ∨ wildK p) : kindP (kindN p.f0) = if p.f0 = 0 ∨ p.f0 = 11 then 0 else 3 := by
  rcases h with h | h | h | h <;> rw [h] <;> decide
theorem litOk_of {t : List UInt8} (h : PubT t) : litOk (ba t) = true := by
  unfold litOk
  have h0 : t.length ≠ 0 := fun e => h.ne (List.length_eq_zero_iff.1 e)
  rw [decide_eq_true (p := (ba t).size ≠ 0) h0, Bool.true_and]
  by_cases h1 : 1 < (ba t).size
  · rw [decide_eq_true h1]; rfl
  obtain ⟨c, rfl⟩ : ∃ c, t = [c] := by
    have h1 : ¬ 1 < t.length := h1
    match t, h0, h1 with
    | [c], _, _ => exact ⟨c, rfl⟩
    | _ :: _ :: _, _, h1 => exact absurd (by simp) h1
    | [], h0, _ => exact absurd rfl h0
  have hl := h.lit
  unfold litT at hl
  rw [Bool.and_eq_true, decide_eq_true_iff, decide_eq_true_iff] at hl
  have hb : bt (ba [c]) 0 = (c.toNat : Int) := by rw [ba_bt]; rfl
  rw [Bool.or_eq_true]
  right
  rw [hb, decide_eq_true (p := (c.toNat : Int) ≠ 42) (fun e => hl.1 (by rw [(toNat_eq (n := 42) (by omega)).1 e]; rfl)), decide_eq_true (p := (c.toNat : Int) ≠ 62) (fun e => hl.2 (by rw [(toNat_eq (n := 62) (by omega)).1 e]; rfl))]
  rfl
theorem isSub_ev (T : List (List UInt8)) (p : List UInt8) (hp : p.length < 8796093022208) (hT : ∀ t ∈ T, PubT t) (fp : formedB (toks p) = true) (tp : (toks p).all tameT = true) :
    Ev (fun k => server_isSubsetMatch.f k (T.map ba) (ba p)) (matchT T (toks p)) := by
  have h2 : (toks p).length ≤ 140737488351232 := by rw [toks_len]; have := List.count_le_length (a := (46 : UInt8)) (l := p); omega
  refine Ev.congr (fun k => by rw [server_isSubsetMatch.f]) ?_
  refine Ev.bind (tokenize_ev p hp) ?_
  refine Ev.congr (fun k => by rw [server_isSubsetMatchTokenized.f]) ?_
  refine Ev.det' (isSubset_l0 _ _ h2 (toks p) T [] [] 0 rfl rfl rfl rfl (formed_ne _ fp) (fun t ht => (hT t ht).ne) tp (List.all_eq_true.2 fun t ht => (hT t ht).tame)) ?_
  exact subT_lit T (toks p) (List.all_eq_true.2 fun t ht => (hT t ht).lit)
theorem ready {sl ul : List UInt8} {L : List S42} (hM : MapF sl L) (hz : ∀ p ∈ L, SizeP p) (hk : ∀ p ∈ L, p.f0 = 0 ∨ p.f0 = 11 ∨ wildK p) (hF : Fits (toks sl) (toks ul)) (hul : ul.length ≤ 500000) : Ready sl ul L (join (outT (toks sl) (toks ul) L)) := by
  have hsl := hM.size
  have hS1 : 1 ≤ (toks sl).length := by rw [toks_len]; omega
  have hS2 : (toks sl).length ≤ 101 := by rw [toks_len]; have := List.count_le_length (a := (46 : UInt8)) (l := sl); omega
  have hT1 : 1 ≤ (toks ul).length := by rw [toks_len]; omega
  have hmt := match_at _ _ hF.formed hF.mt
  have hL1 : 1 ≤ L.length := by
    rcases hc : L with _ | ⟨p, r⟩
    · exact absurd hc hM.ne
    simp
  have hL2 := hM.len
  obtain ⟨ts, d1, d2, d3, hdest⟩ := Dest_ev L (by omega) (fun p hp => by
    obtain ⟨j, hj⟩ := mem_at hp
    exact text_ev _ _ p (hk p hp) (hM.known j p hj) (hz p hp))
  have hts0 : ts ≠ [] := by intro e; rw [e] at d1; simp at d1; omega
  have htsF : ∀ t ∈ ts, ∃ p ∈ L, TextF p t := fun t ht => by
    obtain ⟨j, hj⟩ := mem_at ht
    obtain ⟨p, hp⟩ : ∃ p, L[j]? = some p := ⟨_, List.getElem?_eq_getElem (by rw [← d1]; exact (List.getElem?_eq_some_iff.1 hj).1)⟩
    obtain ⟨u, h1, h2⟩ := d2 j p hp
    rw [hj] at h1
    injection h1 with h1
    exact ⟨p, List.mem_of_getElem? hp, h1 ▸ h2⟩
  have htoks : toks (join ts) = ts := toks_join ts hts0 (fun t ht => by obtain ⟨p, _, h⟩ := htsF t ht; exact h.nd)
  have hdl : (join ts).length ≤ 2147483748 * 10 := by
    have := join_len 2147483747 ts d3
    have : 2147483748 * ts.length ≤ 2147483748 * 10 := Nat.mul_le_mul_left _ (by omega)
    omega
  obtain ⟨k1, hk1⟩ := Places_ev sl (by omega)
  obtain ⟨k2, hk2⟩ := hdest
  obtain ⟨k3, hk3⟩ := Tokens_ev sl (by omega)
  obtain ⟨k4, hk4⟩ := Tokens_ev (join ts) (by omega)
  obtain ⟨k5, hk5⟩ := isSub_ev (toks ul) sl (by omega) hF.pub hF.formed hM.tame
  obtain ⟨K, hK⟩ : ∃ K, K = max k1 (max k2 (max k3 (max k4 k5))) := ⟨_, rfl⟩
  obtain ⟨P, hP⟩ : ∃ P, P = planOf (ba sl) (ba (join ts)) (plc 0 (toks sl)) ((toks sl).map ba) ((toks (join ts)).map ba) L := ⟨_, rfl⟩
  have hks : P.ks = L.map (fun p => kindN p.f0) := by rw [hP]; rfl
  have hps : P.ps = L.map (placesN (plc 0 (toks sl))) := by rw [hP]; rfl
  have hns : P.ns = L.map (·.f3) := by rw [hP]; rfl
  have hdt : P.dt = ts.map ba := by rw [hP, htoks]; rfl
  have hst : P.st = (toks sl).map ba := by rw [hP]; rfl
  have hsrc : P.src = ba sl := by rw [hP]; rfl
  have hdst : P.dest = ba (join ts) := by rw [hP]; rfl
  have hPts : P.ts = L.map wordN := by rw [hP]; rfl
  obtain ⟨C, hC⟩ : ∃ C, C = L.map (pcL (toks sl) (toks ul)) := ⟨_, rfl⟩
  obtain ⟨pc, hpc⟩ : ∃ pc : Nat → ByteArray, pc = fun i => ba (C.getD i []) := ⟨_, rfl⟩
  have hCl : C.length = L.length := by rw [hC, List.length_map]
  have hkl : (planP P).ks.length = L.length := by show (P.ks.map kindP).length = _; rw [List.length_map, hks, List.length_map]
  have hacc : accB (planP P).ks.length pc (planP P).ks.length = join C := by
    rw [hkl, accB_sep _ pc C (fun i => by rw [hpc]; rfl), ← hCl, sepB_join]
  have hpcat : ∀ (i : Nat) (p : S42), L[i]? = some p → pc i = ba (pcL (toks sl) (toks ul) p) := fun i p hp => by
    rw [hpc]
    show ba (C.getD i []) = _
    rw [List.getD_eq_getElem?_getD, hC, List.getElem?_map, hp]
    rfl
  have hpcs : ∀ i, (pc i).size ≤ 2147483647 := fun i => by
    by_cases hi : i < L.length
    · obtain ⟨p, hp⟩ : ∃ p, L[i]? = some p := ⟨_, List.getElem?_eq_getElem hi⟩
      have hmem := List.mem_of_getElem? hp
      rw [hpcat i p hp, ba_size]
      rcases hk p hmem with h | h | h
      · unfold pcL; rw [if_pos h]; have := (hz p hmem).1; exact this
      · unfold pcL; rw [if_neg (by omega), if_pos h]; simp
      obtain ⟨q, t, _, _, h3, h4⟩ := wild_tok hM hF hmem h
      rw [h4]
      have := hF.few.2 t (List.mem_of_getElem? h3)
      omega
    rw [hpc]
    show (ba (C.getD i [])).size ≤ _
    rw [List.getD_eq_getElem?_getD, List.getElem?_eq_none (by omega)]
    simp [ba_size]
  obtain ⟨L', p, e⟩ := last_split hM.ne
  have hPt := parts_of hM hk e
  have hlast : P.dt.getLast? = some ⟨#[62]⟩ ↔ p.f0 = 11 := by
    have hlp : L[L.length - 1]? = some p := by rw [e]; simp
    obtain ⟨t, ht, htf⟩ := d2 _ p hlp
    rw [hdt, List.getLast?_eq_getElem?, List.length_map, d1, List.getElem?_map, ht]
    constructor
    · intro h
      have h : ba t = ba [62] := Option.some.inj h
      by_cases h11 : p.f0 = 11
      · exact h11
      exact absurd (ba_inj.1 h) (htf.gt h11)
    intro h
    rw [htf.rest h]
    rfl
  have hmade : madeB (planP P) ((toks ul).map ba) pc = join (outT (toks sl) (toks ul) L) := by
    unfold madeB
    rw [hacc]
    have hdtp : (planP P).dt = P.dt := rfl
    have hstp : (planP P).st = P.st := rfl
    rw [hdtp, hstp, e, outT_split _ _ hPt]
    have hCe : C = L'.map (pcL (toks sl) (toks ul)) ++ [pcL (toks sl) (toks ul) p] := by rw [hC, e, List.map_append]; rfl
    by_cases h11 : p.f0 = 11
    · rw [if_pos (hlast.2 h11), if_pos h11, hst, List.length_map, List.length_map, restB_join]
      have hp0 : pcL (toks sl) (toks ul) p = [] := by unfold pcL; rw [if_neg (by omega), if_pos h11]
      rw [hCe, hp0]
      have hD : (toks ul).drop ((toks sl).length - 1) ≠ [] := by
        intro h
        have := congrArg List.length h
        rw [List.length_drop] at this
        have h0 : ([] : List (List UInt8)).length = 0 := rfl
        omega
      by_cases hL' : L'.map (pcL (toks sl) (toks ul)) = []
      · rw [hL', List.nil_append, List.nil_append, join_one]
        rfl
      rw [join_snoc _ _ hL', join_app _ _ hL' hD, List.append_assoc]
      rfl
    rw [if_neg (fun h => h11 (hlast.1 h)), if_neg h11, List.append_nil, hCe]
  have hGood : Tr.Good (planP P) ((toks ul).map ba) pc := by
    refine ⟨by rw [hkl]; omega, ?_, ?_, ?_, ?_, ?_, ?_, hpcs, fun i hi => ?_⟩
    · rw [hkl]; show P.dt.length = _; rw [hdt, List.length_map, d1]
    · rw [hkl]; show P.ps.length = _; rw [hps, List.length_map]
    · rw [hkl]; show P.ns.length = _; rw [hns, List.length_map]
    · rw [hkl]; show P.ts.length = _; rw [hPts, List.length_map]
    · show 1 ≤ P.st.length ∧ P.st.length ≤ 1000
      rw [hst, List.length_map]
      omega
    · rw [List.length_map]
      refine ⟨hT1, hF.few.1, fun t ht => ?_⟩
      obtain ⟨u, hu, rfl⟩ := List.mem_map.1 ht
      exact hF.few.2 u hu
    rw [hkl] at hi
    obtain ⟨q, hq⟩ : ∃ q, L[i]? = some q := ⟨_, List.getElem?_eq_getElem hi⟩
    have hmem := List.mem_of_getElem? hq
    obtain ⟨t, ht, htf⟩ := d2 i q hq
    have hki : (planP P).ks[i]? = some (kindP (kindN q.f0)) := by
      show (P.ks.map kindP)[i]? = _
      rw [hks, List.getElem?_map, List.getElem?_map, hq]
      rfl
    have hdi : (planP P).dt[i]? = some (ba t) := by
      show P.dt[i]? = _
      rw [hdt, List.getElem?_map, ht]
      rfl
    rw [kindP_of (hk q hmem)] at hki
    rw [hpcat i q hq]
    rcases hk q hmem with h | h | h
    · rw [if_pos (.inl h)] at hki
      have hw := word_of hM hmem h
      have e1 : pcL (toks sl) (toks ul) q = t := by unfold pcL; rw [if_pos h, htf.word h]
      refine ⟨.inl ⟨hki, by rw [hdi, e1], fun hh => ?_⟩⟩
      rw [e1] at hh
      exact htf.gt (by omega) (ba_inj.1 hh)
    · rw [if_pos (.inr h)] at hki
      have e1 : pcL (toks sl) (toks ul) q = [] := by unfold pcL; rw [if_neg (by omega), if_pos h]
      refine ⟨.inr (.inl ⟨hki, by rw [hdi, htf.rest h]; rfl, ?_, by rw [e1]; rfl⟩)⟩
      rw [hkl]
      exact (hM.known i q hq).rest h
    obtain ⟨h0, h11, h10⟩ := wildK_not h
    rw [if_neg (by omega)] at hki
    obtain ⟨x, u, g1, g2, g3, g4⟩ := wild_tok hM hF hmem h
    refine ⟨.inr (.inr ⟨hki, x, ?_, by rw [List.getElem?_map, g3, g4]; rfl⟩)⟩
    show P.ps[i]? = _
    rw [hps, List.getElem?_map, hq]
    show some (placesN (plc 0 (toks sl)) q) = _
    unfold placesN
    rw [if_neg h10, if_pos ⟨h0, h11⟩, List.getD_eq_getElem?_getD, g1]
    rfl
  have hoN := out_ne hM hF hk
  have hoP := out_pub hM hF hk
  have hnec : madeB (planP P) ((toks ul).map ba) pc ≠ [] := by
    rw [hmade]
    exact nonempty_pieces _ (fun t ht => (hoP t ht).ne) hoN
  have hstars : (plc 0 (toks sl)).length = stars sl := plc_len _ _
  refine ⟨⟨P, fun w A c hC hc => ?_, fun w v hV => ?_⟩⟩
  · rw [hP]
    refine plan_calls (k := K) hC hc (by omega) (hk1 K (by omega)) (by rw [hstars]; have := stars_le sl; omega) (hk2 K (by omega)) (hk3 K (by omega)) (hk4 K (by omega)) (fun q hq => ?_)
    obtain ⟨j, hj⟩ := mem_at hq
    rw [hstars]
    exact ⟨fun h => ⟨(hM.known j q hj).f4.1, (hM.sound.snd q hq).part h⟩, fun h10 h0 h11 => (hM.sound.snd q hq).one h0 h11 h10⟩
  refine transform_calls (k := K) (P := P) (s := ba ul) (r := ba (join (outT (toks sl) (toks ul) L))) (pc := pc) hV (by rw [hks, List.length_map]; omega) (by rw [hns, List.length_map]; omega) (fun x hx => ?_) hul ?_ (fun _ => ?_) ?_ ?_ hGood hnec ?_ (fun hs hd => ?_)
  · rw [hns] at hx
    obtain ⟨q, hq, rfl⟩ := List.mem_map.1 hx
    obtain ⟨j, hj⟩ := mem_at hq
    exact (hM.known j q hj).f3
  · refine List.all_eq_true.2 fun t ht => ?_
    obtain ⟨u, hu, rfl⟩ := List.mem_map.1 ht
    exact litOk_of (hF.pub u hu)
  · rw [hsrc]
    have := hk5 K (by omega)
    rw [hF.mt] at this
    exact this
  · rw [hsrc]
    intro e2
    have e2 : sl = [] := e2
    have h1 := formed_cons (t := []) (S := []) (by have := hF.formed; rw [e2] at this; exact this)
    exact h1.1 rfl
  · rw [hdst]
    intro e2
    have e2 : join ts = [] := e2
    exact nonempty_pieces ts (fun t ht => by obtain ⟨q, _, h⟩ := htsF t ht; exact h.ne) hts0 e2
  · rw [← hmade]
    rfl
  rw [hsrc] at hs
  rw [hdst] at hd
  have hs : sl = [62] := hs
  have hd : join ts = [62] := hd
  have hts : ts = [[62]] := by rw [← htoks, hd]; rfl
  have hl1 : L.length = 1 := by rw [← d1, hts]; rfl
  have hL' : L' = [] := by
    rw [e, List.length_append, List.length_singleton] at hl1
    exact List.length_eq_zero_iff.1 (by omega)
  have h11 : p.f0 = 11 := (last_iff (e ▸ hM)).2 (by rw [hs]; rfl)
  have : outT (toks sl) (toks ul) L = toks ul := by
    rw [e, outT_split _ _ hPt, hL', if_pos h11, hs]
    rfl
  rw [this, join_toks]
end Go.Proofs.YtoopmpjgmgffoaaDoor.PlFnTransformBack
