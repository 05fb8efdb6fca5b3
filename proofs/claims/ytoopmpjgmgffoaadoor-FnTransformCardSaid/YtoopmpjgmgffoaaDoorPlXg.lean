/- A mapping whose source does not match; what is mapped. -/
import Derived.Test.YtoopmpjgmgffoaaDoorPlXf
namespace Go.Proofs.YtoopmpjgmgffoaaDoor.PlFnTransformBack
open Go.RowKit Go.Proofs.YtoopmpjgmgffoaaDoorW.PrintWords Go.Proofs.YtoopmpjgmgffoaaDoorW.PrintLast Go.Proofs.YtoopmpjgmgffoaaDoorW.PrintMore Go.Proofs.YtoopmpjgmgffoaaDoor.Pl Go.Proofs.YtoopmpjgmgffoaaDoor.Bs Go.Proofs.YtoopmpjgmgffoaaDoor.GFnTransformBack Go.Proofs.YtoopmpjgmgffoaaDoor.Tr
set_option linter.unusedVariables false
set_option linter.unusedSimpArgs false
structure ReadyN (sl ul : List UInt8) (L : List S42) : Prop where
  out : ∃ P, (∀ (w : World) (A : Option Addr) (c : Nat), Kd.C k42 w A L.length L → L.length ≤ c → Calls Tryd.prog 11 #[.string (ba sl), .slice A L.length c] w (PlanPost w P)) ∧
    (∀ (w : World) (v : Value), PlanV w v P → GlT w → Calls Tryd.prog 10 #[v, .string (ba ul)] w (XNPost w))
theorem readyN {sl ul : List UInt8} {L : List S42} (hM : MapF sl L) (hz : ∀ p ∈ L, SizeP p) (hpub : ∀ t ∈ toks ul, PubT t) (hmt : matchT (toks ul) (toks sl) = false) (hul : ul.length ≤ 500000) : ReadyN sl ul L := by
  have hsl := hM.size
  have hS1 : 1 ≤ (toks sl).length := by rw [toks_len]; omega
  have hS2 : (toks sl).length ≤ 101 := by rw [toks_len]; have := List.count_le_length (a := (46 : UInt8)) (l := sl); omega
  have hT1 : 1 ≤ (toks ul).length := by rw [toks_len]; omega
  have hL1 : 1 ≤ L.length := by
    rcases hc : L with _ | ⟨p, r⟩
    · exact absurd hc hM.ne
    simp
  have hL2 := hM.len
  obtain ⟨ts, d1, d2, d3, hdest⟩ := Dest_ev L (by omega) (fun p hp => by
    obtain ⟨j, hj⟩ := mem_at hp
    exact textx_ev _ _ p (hM.known j p hj) (hz p hp))
  have hts0 : ts ≠ [] := by intro e; rw [e] at d1; simp at d1; omega
  have htsF : ∀ t ∈ ts, ∃ p ∈ L, TextF p t := fun t ht => by
    obtain ⟨j, hj⟩ := mem_at ht
    obtain ⟨p, hp⟩ : ∃ p, L[j]? = some p := ⟨_, List.getElem?_eq_getElem (by rw [← d1]; exact (List.getElem?_eq_some_iff.1 hj).1)⟩
    obtain ⟨u, h1, h2⟩ := d2 j p hp
    rw [hj] at h1
    injection h1 with h1
    exact ⟨p, List.mem_of_getElem? hp, h1 ▸ h2⟩
  have htoks : toks (join ts) = ts := toks_join ts hts0 (fun t ht => by obtain ⟨p, _, h⟩ := htsF t ht; exact h.nd)
  have hdl : (join ts).length ≤ 2147483748 * 10 := by
    have := join_len 2147483747 ts d3
    have : 2147483748 * ts.length ≤ 2147483748 * 10 := Nat.mul_le_mul_left _ (by omega)
    omega
  obtain ⟨k1, hk1⟩ := Places_ev sl (by omega)
  obtain ⟨k2, hk2⟩ := hdest
  obtain ⟨k3, hk3⟩ := Tokens_ev sl (by omega)
  obtain ⟨k4, hk4⟩ := Tokens_ev (join ts) (by omega)
  obtain ⟨k5, hk5⟩ := isSub_ev (toks ul) sl (by omega) hpub (validB_formed hM.sound.valid) hM.tame
  obtain ⟨K, hK⟩ : ∃ K, K = max k1 (max k2 (max k3 (max k4 k5))) := ⟨_, rfl⟩
  obtain ⟨P, hP⟩ : ∃ P, P = planOf (ba sl) (ba (join ts)) (plc 0 (toks sl)) ((toks sl).map ba) ((toks (join ts)).map ba) L := ⟨_, rfl⟩
  have hks : P.ks = L.map (fun p => kindN p.f0) := by rw [hP]; rfl
  have hps : P.ps = L.map (placesN (plc 0 (toks sl))) := by rw [hP]; rfl
  have hns : P.ns = L.map (·.f3) := by rw [hP]; rfl
  have hdt : P.dt = ts.map ba := by rw [hP, htoks]; rfl
  have hst : P.st = (toks sl).map ba := by rw [hP]; rfl
  have hsrc : P.src = ba sl := by rw [hP]; rfl
  have hdst : P.dest = ba (join ts) := by rw [hP]; rfl
  have hPts : P.ts = L.map wordN := by rw [hP]; rfl
  have hstars : (plc 0 (toks sl)).length = stars sl := plc_len _ _
  refine ⟨⟨P, fun w A c hC hc => ?_, fun w v hV hgl => ?_⟩⟩
  · rw [hP]
    refine plan_calls (k := K) hC hc (by omega) (hk1 K (by omega)) (by rw [hstars]; have := stars_le sl; omega) (hk2 K (by omega)) (hk3 K (by omega)) (hk4 K (by omega)) (fun q hq => ?_)
    obtain ⟨j, hj⟩ := mem_at hq
    rw [hstars]
    exact ⟨fun h => ⟨(hM.known j q hj).f4.1, (hM.sound.snd q hq).part h⟩, fun h10 h0 h11 => (hM.sound.snd q hq).one h0 h11 h10⟩
  refine transformn_calls (k := K) (P := P) (s := ba ul) hV (by rw [hks, List.length_map]; omega) (by rw [hns, List.length_map]; omega) (fun x hx => ?_) hul ?_ (fun hs => ?_) ?_ ?_ ?_ hgl
  · rw [hns] at hx
    obtain ⟨q, hq, rfl⟩ := List.mem_map.1 hx
    obtain ⟨j, hj⟩ := mem_at hq
    exact (hM.known j q hj).f3
  · refine List.all_eq_true.2 fun t ht => ?_
    obtain ⟨u, hu, rfl⟩ := List.mem_map.1 ht
    exact litOk_of (hpub u hu)
  · rw [hsrc] at hs
    have hs : sl = [62] := hs
    rw [hs] at hmt
    obtain ⟨u, r, hur⟩ : ∃ u r, toks ul = u :: r := by
      rcases h : toks ul with _ | ⟨u, r⟩
      · exact absurd h (toks_ne ul)
      exact ⟨u, r, rfl⟩
    rw [hur] at hmt
    cases hmt
  · rw [hsrc]
    have := hk5 K (by omega)
    rw [hmt] at this
    exact this
  · rw [hsrc]
    intro e2
    have e2 : sl = [] := e2
    have h1 := formed_cons (t := []) (S := []) (by have := validB_formed hM.sound.valid; rw [e2] at this; exact this)
    exact h1.1 rfl
  rw [hdst]
  intro e2
  have e2 : join ts = [] := e2
  exact nonempty_pieces ts (fun t ht => by obtain ⟨q, _, h⟩ := htsF t ht; exact h.ne) hts0 e2
theorem mapped_ev {sl ul : List UInt8} {L : List S42} (hM : MapF sl L) (hz : ∀ p ∈ L, SizeP p) (hF : Fits (toks sl) (toks ul)) (hul : ul.length ≤ 1000) : Ev (fun k => spec_Mapped.f k (ba sl) L (ba ul)) (ba (join (L.flatMap (outM (takW (toks sl) (toks ul)) (takR (toks sl) (toks ul)))))) := by
  have hsl := hM.size
  have c1 : ∀ S T : List (List UInt8), (takW S T).length ≤ T.length ∧ (takR S T).length ≤ T.length := by
    intro S
    induction S with
    | nil => intro T; simp [takW, takR]
    | cons s S ih =>
      intro T
      cases T with
      | nil => simp [takW, takR]
      | cons t T =>
        have := ih T
        rw [takW, takR]
        constructor
        · split
          · simp
          split <;> simp <;> omega
        split <;> simp; omega
  have c2 := c1 (toks sl) (toks ul)
  have c3 := hF.few.1
  have wl : ∀ N : Int, 1 ≤ N ∧ N ≤ (toks sl).count [42] → 1 ≤ N ∧ N ≤ (takW (toks sl) (toks ul)).length := fun N hN => by
    obtain ⟨q, t, -, -, -, h4, -⟩ := wildX hF hN
    have := (List.getElem?_eq_some_iff.1 h4).1
    omega
  refine Mapped_ev sl ul (by omega) (by omega) L hM.len hF.few (by omega) (by omega) (fun p hp => ?_)
  obtain ⟨j, hj⟩ := mem_at hp
  have hK := hM.known j p hj
  have hS := hM.sound.snd p hp
  refine ⟨hK.f3, fun h => ?_, (hz p hp).1, fun h => ⟨(hK.part h).1, hK.f4.1, fun a ha => wl a (hS.part h a ha)⟩, fun h0 h11 h10 => wl _ (hS.one h0 h11 h10)⟩
  rcases hK.split h with e | e | e <;> rw [e] <;> simp
theorem pub_plain {ul : List UInt8} (hP : PlainF ul) : ∀ t ∈ toks ul, PubT t := by
  obtain ⟨⟨⟨h1, h2⟩, h3, h4⟩, h5⟩ := hP
  intro t ht
  refine ⟨formed_ne _ (validB_formed h3) t ht, toksA_nodot ul [] (by simp) t ht, fun c hc => ?_, List.all_eq_true.1 h5 t ht, List.all_eq_true.1 h4 t ht⟩
  rcases toksA_bytes ul [] t ht c hc with h | h
  · cases h
  have := List.all_eq_true.1 h2 c h
  unfold cleanB at this
  rw [Bool.and_eq_true, decide_eq_true_iff, decide_eq_true_iff] at this
  exact UInt8.lt_iff_toNat_lt.1 this.1
end Go.Proofs.YtoopmpjgmgffoaaDoor.PlFnTransformBack
