/- The law FnListHas, walked. -/
import Derived.Test.YtimffhpnfdikoaaDoorLsZ
import Derived.Test.YtimffhpnfdikoaaDoorPlListC
namespace Go.Proofs.YtimffhpnfdikoaaDoor.Ls
open Go.RowKit Go.Maps Go.Proofs.YtimffhpnfdikoaaDoor.Pl Go.Proofs.YtimffhpnfdikoaaDoor.Bs Go.Proofs.YtimffhpnfdikoaaDoorW.PrintWords Go.Proofs.YtimffhpnfdikoaaDoorW.PrintLast Go.Proofs.YtimffhpnfdikoaaDoorW.PrintMore Go.Proofs.YtimffhpnfdikoaaDoor.GFnListKinds Go.Proofs.YtimffhpnfdikoaaDoor.PlFnListKinds
set_option linter.unusedVariables false
set_option linter.unusedSimpArgs false
theorem mt_matchT : ∀ (L P : List (List UInt8)), mt (L.map ba) (P.map ba) = matchT L P
  | [], [] => rfl
  | _ :: _, [] => rfl
  | [], _ :: _ => rfl
  | t :: L, p :: P => by
    rw [List.map_cons, List.map_cons, mt, matchT]
    have h1 : (ba p = full) ↔ p = [62] := by show (ba p = ba [62]) ↔ _; exact ba_inj
    have h2 : (ba p = star) ↔ p = [42] := by show (ba p = ba [42]) ↔ _; exact ba_inj
    have h3 : (ba p = ba t) ↔ p = t := ba_inj
    by_cases c1 : p = [62]
    · rw [if_pos (h1.2 c1), if_pos c1]
    · rw [if_neg (fun e => c1 (h1.1 e)), if_neg c1]
      by_cases c2 : p = [42] ∨ p = t
      · rw [if_pos (by rw [h2, h3]; exact c2), if_pos c2, mt_matchT]
      · rw [if_neg (by rw [h2, h3]; exact c2), if_neg c2]
theorem mt_tk (s t : ByteArray) : mt (tk s) (tk t) = matchT (toks s.data.toList) (toks t.data.toList) := mt_matchT _ _
theorem hit_vals {ds : List S46} (hg : Good ds) (s : ByteArray) : HitP (runL ds).sub [] (tk s) ↔ 0 < (valsP s (runS ds).l).length := by
  have he := hg.eqv
  unfold valsP
  rw [List.length_map, List.length_pos_iff_exists_mem]
  constructor
  · rintro ⟨q, v, t, h1, h2⟩
    obtain ⟨h3, h4⟩ := (he.sub _ _ _).1 h1
    rw [List.nil_append] at h4
    rw [h4, mt_tk] at h2
    exact ⟨_, List.mem_filter.2 ⟨h3, h2⟩⟩
  · rintro ⟨e, h⟩
    obtain ⟨h1, h2⟩ := List.mem_filter.1 h
    exact ⟨tk e.f0, e.f1, e.f0, (he.sub _ _ _).2 ⟨h1, rfl⟩, by rw [mt_tk]; exact h2⟩
theorem Good.forms {ds : List S46} (hg : Good ds) : ∀ q v t, (runL ds).sub q v = some t → okF false q = true := by
  intro q v t h
  obtain ⟨h1, h2⟩ := (hg.eqv.sub _ _ _).1 h
  rw [h2]
  exact hg.eqv.ok _ h1
theorem plain_lits {s : ByteArray} (h : ((s.data.toList.length ≤ 400 ∧ s.data.toList.all cleanB = true) ∧ validB s.data.toList = true ∧ (toks s.data.toList).all tameT = true) ∧ (toks s.data.toList).all litT = true) : Lits s := by
  obtain ⟨⟨⟨h1, -⟩, h2, -⟩, h3⟩ := h
  have hl : s.data.toList.length = s.size := rfl
  refine ⟨by omega, fun t ht => ?_⟩
  unfold tk at ht
  obtain ⟨u, hu, rfl⟩ := List.mem_map.1 ht
  have h4 := List.all_eq_true.1 h3 u hu
  unfold litT at h4
  rw [Bool.and_eq_true, decide_eq_true_iff, decide_eq_true_iff] at h4
  refine ⟨fun e => h4.1 (ba_inj.1 (show ba u = ba [42] from e)), fun e => h4.2 (ba_inj.1 (show ba u = ba [62] from e)), fun e => ?_⟩
  have hu0 : u = [] := List.length_eq_zero_iff.1 (by rw [← ba_size]; exact e)
  have hf : formedB (toks s.data.toList) = true := by
    unfold validB at h2
    rw [Bool.and_eq_true] at h2
    exact h2.1
  have hz : ∀ (L : List (List UInt8)), formedB L = true → ∀ x ∈ L, x ≠ [] := by
    intro L
    induction L with
    | nil => intro _ x hx; cases hx
    | cons y L ih =>
      intro hL x hx
      rw [formedB, Bool.and_eq_true, Bool.and_eq_true, decide_eq_true_iff] at hL
      rcases List.mem_cons.1 hx with rfl | hx
      · exact hL.1.1
      · exact ih hL.2 x hx
  exact hz _ hf u hu hu0
theorem plain_evs (s : ByteArray) (hs : s.size ≤ 2147483647) : ∃ b, Ev (fun k => laws_plain.f k s) b ∧ (b = true → Lits s) := by
  obtain ⟨b, h1, h2⟩ := plain_ev s.data.toList (by show s.size < _; omega)
  exact ⟨b, h1, fun e => plain_lits (h2.1 e)⟩
theorem eqv_small {ds : List S46} (hg : Good ds) : ∀ e ∈ (runS ds).l, e.f0.size ≤ 80 := by
  have : ∀ i, i ≤ ds.length → ∀ e ∈ (runS (ds.take i)).l, e.f0.size ≤ 80 := by
    intro i
    induction i with
    | zero => intro _ e he; cases he
    | succ i ih =>
      intro hi e he
      have ht : ds[i]? = some (ds[i]'hi) := List.getElem?_eq_getElem hi
      rw [runS_take ht] at he
      have h0 := ih (by omega)
      unfold stepS at he
      split at he
      · have he : e ∈ (if plN (runS (ds.take i)).l (ds[i]'hi).f1 (ds[i]'hi).f2 = none then (runS (ds.take i)).l ++ [⟨(ds[i]'hi).f1, (ds[i]'hi).f2⟩] else (runS (ds.take i)).l) := he
        split at he
        · rcases List.mem_append.1 he with he | he
          · exact h0 e he
          · have : e = ⟨(ds[i]'hi).f1, (ds[i]'hi).f2⟩ := by simpa using he
            rw [this]
            exact (hg.deeds.2 _ (List.getElem_mem hi)).2.1
        · exact h0 e he
      · split at he
        · split at he
          · rcases List.mem_append.1 he with he | he
            · exact h0 e (List.mem_of_mem_take he)
            · exact h0 e (List.mem_of_mem_drop he)
          · exact h0 e he
        · exact h0 e he
  have h := this ds.length (Nat.le_refl _)
  rwa [List.take_length] at h
structure LHasPost (w0 : World) (ds : List S46) (s : ByteArray) (e : Ending) (w' : World) : Prop where
  out : e = .returned (.bool (decide (0 < (valsP s (runS ds).l).length)))
  same : Same w0 w'
structure LNumPost (w0 : World) (ds : List S46) (s : ByteArray) (e : Ending) (w' : World) : Prop where
  out : ∃ c : Nat, e = .returned (.int .i64 (c : Int)) ∧ (0 < c ↔ 0 < (valsP s (runS ds).l).length)
  same : Same w0 w'
theorem same_B {w0 w w' : World} (h : Same w0 w) (hf : Fr (fun k => w0.heap.size ≤ k) w w') : Same w0 w' := h.trans hf (fun k hk e => by omega)
section
set_option maxHeartbeats 8000000
set_option maxRecDepth 100000
theorem lhas_calls {w0 : World} {A0 : Option Addr} {c0 : Nat} {ds : List S46} {s : ByteArray} (hS : Scr w0 A0 ds) (hg : Good ds) (hs : Lits s) : Calls Tryd.prog 19 #[.slice A0 ds.length c0, .string s] w0 (LHasPost w0 ds s) := by
  have HC := Aside0.mk (list_calls (c0 := c0) hS.row hS.gl (hS.good hg.deeds))
  have HG := Aside0.mk hg
  have HS := Aside0.mk hs
  clear hS hg hs
  go_enter Tryd.func19, Tryd.ntmps19
  go_wp2_with fail
  refine HC.out.mono ?_
  rintro e w1 ⟨⟨L, kv, rfl, hl, ho⟩, hs⟩
  have HL := Aside0.mk hl
  have HS1 := Aside0.mk hs
  clear hl ho hs HC
  go_wp2_with fail
  refine (hasInterest_calls HL.out HG.out.clean HG.out.forms HS.out (by omega)).mono ?_
  rintro e w2 ⟨⟨b, rfl, hb, -⟩, hf⟩
  have HP : Aside0 (LHasPost w0 ds s (.returned (.bool b)) w2) := ⟨⟨by
    have : b = decide (0 < (valsP s (runS ds).l).length) := by
      rw [Bool.eq_iff_iff, decide_eq_true_iff, hb, hit_vals HG.out]
    rw [this], same_B HS1.out hf⟩⟩
  clear hb hf
  go_wp2_with fail
  go_ret
  exact HP.out
theorem lnum_calls {w0 : World} {A0 : Option Addr} {c0 : Nat} {ds : List S46} {s : ByteArray} (hS : Scr w0 A0 ds) (hg : Good ds) (hs : Lits s) : Calls Tryd.prog 20 #[.slice A0 ds.length c0, .string s] w0 (LNumPost w0 ds s) := by
  have HC := Aside0.mk (list_calls (c0 := c0) hS.row hS.gl (hS.good hg.deeds))
  have HG := Aside0.mk hg
  have HS := Aside0.mk hs
  clear hS hg hs
  go_enter Tryd.func20, Tryd.ntmps20
  go_wp2_with fail
  refine HC.out.mono ?_
  rintro e w1 ⟨⟨L, kv, rfl, hl, ho⟩, hs⟩
  have HL := Aside0.mk hl
  have HS1 := Aside0.mk hs
  clear hl ho hs HC
  go_wp2_with fail
  refine (num_calls HL.out HG.out.clean HG.out.forms HS.out (by omega)).mono ?_
  rintro e w2 ⟨⟨c, rfl, hc, -⟩, hf⟩
  have HP : Aside0 (LNumPost w0 ds s (.returned (.int .i64 (c : Int))) w2) := ⟨⟨⟨c, rfl, by rw [hc, hit_vals HG.out]⟩, same_B HS1.out hf⟩⟩
  clear hc hf
  go_wp2_with fail
  go_ret
  exact HP.out
theorem has_law {W : World} {A0 : Option Addr} {c0 : Nat} {ds : List S46} {s : ByteArray} (hS : Scr W A0 ds) (hc : ds.length ≤ c0) : Calls Tryd.prog 5 #[.slice A0 ds.length c0, .string s] W (LawPost W) := by
  have HS := Aside0.mk hS
  have HC := Aside0.mk hc
  obtain ⟨b5, he5, hb5⟩ := fits5_ev ds
  obtain ⟨k5, hk5⟩ := Ev.rounds he5
  have HK5 := Aside0.mk hk5
  clear hS hc he5 hb5 hk5
  go_enter Tryd.func5, Tryd.ntmps5
  go_wp2_with fail
  refine (laws_zzFits5.calls k5 A0 c0 ds b5 W HS.out.row HC.out HK5.out).mono ?_
  rintro e w1 ⟨rfl, hf⟩
  have H1 : Aside0 (Same W w1) := ⟨fr_of_below hf⟩
  clear hf
  cases b5 with
  | false =>
    go_wp2
    go_ret
    exact ⟨rfl, H1.out⟩
  | true =>
    by_cases hbig : (s.size : Int) > 2147483647
    · have hd : decide ((s.size : Int) > 2147483647) = true := decide_eq_true hbig
      have hd2 : 2147483647 < s.size := by omega
      go_wp2
      go_ret
      exact ⟨rfl, H1.out⟩
    · have hd : decide ((s.size : Int) > 2147483647) = false := decide_eq_false hbig
      have hd2 : ¬ 2147483647 < s.size := by omega
      have HSZ : Aside0 (s.size ≤ 2147483647) := ⟨by omega⟩
      clear hbig
      go_wp2_with fail
      refine (awake_calls (HS.out.fr H1.out).gl).mono ?_
      rintro e w2 ⟨rfl, hf⟩
      have H2 : Aside0 (Same W w2) := ⟨H1.out.trans hf (fun _ _ h => h)⟩
      clear hf H1 hd hd2
      go_wp2_with fail
      refine (listed_calls (HS.out.fr H2.out) HC.out).mono ?_
      rintro e w3 ⟨⟨lv, b, rfl, hb⟩, hf⟩
      have H3 : Aside0 (Same W w3) := ⟨H2.out.trans hf (fun _ _ h => h)⟩
      have HB := Aside0.mk hb
      clear hf hb H2
      cases b with
      | false =>
        go_wp2
        go_ret
        exact ⟨rfl, H3.out⟩
      | true =>
        obtain ⟨hgd, hrow⟩ := HB.out rfl
        have HG := Aside0.mk hgd
        obtain ⟨A4, c4, rfl, hc4, hr4⟩ := read_own (w := w3) (W := w3) hrow (e35_one _)
        have hsz := (run_sizes ds).1
        have HSL : Aside0 ((runS ds).l.length ≤ 40) := ⟨by have := hgd.deeds.1; omega⟩
        have HKC := Aside0.mk (kc35_of_rg hr4 (by have := HSL.out; omega))
        have HC4 := Aside0.mk hc4
        obtain ⟨bp, hep, hbp⟩ := plain_evs s HSZ.out
        obtain ⟨kp, hkp⟩ := Ev.rounds hep
        have HKP := Aside0.mk hkp
        have HBP := Aside0.mk hbp
        clear hgd hrow hc4 hr4 hsz HB hep hkp hbp
        go_wp2_with fail
        refine (laws_plain.calls kp s bp w3 HKP.out).mono ?_
        rintro e w4 ⟨rfl, hf⟩
        have H4 : Aside0 (Same W w4) := ⟨H3.out.trans (fr_of_below hf) (fun _ _ h => h)⟩
        have HKC4 := Aside0.mk (Kd.C_below HKC.out hf)
        clear hf
        cases bp with
        | false =>
          go_wp2
          go_ret
          exact ⟨rfl, H4.out⟩
        | true =>
          have HL := Aside0.mk (HBP.out rfl)
          obtain ⟨kv, hkv⟩ := Ev.rounds (Values_ev (runS ds).l (by have := HSL.out; omega) s (by have := HSZ.out; omega) (fun e he => by have := eqv_small HG.out e he; omega))
          have HKV := Aside0.mk hkv
          clear hkv
          go_wp2_with fail
          refine (spec_Values.calls kv A4 c4 (runS ds).l s _ w4 HKC4.out HC4.out HKV.out).mono ?_
          rintro e w5 ⟨v0, rfl, hv, hf⟩
          obtain ⟨Av, cv, rfl, hlv, -⟩ := Kd.R_reads hv
          have H5 : Aside0 (Same W w5) := ⟨H4.out.trans (fr_of_below hf) (fun _ _ h => h)⟩
          obtain ⟨n, hn⟩ : ∃ n, (valsP s (runS ds).l).length = n := ⟨_, rfl⟩
          have HN := Aside0.mk hn
          rw [hn]
          clear hv hf hlv hn
          go_wp2_with fail
          refine (lhas_calls (HS.out.fr H5.out) HG.out HL.out).mono ?_
          rintro e w6 ⟨rfl, hf⟩
          have H6 : Aside0 (Same W w6) := ⟨H5.out.trans hf (fun _ _ h => h)⟩
          rw [HN.out]
          clear hf
          by_cases p0 : 0 < n
          · rw [decide_eq_true p0]
            go_wp2_with fail
            refine (lnum_calls (HS.out.fr H6.out) HG.out HL.out).mono ?_
            rintro e w7 ⟨⟨c, rfl, hc⟩, hf⟩
            have H7 : Aside0 (Same W w7) := ⟨H6.out.trans hf (fun _ _ h => h)⟩
            rw [HN.out] at hc
            have p1 : 0 < c := hc.2 p0
            clear hf hc
            go_wp2
            go_ret
            exact ⟨rfl, H7.out⟩
          · rw [decide_eq_false p0]
            go_wp2_with fail
            refine (lnum_calls (HS.out.fr H6.out) HG.out HL.out).mono ?_
            rintro e w7 ⟨⟨c, rfl, hc⟩, hf⟩
            have H7 : Aside0 (Same W w7) := ⟨H6.out.trans hf (fun _ _ h => h)⟩
            rw [HN.out] at hc
            have p1 : ¬ 0 < c := fun e => p0 (hc.1 e)
            clear hf hc
            go_wp2
            go_ret
            exact ⟨rfl, H7.out⟩
theorem has_row {W : World} {A0 : Option Addr} {c0 : Nat} {ds : List S46} {s : ByteArray} (hT : Kd.C k46 W A0 ds.length ds) (hw : ∀ d ∈ ds, (Lit.int .i64 d.f2).wf = true) (hc : ds.length ≤ c0) (hG : GlL W) :
    Calls Tryd.prog 5 #[.slice A0 ds.length c0, .string s] W (fun e w' => e = .returned (.bool true) ∧ Below W.heap.size W w') := (has_law ⟨hT, hw, hG⟩ hc).mono (fun e w' h => ⟨h.1, below_of_fr h.2⟩)
end
end Go.Proofs.YtimffhpnfdikoaaDoor.Ls
