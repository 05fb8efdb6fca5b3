/- The law FnListUndone, walked. -/
import Derived.Test.YtimffhpnfdikoaaDoorLsUa
namespace Go.Proofs.YtimffhpnfdikoaaDoor.Ls
open Go.RowKit Go.Maps Go.Proofs.YtimffhpnfdikoaaDoor.Pl Go.Proofs.YtimffhpnfdikoaaDoor.Bs Go.Proofs.YtimffhpnfdikoaaDoorW.PrintWords Go.Proofs.YtimffhpnfdikoaaDoorW.PrintLast Go.Proofs.YtimffhpnfdikoaaDoorW.PrintMore Go.Proofs.YtimffhpnfdikoaaDoor.GFnListKinds Go.Proofs.YtimffhpnfdikoaaDoor.PlFnListKinds
set_option linter.unusedVariables false
set_option linter.unusedSimpArgs false
theorem hit_vals2 {ds : List S46} {l : List S35} (h : Play ds l) (s : ByteArray) : HitP (runL ds).sub [] (tk s) ↔ 0 < (valsP s l).length := by
  have he := h.eqv
  rw [← h.l]
  unfold valsP
  rw [List.length_map, List.length_pos_iff_exists_mem]
  constructor
  · rintro ⟨q, v, t, h1, h2⟩
    obtain ⟨h3, h4⟩ := (he.sub _ _ _).1 h1
    rw [List.nil_append] at h4
    rw [h4, mt_tk] at h2
    exact ⟨_, List.mem_filter.2 ⟨h3, h2⟩⟩
  · rintro ⟨e, h⟩
    obtain ⟨h1, h2⟩ := List.mem_filter.1 h
    exact ⟨tk e.f0, e.f1, e.f0, (he.sub _ _ _).2 ⟨h1, rfl⟩, by rw [mt_tk]; exact h2⟩
theorem full_iff2 {ds : List S46} {l : List S35} (h : Play ds l) {nd : Pm} (ho : ∀ p, nd p = none → ∀ v, (runL ds).sub p v = none) (hl : (runL ds).clean = true → Live nd (runL ds).sub (fun _ => False)) : (nd [full]).isSome = anyFull l := by
  have he := h.eqv
  rw [← h.l, Bool.eq_iff_iff, anyFull_iff]
  constructor
  · intro hq
    obtain ⟨y, hy⟩ := Option.isSome_iff_exists.1 hq
    rcases hl h.clean _ _ hy with e | ⟨r, v, s, hs⟩
    · exact e.elim
    · obtain ⟨h1, h2⟩ := (he.sub _ _ _).1 hs
      have hok := he.ok _ h1
      rw [← h2] at hok
      have hr : r = [] := okF_end (p := []) hok
      subst hr
      exact ⟨_, h1, (tk_inj (s := full) (s' := s) (by rw [tk_full]; exact h2)).symm⟩
  · rintro ⟨e, h1, h2⟩
    have hs : (runL ds).sub [full] e.f1 = some full := (he.sub _ _ _).2 ⟨by rw [← h2]; exact h1, tk_full.symm⟩
    cases hn : nd [full] with
    | none =>
      rw [ho _ hn] at hs
      cases hs
    | some y => rfl
def BoolPost (w0 : World) (b : Bool) (e : Ending) (w' : World) : Prop := e = .returned (.bool b) ∧ Same w0 w'
theorem app_same {W w w' : World} {size n e : Nat} {v : Value} {xs : List Value} (hs : Same W w) (hr : w.ownsRow W.heap.size e size v n xs) (hg : w.grownBy w' v.ownBlock) : Same W w' := hs.trans (Fr.grown hg) (fun k hk e => by have := (own_base hr e).1; omega)
section
set_option maxHeartbeats 16000000
set_option maxRecDepth 100000
theorem lhas2 {w0 : World} {A0 : Option Addr} {c0 : Nat} {ds : List S46} {l : List S35} {s : ByteArray} (hS : Scr w0 A0 ds) (hp : Play ds l) (hs : Lits s) : Calls Tryd.prog 19 #[.slice A0 ds.length c0, .string s] w0 (BoolPost w0 (decide (0 < (valsP s l).length))) := by
  have HC := Aside0.mk (list_calls (c0 := c0) hS.row hS.gl (hp.good hS.wf))
  have HG := Aside0.mk hp
  have HS := Aside0.mk hs
  clear hS hp hs
  go_enter Tryd.func19, Tryd.ntmps19
  go_wp2_with fail
  refine HC.out.mono ?_
  rintro e w1 ⟨⟨L, kv, rfl, hl, ho⟩, hs⟩
  have HL := Aside0.mk hl
  have HS1 := Aside0.mk hs
  clear hl ho hs HC
  go_wp2_with fail
  refine (hasInterest_calls HL.out HG.out.clean HG.out.forms HS.out (by omega)).mono ?_
  rintro e w2 ⟨⟨b, rfl, hb, -⟩, hf⟩
  have HP : Aside0 (BoolPost w0 (decide (0 < (valsP s l).length)) (.returned (.bool b)) w2) := ⟨⟨by
    have : b = decide (0 < (valsP s l).length) := by
      rw [Bool.eq_iff_iff, decide_eq_true_iff, hb, hit_vals2 HG.out]
    rw [this], same_B HS1.out hf⟩⟩
  clear hb hf
  go_wp2_with fail
  go_ret
  exact HP.out
theorem lfull2 {w0 : World} {A0 : Option Addr} {c0 : Nat} {ds : List S46} {l : List S35} (hS : Scr w0 A0 ds) (hp : Play ds l) : Calls Tryd.prog 16 #[.slice A0 ds.length c0] w0 (BoolPost w0 (anyFull l)) := by
  have HC := Aside0.mk (list_calls (c0 := c0) hS.row hS.gl (hp.good hS.wf))
  have HG := Aside0.mk hp
  clear hS hp
  go_enter Tryd.func16, Tryd.ntmps16
  go_wp2_with fail
  refine HC.out.mono ?_
  rintro e w1 ⟨⟨L, kv, rfl, hl, ho⟩, hs⟩
  have HL := Aside0.mk hl
  have HS := Aside0.mk hs
  clear hl ho hs HC
  go_wp2_with fail
  refine (full_calls HL.out).mono ?_
  rintro e w2 ⟨nd, rfl, h1, h2, hf⟩
  have HP : Aside0 (BoolPost w0 (anyFull l) (.returned (.bool (nd [full]).isSome)) w2) := ⟨⟨by rw [full_iff2 HG.out h1 h2], wf_same HS.out hf (Nat.le_refl _)⟩⟩
  clear h1 h2 hf
  go_wp2_with fail
  go_ret
  exact HP.out
theorem lcount2 {w0 : World} {A0 : Option Addr} {c0 : Nat} {ds : List S46} {l : List S35} (hS : Scr w0 A0 ds) (hp : Play ds l) : Calls Tryd.prog 13 #[.slice A0 ds.length c0] w0 (fun e w' => ∃ kv, e = .returned (.tuple #[kv, .int .i64 (l.length : Int)]) ∧ Same w0 w') := by
  refine (kinds_calls (c0 := c0) hS.row hS.gl (hp.good hS.wf)).mono ?_
  rintro e w' ⟨⟨kv, rfl, _⟩, hs⟩
  exact ⟨kv, by rw [hp.cnt], hs⟩
/-- The values that match, sorted. -/
structure GotPost (w0 : World) (ds : List S46) (s : ByteArray) (e : Ending) (w' : World) : Prop where
  out : ∃ A c G M, e = .returned (.slice A G.length c) ∧ G.length ≤ c ∧ Kd.C (Kd.int .i64) w' A G.length G ∧ G.length ≤ 1000 ∧ G = (M : List (Path × Int)).map Prod.snd ∧ M.Nodup ∧ ∀ x, x ∈ M ↔ InH (runL ds).sub [] (tk s) x
  same : Same w0 w'
theorem lgot2 {w0 : World} {A0 : Option Addr} {c0 : Nat} {ds : List S46} {l : List S35} {s : ByteArray} (hS : Scr w0 A0 ds) (hp : Play ds l) (hs : Lits s) : Calls Tryd.prog 24 #[.slice A0 ds.length c0, .string s, .bool false] w0 (GotPost w0 ds s) := by
  have hle : ∀ M : List (Path × Int), M.Nodup → (∀ x ∈ M, ((runL ds).sub x.1 x.2).isSome = true) → M.length ≤ 1000 := fun M h1 h2 => by
    have := hits_le hp.eqv h1 h2
    have := (run_sizes ds).1
    have := hp.len
    omega
  refine (lmatch_calls hS (hp.good hS.wf) hp.clean hp.forms (fun M h1 h2 => by have := hle M h1 h2; omega) hs).mono ?_
  rintro e w' ⟨⟨v, M, rfl, hr, hn, hm⟩, hf⟩
  have hml := hle M hn (fun x hx => ((hm x).1 hx).2)
  obtain ⟨A, c, rfl, h1, h2⟩ := ints_C hr rfl (by rw [List.length_map]; omega)
  exact ⟨⟨A, c, _, M, rfl, h1, h2, by rw [List.length_map]; exact hml, rfl, hn, hm⟩, hf⟩
theorem undone_law {W : World} {A0 A1 : Option Addr} {c0 c1 : Nat} {l more : List S46} {s : ByteArray} (hS : Scr W A0 l) (hc : l.length ≤ c0) (hS1 : Scr W A1 more) (hc1 : more.length ≤ c1) : Calls Tryd.prog 6 #[.slice A0 l.length c0, .slice A1 more.length c1, .string s] W (LawPost W) := by
  obtain ⟨i46, hE46⟩ := ek46
  have HE := Aside0.mk hE46
  have HS := Aside0.mk hS
  have HC := Aside0.mk hc
  have HS1 := Aside0.mk hS1
  have HC1 := Aside0.mk hc1
  obtain ⟨b5, he5, hb5⟩ := fits5_ev l
  obtain ⟨k5, hk5⟩ := Ev.rounds he5
  have HK5 := Aside0.mk hk5
  obtain ⟨b6, he6, hb6⟩ := fits5_ev more
  obtain ⟨k6, hk6⟩ := Ev.rounds he6
  have HK6 := Aside0.mk hk6
  have HBB := Aside0.mk (And.intro hb5 hb6)
  clear hE46 hS hc hS1 hc1 he5 hb5 hk5 he6 hb6 hk6
  go_enter Tryd.func6, Tryd.ntmps6
  go_wp2_with fail
  refine (laws_zzFits5.calls k5 A0 c0 l b5 W HS.out.row HC.out HK5.out).mono ?_
  rintro e w1 ⟨rfl, hf⟩
  have H1 : Aside0 (Same W w1) := ⟨fr_of_below hf⟩
  clear hf
  cases b5 with
  | false =>
    go_wp2
    go_ret
    exact ⟨rfl, H1.out⟩
  | true =>
    go_wp2_with fail
    refine (laws_zzFits5.calls k6 A1 c1 more b6 w1 (HS1.out.fr H1.out).row HC1.out HK6.out).mono ?_
    rintro e w2 ⟨rfl, hf⟩
    have H2 : Aside0 (Same W w2) := ⟨H1.out.trans (fr_of_below hf) (fun _ _ h => h)⟩
    clear hf H1
    cases b6 with
    | false =>
      go_wp2
      go_ret
      exact ⟨rfl, H2.out⟩
    | true =>
      by_cases hbig : (s.size : Int) > 2147483647
      · have hd : decide ((s.size : Int) > 2147483647) = true := decide_eq_true hbig
        have hd2 : 2147483647 < s.size := by omega
        go_wp2
        go_ret
        exact ⟨rfl, H2.out⟩
      · have hd : decide ((s.size : Int) > 2147483647) = false := decide_eq_false hbig
        have hd2 : ¬ 2147483647 < s.size := by omega
        have HSZ : Aside0 (s.size ≤ 2147483647) := ⟨by omega⟩
        clear hbig
        go_wp2_with fail
        refine (awake_calls (HS.out.fr H2.out).gl).mono ?_
        rintro e w3 ⟨rfl, hf⟩
        have H3 : Aside0 (Same W w3) := ⟨H2.out.trans hf (fun _ _ h => h)⟩
        clear hf H2 hd hd2
        have HLB : Aside0 (l.length ≤ 2147483647 ∧ more.length ≤ 2147483647) := ⟨HBB.out.1 (by simp), HBB.out.2 (by simp)⟩
        have HE0 : Aside0 (∀ w' : World, Same W w' → (w'.alloc (.cells #[] 46)).ownsRow W.heap.size 46 3 (.slice (some ⟨w'.heap.size, 0, none⟩) 0 0) 0 [] ∧ Same W (w'.alloc (.cells #[] 46))) := ⟨fun w' h => ⟨(row_g0 h).own, h.alloc _⟩⟩
        clear HK5 HK6 HBB
        go_upto_region 5 with (fail)
        go_upto_region 6 with (first
          | (at_builtin; refine wpList_ownB HE.out rfl (.tmp 31) (.tmp 32) rfl (v := .slice (some ⟨w3.heap.size, 0, none⟩) 0 0) (n := 0) (m := l.length) (xs := []) (ys := e46 l) rfl (HE0.out w3 H3.out).1 (HE0.out w3 H3.out).2.size rfl (rg_of_kc46 (HS.out.fr (HE0.out w3 H3.out).2).row) (by have := HLB.out; omega) ?_; intro v8 w8 ho8 hg8 hat8; have hS8 := app_same (HE0.out w3 H3.out).2 (HE0.out w3 H3.out).1 hg8)
          | (at_builtin; refine wpList_ownB HE.out rfl (.tmp 33) (.tmp 34) rfl (v := v8) (n := 0 + l.length) (m := more.length) (xs := [] ++ e46 l) (ys := e46 more) rfl ho8 hS8.size rfl (rg_of_kc46 (HS1.out.fr hS8).row) (by have := HLB.out; omega) ?_; intro v9 w9 ho9 hg9 hat9; have hS9 := app_same hS8 ho8 hg9)
          | fail)
        have HR9 : Aside0 (w9.ownsRow W.heap.size 46 3 v9 (l ++ more).length (e46 (l ++ more))) := ⟨by rw [e46_app, List.length_append]; have := ho9; rwa [List.nil_append, Nat.zero_add] at this⟩
        obtain ⟨bo, hbo⟩ : ∃ bo, l ++ more = bo := ⟨_, rfl⟩
        rw [hbo] at HR9
        have HBO := Aside0.mk hbo
        clear hbo
        have H9 : Aside0 (Same W w9) := ⟨hS9⟩
        clear ho8 hg8 hat8 ho9 hg9 hat9 hS8 hS9
        obtain ⟨Ab, cb, rfl, hcb, hrb⟩ := read_own (w := w9) (W := w9) HR9.out (e46_one _)
        have HSB : Aside0 (Scr w9 Ab bo) := ⟨⟨kc46_of_rg hrb (by rw [← HBO.out, List.length_append]; have := HLB.out; omega), (fun d hd => by
          rw [← HBO.out] at hd
          rcases List.mem_append.1 hd with h | h
          · exact HS.out.wf d h
          · exact HS1.out.wf d h), HS.out.gl.fr H9.out (fun h => h) (fun h => h)⟩⟩
        have HCB := Aside0.mk hcb
        clear hcb hrb
        go_wp2_with fail
        refine (puts_calls HSB.out HCB.out).mono ?_
        rintro e w10 ⟨⟨b, rfl, hb⟩, hf⟩
        have H10 : Aside0 (Same w9 w10) := ⟨hf⟩
        have HB := Aside0.mk hb
        clear hf hb
        cases b with
        | false =>
          go_wp2
          go_ret
          exact ⟨rfl, H9.out.trans H10.out (fun _ _ h => h)⟩
        | true =>
          have HP := Aside0.mk (HB.out rfl)
          obtain ⟨bp, hep, hbp⟩ := plain_evs s HSZ.out
          obtain ⟨kp, hkp⟩ := Ev.rounds hep
          have HKP := Aside0.mk hkp
          have HBP := Aside0.mk hbp
          clear HB hep hkp hbp
          go_wp2_with fail
          refine (laws_plain.calls kp s bp w10 HKP.out).mono ?_
          rintro e w11 ⟨rfl, hf⟩
          have H11 : Aside0 (Same w9 w11) := ⟨H10.out.trans (fr_of_below hf) (fun _ _ h => h)⟩
          have HW11 : Aside0 (Same W w11) := ⟨H9.out.trans H11.out (fun _ _ h => h)⟩
          clear hf H10
          cases bp with
          | false =>
            go_wp2
            go_ret
            exact ⟨rfl, HW11.out⟩
          | true =>
            have HL := Aside0.mk (HBP.out rfl)
            have HLE : Aside0 (bo.length ≤ 40 ∧ l.length ≤ 40 ∧ more.length ≤ 40) := ⟨by have h := HP.out.good.deeds.1; have h2 : bo.length = l.length + more.length := (by rw [← HBO.out, List.length_append]); omega⟩
            have HPL := Aside0.mk (play_l (l := l) (more := more) (by rw [HBO.out]; exact HP.out))
            have HPB : Aside0 (Play (bo ++ more.map und) (l.map ent)) := ⟨by have := play_back (l := l) (more := more) (by rw [HBO.out]; exact HP.out); rwa [HBO.out] at this⟩
            have HPN : Aside0 (Play (bo ++ more.map und ++ l.map und) []) := ⟨by have := play_none (l := l) (more := more) (by rw [HBO.out]; exact HP.out); rwa [HBO.out] at this⟩
            have HRB : Aside0 (ReadG w11 Ab bo.length 3 (e46 bo)) := ⟨(rg_of_kc46 HSB.out.row).fr H11.out (fun _ _ h => h)⟩
            obtain ⟨ku, hku⟩ := Ev.rounds (undone_ev more (by have := HLE.out; omega))
            have HKU := Aside0.mk hku
            obtain ⟨kl, hkl⟩ := Ev.rounds (undone_ev l (by have := HLE.out; omega))
            have HKL := Aside0.mk hkl
            clear HBP HKP hku hkl
            go_upto_region 8 with (fail)
            go_wp2_with (first
              | (at_builtin; refine wpList_ownB HE.out rfl (.tmp 44) (.tmp 45) rfl (v := .slice (some ⟨w11.heap.size, 0, none⟩) 0 0) (n := 0) (m := bo.length) (xs := []) (ys := e46 bo) rfl (HE0.out w11 HW11.out).1 (HE0.out w11 HW11.out).2.size rfl (HRB.out.fr ((Fr.refl (fun _ => False) w11).alloc _) (fun _ _ h => h)) (by have := HLE.out; omega) ?_; intro v12 w12 ho12 hg12 hat12; have hS12 := app_same (HE0.out w11 HW11.out).2 (HE0.out w11 HW11.out).1 hg12)
              | fail)
            have H12 : Aside0 (Same W w12) := ⟨hS12⟩
            have HO12 := Aside0.mk ho12
            clear ho12 hg12 hat12 hS12
            refine (laws_undone.calls ku A1 c1 more _ w12 (HS1.out.fr H12.out).row HC1.out HKU.out).mono ?_
            rintro e w13 ⟨vu, rfl, hRu, hbu⟩
            obtain ⟨Au, cu, rfl, hlu, hCu⟩ := Kd.R_reads hRu
            have H13 : Aside0 (Same W w13) := ⟨H12.out.trans (fr_of_below hbu) (fun _ _ h => h)⟩
            have HO13 := Aside0.mk (ownsRow_fr HO12.out (fr_of_below hbu) (fun _ _ h => h))
            have HRU := Aside0.mk (rg_of_kc46 hCu)
            clear hRu hbu hlu hCu HO12 H12
            rw [List.length_map] at HRU
            rw [List.length_map]
            go_wp2_with (first
              | (at_builtin; refine wpList_ownB HE.out rfl (.tmp 46) (.tmp 48) rfl (v := v12) (n := 0 + bo.length) (m := more.length) (xs := [] ++ e46 bo) (ys := e46 (more.map und)) rfl HO13.out H13.out.size rfl HRU.out (by have := HLE.out; omega) ?_; intro v14 w14 ho14 hg14 hat14; have hS14 := app_same H13.out HO13.out hg14)
              | fail)
            have H14 : Aside0 (Same W w14) := ⟨hS14⟩
            obtain ⟨bk, hbk⟩ : ∃ bk, bo ++ more.map und = bk := ⟨_, rfl⟩
            have HBL : Aside0 (bk.length = bo.length + more.length) := ⟨by rw [← hbk, List.length_append, List.length_map]⟩
            have HOB : Aside0 (w14.ownsRow W.heap.size 46 3 v14 bk.length (e46 bk)) := ⟨by rw [← hbk, e46_app, List.length_append, List.length_map]; have := ho14; rwa [List.nil_append, Nat.zero_add] at this⟩
            rw [hbk] at HPB HPN
            have HWF : Aside0 (∀ d ∈ bk, (Lit.int .i64 d.f2).wf = true) := ⟨fun d hd => by
              rw [← hbk] at hd
              rcases List.mem_append.1 hd with h | h
              · exact HSB.out.wf d h
              · obtain ⟨_, e, he, _, h2⟩ := und_mem h
                rw [h2]
                exact HS1.out.wf e he⟩
            clear ho14 hg14 hat14 hS14 hbk H13 HO13 HRU HKU
            obtain ⟨Ak, ck, rfl, hck, hrk⟩ := read_own (w := w14) (W := w14) HOB.out (e46_one _)
            have HSK : Aside0 (Scr w14 Ak bk) := ⟨⟨kc46_of_rg hrk (by have := HBL.out; have := HLE.out; omega), HWF.out, HS.out.gl.fr H14.out (fun h => h) (fun h => h)⟩⟩
            have HCK := Aside0.mk hck
            clear hck hrk
            go_wp2_with fail
            refine (lcount2 (HS.out.fr H14.out) HPL.out).mono ?_
            rintro e w15 ⟨kv1, rfl, hf⟩
            have HK15 : Aside0 (Same w14 w15) := ⟨hf⟩
            clear hf
            go_wp2_with fail
            refine (lcount2 (HSK.out.fr HK15.out) HPB.out).mono ?_
            rintro e w16 ⟨kv2, rfl, hf⟩
            have HK16 : Aside0 (Same w14 w16) := ⟨HK15.out.trans hf (fun _ _ h => h)⟩
            have HW16 : Aside0 (Same W w16) := ⟨H14.out.trans HK16.out (fun _ _ h => h)⟩
            have hne : (((l.map ent).length : Int) != ((l.map ent).length : Int)) = false := by simp
            clear hf HK15
            go_wp2_with fail
            refine (lgot2 (HS.out.fr HW16.out) HPL.out HL.out).mono ?_
            rintro e w17 ⟨⟨A1', c1', G1, M1, rfl, hc1, hC1, hl1, hG1, hn1, hm1⟩, hf⟩
            have HK17 : Aside0 (Same w14 w17) := ⟨HK16.out.trans hf (fun _ _ h => h)⟩
            have HW17 : Aside0 (Same W w17) := ⟨H14.out.trans HK17.out (fun _ _ h => h)⟩
            obtain ⟨r1, hr1, hp1, hs1⟩ := Sorted_ev G1 (by omega)
            obtain ⟨kr1, hkr1⟩ := Ev.rounds hr1
            have HG1 := Aside0.mk (And.intro hc1 (And.intro hC1 (And.intro hl1 (And.intro hG1 (And.intro hn1 (And.intro hm1 (And.intro hp1 (And.intro hs1 hkr1))))))))
            clear hf HK16 HW16 hc1 hC1 hl1 hG1 hn1 hm1 hp1 hs1 hkr1 hr1 hne
            go_wp2_with fail
            refine (spec_Sorted.calls kr1 A1' c1' G1 r1 w17 HG1.out.2.1 HG1.out.1 HG1.out.2.2.2.2.2.2.2.2).mono ?_
            rintro e w18 ⟨vs1, rfl, hR, hb⟩
            obtain ⟨As1, cs1, rfl, hls1, hCs1⟩ := Kd.R_reads hR
            have HK18 : Aside0 (Same w14 w18) := ⟨HK17.out.trans (fr_of_below hb) (fun _ _ h => h)⟩
            have HC1s := Aside0.mk (And.intro hls1 hCs1)
            clear hR hb hls1 hCs1 HK17 HW17
            go_wp2_with fail
            refine (lgot2 (HSK.out.fr HK18.out) HPB.out HL.out).mono ?_
            rintro e w19 ⟨⟨A2', c2', G2, M2, rfl, hc1, hC1, hl1, hG1, hn1, hm1⟩, hf⟩
            have HK19 : Aside0 (Same w14 w19) := ⟨HK18.out.trans hf (fun _ _ h => h)⟩
            have HC1t := Aside0.mk (And.intro HC1s.out.1 (Kd.C_below HC1s.out.2 (below_of_fr hf)))
            obtain ⟨r2, hr1, hp1, hs1⟩ := Sorted_ev G2 (by omega)
            obtain ⟨kr2, hkr1⟩ := Ev.rounds hr1
            have hre : r1 = r2 := by
              refine sorted_unique (HG1.out.2.2.2.2.2.2.1.trans (List.Perm.trans ?_ hp1.symm)) HG1.out.2.2.2.2.2.2.2.1 hs1
              rw [HG1.out.2.2.2.1, hG1]
              refine List.Perm.map _ (perm_of_hits HG1.out.2.2.2.2.1 hn1 (fun x => ?_))
              rw [HG1.out.2.2.2.2.2.1, hm1, HPL.out.same HPB.out]
            have HG2 := Aside0.mk (And.intro hc1 (And.intro hC1 hkr1))
            have HRL1 : Aside0 (r1.length ≤ 1000) := ⟨by rw [HG1.out.2.2.2.2.2.2.1.length_eq]; exact HG1.out.2.2.1⟩
            clear hf HK18 HC1s hc1 hC1 hl1 hG1 hn1 hm1 hp1 hs1 hkr1 hr1
            subst hre
            go_wp2_with fail
            refine (spec_Sorted.calls kr2 A2' c2' G2 r1 w19 HG2.out.2.1 HG2.out.1 HG2.out.2.2).mono ?_
            rintro e w20 ⟨vs2, rfl, hR, hb⟩
            obtain ⟨As2, cs2, rfl, hls2, hCs2⟩ := Kd.R_reads hR
            have HK20 : Aside0 (Same w14 w20) := ⟨HK19.out.trans (fr_of_below hb) (fun _ _ h => h)⟩
            have HC1u := Aside0.mk (And.intro HC1t.out.1 (Kd.C_below HC1t.out.2 hb))
            have HC2u := Aside0.mk (And.intro hls2 hCs2)
            obtain ⟨ke, hke⟩ := Ev.rounds (same_ev r1 r1 (by have := HRL1.out; omega))
            rw [decide_eq_true rfl] at hke
            have HKE := Aside0.mk hke
            clear hR hb hls2 hCs2 HK19 HC1t hke
            go_wp2_with fail
            refine (laws_sameInts.calls ke As1 cs1 r1 As2 cs2 r1 true w20 HC1u.out.2 HC1u.out.1 HC2u.out.2 HC2u.out.1 HKE.out).mono ?_
            rintro e w21 ⟨rfl, hf⟩
            have HK21 : Aside0 (Same w14 w21) := ⟨HK20.out.trans (fr_of_below hf.below) (fun _ _ h => h)⟩
            have HW21 : Aside0 (Same W w21) := ⟨H14.out.trans HK21.out (fun _ _ h => h)⟩
            clear hf HK20
            go_wp2_with fail
            refine (lhas2 (HS.out.fr HW21.out) HPL.out HL.out).mono ?_
            rintro e w22 ⟨rfl, hf⟩
            have HK22 : Aside0 (Same w14 w22) := ⟨HK21.out.trans hf (fun _ _ h => h)⟩
            clear hf HK21 HW21
            obtain ⟨hb1, hhb1⟩ : ∃ hb1, decide (0 < (valsP s (l.map ent)).length) = hb1 := ⟨_, rfl⟩
            have HHB := Aside0.mk hhb1
            rw [hhb1]
            clear hhb1
            go_wp2_with fail
            refine (lhas2 (HSK.out.fr HK22.out) HPB.out HL.out).mono ?_
            rintro e w23 ⟨rfl, hf⟩
            have HK23 : Aside0 (Same w14 w23) := ⟨HK22.out.trans hf (fun _ _ h => h)⟩
            have HW23 : Aside0 (Same W w23) := ⟨H14.out.trans HK23.out (fun _ _ h => h)⟩
            rw [HHB.out]
            have hn1 : (hb1 != hb1) = false := by simp
            clear hf HK22
            go_wp2_with fail
            refine (lfull2 (HS.out.fr HW23.out) HPL.out).mono ?_
            rintro e w24 ⟨rfl, hf⟩
            have HK24 : Aside0 (Same w14 w24) := ⟨HK23.out.trans hf (fun _ _ h => h)⟩
            clear hf HK23 HW23
            obtain ⟨hb2, hhb2⟩ : ∃ hb2, anyFull (l.map ent) = hb2 := ⟨_, rfl⟩
            have HHC := Aside0.mk hhb2
            rw [hhb2]
            clear hhb2
            go_wp2_with fail
            refine (lfull2 (HSK.out.fr HK24.out) HPB.out).mono ?_
            rintro e w25 ⟨rfl, hf⟩
            have HK25 : Aside0 (Same w14 w25) := ⟨HK24.out.trans hf (fun _ _ h => h)⟩
            have HW25 : Aside0 (Same W w25) := ⟨H14.out.trans HK25.out (fun _ _ h => h)⟩
            rw [HHC.out]
            have hn2 : (hb2 != hb2) = false := by simp
            clear hf HK24
            go_wp2_with fail
            refine (laws_undone.calls kl A0 c0 l _ w25 (HS.out.fr HW25.out).row HC.out HKL.out).mono ?_
            rintro e w26 ⟨vl, rfl, hRu, hbu⟩
            obtain ⟨Al, cl, rfl, hlu, hCu⟩ := Kd.R_reads hRu
            have HK26 : Aside0 (Same w14 w26) := ⟨HK25.out.trans (fr_of_below hbu) (fun _ _ h => h)⟩
            have HWL : Aside0 (Same W w26) := ⟨H14.out.trans HK26.out (fun _ _ h => h)⟩
            have HOK := Aside0.mk (ownsRow_fr HOB.out HK26.out (fun _ _ h => h))
            have HRL := Aside0.mk (rg_of_kc46 hCu)
            clear hRu hbu hlu hCu HK25 HW25 hn1 hn2
            rw [List.length_map] at HRL
            rw [List.length_map]
            go_wp2_with (first
              | (at_builtin; refine wpList_ownB HE.out rfl (.tmp 89) (.tmp 91) rfl (v := .slice Ak bk.length ck) (n := bk.length) (m := l.length) (xs := e46 bk) (ys := e46 (l.map und)) rfl HOK.out HWL.out.size rfl HRL.out (by have := HBL.out; have := HLE.out; omega) ?_; intro v30 w30 ho30 hg30 hat30; have hS30 := app_same HWL.out HOK.out hg30)
              | fail)
            have H30 : Aside0 (Same W w30) := ⟨hS30⟩
            obtain ⟨no, hno⟩ : ∃ no, bk ++ l.map und = no := ⟨_, rfl⟩
            have HNL : Aside0 (no.length = bk.length + l.length) := ⟨by rw [← hno, List.length_append, List.length_map]⟩
            have HON : Aside0 (w30.ownsRow W.heap.size 46 3 v30 no.length (e46 no)) := ⟨by rw [← hno, e46_app, List.length_append, List.length_map]; exact ho30⟩
            rw [hno] at HPN
            have HWN : Aside0 (∀ d ∈ no, (Lit.int .i64 d.f2).wf = true) := ⟨fun d hd => by
              rw [← hno] at hd
              rcases List.mem_append.1 hd with h | h
              · exact HWF.out d h
              · obtain ⟨_, e, he, _, h2⟩ := und_mem h
                rw [h2]
                exact HS.out.wf e he⟩
            clear ho30 hg30 hat30 hS30 hno
            obtain ⟨An, cn, rfl, hcn, hrn⟩ := read_own (w := w30) (W := w30) HON.out (e46_one _)
            have HSN : Aside0 (Scr w30 An no) := ⟨⟨kc46_of_rg hrn (by have := HNL.out; have := HBL.out; have := HLE.out; omega), HWN.out, HS.out.gl.fr H30.out (fun h => h) (fun h => h)⟩⟩
            clear hcn hrn
            refine (lcount2 HSN.out HPN.out).mono ?_
            rintro e w31 ⟨kv3, rfl, hf⟩
            have H31 : Aside0 (Same w30 w31) := ⟨hf⟩
            rw [show ((([] : List S35).length : Nat) : Int) = 0 from rfl]
            clear hf
            go_wp2_with fail
            refine (lhas2 (HSN.out.fr H31.out) HPN.out HL.out).mono ?_
            rintro e w32 ⟨rfl, hf⟩
            have H32 : Aside0 (Same W w32) := ⟨H30.out.trans (H31.out.trans hf (fun _ _ h => h)) (fun _ _ h => h)⟩
            rw [show decide (0 < (valsP s []).length) = false from by unfold valsP; rfl]
            clear hf
            go_wp2_with fail
            go_ret
            exact ⟨rfl, H32.out⟩
theorem undone_row {W : World} {A0 A1 : Option Addr} {c0 c1 : Nat} {l more : List S46} {s : ByteArray} (hT : Kd.C k46 W A0 l.length l) (hw : ∀ d ∈ l, (Lit.int .i64 d.f2).wf = true) (hc : l.length ≤ c0) (hT1 : Kd.C k46 W A1 more.length more) (hw1 : ∀ d ∈ more, (Lit.int .i64 d.f2).wf = true) (hc1 : more.length ≤ c1) (hG : GlL W) :
    Calls Tryd.prog 6 #[.slice A0 l.length c0, .slice A1 more.length c1, .string s] W (fun e w' => e = .returned (.bool true) ∧ Below W.heap.size W w') := (undone_law ⟨hT, hw, hG⟩ hc ⟨hT1, hw1, hG⟩ hc1).mono (fun e w' h => ⟨h.1, below_of_fr h.2⟩)
end
end Go.Proofs.YtimffhpnfdikoaaDoor.Ls
