/- Empty, impl.TreeEmpty, the law FnTreeEmpty. -/
import Derived.Test.YtjhmpcbpbdkddaaGreatTfJ
import Derived.Test.YtjhmpcbpbdkddaaGreatTfK
namespace Go.Proofs.YtjhmpcbpbdkddaaGreat.Te
open Go.RowKit Go.Proofs.YtjhmpcbpbdkddaaGreat.Pl Go.Proofs.YtjhmpcbpbdkddaaGreat.Bs Go.Proofs.YtjhmpcbpbdkddaaGreatW.PrintWords Go.Proofs.YtjhmpcbpbdkddaaGreatW.PrintLast Go.Proofs.YtjhmpcbpbdkddaaGreatW.PrintMore Go.Proofs.YtjhmpcbpbdkddaaGreat.GFnTreeRun Go.Proofs.YtjhmpcbpbdkddaaGreat.PlFnTreeRun
set_option linter.unusedVariables false
set_option linter.unusedSimpArgs false
section
set_option maxHeartbeats 16000000
set_option maxRecDepth 100000
theorem empty_calls {w : World} {B tb : Nat} {ot : Option T} (h : Tr w B tb ot) : Calls Tryz.prog 32 #[.pointer (some ⟨tb, 0, none⟩)] w fun e w' => e = .returned (.pointer (some ⟨tb, 0, none⟩)) ∧ Tr w' B tb none ∧ Fr (fun x => x = tb) w w' := by
  have c0 := h.hd.cell 0 rfl
  have c1 := h.hd.cell 1 rfl
  have f0 : ∀ o, w.frozen? ⟨tb, o, none⟩ = false := fun o => h.hd.free o
  have f1 := f0 0
  have f2 := f0 1
  have HF := Aside0.mk f0
  have HT := Aside0.mk h
  clear h f0
  go_enter Tryz.func32, Tryz.ntmps32
  go_wp2_with fail
  go_ret
  have h1 : Blk ((w.setCell ⟨tb, 0, none⟩ .nilIface).setCell ⟨tb, 1, none⟩ (.int .i64 0)) tb 68 [.nilIface, .int .i64 ((0 : Nat) : Int)] := (HT.out.hd.set 0 (by simp) _).set 1 (by simp) _
  exact ⟨rfl, ⟨h1, (fun t e => by cases e), (fun h => by cases h), HT.out.base.1, fun x hx => by cases hx⟩, ((Fr.refl (fun x => x = tb) w).set (p := ⟨tb, 0, none⟩) (.inl rfl) _).set (p := ⟨tb, 1, none⟩) (.inl rfl) _⟩
theorem emptied_calls {w : World} {A0 A1 : Option Addr} {c0 c1 : Nat} {ds es : List S51} (hT : Kd.C k51 w A0 ds.length ds) (hD : GoodP ds) (hT1 : Kd.C k51 w A1 es.length es) (hD1 : GoodP es) : Calls Tryz.prog 14 #[.slice A0 ds.length c0, .slice A1 es.length c1] w (RunPost w es) := by
  have HT := Aside0.mk (And.intro hT (And.intro hD (And.intro hT1 hD1)))
  clear hT hD hT1 hD1
  go_enter Tryz.func14, Tryz.ntmps14
  go_wp2_with fail
  refine (tree_calls HT.out.1 HT.out.2.1.good).mono ?_
  rintro e w1 ⟨rfl, ⟨ot, h1, -⟩, hs1⟩
  have HN := Aside0.mk (And.intro h1 hs1)
  clear h1 hs1
  go_wp2_with fail
  refine (empty_calls HN.out.1).mono ?_
  rintro e w2 ⟨rfl, h2, hs2⟩
  have HE : Aside0 (Tr w2 w.heap.size w.heap.size none ∧ Same w w2) := ⟨h2, HN.out.2.trans hs2 (fun k hk e => by omega)⟩
  clear h2 hs2
  go_wp2_with fail
  refine (grow_walk (W0 := w) HT.out.2.2.1 HT.out.2.2.2.good HE.out.1 (m0 := m00) (fun s v => by simp [entsO, m00]) (fun s h => absurd rfl h) (below_of_fr HE.out.2)).mono ?_
  rintro e w3 ⟨v, rfl, hg⟩
  have HG := Aside0.mk hg.whole
  clear hg
  obtain ⟨ot3, h1, h2⟩ := HG.out.1.ex
  have HO := Aside0.mk (And.intro h1 h2)
  clear h1 h2
  go_wp2_with fail
  refine (size_calls HO.out.1).mono ?_
  rintro e w' ⟨rfl, hw'⟩
  subst w'
  obtain ⟨z, hz⟩ : ∃ z, z = (entsO ot3).length := ⟨_, rfl⟩
  rw [← hz]
  have HZ := Aside0.mk hz
  clear hz
  go_wp2_with fail
  refine bodyPost_ret (results_list (rs := [.tmp 4, .tmp 5]) rfl (by simp) (.tmp (.tmp .nil))) rfl ?_
  exact ⟨⟨v, entsO ot3, by rw [← HZ.out]; rfl, HG.out.2, HO.out.2, nodup_keysO HO.out.1.wf⟩, HG.out.1.same⟩
attribute [local go_sem high] neq34
theorem empty_law {W : World} {A0 A1 : Option Addr} {c0 c1 : Nat} {ds es : List S51} (hT : Kd.C k51 W A0 ds.length ds) (hc : ds.length ≤ c0) (hT1 : Kd.C k51 W A1 es.length es) (hc1 : es.length ≤ c1) : Calls Tryz.prog 4 #[.slice A0 ds.length c0, .slice A1 es.length c1] W (LawPost W) := by
  have HT := Aside0.mk hT
  have HC := Aside0.mk hc
  have HT1 := Aside0.mk hT1
  have HC1 := Aside0.mk hc1
  obtain ⟨b5, he5, hb5⟩ := fits5_ev ds
  obtain ⟨k5, hk5⟩ := Ev.rounds he5
  have HK5 := Aside0.mk hk5
  obtain ⟨b6, he6, hb6⟩ := fits5_ev es
  obtain ⟨k6, hk6⟩ := Ev.rounds he6
  have HK6 := Aside0.mk hk6
  clear hT hc hT1 hc1 he5 hb5 hk5 he6 hb6 hk6
  go_enter Tryz.func4, Tryz.ntmps4
  go_wp2_with fail
  refine (laws_zzFits5.calls k5 A0 c0 ds b5 W HT.out HC.out HK5.out).mono ?_
  rintro e w1 ⟨rfl, hf⟩
  have H1 : Aside0 (Same W w1) := ⟨fr_of_below hf⟩
  clear hf
  cases b5 with
  | false =>
    go_wp2
    go_ret
    exact ⟨rfl, H1.out⟩
  | true =>
    go_wp2_with fail
    refine (laws_zzFits5.calls k6 A1 c1 es b6 w1 (kc_same HT1.out H1.out) HC1.out HK6.out).mono ?_
    rintro e w2 ⟨rfl, hf⟩
    have H2 : Aside0 (Same W w2) := ⟨H1.out.trans (fr_of_below hf) (fun _ _ h => h)⟩
    clear hf H1
    cases b6 with
    | false =>
      go_wp2
      go_ret
      exact ⟨rfl, H2.out⟩
    | true =>
      go_wp2_with fail
      refine (grown_calls (kc_same HT.out H2.out) HC.out).mono ?_
      rintro e w3 ⟨⟨lv, ok, rfl, hg, n, L, hl, hn, hL⟩, hs⟩
      have H3 : Aside0 (Same W w3) := ⟨H2.out.trans hs (fun _ _ h => h)⟩
      have HG := Aside0.mk hg
      clear hs H2 hg hl hn hL
      go_wp2_with fail
      refine (grown_calls (kc_same HT1.out H3.out) HC1.out).mono ?_
      rintro e w4 ⟨⟨lv1, ok1, rfl, hg, n, L, hl, hn, hL⟩, hs⟩
      have H4 : Aside0 (Same W w4) := ⟨H3.out.trans hs (fun _ _ h => h)⟩
      have HG1 := Aside0.mk hg
      clear hs H3 hg hl hn hL
      rcases hb : (ok && ok1) with _ | _
      · have hbb : ok = false ∨ (ok = true ∧ ok1 = false) := by cases ok <;> cases ok1 <;> simp_all
        clear HG HG1 hb
        rcases hbb with rfl | ⟨rfl, rfl⟩
        · go_wp2_with fail
          refine (awake_calls (W := w4)).mono ?_
          rintro e w5 ⟨rfl, hs⟩
          have H5 : Aside0 (Same W w5) := ⟨H4.out.trans hs (fun _ _ h => h)⟩
          clear hs
          go_wp2
          go_ret
          exact ⟨rfl, H5.out⟩
        · go_wp2_with fail
          refine (awake_calls (W := w4)).mono ?_
          rintro e w5 ⟨rfl, hs⟩
          have H5 : Aside0 (Same W w5) := ⟨H4.out.trans hs (fun _ _ h => h)⟩
          clear hs
          go_wp2
          go_ret
          exact ⟨rfl, H5.out⟩
      · have hbb : ok = true ∧ ok1 = true := by cases ok <;> cases ok1 <;> simp_all
        obtain ⟨rfl, rfl⟩ := hbb
        have HGA := Aside0.mk (And.intro (HG.out rfl) (HG1.out rfl))
        clear HG HG1 hb
        go_wp2_with fail
        refine (emptied_calls (kc_same HT.out H4.out) HGA.out.1 (kc_same HT1.out H4.out) HGA.out.2).mono ?_
        rintro e w5 ⟨⟨av, e5, rfl, ho5, hd5, hn5⟩, hs⟩
        rw [spec_size hd5 hn5]
        have H5 : Aside0 (Same W w5) := ⟨H4.out.trans hs (fun _ _ h => h)⟩
        have HO5 := Aside0.mk ho5
        clear ho5 hd5 hn5 hs H4
        go_wp2_with fail
        refine (run_calls (kc_same HT1.out H5.out) HGA.out.2.good).mono ?_
        rintro e w6 ⟨⟨gv, e6, rfl, ho, hd, hn⟩, hs⟩
        rw [spec_size hd hn]
        have H6 : Aside0 (Same W w6) := ⟨H5.out.trans hs (fun _ _ h => h)⟩
        have hlt := runS_told m00 es
        obtain ⟨Ag, cg, rfl, hcg, hCg⟩ := kc34_of_own (ownsRow_fr HO5.out hs (fun _ _ h => h)) hlt.symm (by have := HGA.out.2.len; omega)
        obtain ⟨At, ct, rfl, hct, hCt⟩ := kc34_of_own ho hlt.symm (by have := HGA.out.2.len; omega)
        have HLT : Aside0 ((runS m00 es).told.length ≤ 40) := ⟨by have := HGA.out.2.len; omega⟩
        have HCC := Aside0.mk (And.intro hCg (And.intro hcg (And.intro hCt hct)))
        clear ho hd hn hs hlt hcg hCg hct hCt H5 HO5
        generalize (runS m00 es).told = ts at HLT HCC ⊢
        generalize (runT es).l.length = nl
        go_upto_region 11 with (fail)
        go_wp2_with fail
        go_loopg [13] ts.length (fun kq v9 wr => ∃ (i : Nat), v9 = .int .i64 (i : Int) ∧ Aside0 (kq + i = ts.length ∧ i ≤ ts.length) ∧ Aside0 (Same w6 wr))
        case atStart => exact ⟨0, rfl, ⟨by omega⟩, ⟨Fr.refl _ _⟩⟩
        case round =>
          obtain ⟨i, rfl, HI, HR⟩ := hrel
          have i0 : (0 : Int) ≤ (i : Int) := by omega
          by_cases hlt : i < ts.length
          · have i1 : (i : Int) < (ts.length : Int) := by omega
            have i2 : decide ((i : Int) < (ts.length : Int)) = true := decide_eq_true i1
            have i5 : IntKind.i64.wrap ((i : Int) + 1) = ((i + 1 : Nat) : Int) := by rw [IntKind.wrap_i64]; have := HI.out; have := HLT.out; omega
            obtain ⟨d, ht⟩ : ∃ d, ts[i]? = some d := ⟨_, List.getElem?_eq_getElem hlt⟩
            have HTI := Aside0.mk ht
            have HIK : Aside0 (i + 1 ≤ ts.length) := ⟨by omega⟩
            obtain ⟨ad, rfl, t0, t1⟩ := at_T34 (Kd.C_below HCC.out.1 (below_of_fr HR.out)) (i : Int) (by omega) (by omega)
            obtain ⟨ad2, rfl, s0, s1⟩ := at_T34 (Kd.C_below HCC.out.2.2.1 (below_of_fr HR.out)) (i : Int) (by omega) (by omega)
            rw [Int.toNat_natCast, rd34_at HTI.out] at t0 t1 s0 s1
            clear ht
            go_upto_region 14 with (fail)
            go_quiet (fail)
            have HS3 : Aside0 (Same w6 (wr.drewN nq)) := ⟨HR.out.trans ((Fr.refl _ _).drewN nq) (fun _ _ h => h)⟩
            clear t0 t1 s0 s1
            go_wp2_with fail
            go_roundg (ts.length - (i + 1))
            case measure => have := HI.out; have := HIK.out; omega
            case rel => exact ⟨i + 1, by first | rfl | go_num, ⟨by have := HIK.out; omega⟩, HS3⟩
          · have hie : i = ts.length := by have := HI.out; omega
            subst hie
            have i2 : decide ((ts.length : Int) < (ts.length : Int)) = false := decide_eq_false (by omega)
            go_wp2_with fail
            refine (awake_calls (W := wr)).mono ?_
            rintro e w7 ⟨rfl, hs⟩
            have H7 : Aside0 (Same W w7) := ⟨H6.out.trans (HR.out.trans hs (fun _ _ h => h)) (fun _ _ h => h)⟩
            clear hs
            go_wp2
            go_ret
            exact ⟨rfl, H7.out⟩
theorem empty_row {W : World} {A0 A1 : Option Addr} {c0 c1 : Nat} {ds es : List S51} (hT : Kd.C k51 W A0 ds.length ds) (hc : ds.length ≤ c0) (hT1 : Kd.C k51 W A1 es.length es) (hc1 : es.length ≤ c1) :
    Calls Tryz.prog 4 #[.slice A0 ds.length c0, .slice A1 es.length c1] W (fun e w' => e = .returned (.bool true) ∧ Below W.heap.size W w') := (empty_law hT hc hT1 hc1).mono (fun e w' h => ⟨h.1, below_of_fr h.2⟩)
end
end Go.Proofs.YtjhmpcbpbdkddaaGreat.Te
