/- A take out of a list: the walk of remove. -/
import Derived.Test.YtimffhpnfdikoaaDoorLsM
namespace Go.Proofs.YtimffhpnfdikoaaDoor.Ls
open Go.RowKit Go.Maps Go.Proofs.YtimffhpnfdikoaaDoor.Bs Go.Proofs.YtimffhpnfdikoaaDoorW.PrintWords Go.Proofs.YtimffhpnfdikoaaDoorW.PrintLast Go.Proofs.YtimffhpnfdikoaaDoorW.PrintMore Go.Proofs.YtimffhpnfdikoaaDoor.GFnListKinds
set_option linter.unusedVariables false
set_option linter.unusedSimpArgs false
theorem info113b : (Tryd.prog.info? 113).map (fun i => (i.zero, i.size, i.bytes)) = some (some (.agg #[.pointer none, .pointer none, .string .empty]), 3, 32) := by kernel_rfl
theorem ek113 : ∃ i, ElemK Tryd.prog 115 113 i (.agg #[.pointer none, .pointer none, .string .empty]) 3 32 := elem_of Tryd.underlying115 info113b (by decide) (by decide) (by decide)
set_option maxHeartbeats 16000000 in
set_option maxRecDepth 100000 in
theorem remove_calls {W : World} {B L K : Nat} {sub : Path → Int → Option ByteArray} {ex : Prop} {cnt : Int} {T : Path} {s : ByteArray} {v : Int} {t0 t1 : TypeId} {a0 a1 : Addr} (h : Li W B L K sub ex cnt) (hs : s.size ≤ 1000) (hv : (Lit.int .i64 v).wf = true) {kz : Nat} (hz : gsl_zzSplit.f kz s ⟨#[46]⟩ = some T)
    (hT : T ≠ []) (hT1 : T.length ≤ 1000) (hT2 : ∀ t ∈ T, t.size ≤ 1000) (hK : K < 100000) (hG : W.cell? ⟨0, 0, none⟩ = some (.iface t0 (.pointer (some a0)))) (hG1 : W.cell? ⟨1, 0, none⟩ = some (.iface t1 (.pointer (some a1)))) (hB : 1 < B) :
    Calls Tryd.prog 63 #[.pointer (some ⟨L, 0, none⟩), .string s, .int .i64 v, .bool true] W (RmPost W B L K sub ex cnt T v) := by
  obtain ⟨nd, lv, hX⟩ := h
  obtain ⟨i113, hE113⟩ := ek113
  have HE := Aside0.mk hE113
  have HX := Aside0.mk hX
  have HS := Aside0.mk hs
  have HV := Aside0.mk hv
  have HZ := Aside0.mk hz
  have HT := Aside0.mk hT
  have HT2 := Aside0.mk hT2
  have HG := Aside0.mk hG
  have HG1 := Aside0.mk hG1
  have HB := Aside0.mk hB
  obtain ⟨xr, hxr, hh⟩ := hX.head
  have HR := Aside0.mk hxr
  have HH := Aside0.mk hh
  clear hX hs hv hz hT hT2 hG hG1 hB hxr hh hE113
  go_enter_defers Tryd.func63, Tryd.ntmps63
  go_wp2_with fail
  refine (lock_L HH.out).mono ?_
  rintro e w1 ⟨rfl, hb1, hf1⟩
  have HX1 : Aside0 (Lx w1 B L K sub (fun _ => False) ex 1 low30 cnt nd lv) := ⟨HX.out.turn (fun x hx => by rw [HR.out] at hx; injection hx with hx; subst hx; exact hb1) hf1⟩
  have HF1 : Aside0 (Fr (WF B W) W w1) := ⟨HX.out.frL hf1⟩
  have c6 := hb1.cell 6 rfl
  have HB1 := Aside0.mk hb1
  clear hb1 hf1 HX HH
  have hw2 : ∃ w2, gsl_zzSplit.f kz s ⟨#[46]⟩ = some T ∧ w2 = w1 := ⟨w1, HZ.out, rfl⟩
  clear hw2
  go_upto_region 9 with (fail)
  generalize hw0 : w1.alloc (Obj.cells _ 114) = w0
  have HA0 : Aside0 (AG S13 w0 w1.heap.size 3 (.slice (some ⟨w1.heap.size, 0, none⟩) 0 32) 0 [] ∧ Same w1 w0) := ⟨hw0 ▸ ⟨AG.made (heap_alloc_new w1 _) (.inl rfl) (Nat.le_refl _) (Nat.le_of_eq (by kernel_rfl)) (by decide), (Fr.refl _ w1).alloc _⟩⟩
  obtain ⟨P0, hP0⟩ : ∃ P0, P0 = w1.heap.size := ⟨_, rfl⟩
  rw [← hP0] at HA0 ⊢
  have HP0 := Aside0.mk hP0
  clear hw0 c6 hP0
  go_wp2_with fail
  refine (gsl_zzSplit.calls kz s ⟨#[46]⟩ T w0 HZ.out).mono ?_
  rintro e w2 ⟨v22, rfl, hR, hb⟩
  obtain ⟨g, cg, rfl, hg1, hgc, hTok⟩ := tok_of hR HT.out
  have HI0 : Aside0 (RmS w1 nd lv T g 0 false (.pointer none) (.pointer (some ⟨xr.1, 0, none⟩)) (.slice (some ⟨P0, 0, none⟩) 0 32) w2) := ⟨⟨HA0.out.2.trans (Bs.fr_of_below hb) (fun _ _ h => h), hTok, rfl, by rw [List.take_zero, HX1.out.tri.nonil]; rfl, by rw [List.take_zero, HR.out]; rfl, 0, [], HP0.out ▸ HA0.out.1.fr (Bs.fr_of_below hb) (fun _ _ h => h), ⟨rfl, fun j hj => absurd hj (Nat.not_lt_zero _)⟩, Nat.le_refl _, fun _ => rfl⟩⟩
  have HGC := Aside0.mk hgc
  clear hR hb hTok HA0 hg1 hgc
  go_wp2_with fail
  go_loopg [9, 10, 11, 13, 37] T.length (fun k v9 v10 v11 v13 v37 w' => ∃ (i : Nat) (sf : Bool), i ≤ T.length ∧ v37 = .int .i64 i ∧ v9 = .bool sf ∧ Aside0 (T.length - i ≤ k) ∧ Aside0 (RmS w1 nd lv T g i sf v10 v11 v13 w'))
  case atStart => exact ⟨0, false, Nat.zero_le _, rfl, rfl, ⟨Nat.le_refl _⟩, HI0⟩
  case round =>
    obtain ⟨i, sf, hi, rfl, rfl, HKK, HI⟩ := hrel
    have HXW : Aside0 (Lx wr B L K sub (fun _ => False) ex 1 low30 cnt nd lv) := ⟨HX1.out.fr HI.out.same (fun _ _ h => h)⟩
    have HBW : Aside0 (Blk wr L 81 (hdr 1 low30 (.pointer (some ⟨xr.1, 0, none⟩)) cnt)) := ⟨HB1.out.fr HI.out.same (fun h => h)⟩
    have HFW : Aside0 (Fr (WF B W) W wr) := ⟨wf_trans HF1.out (same_wf HI.out.same)⟩
    have hg0 := far_cell HFW.out (by have := HB.out; omega) HG.out
    have hg1 := far_cell HFW.out (by have := HB.out; omega) HG1.out
    by_cases hlt : i < T.length
    · obtain ⟨t, ht⟩ : ∃ t, T[i]? = some t := ⟨_, List.getElem?_eq_getElem hlt⟩
      have HTI := Aside0.mk ht
      have hts : t.size ≤ 1000 := HT2.out t (List.mem_of_getElem? ht)
      have ct := HI.out.tok.at_ i t ht
      have i1 : (0 : Int) ≤ (i : Int) := by omega
      have i2 : (i : Int) < (T.length : Int) := by omega
      have e1 : IntKind.i64.wrap ((i : Int) + 1) = ((i + 1 : Nat) : Int) := by rw [IntKind.wrap_i64]; omega
      clear ht
      by_cases hbad : t.size = 0 ∨ sf = true
      · have HBAD : Aside0 (¬ (okF false T = true ∧ sub T v ≠ none)) := ⟨fun h => by have := HI.out.bad HTI.out hbad; rw [h.1] at this; cases this⟩
        by_cases h0 : t.size = 0
        · have h1 : ((t.size : Int) == 0) = true := by simpa using h0
          clear hbad h0
          go_upto_region 13 with (fail)
          go_wp2_with fail
          refine leaves_cons (f := 61) (args := #[.pointer (some ⟨L, 0, none⟩)]) (by simp) (by simp [go_sem]) ?_
          refine (unlock_D HBW.out .returning).mono ?_
          rintro e u' w4 ⟨rfl, rfl, hb4, hf4⟩
          refine ⟨_, results_tmp rfl _ _ _, ?_⟩
          exact rm_bad HFW.out HXW.out HBW.out HBAD.out hb4 hf4
        · have h1 : ((t.size : Int) == 0) = false := by simpa using h0
          obtain rfl : sf = true := by rcases hbad with h | h; exact absurd h h0; exact h
          clear hbad h0
          go_upto_region 13 with (fail)
          go_wp2_with fail
          refine leaves_cons (f := 61) (args := #[.pointer (some ⟨L, 0, none⟩)]) (by simp) (by simp [go_sem]) ?_
          refine (unlock_D HBW.out .returning).mono ?_
          rintro e u' w4 ⟨rfl, rfl, hb4, hf4⟩
          refine ⟨_, results_tmp rfl _ _ _, ?_⟩
          exact rm_bad HFW.out HXW.out HBW.out HBAD.out hb4 hf4
      · obtain rfl : sf = false := by cases sf; rfl; exact absurd (Or.inr rfl) hbad
        have h0 : t.size ≠ 0 := fun h => hbad (.inl h)
        have h1 : ((t.size : Int) == 0) = false := by simpa using h0
        have HNB := Aside0.mk hbad
        clear hbad
        obtain ⟨p, hp⟩ : ∃ p, T.take i = p := ⟨_, rfl⟩
        have HP := Aside0.mk hp
        have HVL := Aside0.mk HI.out.vl
        obtain ⟨n, xs, hA, hE, hn, hni⟩ := HI.out.row
        have HA := Aside0.mk (And.intro hA hE)
        have HN := Aside0.mk (And.intro hn hni)
        obtain ⟨ga, ca, cur, T', rfl, -, -, -, -, -⟩ := hA.block
        obtain ⟨vl, hvl⟩ : ∃ vl, u11 = vl := ⟨_, rfl⟩
        rw [hvl, hp] at HVL
        rw [hvl] at HI
        rw [hvl]
        clear hvl u11 hA hE hn hni hp
        cases hl : lv p with
        | none =>
          have hv := HVL.out
          rw [hl] at hv
          have hv2 : vl = .pointer none := hv
          subst hv2
          have HBAD : Aside0 (¬ (okF false T = true ∧ sub T v ≠ none)) := ⟨fun h => h.2 (HXW.out.out T (HI.out.none HXW.out.tri hlt (by rw [HP.out]; exact hl)) v)⟩
          clear hv hl
          go_wp2_with fail
          refine leaves_cons (f := 61) (args := #[.pointer (some ⟨L, 0, none⟩)]) (by simp) (by simp [go_sem]) ?_
          refine (unlock_D HBW.out .returning).mono ?_
          rintro e u' w4 ⟨rfl, rfl, hb4, hf4⟩
          refine ⟨_, results_tmp rfl _ _ _, ?_⟩
          exact rm_bad HFW.out HXW.out HBW.out HBAD.out hb4 hf4
        | some x =>
          have hv := HVL.out
          rw [hl] at hv
          have hv2 : vl = .pointer (some ⟨x.1, 0, none⟩) := hv
          subst hv2
          have HL := Aside0.mk hl
          obtain ⟨-, -, hB, hM⟩ := HXW.out.tri.lev p x hl
          have HM := Aside0.mk hM
          have d0 := hB.cell 0 rfl
          have d1 := hB.cell 1 rfl
          have d2 := hB.cell 2 rfl
          clear hv hl hB hM
          go_upto_if 53 with (fail)
          go_cut [9, 10] from 39 to 93 (fun v9 v10 wc => v9 = .bool (decide (t = full)) ∧ v10 = ptrA (kid nd p t) ∧ wc = wr)
          case first =>
            by_cases hb : 1 < t.size
            · have hdec : decide ((t.size : Int) > 1) = true := decide_eq_true (by omega)
              have t1 : t ≠ star := fun e => by subst e; exact absurd hb (by decide)
              have t2 : t ≠ full := fun e => by subst e; exact absurd hb (by decide)
              have HT12 := Aside0.mk (And.intro t1 t2)
              clear t1 t2
              go_wp2_with (first | (at_lookup; refine wpList_mp_look rfl _ _ rfl rfl HM.out (by show _ ≤ _; unfold maxLen; omega) rfl ?_) | fail)
              go_meet
              case rel =>
                refine ⟨?_, ?_, rfl⟩
                · rw [decide_eq_false HT12.out.2]
                · exact congrArg ptrA (kids_get p HT12.out.1 HT12.out.2)
            · have hdec : decide ((t.size : Int) > 1) = false := decide_eq_false (by omega)
              obtain ⟨c, hc⟩ := one_char (t := t) (by omega)
              by_cases hs : t = star
              · clear hc
                subst hs
                go_wp2_with fail
                go_meet
                case rel => exact ⟨rfl, rfl, rfl⟩
              · by_cases hf : t = full
                · clear hc
                  subst hf
                  go_wp2_with fail
                  go_meet
                  case rel => exact ⟨rfl, rfl, rfl⟩
                · have HT12 := Aside0.mk (And.intro hs hf)
                  have h9 : 0 < t.size := by omega
                  have hn1 : (((t[0]'h9).toNat : Int) == 42) = false := not_sign hc h9 (k := 42) hs
                  have hn2 : (((t[0]'h9).toNat : Int) == 62) = false := not_sign hc h9 (k := 62) hf
                  clear hs hf hc
                  go_wp2_with (first | (at_lookup; refine wpList_mp_look rfl _ _ rfl rfl HM.out (by show _ ≤ _; unfold maxLen; omega) rfl ?_) | fail)
                  go_meet
                  case rel =>
                    refine ⟨?_, ?_, rfl⟩
                    · rw [decide_eq_false HT12.out.2]
                    · exact congrArg ptrA (kids_get p HT12.out.1 HT12.out.2)
          case rest =>
            obtain ⟨e9, e10, ew⟩ := hcut
            subst u9
            subst u10
            subst wc
            rw [ptrA_eq]
            clear d0 d1 d2 HM
            have HK1 : Aside0 (i + 1 ≤ T.length ∧ T.length - (i + 1) < gk) := ⟨by have := HKK.out; omega⟩
            cases hk : kid nd p t with
            | none =>
              have HKN := Aside0.mk (kid_none.1 hk)
              simp only [Option.map_none]
              clear hk
              go_wp2_with fail
              go_roundg (T.length - (i + 1))
              case measure => exact HK1.out.2
              case rel => exact ⟨i + 1, decide (t = full), HK1.out.1, rfl, rfl, ⟨Nat.le_refl _⟩, ⟨HI.out.lost HXW.out.tri HTI.out HNB.out (by rw [HP.out]; exact HKN.out)⟩⟩
            | some z =>
              obtain ⟨y, hy, hyz⟩ : ∃ y, nd (p ++ [t]) = some y ∧ y.1 = z := by
                unfold kid at hk
                cases hq : nd (p ++ [t]) with
                | none => rw [hq] at hk; cases hk
                | some y => rw [hq] at hk; injection hk with hk; exact ⟨y, rfl, hk⟩
              subst hyz
              have HY := Aside0.mk hy
              simp only [Option.map_some]
              clear hk hy
              have HNI : Aside0 (n = i) := ⟨rms_at HXW.out.tri (by rw [HP.out]; exact HL.out) hi HN.out.2⟩
              have HSZ : Aside0 (w1.heap.size ≤ wr.heap.size) := ⟨HI.out.same.size⟩
              obtain ⟨-, -, hB, -⟩ := HXW.out.tri.node _ y HY.out
              have HBY := Aside0.mk hB
              clear hB
              have HRN : Aside0 (ReadG (wr.alloc (.cells #[.pointer (some ⟨x.1, 0, none⟩), .pointer (some ⟨y.1, 0, none⟩), .string t] 113)) (some ⟨wr.heap.size, 0, none⟩) 1 3 [.pointer (some ⟨x.1, 0, none⟩), .pointer (some ⟨y.1, 0, none⟩), .string t]) := ⟨read_newG (us := [.pointer (some ⟨x.1, 0, none⟩), .pointer (some ⟨y.1, 0, none⟩), .string t]) (by rfl) (by intro u hu; simp only [List.mem_cons, List.not_mem_nil, or_false] at hu; rcases hu with rfl | rfl | rfl <;> rfl)⟩
              go_upto_region 27 with (fail)
              go_upto_region 28 with (first | (at_builtin; refine AG.append HE.out rfl (.tmp 82) (.tmp 87) rfl (.inr rfl) (v := .slice (some ⟨ga, 0, none⟩) n ca) rfl (HA.out.1.alloc _) (by have := HSZ.out; simp; omega) rfl HRN.out (by decide) (by have := HN.out; omega) ?_; intro v' w5 hp5; have HP5 := Aside0.mk hp5; clear hp5) | fail)
              have HI5 := Aside0.mk (HI.out.next HXW.out.tri HTI.out HNB.out (by rw [HP.out]; exact HL.out) (by rw [HP.out]; exact HY.out) HA.out.1 HA.out.2 HNI.out HP5.out)
              rw [HP.out] at HI5
              have HBY5 : Aside0 (Blk w5 y.1 95 [ptrA ((lv (p ++ [t])).map Prod.fst), .map (some y.2)]) := ⟨(HBY.out.fr ((Fr.refl (fun _ => False) wr).alloc _) (fun h => h)).fr HP5.out.fr (fun e => by
                have hgk : ga = y.1 := by simpa [Value.ownBlock] using e
                exact ag_ne HA.out.1 HBY.out ⟨by decide, by decide⟩ hgk)⟩
              have d0 := HBY5.out.cell 0 rfl
              go_wp2_with fail
              go_roundg (T.length - (i + 1))
              case measure => exact HK1.out.2
              case rel => exact ⟨i + 1, decide (t = full), HK1.out.1, rfl, rfl, ⟨Nat.le_refl _⟩, HI5⟩
    · have hie : i = T.length := by omega
      subst hie
      have h2 : decide ((T.length : Int) < (T.length : Int)) = false := decide_eq_false (by omega)
      have hvn := HI.out.vn
      rw [List.take_length] at hvn
      have HVV := Aside0.mk hvn
      obtain ⟨vn, hv⟩ : ∃ vn, u10 = vn := ⟨_, rfl⟩
      rw [hv] at HVV HI
      rw [hv]
      clear hv hvn u10
      cases hn : nd T with
      | none =>
        have hv := HVV.out
        rw [hn] at hv
        have hv2 : vn = .pointer none := hv
        subst hv2
        have HBAD : Aside0 (¬ (okF false T = true ∧ sub T v ≠ none)) := ⟨fun h => h.2 (HXW.out.out T hn v)⟩
        clear hv hn
        go_upto_region 31 with (fail)
        go_wp2_with fail
        refine fromNil_calls.mono ?_
        rintro e w3 ⟨rfl, rfl⟩
        go_wp2_with fail
        refine leaves_cons (f := 61) (args := #[.pointer (some ⟨L, 0, none⟩)]) (by simp) (by simp [go_sem]) ?_
        refine (unlock_D HBW.out .returning).mono ?_
        rintro e u' w4 ⟨rfl, rfl, hb4, hf4⟩
        refine ⟨_, results_tmp rfl _ _ _, ?_⟩
        exact rm_bad HFW.out HXW.out HBW.out HBAD.out hb4 hf4
      | some y =>
        have hv := HVV.out
        rw [hn] at hv
        have hv2 : vn = .pointer (some ⟨y.1, 0, none⟩) := hv
        subst hv2
        have HY := Aside0.mk hn
        have HNE := Aside0.mk (HXW.out.neNode hn)
        clear hv hn
        go_upto_region 31 with (fail)
        go_wp2_with fail
        refine (fromNode_calls HXW.out.tri HY.out HV.out).mono ?_
        rintro e w3 ⟨rfl, hM3, hf3⟩
        have H3 := Aside0.mk (And.intro hM3 hf3)
        have hb3 := HBW.out.fr hf3 HNE.out.2
        have HB3 := Aside0.mk hb3
        clear hM3 hf3 hb3
        cases hs : sub T v with
        | none =>
          have hS := HXW.out.subs HY.out (Nat.le_refl K) H3.out.2 H3.out.1 (E' := fun _ => False) (ex' := ex) (fun hx => by rw [setS_del_none hs]; exact HXW.out.live hx)
          rw [setS_del_none hs] at hS
          have HXS := Aside0.mk hS
          have HF3 : Aside0 (Fr (WF B W) W w3) := ⟨wf_trans HFW.out (fr_wf H3.out.2 (fun k _ hk => by subst hk; exact (HXW.out.wfNode HY.out).2))⟩
          have hg3 := far_cell HF3.out (by have := HB.out; omega) HG1.out
          have HBAD : Aside0 (¬ (okF false T = true ∧ sub T v ≠ none)) := ⟨fun h => h.2 hs⟩
          simp only [Option.isSome_none]
          clear hs hg0 hg1 hS
          go_wp2_with fail
          refine leaves_cons (f := 61) (args := #[.pointer (some ⟨L, 0, none⟩)]) (by simp) (by simp [go_sem]) ?_
          refine (unlock_D HB3.out .returning).mono ?_
          rintro e u' w4 ⟨rfl, rfl, hb4, hf4⟩
          refine ⟨_, results_tmp rfl _ _ _, ?_⟩
          exact rm_bad HF3.out HXS.out HB3.out HBAD.out hb4 hf4
        | some s0 =>
          have HS0 := Aside0.mk hs
          simp only [Option.isSome_some]
          have c7 := HB3.out.cell 7 rfl
          have z7 := HB3.out.free 7
          clear hs hg0 hg1
          obtain ⟨n, xs, hA, hE, hn, hni⟩ := HI.out.row
          obtain rfl : n = T.length := hni (.inl (by rw [List.take_length, HY.out]; simp))
          have HA := Aside0.mk hA
          have HE2 := Aside0.mk hE
          obtain ⟨ga, ca, cur, T', hvv, -, -, -, -, -⟩ := hA.block
          obtain ⟨v13, hv13⟩ : ∃ v13, u13 = v13 := ⟨_, rfl⟩
          rw [hv13] at HA HI hvv
          rw [hv13]
          subst hvv
          clear hA hE hn hni u13 hv13
          have HN7 := HB3.out.set 7 (by show 7 < 8; decide) (.int .u32 ((cnt - 1) % 4294967296))
          have HF7 := fr_set1 (F := fun k => k = L) (Fr.refl _ w3) (b := L) (o := 7) rfl (.int .u32 ((cnt - 1) % 4294967296))
          have H7 := Aside0.mk (And.intro HN7 HF7)
          clear HN7 HF7
          go_upto_region 33 with (fail)
          go_upto_region 34 with (fail)
          generalize w3.setCell ⟨L, 7, none⟩ (.int .u32 ((cnt - 1) % 4294967296)) = w5 at H7 ⊢
          have HR5 : Aside0 (RmT w1 B L K (setS sub T (del (sub T) v)) ex ((cnt - 1) % 4294967296) nd lv T xs ga ca T.length nd lv w5) := ⟨RmT.start HI.out.same HXW.out HA.out HY.out H3.out.1 H3.out.2 HR.out H7.out.1 H7.out.2⟩
          have eL : IntKind.i64.wrap ((T.length : Int) - 1) = (T.length : Int) - 1 := by rw [IntKind.wrap_i64]; omega
          clear c7 z7 H7
          go_wp2_with fail
          go_loopg [17] T.length (fun k v17 w' => ∃ (m : Nat) (nd' lv' : Pm), m ≤ T.length ∧ v17 = .int .i64 ((m : Int) - 1) ∧ Aside0 (m ≤ k) ∧ Aside0 (RmT w1 B L K (setS sub T (del (sub T) v)) ex ((cnt - 1) % 4294967296) nd lv T xs ga ca m nd' lv' w'))
          case atStart => exact ⟨T.length, nd, lv, Nat.le_refl _, rfl, ⟨Nat.le_refl _⟩, HR5⟩
          case round =>
            obtain ⟨m, nd', lv', hm, rfl, HM, HT5⟩ := hrel
            cases m with
            | zero =>
              have hd : decide (((0 : Nat) : Int) - 1 ≥ 0) = false := by decide
              have hX5 := HT5.out.done
              have HXX := Aside0.mk hX5
              obtain ⟨z5, hz5, hh5⟩ := hX5.head
              have HH5 := Aside0.mk hh5
              have HF5 : Aside0 (Fr (WF B W) W wr) := ⟨wf_trans HF1.out HT5.out.fr⟩
              have HGD : Aside0 (okF false T = true ∧ sub T v ≠ none) := ⟨by have := HI.out.ok; rw [List.drop_length] at this; rw [this]; exact rfl, by rw [HS0.out]; simp⟩
              clear hX5 hz5 hh5
              go_wp2_with fail
              refine leaves_cons (f := 61) (args := #[.pointer (some ⟨L, 0, none⟩)]) (by simp) (by simp [go_sem]) ?_
              refine (unlock_D HH5.out .returning).mono ?_
              rintro e u' w9 ⟨rfl, rfl, hb9, hf9⟩
              refine ⟨_, results_tmp rfl _ _ _, ?_⟩
              exact rm_ok HF5.out HGD.out HXX.out HH5.out hb9 hf9 rfl
            | succ j =>
              have hd : decide ((j : Int) ≥ 0) = true := decide_eq_true (by omega)
              rw [show ((j + 1 : Nat) : Int) - 1 = (j : Int) by omega]
              have i1 : (0 : Int) ≤ (j : Int) := by omega
              have i2 : (j : Int) < (T.length : Int) := by omega
              obtain ⟨x, y5, t, hx, hy5, ht, q0, q1, q2⟩ := HE2.out.ent j (by omega)
              have hxl : j * 3 + 2 < xs.length := by rw [HE2.out.len]; omega
              have c0 : wr.cell? ⟨ga, j * 3, none⟩ = some (.pointer (some ⟨x.1, 0, none⟩)) := (HT5.out.row.cell (by omega)).trans q0
              have c1 : wr.cell? ⟨ga, j * 3 + 1, none⟩ = some (.pointer (some ⟨y5.1, 0, none⟩)) := (HT5.out.row.cell (by omega)).trans q1
              have c2 : wr.cell? ⟨ga, j * 3 + 2, none⟩ = some (.string t) := (HT5.out.row.cell (by omega)).trans q2
              have HJ := Aside0.mk (And.intro hx (And.intro hy5 ht))
              clear hx hy5 ht q0 q1 q2 hxl
              go_upto_region 37 with (fail)
              go_quiet (fail)
              have HT6 : Aside0 (RmT w1 B L K (setS sub T (del (sub T) v)) ex ((cnt - 1) % 4294967296) nd lv T xs ga ca (j + 1) nd' lv' (wr.drewN nq)) := ⟨HT5.out.same ((Fr.refl _ wr).drewN nq)⟩
              generalize wr.drewN nq = wd at HT6 ⊢
              have HG6 := Aside0.mk (HT6.out.get HJ.out.2.2 HJ.out.1 HJ.out.2.1)
              have HMM : Aside0 (j ≤ T.length ∧ j < gk) := ⟨by have := HM.out; omega⟩
              have eJ : IntKind.i64.wrap ((j : Int) - 1) = (j : Int) - 1 := by rw [IntKind.wrap_i64]; omega
              clear c0 c1 c2 i1 i2 HT5 hd eL
              go_wp2_with fail
              refine (isEmpty_calls HT6.out.lx.tri HG6.out.2 (by omega)).mono ?_
              rintro e w6 ⟨b, rfl, rfl, hbb⟩
              have HBB := Aside0.mk hbb
              clear hbb
              cases b with
              | false =>
                go_wp2_with fail
                go_roundg j
                case measure => exact HMM.out.2
                case rel => exact ⟨j, nd', lv', HMM.out.1, rfl, ⟨Nat.le_refl _⟩, ⟨HT6.out.stay HJ.out.2.2 (fun h => by have := HBB.out.2 h; cases this)⟩⟩
              | true =>
                go_wp2_with fail
                refine (prune_calls HT6.out.lx.tri HG6.out.1 HG6.out.2 (by have := HT2.out t (List.mem_of_getElem? HJ.out.2.2); unfold maxLen; omega)).mono ?_
                rintro e w7 hp7
                have he7 := hp7.ret
                subst he7
                have HP7 := Aside0.mk hp7
                clear hp7
                go_wp2_with fail
                go_roundg j
                case measure => exact HMM.out.2
                case rel => exact ⟨j, _, _, HMM.out.1, rfl, ⟨Nat.le_refl _⟩, ⟨HT6.out.cut HJ.out.2.2 HG6.out.1 (HBB.out.1 trivial).1 (HBB.out.1 trivial).2 HP7.out⟩⟩
end Go.Proofs.YtimffhpnfdikoaaDoor.Ls
