/- Trees of subjects: the walk of delete at a node. (Printed by gen_tex.py.) -/
import Derived.Test.YtjhmpcbpbdkddaaGreatTeX
namespace Go.Proofs.YtjhmpcbpbdkddaaGreat.Te
open Go.RowKit Go.Proofs.YtjhmpcbpbdkddaaGreat.Bs Go.Proofs.YtjhmpcbpbdkddaaGreatW.PrintWords Go.Proofs.YtjhmpcbpbdkddaaGreatW.PrintLast Go.Proofs.YtjhmpcbpbdkddaaGreatW.PrintMore
set_option linter.unusedVariables false
set_option linter.unusedSimpArgs false
set_option maxRecDepth 100000
set_option maxHeartbeats 16000000 in
theorem delete_pre {tb b : Nat} {k : K} {p : BL} {ks : List T} (ih : ∀ t ∈ ks, DelAll tb t) (hp : p ≠ []) : DelAt tb b k p ks := by
  intro w g o A n c l si h hsh hn0
  have H := Aside0.mk h
  have IH := Aside0.mk ih
  have HSH := Aside0.mk (short_pre h.wf hsh)
  obtain ⟨cn, zn⟩ := h.np
  have HN : Aside0 (NodeAt w b k p ks) := ⟨(lies_node.1 h.lies).1⟩
  have cp : w.cell? ⟨b, k.cap, none⟩ = some (.string (str p)) := HN.out.cp
  have ml := m_isLeaf k b
  have mb := m_base k b
  have mf := m_findChild k b
  have cf := c_findChild k
  have HWF := Aside0.mk (wf_node.1 h.wf)
  have i0 : (0 : Int) ≤ (si : Int) := by omega
  have i1 : (si : Int) ≤ (n : Int) := by have := h.sile; omega
  have i2 : (n : Int) ≤ (c : Int) := by have := h.cap; omega
  have i3 : (si : Int) ≤ (c : Int) := by omega
  have hne : ((n : Int) == 0) = false := by simp; omega
  have HN0 : Aside0 (0 < n ∧ n ≤ 1000) := ⟨hn0, h.bytes.small⟩
  obtain ⟨pl, hpl⟩ : ∃ pl, pl = p.length := ⟨_, rfl⟩
  have hps : (str p).size = pl := by rw [str_size, hpl]
  have HPL : Aside0 (pl = p.length ∧ pl ≤ 1000) := ⟨hpl, by rw [hpl]; exact HSH.out.1⟩
  clear h hsh ih hn0 hpl
  unfold T.val pa at cn
  go_enter Tryz.func59, Tryz.ntmps59
  go_wp2_with fail
  refine (isLeaf_meta _).mono ?_
  rintro e w' ⟨rfl, hw'⟩
  subst w'
  go_wp2_with fail
  refine (base_meta _).mono ?_
  rintro e w' ⟨rfl, hw'⟩
  subst w'
  have hz : (0 : Int) < (pl : Int) := by have := List.length_pos_iff.2 hp; have := HPL.out.1; omega
  have HPN := Aside0.mk hp
  clear hp
  have zb : ∀ o, w.frozen? ⟨b, o, none⟩ = false := HN.out.free
  have zw : IntKind.i64.wrap ((si : Int) + (pl : Int)) = ((si + pl : Nat) : Int) := by rw [IntKind.wrap_i64]; have := HPL.out.2; have := HN0.out.2; omega
  obtain ⟨sj, hsj⟩ : ∃ sj, sj = si + pl := ⟨_, rfl⟩
  rw [← hsj] at zw
  have HJ := Aside0.mk hsj
  by_cases hlen : n < sj
  · have k1 : (n : Int) < (sj : Int) := by omega
    have HLE := Aside0.mk hlen
    clear hsj hlen
    go_wp2_with fail
    refine bodyPost_ret (results_list (rs := [.tmp 8, .tmp 9]) rfl (by simp) (.tmp (.tmp .nil))) rfl ?_
    refine no_take H.out (Fr.refl _ _) (fun v0 hm => ?_)
    obtain ⟨x, hx, -⟩ := mem_node.1 hm
    have := congrArg List.length hx
    simp only [List.length_drop, List.length_append] at this
    have h1 := H.out.bytes.len
    have h2 := HLE.out
    have h3 := HJ.out
    have h4 := HPL.out.1
    omega
  have k1 : ¬ ((n : Int) < (sj : Int)) := by omega
  have k2 : (sj : Int) ≤ (n : Int) := by omega
  have k3 : (sj : Int) ≤ (c : Int) := by omega
  have k4 : (0 : Int) ≤ (sj : Int) := by omega
  have k5 : (si : Int) ≤ (sj : Int) := by omega
  obtain ⟨X, hX⟩ : ∃ X, (if c = si then A else Option.map (fun x => x.add si) A) = X := ⟨_, rfl⟩
  have HX : Aside0 (CB w X (sj - si) ((l.drop si).take (sj - si))) := ⟨by rw [← hX]; exact (H.out.bytes.drop H.out.sile H.out.cap).take (by omega)⟩
  obtain ⟨u, hu⟩ : ∃ u, u = (l.drop si).take (sj - si) := ⟨_, rfl⟩
  rw [← hu] at HX
  have HU := Aside0.mk hu
  have hcv : ∀ kk, (convert 60 9 (.slice X (sj - si) (c - si))).run Tryz.prog (w.drewN kk) = .ok (.string (str u)) (w.drewN kk) := fun kk => (HX.out.drewN kk).string
  have he := str_eq u p
  have HSN : Aside0 (sj ≤ n) := ⟨by omega⟩
  clear hsj hlen hu
  by_cases hup : u = p
  · have HUP := Aside0.mk hup
    rw [decide_eq_true hup] at he
    clear hup
    have HSJ : Aside0 (sj ≤ n ∧ l.drop si = p ++ l.drop sj) := ⟨HSN.out, by
      have h1 := List.take_append_drop (sj - si) (l.drop si)
      rw [← HU.out, HUP.out, List.drop_drop] at h1
      rw [← h1]
      congr 2
      have := HJ.out
      omega⟩
    go_wp2_with fail
    go_quiet (fail)
    go_upto_region 17 with (fail)
    have HS1 : Aside0 (Same w (w.drewN nq)) := ⟨(Fr.refl _ _).drewN nq⟩
    generalize w.drewN nq = w1 at HS1 ⊢
    have HN1 : Aside0 (NodeAt w1 b k p ks) := ⟨nodeAt_fr HN.out HS1.out (fun h => h)⟩
    have HB1 : Aside0 (CB w1 A n l) := ⟨H.out.bytes.same HS1.out⟩
    clear cn zn cp zb hcv he hX HX HN HUP
    go_wp2_with fail
    refine (pivot_calls HB1.out sj).mono ?_
    rintro e w' ⟨rfl, hw'⟩
    subst w'
    go_wp2_with fail
    refine (found_calls HN1.out (piv (l.drop sj))).mono ?_
    rintro e w2 ⟨r, rfl, hfr, hs2⟩
    have HFO := Aside0.mk hfr
    have HS2 : Aside0 (Same w w2) := ⟨HS1.out.trans hs2 (fun _ _ h => h)⟩
    have HN2 : Aside0 (NodeAt w2 b k p ks) := ⟨nodeAt_fr HN1.out hs2 (fun h => h)⟩
    clear hfr hs2
    cases r with
    | none =>
      go_wp2_with fail
      refine bodyPost_ret (results_list (rs := [.tmp 8, .tmp 9]) rfl (by simp) (.tmp (.tmp .nil))) rfl ?_
      refine no_take H.out HS2.out (fun v0 hm => ?_)
      rw [HSJ.out.2] at hm
      exact no_kid (fun t ht => (HWF.out.2.2.2 t ht).2) HFO.out v0 hm
    | some ad =>
      obtain ⟨i, t, hi, hpt, rfl⟩ := HFO.out
      have HT := Aside0.mk (And.intro hi hpt)
      have ci : w2.cell? ⟨b, i, none⟩ = some t.val := HN2.out.cv i (kidsV_at hi)
      clear hi hpt HFO
      cases t with
      | node bt kt pt kst =>
        have mlt := m_isLeaf kt bt
        unfold T.val pa at ci
        go_wp2_with fail
        refine (isLeaf_meta _).mono ?_
        rintro e w' ⟨rfl, hw'⟩
        subst w'
        go_wp2_with fail
        refine (IH.out (.node bt kt pt kst) (List.mem_of_getElem? HT.out.1) w2 b i A n c l sj (kid_pre H.out HS2.out HT.out.1 HSJ.out.1) (HSH.out.2 _ (List.mem_of_getElem? HT.out.1)) HN0.out.1).mono ?_
        intro e w3 hq
        obtain ⟨pr, up, rfl⟩ := hq.tuple
        have HQ := Aside0.mk (kid_take H.out HS2.out HT.out.1 HSJ.out.2 HT.out.2 hq)
        clear hq
        go_wp2_with fail
        refine bodyPost_ret (results_list (rs := [.tmp 8, .tmp 9]) rfl (by simp) (.tmp (.tmp .nil))) rfl ?_
        exact HQ.out
      | leaf lb lv ls =>
        have mlt := l_isLeaf lb
        have mtt := ta_leaf lb
        unfold T.val pa at ci
        have HL2 : Aside0 (LeafAt w2 lb lv ls) := ⟨(lies_leaf.1 ((lies_node.1 H.out.lies).2 _ (List.mem_of_getElem? HT.out.1))).fr HS2.out (fun h => h)⟩
        obtain ⟨X, hX⟩ : ∃ X, (if c = sj then A else Option.map (fun x => x.add sj) A) = X := ⟨_, rfl⟩
        have HX2 : Aside0 (CB w2 X (n - sj) (l.drop sj)) := ⟨by rw [← hX]; exact (H.out.bytes.same HS2.out).drop HSJ.out.1 H.out.cap⟩
        go_wp2_with fail
        refine (isLeaf_leaf _).mono ?_
        rintro e w' ⟨rfl, hw'⟩
        subst w'
        go_wp2_with fail
        refine (match_calls HL2.out HX2.out).mono ?_
        rintro e w3 ⟨rfl, hs3⟩
        have HS3 : Aside0 (Same w w3) := ⟨HS2.out.trans hs3 (fun _ _ h => h)⟩
        have HN3 : Aside0 (NodeAt w3 b k p ks) := ⟨nodeAt_fr HN2.out hs3 (fun h => h)⟩
        clear hs3 HN2 HX2 HL2 ci
        by_cases hls : l.drop sj = ls
        · rw [decide_eq_true hls]
          subst hls
          have md := m_deleteChild k b
          have cd := c_deleteChild k
          have mk := m_shrink k b
          have ck := c_shrink k
          go_wp2_with fail
          refine (del_calls HN3.out HT.out.1 HWF.out.2.2.1).mono ?_
          intro e w4 hq
          have HQ := Aside0.mk hq
          have he := hq.ret
          clear hq
          subst he
          obtain ⟨ks', hperm, hn4⟩ := HQ.out.nd
          have HLK : Aside0 (LessK ks ks' lb lv (l.drop sj)) := ⟨⟨hperm⟩⟩
          have HN4 := Aside0.mk hn4
          have HF4 : Aside0 (Fr (fun x => x = b) w w4) := ⟨(HS3.out.mono (fun _ h => h.elim)).trans HQ.out.fr (fun _ _ h => h)⟩
          have HGB : Aside0 (g ≠ b) := ⟨fun e => H.out.out (ids_node.2 (.inl e))⟩
          clear hperm hn4
          go_wp2_with fail
          refine (shrink_calls HN4.out (by have := HLK.out.len; have := HWF.out.2.1; omega) (HLK.out.nodup HWF.out.2.2.1)).mono ?_
          intro e w5 hq
          cases hq with
          | stay he hw hl =>
            subst he
            subst w5
            have HL := Aside0.mk hl
            clear hl
            go_wp2_with fail
            refine bodyPost_ret (results_list (rs := [.tmp 8, .tmp 9]) rfl (by simp) (.tmp (.tmp .nil))) rfl ?_
            exact take_less H.out HSJ.out.2 HLK.out (HF4.out.mono (fun _ e => .inr e)) (.inl rfl) (.refl _) HL.out (kids_cap HN4.out) HN4.out (fun Tx cs hb hc => by
              have e : cs.set o (Value.iface k.pt (pa b)) = cs := set_same hc
              rw [e]
              exact hb.fr HF4.out HGB.out)
          | less k' ks2 hp2 hg hl hc =>
            have HG := Aside0.mk hg
            have HPP := Aside0.mk (And.intro hp2 (And.intro hl hc))
            have he := hg.ret
            subst he
            obtain ⟨nb, hnb⟩ : ∃ nb, nb = w4.heap.size := ⟨_, rfl⟩
            rw [← hnb]
            have HNB := Aside0.mk hnb
            have HN5 : Aside0 (NodeAt w5 b k p ks' ∧ NodeAt w5 nb k' [] ks2) := ⟨nodeAt_fr HN4.out hg.same (fun h => h), by rw [hnb]; exact hg.nd⟩
            have HF5 : Aside0 (Fr (fun x => x = b) w w5) := ⟨HF4.out.trans hg.same (fun _ _ h => h.elim)⟩
            clear hnb hp2 hg hl hc
            have mk1 := m_isLeaf k' nb
            have mk2 := m_base k' nb
            have cpw : w5.cell? ⟨b, k.cap, none⟩ = some (.string (str p)) := HN5.out.1.cp
            obtain ⟨Tg, cs, hbg, hcs⟩ := H.out.cell
            have HGN : Aside0 (nb ≠ g ∧ w.heap.size ≤ nb) := ⟨by have h1 := hbg.lt; have h2 := HF4.out.size; have h3 := HNB.out; omega⟩
            have hbg5 := hbg.fr HF5.out HGB.out
            have cn5 := hbg5.cell o hcs
            have zn5 := hbg5.free o
            unfold T.val pa at cn5
            clear hbg hcs hbg5
            unfold pa
            go_wp2_with fail
            refine (base_meta _).mono ?_
            rintro e w' ⟨rfl, hw'⟩
            subst w'
            go_wp2_with fail
            refine (isLeaf_meta _).mono ?_
            rintro e w' ⟨rfl, hw'⟩
            subst w'
            have cq : w5.cell? ⟨nb, k'.cap, none⟩ = some (.string (str [])) := HN5.out.2.cp
            have zq := HN5.out.2.free k'.cap
            have happ : str p ++ str [] = str p := by rw [str_app, List.append_nil]
            have hs0 : (str ([] : BL)).size = 0 := rfl
            have hb1 : ¬ (9223372036854775807 < pl) := by have := HPL.out.2; omega
            go_wp2_with fail
            refine (base_meta _).mono ?_
            rintro e w' ⟨rfl, hw'⟩
            subst w'
            go_upto_region 36 with (fail)
            have HN6 : Aside0 (NodeAt (w5.setCell ⟨nb, k'.cap, none⟩ (.string (str p))) nb k' p ks2) := ⟨Nd.sp HN5.out.2 p⟩
            have HF6 : Aside0 (Fr (fun x => x = b) w (w5.setCell ⟨nb, k'.cap, none⟩ (.string (str p)))) := ⟨HF5.out.trans ((Fr.refl (fun x => x = nb) w5).set (p := ⟨nb, k'.cap, none⟩) (.inl rfl) _) (fun x hx e => by have := HGN.out.2; omega)⟩
            generalize w5.setCell ⟨nb, k'.cap, none⟩ (.string (str p)) = w6 at HN6 HF6 ⊢
            obtain ⟨Tg, cs, hbg, hcs⟩ := H.out.cell
            have hbg5 := hbg.fr HF6.out HGB.out
            have cn6 := hbg5.cell o hcs
            have zn6 := hbg5.free o
            unfold T.val pa at cn6
            clear hbg hcs hbg5 cn5 zn5
            go_wp2_with fail
            refine bodyPost_ret (results_list (rs := [.tmp 8, .tmp 9]) rfl (by simp) (.tmp (.tmp .nil))) rfl ?_
            exact take_less H.out HSJ.out.2 HLK.out ((HF6.out.mono (G := fun x => x = g ∨ x = b) (fun _ e => .inr e)).set (p := ⟨g, o, none⟩) (.inl (.inl rfl)) _) (.inr HGN.out.2) HPP.out.1 HPP.out.2.1 HPP.out.2.2 (Nd.far HN6.out (a := ⟨g, o, none⟩) HGN.out.1 _)
              (fun Tx cs hb hc => Blk.set (hb.fr HF6.out HGB.out) o (List.getElem?_eq_some_iff.1 hc).1 _)
          | one hk t1 ht he hw =>
            subst he
            subst w5
            have HK4 := Aside0.mk (And.intro hk ht)
            clear hk ht
            have cpw : w4.cell? ⟨b, k.cap, none⟩ = some (.string (str p)) := HN4.out.cp
            obtain ⟨Tg, cs, hbg, hcs⟩ := H.out.cell
            have hbg5 := hbg.fr HF4.out HGB.out
            have cn5 := hbg5.cell o hcs
            have zn5 := hbg5.free o
            unfold T.val pa at cn5
            clear hbg hcs hbg5
            have HT1 : Aside0 (t1 ∈ ks ∧ t1 ≠ .leaf lb lv (l.drop sj) ∧ Lies w4 t1 ∧ t1.id ≠ g ∧ t1.id ≠ b ∧ t1.wf ∧ t1.inner) := ⟨by
              have h1 := (HLK.out.mem HWF.out.2.2.1 t1).1 (by rw [HK4.out.2]; simp)
              have h2 := node_nodup H.out.nodup
              have h3 : t1.id ≠ b := fun e => h2.1 (mem_idsL.2 ⟨t1, h1.1, by rw [← e]; exact id_mem t1⟩)
              refine ⟨h1.1, h1.2, ((lies_node.1 H.out.lies).2 t1 h1.1).fr HF4.out (fun x hx e => h2.1 (mem_idsL.2 ⟨t1, h1.1, e ▸ hx⟩)), fun e => H.out.out (ids_node.2 (.inr ⟨t1, h1.1, by rw [← e]; exact id_mem t1⟩)), h3, HWF.out.2.2.2 t1 h1.1⟩⟩
            cases t1 with
            | leaf b1 v1 s1 =>
              have ml1 := l_isLeaf b1
              have mt1 := ta_leaf b1
              have HL4 : Aside0 (LeafAt w4 b1 v1 s1) := ⟨lies_leaf.1 HT1.out.2.2.1⟩
              have c1 := HL4.out.cell 1 rfl
              have z1 := HL4.out.free 1
              obtain ⟨n1, hn1⟩ : ∃ n1, n1 = s1.length := ⟨_, rfl⟩
              have hs1 : (str s1).size = n1 := by rw [str_size, hn1]
              have hn2 : n1 ≤ 1000 := by rw [hn1]; exact HSH.out.2 _ HT1.out.1 (s1, v1) (by simp [T.ents])
              have hb1 : ¬ (9223372036854775807 < n1) := by omega
              have hb2 : ¬ (9223372036854775807 < pl + n1) := by have := HPL.out.2; omega
              have happ := str_app p s1
              clear hn1
              unfold T.val pa
              go_wp2_with fail
              refine (base_meta _).mono ?_
              rintro e w' ⟨rfl, hw'⟩
              subst w'
              go_wp2_with fail
              refine (isLeaf_leaf _).mono ?_
              rintro e w' ⟨rfl, hw'⟩
              subst w'
              go_upto_region 36 with (fail)
              have HL6 : Aside0 (LeafAt (w4.setCell ⟨b1, 1, none⟩ (.string (str (p ++ s1)))) b1 v1 (p ++ s1)) := ⟨Blk.set HL4.out 1 (by simp) _⟩
              have HF6 : Aside0 (Fr (fun x => (x = g ∨ x = b) ∨ x = b1) w (w4.setCell ⟨b1, 1, none⟩ (.string (str (p ++ s1))))) := ⟨(HF4.out.mono (G := fun x => (x = g ∨ x = b) ∨ x = b1) (fun _ e => .inl (.inr e))).set (p := ⟨b1, 1, none⟩) (.inl (.inr rfl)) _⟩
              have HC6 : Aside0 (∀ Tx cs, Blk w g Tx cs → Blk (w4.setCell ⟨b1, 1, none⟩ (.string (str (p ++ s1)))) g Tx cs) := ⟨fun Tx cs hb => (hb.fr HF4.out HGB.out).far (p := ⟨b1, 1, none⟩) (fun e => HT1.out.2.2.2.1 e.symm) _⟩
              generalize w4.setCell ⟨b1, 1, none⟩ (.string (str (p ++ s1))) = w6 at HL6 HF6 HC6 ⊢
              obtain ⟨Tg, cs, hbg, hcs⟩ := H.out.cell
              have cn6 := (HC6.out _ _ hbg).cell o hcs
              have zn6 := (HC6.out _ _ hbg).free o
              unfold T.val pa at cn6
              clear hbg hcs cn5 zn5
              go_wp2_with fail
              refine bodyPost_ret (results_list (rs := [.tmp 8, .tmp 9]) rfl (by simp) (.tmp (.tmp .nil))) rfl ?_
              rw [HK4.out.2] at HLK
              exact take_one H.out HSJ.out.2 HLK.out (HF6.out.set (p := ⟨g, o, none⟩) (.inl (.inl (.inl rfl))) _) (lies_leaf.2 (Blk.far HL6.out (p := ⟨g, o, none⟩) HT1.out.2.2.2.1 _)) (fun Tx cs hb hc => Blk.set (HC6.out Tx cs hb) o (List.getElem?_eq_some_iff.1 hc).1 _)
            | node b1 k1 p1 ks1 =>
              have ml1 := m_isLeaf k1 b1
              have mb1 := m_base k1 b1
              unfold T.val pa
              go_wp2_with fail
              refine (base_meta _).mono ?_
              rintro e w' ⟨rfl, hw'⟩
              subst w'
              go_wp2_with fail
              refine (isLeaf_meta _).mono ?_
              rintro e w' ⟨rfl, hw'⟩
              subst w'
              obtain ⟨n1, hn1⟩ : ∃ n1, n1 = p1.length := ⟨_, rfl⟩
              have hs1 : (str p1).size = n1 := by rw [str_size, hn1]
              have hn2 : n1 ≤ 1000 := by rw [hn1]; exact (short_pre HT1.out.2.2.2.2.2.1 (HSH.out.2 _ HT1.out.1)).1
              have hb1 : ¬ (9223372036854775807 < pl + n1) := by have := HPL.out.2; omega
              have happ := str_app p p1
              have HN4b : Aside0 (NodeAt w4 b1 k1 p1 ks1) := ⟨(lies_node.1 HT1.out.2.2.1).1⟩
              have c1 : w4.cell? ⟨b1, k1.cap, none⟩ = some (.string (str p1)) := HN4b.out.cp
              have z1 := HN4b.out.free k1.cap
              clear hn1
              go_wp2_with fail
              refine (base_meta _).mono ?_
              rintro e w' ⟨rfl, hw'⟩
              subst w'
              go_upto_region 36 with (fail)
              have HN6 : Aside0 (NodeAt (w4.setCell ⟨b1, k1.cap, none⟩ (.string (str (p ++ p1)))) b1 k1 (p ++ p1) ks1) := ⟨Nd.sp HN4b.out _⟩
              have HF6 : Aside0 (Fr (fun x => (x = g ∨ x = b) ∨ x = b1) w (w4.setCell ⟨b1, k1.cap, none⟩ (.string (str (p ++ p1))))) := ⟨(HF4.out.mono (G := fun x => (x = g ∨ x = b) ∨ x = b1) (fun _ e => .inl (.inr e))).set (p := ⟨b1, k1.cap, none⟩) (.inl (.inr rfl)) _⟩
              have HC6 : Aside0 (∀ Tx cs, Blk w g Tx cs → Blk (w4.setCell ⟨b1, k1.cap, none⟩ (.string (str (p ++ p1)))) g Tx cs) := ⟨fun Tx cs hb => (hb.fr HF4.out HGB.out).far (p := ⟨b1, k1.cap, none⟩) (fun e => HT1.out.2.2.2.1 e.symm) _⟩
              have HK6 : Aside0 (∀ t ∈ ks1, Lies (w4.setCell ⟨b1, k1.cap, none⟩ (.string (str (p ++ p1)))) t) := ⟨fun t ht => ((lies_node.1 HT1.out.2.2.1).2 t ht).far (a := ⟨b1, k1.cap, none⟩) (fun hm => (node_nodup (kid_nodup2 (node_nodup H.out.nodup).2 HT1.out.1)).1 (mem_idsL.2 ⟨t, ht, hm⟩)) _⟩
              generalize w4.setCell ⟨b1, k1.cap, none⟩ (.string (str (p ++ p1))) = w6 at HN6 HF6 HC6 HK6 ⊢
              obtain ⟨Tg, cs, hbg, hcs⟩ := H.out.cell
              have cn6 := (HC6.out _ _ hbg).cell o hcs
              have zn6 := (HC6.out _ _ hbg).free o
              unfold T.val pa at cn6
              clear hbg hcs cn5 zn5
              go_wp2_with fail
              refine bodyPost_ret (results_list (rs := [.tmp 8, .tmp 9]) rfl (by simp) (.tmp (.tmp .nil))) rfl ?_
              rw [HK4.out.2] at HLK
              exact take_one H.out HSJ.out.2 HLK.out (HF6.out.set (p := ⟨g, o, none⟩) (.inl (.inl (.inl rfl))) _) (lies_node.2 ⟨Nd.far HN6.out (a := ⟨g, o, none⟩) HT1.out.2.2.2.1 _, fun t ht => (HK6.out t ht).far (a := ⟨g, o, none⟩) (fun hm => H.out.out (ids_node.2 (.inr ⟨_, HT1.out.1, ids_node.2 (.inr ⟨t, ht, hm⟩)⟩))) _⟩)
                (fun Tx cs hb hc => Blk.set (HC6.out Tx cs hb) o (List.getElem?_eq_some_iff.1 hc).1 _)
        · rw [decide_eq_false hls]
          have HLS := Aside0.mk hls
          clear hls
          go_wp2_with fail
          refine bodyPost_ret (results_list (rs := [.tmp 8, .tmp 9]) rfl (by simp) (.tmp (.tmp .nil))) rfl ?_
          refine no_take H.out HS3.out (fun v0 hm => ?_)
          rw [HSJ.out.2, via_kid HWF.out.2.2.1 (fun t ht => (HWF.out.2.2.2 t ht).2) (List.mem_of_getElem? HT.out.1) HT.out.2] at hm
          simp only [T.ents, List.mem_singleton, Prod.mk.injEq] at hm
          exact HLS.out hm.1
  · have HUP := Aside0.mk hup
    rw [decide_eq_false hup] at he
    clear hup
    go_wp2_with fail
    go_quiet (fail)
    go_wp2_with fail
    refine bodyPost_ret (results_list (rs := [.tmp 8, .tmp 9]) rfl (by simp) (.tmp (.tmp .nil))) rfl ?_
    refine no_take H.out ((Fr.refl _ _).drewN nq) (fun v0 hm => ?_)
    obtain ⟨x, hx, -⟩ := mem_node.1 hm
    refine HUP.out ?_
    simp only at hx
    rw [HU.out, hx, List.take_append_of_le_length (by have := HJ.out; have := HPL.out.1; omega)]
    exact List.take_of_length_le (by have := HJ.out; have := HPL.out.1; omega)
end Go.Proofs.YtjhmpcbpbdkddaaGreat.Te
