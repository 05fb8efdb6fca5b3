/- Trees of subjects: the walk of insert at a node. (Printed by gen_ter.py.) -/
import Derived.Test.YtjhmpcbpbdkddaaGreatTeQ
namespace Go.Proofs.YtjhmpcbpbdkddaaGreat.Te
open Go.RowKit Go.Proofs.YtjhmpcbpbdkddaaGreat.Bs Go.Proofs.YtjhmpcbpbdkddaaGreatW.PrintWords Go.Proofs.YtjhmpcbpbdkddaaGreatW.PrintLast Go.Proofs.YtjhmpcbpbdkddaaGreatW.PrintMore
set_option linter.unusedVariables false
set_option linter.unusedSimpArgs false
set_option maxRecDepth 100000
set_option maxHeartbeats 16000000 in
theorem insert_part {v : Int} {tp : Value} {b : Nat} {k : K} {p : BL} {ks : List T} (ih : ∀ t ∈ ks, InsAll v tp t) (hp : p ≠ []) : ∀ (w : World) (g o : Nat) (A : Option Addr) (n c : Nat) (l : BL) (si : Nat), InsPre w g o (.node b k p ks) A n c l si → (∀ e ∈ (T.node b k p ks).ents, e.1.length ≤ 1000) → cpl p (l.drop si) < p.length →
    Calls Tryz.prog 58 #[tp, .pointer (some ⟨g, o, none⟩), .slice A n c, .int .i64 v, .int .i64 (si : Int)] w (InsPost w g o (.node b k p ks) (l.drop si) v) := by
  intro w g o A n c l si h hsh hcc
  have H := Aside0.mk h
  have IH := Aside0.mk ih
  have HSH := Aside0.mk (short_pre h.wf hsh)
  obtain ⟨cn, zn⟩ := h.np
  have HN : Aside0 (NodeAt w b k p ks) := ⟨(lies_node.1 h.lies).1⟩
  have cp : w.cell? ⟨b, k.cap, none⟩ = some (.string (str p)) := HN.out.cp
  have zb : ∀ o, w.frozen? ⟨b, o, none⟩ = false := HN.out.free
  have ml := m_isLeaf k b
  have mb := m_base k b
  have mf := m_findChild k b
  have cf := c_findChild k
  have nf := na_findChild k b
  have mu := m_isFull k b
  have cu := c_isFull k
  have HWF := Aside0.mk (wf_node.1 h.wf)
  have i0 : (0 : Int) ≤ (si : Int) := by omega
  have i1 : (si : Int) ≤ (n : Int) := by have := h.sile; omega
  have i2 : (n : Int) ≤ (c : Int) := by have := h.cap; omega
  have i3 : (si : Int) ≤ (c : Int) := by omega
  obtain ⟨tk, htk⟩ : ∃ tk, tk = k.pt := ⟨_, rfl⟩
  clear h hsh ih
  unfold T.val pa at cn
  go_enter Tryz.func58, Tryz.ntmps58
  go_wp2_with fail
  refine (isLeaf_meta _).mono ?_
  rintro e w' ⟨rfl, hw'⟩
  subst w'
  go_wp2_with fail
  refine (base_meta _).mono ?_
  rintro e w' ⟨rfl, hw'⟩
  subst w'
  have HP : Aside0 (p ≠ [] ∧ 0 < p.length) := ⟨hp, List.length_pos_iff.2 hp⟩
  obtain ⟨pl, hpl⟩ : ∃ pl, pl = p.length := ⟨_, rfl⟩
  have hps : (str p).size = pl := by rw [str_size, hpl]
  have HPL := Aside0.mk hpl
  have hz : 0 < pl := by rw [hpl]; exact HP.out.2
  have hz2 : (0 : Int) < (pl : Int) := by omega
  clear hpl
  have HX := Aside0.mk (H.out.bytes.drop H.out.sile H.out.cap)
  obtain ⟨X, hX⟩ : ∃ X, (if c = si then A else Option.map (fun x => x.add si) A) = X := ⟨_, rfl⟩
  rw [hX] at HX
  clear hp
  go_wp2_with fail
  have HF0 : Aside0 (Same w w) := ⟨Fr.refl _ _⟩
  have HK : Aside0 (∀ w', Same w w' → w'.cell? ⟨b, k.cap, none⟩ = some (.string (str p))) := ⟨fun w' hf => hf.cell cp⟩
  go_region_held3 (fun w' => Same w w' ∧ w'.cell? ⟨b, k.cap, none⟩ = some (.string (str p)))
    (first | exact ⟨HF0.out.drew, HK.out _ HF0.out.drew⟩ | exact heldS HK.out (by assumption) hf1 | exact heldS HK.out (by assumption) hf2)
    (first
      | (go_at_call 73; refine (toB_calls p HSH.out.1).mono ?_; rintro e4 w4 ⟨⟨A4, c4, rfl, hl4, hb4⟩, hf1⟩)
      | (go_at_call 72; refine (cpl_calls hb4 (HX.out.same (HF0.out.drew.trans hf1 (fun _ _ h => h)))).mono ?_; rintro e5 w5 ⟨rfl, hf2⟩))
  have HS5 : Aside0 (Same w w5) := ⟨(HF0.out.drew.trans hf1 (fun _ _ h => h)).trans hf2 (fun _ _ h => h)⟩
  obtain ⟨q, hq⟩ : ∃ q, q = cpl p (l.drop si) := ⟨_, rfl⟩
  rw [← hq]
  have HQ : Aside0 (q = cpl p (l.drop si) ∧ q ≤ p.length ∧ si + q ≤ n ∧ n ≤ 1000) := ⟨hq, by rw [hq]; exact (cpl_le _ _).1, by
    have h1 := (cpl_le p (l.drop si)).2
    rw [List.length_drop, H.out.bytes.len, ← hq] at h1
    have := H.out.sile
    omega, H.out.bytes.small⟩
  obtain ⟨sj, hsj⟩ : ∃ sj, sj = si + q := ⟨_, rfl⟩
  have HJ := Aside0.mk hsj
  have k1 : (si : Int) ≤ (sj : Int) := by omega
  have k2 : (sj : Int) ≤ (n : Int) := by have := HQ.out; omega
  have k3 : (sj : Int) ≤ (c : Int) := by omega
  have k4 : (0 : Int) ≤ (sj : Int) := by omega
  have HNW : Aside0 (NodeAt w5 b k p ks) := ⟨nodeAt_fr HN.out HS5.out (fun h => h)⟩
  have HBB := Aside0.mk H.out.bytes
  have HBW : Aside0 (CB w5 A n l) := ⟨HBB.out.same HS5.out⟩
  have HSW := HS5
  replace cp : w5.cell? ⟨b, k.cap, none⟩ = some (.string (str p)) := HNW.out.cp
  replace zb : ∀ o, w5.frozen? ⟨b, o, none⟩ = false := HNW.out.free
  clear hq hsj HF0 HK hf1 hf2 hl4 hb4 hz hz2
  have hw : q < p.length := by rw [HQ.out.1]; exact hcc
  clear hcc
  have z1 : ¬ ((pl : Int) ≤ (q : Int)) := by have := HPL.out; omega
  have HW : Aside0 (q < p.length) := ⟨hw⟩
  have z2 : IntKind.i64.wrap ((si : Int) + (q : Int)) = (sj : Int) := by rw [IntKind.wrap_i64]; have := HJ.out; have := HQ.out; omega
  have z3 : IntKind.i64.wrap ((si : Int) + ((sj : Int) - (si : Int))) = (sj : Int) := by rw [IntKind.wrap_i64]; have := HJ.out; have := HQ.out; omega
  have z4 : ((sj - si : Nat) : Int) = (sj : Int) - (si : Int) := by have := HJ.out; omega
  have hex : (str p).extract q pl = str (p.drop q) := by rw [← hps]; exact str_drop p q
  have s0 : (0 : Int) ≤ (q : Int) := by omega
  have s1 : (q : Int) ≤ (pl : Int) := by have := HPL.out; omega
  have ms := m_setPrefix k b
  have ns := na_setPrefix k b
  clear hw
  have e6 : sj - si = q := by have := HJ.out; omega
  have HC5 : Aside0 (CB w5 X (sj - si) (p.take q)) := ⟨by
    have := (HX.out.same HS5.out).take (k := sj - si) (by have := HQ.out; omega)
    rw [e6] at this ⊢
    rw [HQ.out.1, cpl_take, ← HQ.out.1]
    exact this⟩
  clear e6
  go_wp2_with fail
  refine (newNode4_calls HC5.out).mono ?_
  intro e w6 hq
  have HP6 := Aside0.mk hq
  have he := hq.ret
  clear hq
  subst he
  obtain ⟨nb, hnb⟩ : ∃ nb, nb = w5.heap.size := ⟨_, rfl⟩
  rw [← hnb]
  have HNB := Aside0.mk hnb
  clear hnb
  unfold pa
  have HN6 : Aside0 (NodeAt w6 b k p ks ∧ NodeAt w6 nb .k4 (p.take q) []) := ⟨nodeAt_fr HNW.out HP6.out.same (fun h => h), by have := HP6.out.nd; rw [← HNB.out] at this; exact this⟩
  replace cp : w6.cell? ⟨b, k.cap, none⟩ = some (.string (str p)) := HN6.out.1.cp
  go_wp2_with fail
  have HF0 : Aside0 (Same w6 w6.drew) := ⟨(Fr.refl _ _).drew⟩
  obtain ⟨lt, hlt⟩ : ∃ lt, lt = (p.drop q).length := ⟨_, rfl⟩
  have HLT := Aside0.mk hlt
  clear hlt
  have HTB : Aside0 (∀ w, Calls Tryz.prog 73 #[.string (str (p.drop q))] w (fun e w' => ∃ A c, e = .returned (.slice A lt c) ∧ CB w' A lt (p.drop q) ∧ Same w w')) := ⟨fun w => (toB_calls (p.drop q) (by rw [List.length_drop]; have := HSH.out.1; omega)).mono (fun e w' hh => by
    obtain ⟨⟨A, c, h1, h2, h3⟩, h4⟩ := hh
    rw [← HLT.out] at h1 h3
    exact ⟨A, c, h1, h3, h4⟩)⟩
  go_cut [] from 224 to 235 (fun wx => Aside0 (∃ w7, Same w6 w7 ∧ wx = w7.setCell ⟨b, k.cap, none⟩ (.string (str (p.drop q)))))
  case first =>
    go_region_with (first
        | (go_at_call 73; refine (HTB.out _).mono ?_; rintro e4 w7 ⟨A7, c7, rfl, hb7, hs7⟩)
        | (go_at_call 81; refine (setPrefix_calls (Nd.cp (nodeAt_fr (nodeAt_fr HN6.out.1 HF0.out (fun h => h)) hs7 (fun h => h))) (Nd.free (nodeAt_fr (nodeAt_fr HN6.out.1 HF0.out (fun h => h)) hs7 (fun h => h)) _) hb7).mono ?_; rintro e5 w8 ⟨rfl, rfl⟩))
    all_goals (go_wp2_with fail; go_meet; exact ⟨⟨w7, HF0.out.trans hs7 (fun _ _ h => h), rfl⟩⟩)
  case rest =>
  obtain ⟨w7, hs7, hwc⟩ := hcut.out
  have HS8 : Aside0 (Fr (fun x => x = b) w6 wc ∧ wc.heap.size = w7.heap.size) := ⟨by rw [hwc]; exact ⟨(hs7.mono (G := fun x => x = b) (fun _ h => h.elim)).set (p := ⟨b, k.cap, none⟩) (.inl rfl) _, setCell_size _ _ _⟩⟩
  have HNB2 : Aside0 (nb ≠ b) := ⟨by have h1 := HNW.out.lt; have h2 := HNB.out; omega⟩
  have HN8 : Aside0 (NodeAt wc b k (p.drop q) ks ∧ NodeAt wc nb .k4 (p.take q) []) := ⟨by rw [hwc]; exact Nd.sp (nodeAt_fr HN6.out.1 hs7 (fun h => h)) _, nodeAt_fr HN6.out.2 HS8.out.1 HNB2.out⟩
  clear hwc hcut hs7 HF0 ms ns cp zb z2 z3 z4
  have cp := HN8.out.1.cp
  go_step
  go_wp2_with fail
  refine (HTB.out _).mono ?_
  rintro e4 w9 ⟨A9, c9, rfl, hb9, hs9⟩
  have HB9 := Aside0.mk hb9
  have HS9 := Aside0.mk hs9
  clear hb9 hs9 cp
  go_wp2_with fail
  refine (pivot_calls HB9.out 0).mono ?_
  rintro e w' ⟨rfl, hw'⟩
  subst w'
  rw [List.drop_zero]
  obtain ⟨py, hpy⟩ : ∃ py, py = bv (T.node b k (p.drop q) ks).piv := ⟨_, rfl⟩
  have hpy2 : bv (piv (p.drop q)) = py := hpy.symm
  rw [hpy2]
  have HN9 : Aside0 (NodeAt w9 b k (p.drop q) ks ∧ NodeAt w9 nb .k4 (p.take q) []) := ⟨nodeAt_fr HN8.out.1 HS9.out (fun h => h), nodeAt_fr HN8.out.2 HS9.out (fun h => h)⟩
  have hadd := add4_calls HN9.out.2 (by decide) (.node b k (p.drop q) ks)
  rw [← hpy] at hadd
  unfold T.val pa at hadd
  have HPY := Aside0.mk hpy
  clear hpy hpy2
  go_wp2_with fail
  refine hadd.mono ?_
  intro e w10 hq
  have HP10 := Aside0.mk hq
  have he := hq.ret
  clear hq hadd HPY
  subst he
  have HF9 : Aside0 (Fr (fun x => x = b) w w9) := ⟨(((HS5.out.trans HP6.out.same (fun _ _ h => h)).mono (G := fun x => x = b) (fun _ h => h.elim)).trans HS8.out.1 (fun _ _ h => h)).trans HS9.out (fun _ _ h => h.elim)⟩
  have HF10 : Aside0 (Fr (fun x => x = b) w w10) := ⟨HF9.out.trans HP10.out.fr (fun x hx e => by have h1 := HS5.out.size; have h2 := HNB.out; omega)⟩
  have HB10 : Aside0 (CB w10 A n l) := ⟨HBB.out.fr HF10.out (fun ad h e => (H.out.apart ad h).2 (by rw [e]; exact id_mem (.node b k p ks)))⟩
  obtain ⟨X2, hX2⟩ : ∃ X2, (if c = sj then A else Option.map (fun x => x.add sj) A) = X2 := ⟨_, rfl⟩
  have HX2 : Aside0 (CB w10 X2 (n - sj) (l.drop sj)) := ⟨by rw [← hX2]; exact HB10.out.drop (by omega) H.out.cap⟩
  have HN10 : Aside0 (NodeAt w10 b k (p.drop q) ks ∧ NodeAt w10 nb .k4 (p.take q) [.node b k (p.drop q) ks]) := ⟨nodeAt_fr HN9.out.1 HP10.out.fr (fun e => HNB2.out e.symm), HP10.out.nd⟩
  clear hX
  go_upto_region 43 with (fail)
  go_cut [] from 245 to 256 (fun wx => Aside0 (LeafAt wx w10.heap.size v (l.drop sj) ∧ NodeAt wx nb .k4 (p.take q) ([.node b k (p.drop q) ks] ++ [.leaf w10.heap.size v (l.drop sj)]) ∧ Fr (fun x => x = nb) w10 wx))
  case first =>
    have HF0 : Aside0 (Fr (fun x => x = nb) w10 w10.drew ∧ Same w10 w10.drew) := ⟨(Fr.refl _ _).drew, (Fr.refl _ _).drew⟩
    go_region_held3 (fun w' => Fr (fun x => x = nb) w10 w') (first | exact HF0.out.1 | exact HF0.out.1.trans hl1.same (fun _ _ h => h.elim) | exact (HF0.out.1.trans hl1.same (fun _ _ h => h.elim)).trans ha1.fr (fun _ _ h => h))
      (first
        | (go_at_call 66; refine (pivot_calls (HX2.out.same (by first | exact HF0.out.2 | exact HF0.out.2.trans hl1.same (fun _ _ h => h))) 0).mono ?_; rintro e1 wx ⟨rfl, rfl⟩)
        | (go_at_call 70; refine (newLeaf_calls (HX2.out.same HF0.out.2) v).mono ?_; intro e3 w6 hl1; have he3 := hl1.ret; subst he3)
        | (go_at_call 76; refine (add4_calls (nodeAt_fr (nodeAt_fr HN10.out.2 HF0.out.2 (fun h => h)) hl1.same (fun h => h)) (by simp) (.leaf w10.heap.size v (l.drop sj))).mono ?_; intro e4 w7 ha1; have he4 := ha1.ret; subst he4))
    all_goals
      go_wp2_with fail
      go_meet
      have hL7 : LeafAt w7 w10.heap.size v (l.drop sj) := hl1.leaf.fr ha1.fr (fun e => by have := HN10.out.2.lt; change w10.heap.size = _ at e; omega)
      exact ⟨⟨hL7, ha1.nd, (HF0.out.1.trans hl1.same (fun _ _ h => h.elim)).trans ha1.fr (fun _ _ h => h)⟩⟩
  case rest =>
  have HR := hcut
  clear hcut
  have HF11 : Aside0 (Fr (fun x => x = b) w wc) := ⟨HF10.out.trans HR.out.2.2 (fun x hx e => by have h1 := HS5.out.size; have h2 := HNB.out; omega)⟩
  have HN11 : Aside0 (NodeAt wc b k (p.drop q) ks) := ⟨nodeAt_fr HN10.out.1 HR.out.2.2 (fun e => HNB2.out e.symm)⟩
  obtain ⟨Tg, cs, hbg, hcs⟩ := H.out.cell
  have HGB : Aside0 (g ≠ b ∧ nb ≠ g) := ⟨fun e => H.out.out (ids_node.2 (.inl e)), fun e => by have h1 := hbg.lt; have h2 := HS5.out.size; have h3 := HNB.out; omega⟩
  have hbg5 := hbg.fr HF11.out HGB.out.1
  have cn := hbg5.cell o hcs
  have zn := hbg5.free o
  have HSZ : Aside0 (w.heap.size ≤ nb ∧ nb < w10.heap.size) := ⟨by have h2 := HS5.out.size; have h3 := HNB.out; omega, HN10.out.2.lt⟩
  unfold T.val pa at cn
  clear hbg hcs hbg5
  go_step
  go_wp2_with fail
  refine bodyPost_ret (results_list (rs := [.tmp 10, .tmp 11]) rfl (by simp) (.tmp (.tmp .nil))) rfl ?_
  exact above_out H.out HQ.out.1 HJ.out HW.out HSZ.out.1 ⟨by have := HSZ.out; omega, by have := HSZ.out; omega⟩ ((HF11.out.mono (G := fun x => x = g ∨ x = b) (fun _ e => .inr e)).set (p := ⟨g, o, none⟩) (.inl (.inl rfl)) _) (Nd.far HR.out.2.1 (a := ⟨g, o, none⟩) HGB.out.2 _) (Nd.far HN11.out (a := ⟨g, o, none⟩) (fun e => HGB.out.1 e.symm) _) (Blk.far HR.out.1 (p := ⟨g, o, none⟩) (fun e => by change w10.heap.size = g at e; have := HSZ.out; obtain ⟨Tg, cs, hbg, -⟩ := H.out.cell; have := hbg.lt; omega) _)
    (fun Tx cs hb hc => Blk.set (hb.fr HF11.out HGB.out.1) o (List.getElem?_eq_some_iff.1 hc).1 _)
end Go.Proofs.YtjhmpcbpbdkddaaGreat.Te
