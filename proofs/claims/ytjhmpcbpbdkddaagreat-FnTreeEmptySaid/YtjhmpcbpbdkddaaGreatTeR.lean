/- Trees of subjects: the walk of insert at a node. (Printed by gen_ter.py.) -/
import Derived.Test.YtjhmpcbpbdkddaaGreatTeQ
namespace Go.Proofs.YtjhmpcbpbdkddaaGreat.Te
open Go.RowKit Go.Proofs.YtjhmpcbpbdkddaaGreat.Bs Go.Proofs.YtjhmpcbpbdkddaaGreatW.PrintWords Go.Proofs.YtjhmpcbpbdkddaaGreatW.PrintLast Go.Proofs.YtjhmpcbpbdkddaaGreatW.PrintMore
set_option linter.unusedVariables false
set_option linter.unusedSimpArgs false
set_option maxRecDepth 100000
set_option maxHeartbeats 16000000 in
theorem insert_bare {v : Int} {tp : Value} {b : Nat} {k : K} {p : BL} {ks : List T} (ih : ∀ t ∈ ks, InsAll v tp t) (hp : p = []) : ∀ (w : World) (g o : Nat) (A : Option Addr) (n c : Nat) (l : BL) (si : Nat), InsPre w g o (.node b k p ks) A n c l si → (∀ e ∈ (T.node b k p ks).ents, e.1.length ≤ 1000) → True →
    Calls Tryz.prog 58 #[tp, .pointer (some ⟨g, o, none⟩), .slice A n c, .int .i64 v, .int .i64 (si : Int)] w (InsPost w g o (.node b k p ks) (l.drop si) v) := by
  intro w g o A n c l si h hsh hcc
  have H := Aside0.mk h
  have IH := Aside0.mk ih
  have HSH := Aside0.mk (short_pre h.wf hsh)
  obtain ⟨cn, zn⟩ := h.np
  have HN : Aside0 (NodeAt w b k p ks) := ⟨(lies_node.1 h.lies).1⟩
  have cp : w.cell? ⟨b, k.cap, none⟩ = some (.string (str p)) := HN.out.cp
  have zb : ∀ o, w.frozen? ⟨b, o, none⟩ = false := HN.out.free
  have ml := m_isLeaf k b
  have mb := m_base k b
  have mf := m_findChild k b
  have cf := c_findChild k
  have nf := na_findChild k b
  have mu := m_isFull k b
  have cu := c_isFull k
  have HWF := Aside0.mk (wf_node.1 h.wf)
  have i0 : (0 : Int) ≤ (si : Int) := by omega
  have i1 : (si : Int) ≤ (n : Int) := by have := h.sile; omega
  have i2 : (n : Int) ≤ (c : Int) := by have := h.cap; omega
  have i3 : (si : Int) ≤ (c : Int) := by omega
  obtain ⟨tk, htk⟩ : ∃ tk, tk = k.pt := ⟨_, rfl⟩
  clear h hsh ih
  unfold T.val pa at cn
  go_enter Tryz.func58, Tryz.ntmps58
  go_wp2_with fail
  refine (isLeaf_meta _).mono ?_
  rintro e w' ⟨rfl, hw'⟩
  subst w'
  go_wp2_with fail
  refine (base_meta _).mono ?_
  rintro e w' ⟨rfl, hw'⟩
  subst w'
  have HP := Aside0.mk hp
  have hz : ¬ (0 < (str p).size) := by rw [str_size, hp]; simp
  have HSJ : Aside0 (si ≤ n ∧ l.drop si = p ++ l.drop si) := ⟨⟨H.out.sile, by rw [hp]; rfl⟩⟩
  have HSW : Aside0 (Same w w) := ⟨Fr.refl _ _⟩
  have HNW := HN
  have HBW := Aside0.mk H.out.bytes
  have HBB := HBW
  clear hp
  go_wp2_with fail
  go_cut [25] from 261 to 268 (fun vf wx => ∃ r, vf = .pointer r ∧ Aside0 (Found b ks (piv (l.drop si)) r) ∧ Aside0 (Same w wx))
  case first =>
    have HF0 : Aside0 (Same w w) := ⟨Fr.refl _ _⟩
    go_region_held3 (fun w2 => Same w w2) (first | exact HF0.out.drew | exact HF0.out.drew.trans hf1 (fun _ _ h => h))
      (first
        | (go_at_call 66; refine (pivot_calls (HBW.out.same HF0.out.drew) si).mono ?_; rintro e1 wx ⟨rfl, rfl⟩)
        | (refine (found_calls (nodeAt_fr HNW.out HF0.out.drew (fun h => h)) (piv (l.drop si))).mono ?_; rintro e2 w2 ⟨r, rfl, hfr, hf1⟩))
    all_goals (go_wp2_with fail; go_meet; exact ⟨r, rfl, ⟨hfr⟩, ⟨HF0.out.drew.trans hf1 (fun _ _ h => h)⟩⟩)
  case rest =>
  obtain ⟨r, hr25, hfr, hf1⟩ := hcut
  subst hr25
  have HS2 : Aside0 (Same w wc) := ⟨HSW.out.trans hf1.out (fun _ _ h => h)⟩
  have HN2 : Aside0 (NodeAt wc b k p ks) := ⟨nodeAt_fr HNW.out hf1.out (fun h => h)⟩
  have HFO := hfr
  clear hfr hf1 HNW HBW HSW
  cases r with
  | some ad =>
    obtain ⟨i, t, hi, hpt, rfl⟩ := HFO.out
    have HT := Aside0.mk (And.intro hi hpt)
    clear hi hpt HFO
    go_wp2_with fail
    refine (IH.out t (List.mem_of_getElem? HT.out.1) wc b i A n c l si (kid_pre H.out HS2.out HT.out.1 HSJ.out.1) (HSH.out.2 t (List.mem_of_getElem? HT.out.1))).mono ?_
    intro e w3 hq
    obtain ⟨pr, up, rfl⟩ := hq.tuple
    have HQ := Aside0.mk (kid_out H.out HS2.out HT.out.1 HSJ.out.2 HT.out.2 hq)
    clear hq
    go_wp2_with fail
    refine bodyPost_ret (results_list (rs := [.tmp 10, .tmp 11]) rfl (by simp) (.tmp (.tmp .nil))) rfl ?_
    exact HQ.out
  | none =>
    have HNO : Aside0 (∀ t ∈ ks, t.piv ≠ piv (l.drop si)) := HFO
    clear HFO
    go_wp2_with fail
    refine (full_calls HN2.out).mono ?_
    rintro e w' ⟨rfl, hw'⟩
    subst w'
    have HNP : Aside0 ((T.leaf 0 v (l.drop si)).piv ∉ ks.map T.piv) := ⟨fun hm => by
      obtain ⟨t, ht, hpt⟩ := List.mem_map.1 hm
      exact HNO.out t ht hpt⟩
    have hbs := HBB.out.same HS2.out
    obtain ⟨X, hX⟩ : ∃ X, (if c = si then A else Option.map (fun x => x.add si) A) = X := ⟨_, rfl⟩
    have HX2 : Aside0 (CB wc X (n - si) (l.drop si)) := ⟨by rw [← hX]; exact hbs.drop HSJ.out.1 H.out.cap⟩
    have HB2 := Aside0.mk hbs
    clear hbs
    by_cases hfull : k.cap ≤ ks.length
    · rw [decide_eq_true hfull]
      have HCAP : Aside0 (ks.length = k.cap ∧ k ≠ .k48) := ⟨by
        have h1 := kids_cap HN2.out
        have h2 := H.out.few
        rw [ents_len] at h2
        have h3 := kids_ents HWF.out.2.2.2
        refine ⟨by omega, fun e => ?_⟩
        rw [e] at hfull
        simp only [K.cap] at hfull
        omega⟩
      clear hfull
      have mg := m_grow k b
      have cg := c_grow k
      go_wp2_with fail
      refine (grow_calls HN2.out HCAP.out.2 HCAP.out.1 HWF.out.2.2.1).mono ?_
      intro e w5 hq
      have HP5 := Aside0.mk hq
      have he := hq.ret
      clear hq
      subst he
      obtain ⟨nb, hnb⟩ : ∃ nb, nb = wc.heap.size := ⟨_, rfl⟩
      rw [← hnb]
      have HNB := Aside0.mk hnb
      clear hnb
      obtain ⟨Tg, cs, hbg, hcs⟩ := H.out.cell
      have hbg5 := (hbg.fr HS2.out (fun h => h)).fr HP5.out.same (fun h => h)
      have cn5 := hbg5.cell o hcs
      have zn5 := hbg5.free o
      have HGE : Aside0 (nb ≠ g) := ⟨fun e => by have h1 := hbg.lt; have h2 := HS2.out.size; have h3 := HNB.out; omega⟩
      unfold T.val pa at cn5
      unfold pa
      clear hbg hcs hbg5 cn zn
      go_upto_region 51 with (fail)
      have HN6 : Aside0 (NodeAt (w5.setCell ⟨g, o, none⟩ (.iface k.next.pt (.pointer (some ⟨nb, 0, none⟩)))) nb k.next p ks) := ⟨by have h5 := HP5.out.nd; rw [← HNB.out] at h5; exact Nd.far h5 (a := ⟨g, o, none⟩) HGE.out _⟩
      have HF6 : Aside0 (Fr (fun x => x = g) w (w5.setCell ⟨g, o, none⟩ (.iface k.next.pt (.pointer (some ⟨nb, 0, none⟩))))) := ⟨((HS2.out.trans HP5.out.same (fun _ _ h => h)).mono (G := fun x => x = g) (fun _ h => h.elim)).set (p := ⟨g, o, none⟩) (.inl rfl) _⟩
      have HC6 : Aside0 (∀ Tx cs, Blk w g Tx cs → cs[o]? = some (T.node b k p ks).val → Blk (w5.setCell ⟨g, o, none⟩ (.iface k.next.pt (.pointer (some ⟨nb, 0, none⟩)))) g Tx (cs.set o (.iface k.next.pt (pa nb)))) := ⟨fun Tx cs hb hc => Blk.set ((hb.fr HS2.out (fun h => h)).fr HP5.out.same (fun h => h)) o (List.getElem?_eq_some_iff.1 hc).1 _⟩
      have hf56 : Fr (fun x => x = g) w5 (w5.setCell ⟨g, o, none⟩ (.iface k.next.pt (.pointer (some ⟨nb, 0, none⟩)))) := (Fr.refl (fun x => x = g) _).set (p := ⟨g, o, none⟩) (.inl rfl) _
      have HBW : Aside0 (CB (w5.setCell ⟨g, o, none⟩ (.iface k.next.pt (.pointer (some ⟨nb, 0, none⟩)))) A n l) := ⟨(HB2.out.same HP5.out.same).fr hf56 (fun ad h => (H.out.apart ad h).1)⟩
      have HXW : Aside0 (CB (w5.setCell ⟨g, o, none⟩ (.iface k.next.pt (.pointer (some ⟨nb, 0, none⟩)))) X (n - si) (l.drop si)) := ⟨by rw [← hX]; exact HBW.out.drop HSJ.out.1 H.out.cap⟩
      have HZ6 : Aside0 ((w5.setCell ⟨g, o, none⟩ (.iface k.next.pt (.pointer (some ⟨nb, 0, none⟩)))).heap.size = nb + 1) := ⟨by rw [setCell_size, HNB.out]; exact HP5.out.size⟩
      clear hf56 cn5 zn5
      generalize w5.setCell ⟨g, o, none⟩ (.iface k.next.pt (.pointer (some ⟨nb, 0, none⟩))) = w9 at HN6 HF6 HC6 HBW HXW HZ6 ⊢
      have HLN : Aside0 (ks.length < k.next.cap) := ⟨next_lt HCAP.out.1 HCAP.out.2⟩
      have HF0 : Aside0 (Fr (fun x => x = nb) w9 w9.drew ∧ Same w9 w9.drew) := ⟨(Fr.refl _ _).drew, (Fr.refl _ _).drew⟩
      have ma := m_addChild k.next nb
      have ca := c_addChild k.next
      have na := na_addChild k.next nb
      go_region_held3 (fun w' => Fr (fun x => x = nb) w9 w') (first | exact HF0.out.1 | exact HF0.out.1.trans hl1.same (fun _ _ h => h.elim) | exact (HF0.out.1.trans hl1.same (fun _ _ h => h.elim)).trans ha1.fr (fun _ _ h => h))
        (first
          | (go_at_call 66; refine (pivot_calls (HBW.out.same (by first | exact HF0.out.2 | exact HF0.out.2.trans hl1.same (fun _ _ h => h))) si).mono ?_; rintro e1 wx ⟨rfl, rfl⟩)
          | (go_at_call 70; refine (newLeaf_calls (HXW.out.same HF0.out.2) v).mono ?_; intro e3 w6 hl1; have he3 := hl1.ret; subst he3)
          | (refine (add_calls (k := k.next) (nodeAt_fr (nodeAt_fr HN6.out HF0.out.2 (fun h => h)) hl1.same (fun h => h)) HLN.out (.leaf w9.heap.size v (l.drop si)) HNP.out).mono ?_; intro e4 w7 ha1; have he4 := ha1.ret; subst he4))
      all_goals
        go_wp2_with fail
        refine bodyPost_ret (results_list (rs := [.tmp 10, .tmp 11]) rfl (by simp) (.tmp (.tmp .nil))) rfl ?_
        have hL7 : LeafAt w7 w9.heap.size v (l.drop si) := hl1.leaf.fr ha1.fr (fun e => by have := HN6.out.lt; change w9.heap.size = _ at e; omega)
        have hF7 : Fr (fun x => x = nb) w9 w7 := (HF0.out.1.trans hl1.same (fun _ _ h => h.elim)).trans ha1.fr (fun _ _ h => h)
        have hsz := HNB.out
        have hs2 := HS2.out.size
        exact more_out H.out HSJ.out.2 HNO.out (next_low HCAP.out.1 HCAP.out.2) (by have := HLN.out; omega) (.inr (by omega)) ⟨by have := HZ6.out; omega, by have := HZ6.out; omega⟩ ((HF6.out.mono (fun _ e => .inl e)).trans hF7 (fun x hx e => by omega)) ha1.nd hL7 (fun Tx cs hb hc => (HC6.out Tx cs hb hc).fr hF7 (fun e => HGE.out e.symm))
    · rw [decide_eq_false hfull]
      have HBW := HB2
      have HXW := HX2
      have HLN : Aside0 (ks.length < k.cap) := ⟨by omega⟩
      clear hfull
      go_wp2_with fail
      have HF0 : Aside0 (Fr (fun x => x = b) wc wc.drew ∧ Same wc wc.drew) := ⟨(Fr.refl _ _).drew, (Fr.refl _ _).drew⟩
      have ma := m_addChild k b
      have ca := c_addChild k
      have na := na_addChild k b
      go_region_held3 (fun w' => Fr (fun x => x = b) wc w') (first | exact HF0.out.1 | exact HF0.out.1.trans hl1.same (fun _ _ h => h.elim) | exact (HF0.out.1.trans hl1.same (fun _ _ h => h.elim)).trans ha1.fr (fun _ _ h => h))
        (first
          | (go_at_call 66; refine (pivot_calls (HBW.out.same (by first | exact HF0.out.2 | exact HF0.out.2.trans hl1.same (fun _ _ h => h))) si).mono ?_; rintro e1 wx ⟨rfl, rfl⟩)
          | (go_at_call 70; refine (newLeaf_calls (HXW.out.same HF0.out.2) v).mono ?_; intro e3 w6 hl1; have he3 := hl1.ret; subst he3)
          | (refine (add_calls (k := k) (nodeAt_fr (nodeAt_fr HN2.out HF0.out.2 (fun h => h)) hl1.same (fun h => h)) HLN.out (.leaf wc.heap.size v (l.drop si)) HNP.out).mono ?_; intro e4 w7 ha1; have he4 := ha1.ret; subst he4))
      all_goals
        go_wp2_with fail
        refine bodyPost_ret (results_list (rs := [.tmp 10, .tmp 11]) rfl (by simp) (.tmp (.tmp .nil))) rfl ?_
        have hL7 : LeafAt w7 wc.heap.size v (l.drop si) := hl1.leaf.fr ha1.fr (fun e => by have := HN2.out.lt; change wc.heap.size = _ at e; omega)
        have hF7 : Fr (fun x => x = b) wc w7 := (HF0.out.1.trans hl1.same (fun _ _ h => h.elim)).trans ha1.fr (fun _ _ h => h)
        have hgb : g ≠ b := fun e => H.out.out (ids_node.2 (.inl e))
        exact more_out H.out HSJ.out.2 HNO.out (by have := HWF.out.2.1; omega) (by have := HLN.out; omega) (.inl rfl) ⟨HS2.out.size, by have := HN2.out.lt; omega⟩ ((HS2.out.mono (fun _ h => h.elim)).trans hF7 (fun x hx e => .inr e)) ha1.nd hL7 (fun Tx cs hb hc => by
          have e : cs.set o (Value.iface k.pt (pa b)) = cs := set_same hc
          rw [e]
          exact (hb.fr HS2.out (fun h => h)).fr hF7 hgb)
end Go.Proofs.YtjhmpcbpbdkddaaGreat.Te
