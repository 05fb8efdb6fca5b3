/- Trees of subjects: deleteChild of nodes of four, ten, sixteen. (Printed by gen_teg.py.) -/
import Derived.Test.YtjhmpcbpbdkddaaGreatTeF
namespace Go.Proofs.YtjhmpcbpbdkddaaGreat.Te
open Go.RowKit Go.Proofs.YtjhmpcbpbdkddaaGreat.Bs Go.Proofs.YtjhmpcbpbdkddaaGreatW.PrintWords Go.Proofs.YtjhmpcbpbdkddaaGreatW.PrintLast Go.Proofs.YtjhmpcbpbdkddaaGreatW.PrintMore
set_option linter.unusedVariables false
set_option linter.unusedSimpArgs false
set_option maxRecDepth 100000
/-- A node without one of its kids. -/
structure DelPost (w : World) (b : Nat) (k : K) (p : BL) (ks : List T) (t : T) (e : Ending) (w' : World) : Prop where
  ret : e = .returned (.tuple #[])
  nd : ∃ ks', (t :: ks').Perm ks ∧ NodeAt w' b k p ks'
  fr : Fr (fun x => x = b) w w'
  size : w'.heap.size = w.heap.size
/-- A node's block on the way. -/
structure NdS (w0 w : World) (b : Nat) (k : K) (vs : List Value) (p : BL) (n : Nat) (qs : List Value) : Prop where
  nd : Nd w b k vs p n qs
  fr : Fr (fun x => x = b) w0 w
  size : w.heap.size = w0.heap.size
section
variable {w0 w : World} {b : Nat} {k : K} {vs : List Value} {p : BL} {n : Nat} {qs : List Value}
theorem NdS.drew (h : NdS w0 w b k vs p n qs) : NdS w0 w.drew b k vs p n qs := ⟨h.nd.fr ((Fr.refl (fun _ => False) w).drew) (fun h => h), h.fr.trans (Fr.refl (fun _ => False) w).drew (fun _ _ h => h.elim), h.size⟩
theorem NdS.sk (h : NdS w0 w b k vs p n qs) (i : Nat) (hi : i < k.kn) (u : Value) : NdS w0 (w.setCell ⟨b, k.cap + 2 + i, none⟩ u) b k vs p n (qs.set i u) := ⟨h.nd.sk i hi u, h.fr.set (.inl rfl) _, by rw [setCell_size]; exact h.size⟩
theorem NdS.sv (h : NdS w0 w b k vs p n qs) (i : Nat) (hi : i < k.cap) (u : Value) : NdS w0 (w.setCell ⟨b, i, none⟩ u) b k (vs.set i u) p n qs := ⟨h.nd.sv i hi u, h.fr.set (.inl rfl) _, by rw [setCell_size]; exact h.size⟩
theorem NdS.sn (h : NdS w0 w b k vs p n qs) (n' : Nat) : NdS w0 (w.setCell ⟨b, k.cap + 1, none⟩ (.int .u16 (n' : Int))) b k vs p n' qs := ⟨h.nd.sn n', h.fr.set (.inl rfl) _, by rw [setCell_size]; exact h.size⟩
end
theorem getElem_some {α : Type} {l : List α} {i : Nat} (h : i < l.length) : ∃ v, l[i]? = some v := ⟨_, List.getElem?_eq_getElem h⟩
set_option maxHeartbeats 8000000 in
theorem del4_calls {w : World} {b : Nat} {p : BL} {ks : List T} (h : NodeAt w b .k4 p ks) {i0 : Nat} {t : T} (hi : ks[i0]? = some t) (hnd : (ks.map T.piv).Nodup) : Calls Tryz.prog 122 #[pa b, bv t.piv] w (DelPost w b .k4 p ks t) := by
  obtain ⟨m, hm⟩ : ∃ m, ks.length = m + 1 := ⟨ks.length - 1, by have := (List.getElem?_eq_some_iff.1 hi).1; omega⟩
  obtain ⟨tt, htl⟩ : ∃ t, ks[m]? = some t := ⟨_, List.getElem?_eq_getElem (by omega)⟩
  obtain ⟨tl, al, hu⟩ := val_iface tt
  obtain ⟨xl, hxl⟩ : ∃ x : Int, x = (tt.piv.toNat : Int) := ⟨_, rfl⟩
  have H : Aside0 (NdS w w b .k4 (kidsV .k4 ks) p (m + 1) (K.k4.keys (ks.map T.piv))) := ⟨⟨by rw [← hm]; exact h, Fr.refl _ _, rfl⟩⟩
  have HN : Aside0 (ks.length = m + 1 ∧ m + 1 ≤ 4) := ⟨hm, by rw [← hm]; exact kids_cap h⟩
  have HT := Aside0.mk htl
  have HU := Aside0.mk hu
  have HXL := Aside0.mk hxl
  have HI := Aside0.mk hi
  have HND := Aside0.mk hnd
  have c5 : w.cell? ⟨b, 5, none⟩ = some (.int .u16 ((m + 1 : Nat) : Int)) := H.out.nd.cn
  have hmm : IntKind.u16.wrap (((m + 1 : Nat) : Int) - 1) = (m : Int) := by rw [IntKind.wrap_u16]; have := HN.out; omega
  unfold pa bv
  obtain ⟨x, hx⟩ : ∃ x : Int, x = (t.piv.toNat : Int) := ⟨_, rfl⟩
  rw [← hx]
  have HX := Aside0.mk hx
  obtain ⟨n, hn⟩ : ∃ n, n = m + 1 := ⟨_, rfl⟩
  rw [← hn] at c5 hmm
  have HNM := Aside0.mk hn
  clear h hi hnd hm htl hu hxl hx hn
  go_enter Tryz.func122, Tryz.ntmps122
  go_wp2_with fail
  go_quiet (fail)
  go_wp2_with fail
  generalize hwq : w.drewN nq = w0
  replace c5 : w0.cell? ⟨b, 5, none⟩ = some (.int .u16 (n : Int)) := by rw [← hwq]; exact c5
  have H0 : Aside0 (NdS w w0 b .k4 (kidsV .k4 ks) p (m + 1) (K.k4.keys (ks.map T.piv))) := ⟨by rw [← hwq]; exact ⟨H.out.nd.fr ((Fr.refl (fun _ => False) w).drewN nq) (fun h => h), (Fr.refl _ w).drewN nq, rfl⟩⟩
  clear hwq H
  go_loopg [4] n (fun kq v4 wr => ∃ (i : Nat), v4 = .int .u16 (i : Int) ∧ wr = w0 ∧ Aside0 (kq + i = n ∧ i ≤ i0))
  case atStart => exact ⟨0, rfl, rfl, ⟨by omega, by omega⟩⟩
  case round =>
    obtain ⟨i, rfl, rfl, HQ⟩ := hrel
    have HL : Aside0 (i ≤ m) := ⟨by have := HQ.out; have := (List.getElem?_eq_some_iff.1 HI.out).1; have := HN.out; omega⟩
    have ii0 : (0 : Int) ≤ (i : Int) := by omega
    have i1 : (i : Int) < (n : Int) := by have := HL.out; have := HNM.out; omega
    have i2 : (i : Int) < 4 := by have := HN.out; have := HL.out; omega
    have i5 : IntKind.u16.wrap ((i : Int) + 1) = ((i + 1 : Nat) : Int) := by rw [IntKind.wrap_u16]; have := HN.out; have := HL.out; omega
    obtain ⟨ti, ht⟩ : ∃ t, ks[i]? = some t := ⟨_, List.getElem?_eq_getElem (by have := HN.out; have := HL.out; omega)⟩
    have HTI := Aside0.mk ht
    have ck : wr.cell? ⟨b, 6 + i, none⟩ = some (bv ti.piv) := H0.out.nd.ck i (keys_at (by decide) (by rw [List.getElem?_map, ht]; rfl))
    unfold bv at ck
    have hd := piv_eq_dec ti.piv t.piv
    rw [← HX.out] at hd
    have z : ∀ o, wr.frozen? ⟨b, o, none⟩ = false := H0.out.nd.free
    clear ht
    by_cases hp : ti.piv = t.piv
    · rw [decide_eq_true hp] at hd
      have HTT : Aside0 (ti = t) := ⟨kid_eq HND.out (List.mem_of_getElem? HTI.out) (List.mem_of_getElem? HI.out) hp⟩
      clear hp
      have m0 : (0 : Int) ≤ (m : Int) := by omega
      have m1 : (m : Int) < 4 := by have := HN.out; omega
      have cl : wr.cell? ⟨b, 6 + m, none⟩ = some (.int .u8 xl) := by rw [HXL.out]; exact H0.out.nd.ck m (keys_at (by decide) (by rw [List.getElem?_map, HT.out]; rfl))
      obtain ⟨vi, hvi⟩ := getElem_some (show i < (kidsV .k4 ks).length by rw [H0.out.nd.vl]; show i < 4; omega)
      have HVI := Aside0.mk hvi
      clear hvi
      by_cases him : i < m
      · have i3 : (i : Int) < (m : Int) := by omega
        have HIM := Aside0.mk him
        clear him
        go_wp2_with fail
        refine region_tail 11 (by kernel_rfl) (by kernel_rfl) (fun wd hwd => ?_)
        have HDD : Aside0 (NdS w wd b .k4 (kidsV .k4 ks) p (m + 1) (K.k4.keys (ks.map T.piv))) := ⟨by rw [hwd.out]; exact H0.out.drew⟩
        replace c5 : wd.cell? ⟨b, 5, none⟩ = some (.int .u16 (n : Int)) := by rw [hwd.out]; exact c5
        replace cl : wd.cell? ⟨b, 6 + m, none⟩ = some (.int .u8 xl) := by rw [hwd.out]; exact cl
        replace ck : wd.cell? ⟨b, 6 + i, none⟩ = some (.int .u8 (ti.piv.toNat : Int)) := by rw [hwd.out]; exact ck
        replace z : ∀ o, wd.frozen? ⟨b, o, none⟩ = false := HDD.out.nd.free
        clear hwd
        simp only [List.take_succ_cons, List.take_zero, List.drop_succ_cons, List.drop_zero]
        repeat still_step
        refine wpStill_nil ?_
        go_wp2_with fail
        have HE : Aside0 (NdS w (wd.setCell ⟨b, 6 + i, none⟩ (.int .u8 xl)) b .k4 (kidsV .k4 ks) p (m + 1) ((K.k4.keys (ks.map T.piv)).set i (.int .u8 xl))) := ⟨HDD.out.sk i (by show i < 4; omega) _⟩
        generalize wd.setCell ⟨b, 6 + i, none⟩ (.int .u8 xl) = w1 at HE ⊢
        replace z : ∀ o, w1.frozen? ⟨b, o, none⟩ = false := HE.out.nd.free
        have cv : w1.cell? ⟨b, i, none⟩ = some vi := HE.out.nd.cv i HVI.out
        have cm : w1.cell? ⟨b, m, none⟩ = some (.iface tl (.pointer al)) := by rw [← HU.out]; exact HE.out.nd.cv m (kidsV_at HT.out)
        clear HDD c5 ck cl
        refine region_tail 11 (by kernel_rfl) (by kernel_rfl) (fun wd hwd => ?_)
        have HDD : Aside0 (NdS w wd b .k4 (kidsV .k4 ks) p (m + 1) ((K.k4.keys (ks.map T.piv)).set i (.int .u8 xl))) := ⟨by rw [hwd.out]; exact HE.out.drew⟩
        replace cv : wd.cell? ⟨b, i, none⟩ = some (vi) := by rw [hwd.out]; exact cv
        replace cm : wd.cell? ⟨b, m, none⟩ = some (.iface tl (.pointer al)) := by rw [hwd.out]; exact cm
        replace z : ∀ o, wd.frozen? ⟨b, o, none⟩ = false := HDD.out.nd.free
        clear hwd
        simp only [List.take_succ_cons, List.take_zero, List.drop_succ_cons, List.drop_zero]
        repeat still_step
        refine wpStill_nil ?_
        go_upto_region 7 with (fail)
        have HE2 : Aside0 (NdS w (wd.setCell ⟨b, i, none⟩ (.iface tl (.pointer al))) b .k4 ((kidsV .k4 ks).set i (.iface tl (.pointer al))) p (m + 1) ((K.k4.keys (ks.map T.piv)).set i (.int .u8 xl))) := ⟨HDD.out.sv i (by show i < 4; omega) _⟩
        generalize wd.setCell ⟨b, i, none⟩ (.iface tl (.pointer al)) = w2 at HE2 ⊢
        replace z : ∀ o, w2.frozen? ⟨b, o, none⟩ = false := HE2.out.nd.free
        obtain ⟨q9, hq9⟩ := getElem_some (show m < ((K.k4.keys (ks.map T.piv)).set i (.int .u8 xl)).length by rw [HE2.out.nd.ql]; show m < 4; omega)
        have cl : w2.cell? ⟨b, 6 + m, none⟩ = some q9 := HE2.out.nd.ck m hq9
        clear HDD HE cv cm hq9
        go_upto_region 8 with (fail)
        have HE3 : Aside0 (NdS w (w2.setCell ⟨b, 6 + m, none⟩ (.int .u8 0)) b .k4 ((kidsV .k4 ks).set i (.iface tl (.pointer al))) p (m + 1) (((K.k4.keys (ks.map T.piv)).set i (.int .u8 xl)).set m (.int .u8 0))) := ⟨HE2.out.sk m (by show m < 4; omega) _⟩
        generalize w2.setCell ⟨b, 6 + m, none⟩ (.int .u8 0) = w3 at HE3 ⊢
        replace z : ∀ o, w3.frozen? ⟨b, o, none⟩ = false := HE3.out.nd.free
        obtain ⟨v9, hv9⟩ := getElem_some (show m < ((kidsV .k4 ks).set i (.iface tl (.pointer al))).length by rw [HE3.out.nd.vl]; show m < 4; omega)
        have cv : w3.cell? ⟨b, m, none⟩ = some v9 := HE3.out.nd.cv m hv9
        clear HE2 cl hv9
        go_upto_region 11 with (fail)
        have HE4 : Aside0 (NdS w (w3.setCell ⟨b, m, none⟩ .nilIface) b .k4 (((kidsV .k4 ks).set i (.iface tl (.pointer al))).set m .nilIface) p (m + 1) (((K.k4.keys (ks.map T.piv)).set i (.int .u8 xl)).set m (.int .u8 0))) := ⟨HE3.out.sv m (by show m < 4; omega) _⟩
        generalize w3.setCell ⟨b, m, none⟩ .nilIface = w4 at HE4 ⊢
        replace z : ∀ o, w4.frozen? ⟨b, o, none⟩ = false := HE4.out.nd.free
        have c5 : w4.cell? ⟨b, 5, none⟩ = some (.int .u16 (n : Int)) := by rw [HNM.out]; exact HE4.out.nd.cn
        clear HE3 cv
        go_wp2_with fail
        refine bodyPost_ret (results_none rfl _ _ _) rfl ?_
        have HF := HE4.out.sn m
        refine ⟨rfl, ⟨_, perm_del HN.out.1 (i := i) (by rw [← HTT.out]; exact HTI.out) HT.out, ?_⟩, HF.fr, HF.size⟩
        have hl : (ks.set i tt).length = m + 1 := by rw [List.length_set]; exact HN.out.1
        have hl2 : (((ks.set i tt).take m).map T.piv) = (((ks.map T.piv).set i tt.piv).take m) := by rw [List.map_take, List.map_set]
        have e1 : ((ks.set i tt).take m).length = m := by rw [List.length_take]; omega
        unfold NodeAt
        rw [e1, hl2, ← kidsV_cut hl (by rw [hl]; exact HN.out.2), ← keys_cut (by decide) (by rw [List.length_set, List.length_map]; exact HN.out.1) (by rw [List.length_set, List.length_map, HN.out.1]; exact HN.out.2), ← kidsV_set (by have := HN.out; omega), ← keys_set (by decide) (by rw [List.length_map]; have := HN.out; omega), HU.out]
        have := HF.nd
        rw [HXL.out] at this
        exact this
      · have i3 : ¬ ((i : Int) < (m : Int)) := by omega
        have HIM : Aside0 (i = m) := ⟨by have := HL.out; omega⟩
        have cv : wr.cell? ⟨b, i, none⟩ = some vi := H0.out.nd.cv i HVI.out
        clear him
        go_upto_region 9 with (fail)
        go_upto_region 10 with (fail)
        have HE3 : Aside0 (NdS w (wr.setCell ⟨b, 6 + i, none⟩ (.int .u8 0)) b .k4 (kidsV .k4 ks) p (m + 1) ((K.k4.keys (ks.map T.piv)).set i (.int .u8 0))) := ⟨H0.out.sk i (by show i < 4; omega) _⟩
        generalize wr.setCell ⟨b, 6 + i, none⟩ (.int .u8 0) = w3 at HE3 ⊢
        replace z : ∀ o, w3.frozen? ⟨b, o, none⟩ = false := HE3.out.nd.free
        replace cv : w3.cell? ⟨b, i, none⟩ = some vi := HE3.out.nd.cv i HVI.out
        clear ck cl c5
        go_upto_region 11 with (fail)
        have HE4 : Aside0 (NdS w (w3.setCell ⟨b, i, none⟩ .nilIface) b .k4 ((kidsV .k4 ks).set i .nilIface) p (m + 1) ((K.k4.keys (ks.map T.piv)).set i (.int .u8 0))) := ⟨HE3.out.sv i (by show i < 4; omega) _⟩
        generalize w3.setCell ⟨b, i, none⟩ .nilIface = w4 at HE4 ⊢
        replace z : ∀ o, w4.frozen? ⟨b, o, none⟩ = false := HE4.out.nd.free
        have c5 : w4.cell? ⟨b, 5, none⟩ = some (.int .u16 (n : Int)) := by rw [HNM.out]; exact HE4.out.nd.cn
        clear HE3 cv
        go_wp2_with fail
        refine bodyPost_ret (results_none rfl _ _ _) rfl ?_
        have HF := HE4.out.sn m
        refine ⟨rfl, ⟨_, perm_del HN.out.1 (i := i) (by rw [← HTT.out]; exact HTI.out) HT.out, ?_⟩, HF.fr, HF.size⟩
        have e0 : (ks.set i tt).take m = ks.take m := by
          rw [List.take_set]
          exact List.set_eq_of_length_le (by rw [List.length_take]; have := HIM.out; omega)
        have e1 : (ks.take m).length = m := by rw [List.length_take]; have := HN.out; omega
        unfold NodeAt
        rw [e0, e1, List.map_take, ← kidsV_cut HN.out.1 (by rw [HN.out.1]; exact HN.out.2), ← keys_cut (by decide) (by rw [List.length_map]; exact HN.out.1) (by rw [List.length_map, HN.out.1]; exact HN.out.2)]
        have := HF.nd
        rw [HIM.out] at this
        exact this
    · have HP := Aside0.mk hp
      rw [decide_eq_false hp] at hd
      clear hp
      go_wp2_with fail
      go_roundg (n - (i + 1))
      case measure => have := HQ.out.1; omega
      case rel =>
        refine ⟨i + 1, by first | rfl | go_num, rfl, ⟨by omega, ?_⟩⟩
        rcases Nat.lt_or_ge i i0 with h | h
        · omega
        · obtain rfl : i = i0 := by have := HQ.out; omega
          exact absurd (by rw [show ti = t from Option.some.inj (HTI.out.symm.trans HI.out)]) HP.out
set_option maxHeartbeats 8000000 in
theorem del10_calls {w : World} {b : Nat} {p : BL} {ks : List T} (h : NodeAt w b .k10 p ks) {i0 : Nat} {t : T} (hi : ks[i0]? = some t) (hnd : (ks.map T.piv).Nodup) : Calls Tryz.prog 132 #[pa b, bv t.piv] w (DelPost w b .k10 p ks t) := by
  obtain ⟨m, hm⟩ : ∃ m, ks.length = m + 1 := ⟨ks.length - 1, by have := (List.getElem?_eq_some_iff.1 hi).1; omega⟩
  obtain ⟨tt, htl⟩ : ∃ t, ks[m]? = some t := ⟨_, List.getElem?_eq_getElem (by omega)⟩
  obtain ⟨tl, al, hu⟩ := val_iface tt
  obtain ⟨xl, hxl⟩ : ∃ x : Int, x = (tt.piv.toNat : Int) := ⟨_, rfl⟩
  have H : Aside0 (NdS w w b .k10 (kidsV .k10 ks) p (m + 1) (K.k10.keys (ks.map T.piv))) := ⟨⟨by rw [← hm]; exact h, Fr.refl _ _, rfl⟩⟩
  have HN : Aside0 (ks.length = m + 1 ∧ m + 1 ≤ 10) := ⟨hm, by rw [← hm]; exact kids_cap h⟩
  have HT := Aside0.mk htl
  have HU := Aside0.mk hu
  have HXL := Aside0.mk hxl
  have HI := Aside0.mk hi
  have HND := Aside0.mk hnd
  have c5 : w.cell? ⟨b, 11, none⟩ = some (.int .u16 ((m + 1 : Nat) : Int)) := H.out.nd.cn
  have hmm : IntKind.u16.wrap (((m + 1 : Nat) : Int) - 1) = (m : Int) := by rw [IntKind.wrap_u16]; have := HN.out; omega
  unfold pa bv
  obtain ⟨x, hx⟩ : ∃ x : Int, x = (t.piv.toNat : Int) := ⟨_, rfl⟩
  rw [← hx]
  have HX := Aside0.mk hx
  obtain ⟨n, hn⟩ : ∃ n, n = m + 1 := ⟨_, rfl⟩
  rw [← hn] at c5 hmm
  have HNM := Aside0.mk hn
  clear h hi hnd hm htl hu hxl hx hn
  go_enter Tryz.func132, Tryz.ntmps132
  go_wp2_with fail
  go_quiet (fail)
  go_wp2_with fail
  generalize hwq : w.drewN nq = w0
  replace c5 : w0.cell? ⟨b, 11, none⟩ = some (.int .u16 (n : Int)) := by rw [← hwq]; exact c5
  have H0 : Aside0 (NdS w w0 b .k10 (kidsV .k10 ks) p (m + 1) (K.k10.keys (ks.map T.piv))) := ⟨by rw [← hwq]; exact ⟨H.out.nd.fr ((Fr.refl (fun _ => False) w).drewN nq) (fun h => h), (Fr.refl _ w).drewN nq, rfl⟩⟩
  clear hwq H
  go_loopg [4] n (fun kq v4 wr => ∃ (i : Nat), v4 = .int .u16 (i : Int) ∧ wr = w0 ∧ Aside0 (kq + i = n ∧ i ≤ i0))
  case atStart => exact ⟨0, rfl, rfl, ⟨by omega, by omega⟩⟩
  case round =>
    obtain ⟨i, rfl, rfl, HQ⟩ := hrel
    have HL : Aside0 (i ≤ m) := ⟨by have := HQ.out; have := (List.getElem?_eq_some_iff.1 HI.out).1; have := HN.out; omega⟩
    have ii0 : (0 : Int) ≤ (i : Int) := by omega
    have i1 : (i : Int) < (n : Int) := by have := HL.out; have := HNM.out; omega
    have i2 : (i : Int) < 10 := by have := HN.out; have := HL.out; omega
    have i5 : IntKind.u16.wrap ((i : Int) + 1) = ((i + 1 : Nat) : Int) := by rw [IntKind.wrap_u16]; have := HN.out; have := HL.out; omega
    obtain ⟨ti, ht⟩ : ∃ t, ks[i]? = some t := ⟨_, List.getElem?_eq_getElem (by have := HN.out; have := HL.out; omega)⟩
    have HTI := Aside0.mk ht
    have ck : wr.cell? ⟨b, 12 + i, none⟩ = some (bv ti.piv) := H0.out.nd.ck i (keys_at (by decide) (by rw [List.getElem?_map, ht]; rfl))
    unfold bv at ck
    have hd := piv_eq_dec ti.piv t.piv
    rw [← HX.out] at hd
    have z : ∀ o, wr.frozen? ⟨b, o, none⟩ = false := H0.out.nd.free
    clear ht
    by_cases hp : ti.piv = t.piv
    · rw [decide_eq_true hp] at hd
      have HTT : Aside0 (ti = t) := ⟨kid_eq HND.out (List.mem_of_getElem? HTI.out) (List.mem_of_getElem? HI.out) hp⟩
      clear hp
      have m0 : (0 : Int) ≤ (m : Int) := by omega
      have m1 : (m : Int) < 10 := by have := HN.out; omega
      have cl : wr.cell? ⟨b, 12 + m, none⟩ = some (.int .u8 xl) := by rw [HXL.out]; exact H0.out.nd.ck m (keys_at (by decide) (by rw [List.getElem?_map, HT.out]; rfl))
      obtain ⟨vi, hvi⟩ := getElem_some (show i < (kidsV .k10 ks).length by rw [H0.out.nd.vl]; show i < 10; omega)
      have HVI := Aside0.mk hvi
      clear hvi
      by_cases him : i < m
      · have i3 : (i : Int) < (m : Int) := by omega
        have HIM := Aside0.mk him
        clear him
        go_wp2_with fail
        refine region_tail 11 (by kernel_rfl) (by kernel_rfl) (fun wd hwd => ?_)
        have HDD : Aside0 (NdS w wd b .k10 (kidsV .k10 ks) p (m + 1) (K.k10.keys (ks.map T.piv))) := ⟨by rw [hwd.out]; exact H0.out.drew⟩
        replace c5 : wd.cell? ⟨b, 11, none⟩ = some (.int .u16 (n : Int)) := by rw [hwd.out]; exact c5
        replace cl : wd.cell? ⟨b, 12 + m, none⟩ = some (.int .u8 xl) := by rw [hwd.out]; exact cl
        replace ck : wd.cell? ⟨b, 12 + i, none⟩ = some (.int .u8 (ti.piv.toNat : Int)) := by rw [hwd.out]; exact ck
        replace z : ∀ o, wd.frozen? ⟨b, o, none⟩ = false := HDD.out.nd.free
        clear hwd
        simp only [List.take_succ_cons, List.take_zero, List.drop_succ_cons, List.drop_zero]
        repeat still_step
        refine wpStill_nil ?_
        go_wp2_with fail
        have HE : Aside0 (NdS w (wd.setCell ⟨b, 12 + i, none⟩ (.int .u8 xl)) b .k10 (kidsV .k10 ks) p (m + 1) ((K.k10.keys (ks.map T.piv)).set i (.int .u8 xl))) := ⟨HDD.out.sk i (by show i < 10; omega) _⟩
        generalize wd.setCell ⟨b, 12 + i, none⟩ (.int .u8 xl) = w1 at HE ⊢
        replace z : ∀ o, w1.frozen? ⟨b, o, none⟩ = false := HE.out.nd.free
        have cv : w1.cell? ⟨b, i, none⟩ = some vi := HE.out.nd.cv i HVI.out
        have cm : w1.cell? ⟨b, m, none⟩ = some (.iface tl (.pointer al)) := by rw [← HU.out]; exact HE.out.nd.cv m (kidsV_at HT.out)
        clear HDD c5 ck cl
        refine region_tail 11 (by kernel_rfl) (by kernel_rfl) (fun wd hwd => ?_)
        have HDD : Aside0 (NdS w wd b .k10 (kidsV .k10 ks) p (m + 1) ((K.k10.keys (ks.map T.piv)).set i (.int .u8 xl))) := ⟨by rw [hwd.out]; exact HE.out.drew⟩
        replace cv : wd.cell? ⟨b, i, none⟩ = some (vi) := by rw [hwd.out]; exact cv
        replace cm : wd.cell? ⟨b, m, none⟩ = some (.iface tl (.pointer al)) := by rw [hwd.out]; exact cm
        replace z : ∀ o, wd.frozen? ⟨b, o, none⟩ = false := HDD.out.nd.free
        clear hwd
        simp only [List.take_succ_cons, List.take_zero, List.drop_succ_cons, List.drop_zero]
        repeat still_step
        refine wpStill_nil ?_
        go_upto_region 7 with (fail)
        have HE2 : Aside0 (NdS w (wd.setCell ⟨b, i, none⟩ (.iface tl (.pointer al))) b .k10 ((kidsV .k10 ks).set i (.iface tl (.pointer al))) p (m + 1) ((K.k10.keys (ks.map T.piv)).set i (.int .u8 xl))) := ⟨HDD.out.sv i (by show i < 10; omega) _⟩
        generalize wd.setCell ⟨b, i, none⟩ (.iface tl (.pointer al)) = w2 at HE2 ⊢
        replace z : ∀ o, w2.frozen? ⟨b, o, none⟩ = false := HE2.out.nd.free
        obtain ⟨q9, hq9⟩ := getElem_some (show m < ((K.k10.keys (ks.map T.piv)).set i (.int .u8 xl)).length by rw [HE2.out.nd.ql]; show m < 10; omega)
        have cl : w2.cell? ⟨b, 12 + m, none⟩ = some q9 := HE2.out.nd.ck m hq9
        clear HDD HE cv cm hq9
        go_upto_region 8 with (fail)
        have HE3 : Aside0 (NdS w (w2.setCell ⟨b, 12 + m, none⟩ (.int .u8 0)) b .k10 ((kidsV .k10 ks).set i (.iface tl (.pointer al))) p (m + 1) (((K.k10.keys (ks.map T.piv)).set i (.int .u8 xl)).set m (.int .u8 0))) := ⟨HE2.out.sk m (by show m < 10; omega) _⟩
        generalize w2.setCell ⟨b, 12 + m, none⟩ (.int .u8 0) = w3 at HE3 ⊢
        replace z : ∀ o, w3.frozen? ⟨b, o, none⟩ = false := HE3.out.nd.free
        obtain ⟨v9, hv9⟩ := getElem_some (show m < ((kidsV .k10 ks).set i (.iface tl (.pointer al))).length by rw [HE3.out.nd.vl]; show m < 10; omega)
        have cv : w3.cell? ⟨b, m, none⟩ = some v9 := HE3.out.nd.cv m hv9
        clear HE2 cl hv9
        go_upto_region 11 with (fail)
        have HE4 : Aside0 (NdS w (w3.setCell ⟨b, m, none⟩ .nilIface) b .k10 (((kidsV .k10 ks).set i (.iface tl (.pointer al))).set m .nilIface) p (m + 1) (((K.k10.keys (ks.map T.piv)).set i (.int .u8 xl)).set m (.int .u8 0))) := ⟨HE3.out.sv m (by show m < 10; omega) _⟩
        generalize w3.setCell ⟨b, m, none⟩ .nilIface = w4 at HE4 ⊢
        replace z : ∀ o, w4.frozen? ⟨b, o, none⟩ = false := HE4.out.nd.free
        have c5 : w4.cell? ⟨b, 11, none⟩ = some (.int .u16 (n : Int)) := by rw [HNM.out]; exact HE4.out.nd.cn
        clear HE3 cv
        go_wp2_with fail
        refine bodyPost_ret (results_none rfl _ _ _) rfl ?_
        have HF := HE4.out.sn m
        refine ⟨rfl, ⟨_, perm_del HN.out.1 (i := i) (by rw [← HTT.out]; exact HTI.out) HT.out, ?_⟩, HF.fr, HF.size⟩
        have hl : (ks.set i tt).length = m + 1 := by rw [List.length_set]; exact HN.out.1
        have hl2 : (((ks.set i tt).take m).map T.piv) = (((ks.map T.piv).set i tt.piv).take m) := by rw [List.map_take, List.map_set]
        have e1 : ((ks.set i tt).take m).length = m := by rw [List.length_take]; omega
        unfold NodeAt
        rw [e1, hl2, ← kidsV_cut hl (by rw [hl]; exact HN.out.2), ← keys_cut (by decide) (by rw [List.length_set, List.length_map]; exact HN.out.1) (by rw [List.length_set, List.length_map, HN.out.1]; exact HN.out.2), ← kidsV_set (by have := HN.out; omega), ← keys_set (by decide) (by rw [List.length_map]; have := HN.out; omega), HU.out]
        have := HF.nd
        rw [HXL.out] at this
        exact this
      · have i3 : ¬ ((i : Int) < (m : Int)) := by omega
        have HIM : Aside0 (i = m) := ⟨by have := HL.out; omega⟩
        have cv : wr.cell? ⟨b, i, none⟩ = some vi := H0.out.nd.cv i HVI.out
        clear him
        go_upto_region 9 with (fail)
        go_upto_region 10 with (fail)
        have HE3 : Aside0 (NdS w (wr.setCell ⟨b, 12 + i, none⟩ (.int .u8 0)) b .k10 (kidsV .k10 ks) p (m + 1) ((K.k10.keys (ks.map T.piv)).set i (.int .u8 0))) := ⟨H0.out.sk i (by show i < 10; omega) _⟩
        generalize wr.setCell ⟨b, 12 + i, none⟩ (.int .u8 0) = w3 at HE3 ⊢
        replace z : ∀ o, w3.frozen? ⟨b, o, none⟩ = false := HE3.out.nd.free
        replace cv : w3.cell? ⟨b, i, none⟩ = some vi := HE3.out.nd.cv i HVI.out
        clear ck cl c5
        go_upto_region 11 with (fail)
        have HE4 : Aside0 (NdS w (w3.setCell ⟨b, i, none⟩ .nilIface) b .k10 ((kidsV .k10 ks).set i .nilIface) p (m + 1) ((K.k10.keys (ks.map T.piv)).set i (.int .u8 0))) := ⟨HE3.out.sv i (by show i < 10; omega) _⟩
        generalize w3.setCell ⟨b, i, none⟩ .nilIface = w4 at HE4 ⊢
        replace z : ∀ o, w4.frozen? ⟨b, o, none⟩ = false := HE4.out.nd.free
        have c5 : w4.cell? ⟨b, 11, none⟩ = some (.int .u16 (n : Int)) := by rw [HNM.out]; exact HE4.out.nd.cn
        clear HE3 cv
        go_wp2_with fail
        refine bodyPost_ret (results_none rfl _ _ _) rfl ?_
        have HF := HE4.out.sn m
        refine ⟨rfl, ⟨_, perm_del HN.out.1 (i := i) (by rw [← HTT.out]; exact HTI.out) HT.out, ?_⟩, HF.fr, HF.size⟩
        have e0 : (ks.set i tt).take m = ks.take m := by
          rw [List.take_set]
          exact List.set_eq_of_length_le (by rw [List.length_take]; have := HIM.out; omega)
        have e1 : (ks.take m).length = m := by rw [List.length_take]; have := HN.out; omega
        unfold NodeAt
        rw [e0, e1, List.map_take, ← kidsV_cut HN.out.1 (by rw [HN.out.1]; exact HN.out.2), ← keys_cut (by decide) (by rw [List.length_map]; exact HN.out.1) (by rw [List.length_map, HN.out.1]; exact HN.out.2)]
        have := HF.nd
        rw [HIM.out] at this
        exact this
    · have HP := Aside0.mk hp
      rw [decide_eq_false hp] at hd
      clear hp
      go_wp2_with fail
      go_roundg (n - (i + 1))
      case measure => have := HQ.out.1; omega
      case rel =>
        refine ⟨i + 1, by first | rfl | go_num, rfl, ⟨by omega, ?_⟩⟩
        rcases Nat.lt_or_ge i i0 with h | h
        · omega
        · obtain rfl : i = i0 := by have := HQ.out; omega
          exact absurd (by rw [show ti = t from Option.some.inj (HTI.out.symm.trans HI.out)]) HP.out
set_option maxHeartbeats 8000000 in
theorem del16_calls {w : World} {b : Nat} {p : BL} {ks : List T} (h : NodeAt w b .k16 p ks) {i0 : Nat} {t : T} (hi : ks[i0]? = some t) (hnd : (ks.map T.piv).Nodup) : Calls Tryz.prog 141 #[pa b, bv t.piv] w (DelPost w b .k16 p ks t) := by
  obtain ⟨m, hm⟩ : ∃ m, ks.length = m + 1 := ⟨ks.length - 1, by have := (List.getElem?_eq_some_iff.1 hi).1; omega⟩
  obtain ⟨tt, htl⟩ : ∃ t, ks[m]? = some t := ⟨_, List.getElem?_eq_getElem (by omega)⟩
  obtain ⟨tl, al, hu⟩ := val_iface tt
  obtain ⟨xl, hxl⟩ : ∃ x : Int, x = (tt.piv.toNat : Int) := ⟨_, rfl⟩
  have H : Aside0 (NdS w w b .k16 (kidsV .k16 ks) p (m + 1) (K.k16.keys (ks.map T.piv))) := ⟨⟨by rw [← hm]; exact h, Fr.refl _ _, rfl⟩⟩
  have HN : Aside0 (ks.length = m + 1 ∧ m + 1 ≤ 16) := ⟨hm, by rw [← hm]; exact kids_cap h⟩
  have HT := Aside0.mk htl
  have HU := Aside0.mk hu
  have HXL := Aside0.mk hxl
  have HI := Aside0.mk hi
  have HND := Aside0.mk hnd
  have c5 : w.cell? ⟨b, 17, none⟩ = some (.int .u16 ((m + 1 : Nat) : Int)) := H.out.nd.cn
  have hmm : IntKind.u16.wrap (((m + 1 : Nat) : Int) - 1) = (m : Int) := by rw [IntKind.wrap_u16]; have := HN.out; omega
  unfold pa bv
  obtain ⟨x, hx⟩ : ∃ x : Int, x = (t.piv.toNat : Int) := ⟨_, rfl⟩
  rw [← hx]
  have HX := Aside0.mk hx
  obtain ⟨n, hn⟩ : ∃ n, n = m + 1 := ⟨_, rfl⟩
  rw [← hn] at c5 hmm
  have HNM := Aside0.mk hn
  clear h hi hnd hm htl hu hxl hx hn
  go_enter Tryz.func141, Tryz.ntmps141
  go_wp2_with fail
  go_quiet (fail)
  go_wp2_with fail
  generalize hwq : w.drewN nq = w0
  replace c5 : w0.cell? ⟨b, 17, none⟩ = some (.int .u16 (n : Int)) := by rw [← hwq]; exact c5
  have H0 : Aside0 (NdS w w0 b .k16 (kidsV .k16 ks) p (m + 1) (K.k16.keys (ks.map T.piv))) := ⟨by rw [← hwq]; exact ⟨H.out.nd.fr ((Fr.refl (fun _ => False) w).drewN nq) (fun h => h), (Fr.refl _ w).drewN nq, rfl⟩⟩
  clear hwq H
  go_loopg [4] n (fun kq v4 wr => ∃ (i : Nat), v4 = .int .u16 (i : Int) ∧ wr = w0 ∧ Aside0 (kq + i = n ∧ i ≤ i0))
  case atStart => exact ⟨0, rfl, rfl, ⟨by omega, by omega⟩⟩
  case round =>
    obtain ⟨i, rfl, rfl, HQ⟩ := hrel
    have HL : Aside0 (i ≤ m) := ⟨by have := HQ.out; have := (List.getElem?_eq_some_iff.1 HI.out).1; have := HN.out; omega⟩
    have ii0 : (0 : Int) ≤ (i : Int) := by omega
    have i1 : (i : Int) < (n : Int) := by have := HL.out; have := HNM.out; omega
    have i2 : (i : Int) < 16 := by have := HN.out; have := HL.out; omega
    have i5 : IntKind.u16.wrap ((i : Int) + 1) = ((i + 1 : Nat) : Int) := by rw [IntKind.wrap_u16]; have := HN.out; have := HL.out; omega
    obtain ⟨ti, ht⟩ : ∃ t, ks[i]? = some t := ⟨_, List.getElem?_eq_getElem (by have := HN.out; have := HL.out; omega)⟩
    have HTI := Aside0.mk ht
    have ck : wr.cell? ⟨b, 18 + i, none⟩ = some (bv ti.piv) := H0.out.nd.ck i (keys_at (by decide) (by rw [List.getElem?_map, ht]; rfl))
    unfold bv at ck
    have hd := piv_eq_dec ti.piv t.piv
    rw [← HX.out] at hd
    have z : ∀ o, wr.frozen? ⟨b, o, none⟩ = false := H0.out.nd.free
    clear ht
    by_cases hp : ti.piv = t.piv
    · rw [decide_eq_true hp] at hd
      have HTT : Aside0 (ti = t) := ⟨kid_eq HND.out (List.mem_of_getElem? HTI.out) (List.mem_of_getElem? HI.out) hp⟩
      clear hp
      have m0 : (0 : Int) ≤ (m : Int) := by omega
      have m1 : (m : Int) < 16 := by have := HN.out; omega
      have cl : wr.cell? ⟨b, 18 + m, none⟩ = some (.int .u8 xl) := by rw [HXL.out]; exact H0.out.nd.ck m (keys_at (by decide) (by rw [List.getElem?_map, HT.out]; rfl))
      obtain ⟨vi, hvi⟩ := getElem_some (show i < (kidsV .k16 ks).length by rw [H0.out.nd.vl]; show i < 16; omega)
      have HVI := Aside0.mk hvi
      clear hvi
      by_cases him : i < m
      · have i3 : (i : Int) < (m : Int) := by omega
        have HIM := Aside0.mk him
        clear him
        go_wp2_with fail
        refine region_tail 11 (by kernel_rfl) (by kernel_rfl) (fun wd hwd => ?_)
        have HDD : Aside0 (NdS w wd b .k16 (kidsV .k16 ks) p (m + 1) (K.k16.keys (ks.map T.piv))) := ⟨by rw [hwd.out]; exact H0.out.drew⟩
        replace c5 : wd.cell? ⟨b, 17, none⟩ = some (.int .u16 (n : Int)) := by rw [hwd.out]; exact c5
        replace cl : wd.cell? ⟨b, 18 + m, none⟩ = some (.int .u8 xl) := by rw [hwd.out]; exact cl
        replace ck : wd.cell? ⟨b, 18 + i, none⟩ = some (.int .u8 (ti.piv.toNat : Int)) := by rw [hwd.out]; exact ck
        replace z : ∀ o, wd.frozen? ⟨b, o, none⟩ = false := HDD.out.nd.free
        clear hwd
        simp only [List.take_succ_cons, List.take_zero, List.drop_succ_cons, List.drop_zero]
        repeat still_step
        refine wpStill_nil ?_
        go_wp2_with fail
        have HE : Aside0 (NdS w (wd.setCell ⟨b, 18 + i, none⟩ (.int .u8 xl)) b .k16 (kidsV .k16 ks) p (m + 1) ((K.k16.keys (ks.map T.piv)).set i (.int .u8 xl))) := ⟨HDD.out.sk i (by show i < 16; omega) _⟩
        generalize wd.setCell ⟨b, 18 + i, none⟩ (.int .u8 xl) = w1 at HE ⊢
        replace z : ∀ o, w1.frozen? ⟨b, o, none⟩ = false := HE.out.nd.free
        have cv : w1.cell? ⟨b, i, none⟩ = some vi := HE.out.nd.cv i HVI.out
        have cm : w1.cell? ⟨b, m, none⟩ = some (.iface tl (.pointer al)) := by rw [← HU.out]; exact HE.out.nd.cv m (kidsV_at HT.out)
        clear HDD c5 ck cl
        refine region_tail 11 (by kernel_rfl) (by kernel_rfl) (fun wd hwd => ?_)
        have HDD : Aside0 (NdS w wd b .k16 (kidsV .k16 ks) p (m + 1) ((K.k16.keys (ks.map T.piv)).set i (.int .u8 xl))) := ⟨by rw [hwd.out]; exact HE.out.drew⟩
        replace cv : wd.cell? ⟨b, i, none⟩ = some (vi) := by rw [hwd.out]; exact cv
        replace cm : wd.cell? ⟨b, m, none⟩ = some (.iface tl (.pointer al)) := by rw [hwd.out]; exact cm
        replace z : ∀ o, wd.frozen? ⟨b, o, none⟩ = false := HDD.out.nd.free
        clear hwd
        simp only [List.take_succ_cons, List.take_zero, List.drop_succ_cons, List.drop_zero]
        repeat still_step
        refine wpStill_nil ?_
        go_upto_region 7 with (fail)
        have HE2 : Aside0 (NdS w (wd.setCell ⟨b, i, none⟩ (.iface tl (.pointer al))) b .k16 ((kidsV .k16 ks).set i (.iface tl (.pointer al))) p (m + 1) ((K.k16.keys (ks.map T.piv)).set i (.int .u8 xl))) := ⟨HDD.out.sv i (by show i < 16; omega) _⟩
        generalize wd.setCell ⟨b, i, none⟩ (.iface tl (.pointer al)) = w2 at HE2 ⊢
        replace z : ∀ o, w2.frozen? ⟨b, o, none⟩ = false := HE2.out.nd.free
        obtain ⟨q9, hq9⟩ := getElem_some (show m < ((K.k16.keys (ks.map T.piv)).set i (.int .u8 xl)).length by rw [HE2.out.nd.ql]; show m < 16; omega)
        have cl : w2.cell? ⟨b, 18 + m, none⟩ = some q9 := HE2.out.nd.ck m hq9
        clear HDD HE cv cm hq9
        go_upto_region 8 with (fail)
        have HE3 : Aside0 (NdS w (w2.setCell ⟨b, 18 + m, none⟩ (.int .u8 0)) b .k16 ((kidsV .k16 ks).set i (.iface tl (.pointer al))) p (m + 1) (((K.k16.keys (ks.map T.piv)).set i (.int .u8 xl)).set m (.int .u8 0))) := ⟨HE2.out.sk m (by show m < 16; omega) _⟩
        generalize w2.setCell ⟨b, 18 + m, none⟩ (.int .u8 0) = w3 at HE3 ⊢
        replace z : ∀ o, w3.frozen? ⟨b, o, none⟩ = false := HE3.out.nd.free
        obtain ⟨v9, hv9⟩ := getElem_some (show m < ((kidsV .k16 ks).set i (.iface tl (.pointer al))).length by rw [HE3.out.nd.vl]; show m < 16; omega)
        have cv : w3.cell? ⟨b, m, none⟩ = some v9 := HE3.out.nd.cv m hv9
        clear HE2 cl hv9
        go_upto_region 11 with (fail)
        have HE4 : Aside0 (NdS w (w3.setCell ⟨b, m, none⟩ .nilIface) b .k16 (((kidsV .k16 ks).set i (.iface tl (.pointer al))).set m .nilIface) p (m + 1) (((K.k16.keys (ks.map T.piv)).set i (.int .u8 xl)).set m (.int .u8 0))) := ⟨HE3.out.sv m (by show m < 16; omega) _⟩
        generalize w3.setCell ⟨b, m, none⟩ .nilIface = w4 at HE4 ⊢
        replace z : ∀ o, w4.frozen? ⟨b, o, none⟩ = false := HE4.out.nd.free
        have c5 : w4.cell? ⟨b, 17, none⟩ = some (.int .u16 (n : Int)) := by rw [HNM.out]; exact HE4.out.nd.cn
        clear HE3 cv
        go_wp2_with fail
        refine bodyPost_ret (results_none rfl _ _ _) rfl ?_
        have HF := HE4.out.sn m
        refine ⟨rfl, ⟨_, perm_del HN.out.1 (i := i) (by rw [← HTT.out]; exact HTI.out) HT.out, ?_⟩, HF.fr, HF.size⟩
        have hl : (ks.set i tt).length = m + 1 := by rw [List.length_set]; exact HN.out.1
        have hl2 : (((ks.set i tt).take m).map T.piv) = (((ks.map T.piv).set i tt.piv).take m) := by rw [List.map_take, List.map_set]
        have e1 : ((ks.set i tt).take m).length = m := by rw [List.length_take]; omega
        unfold NodeAt
        rw [e1, hl2, ← kidsV_cut hl (by rw [hl]; exact HN.out.2), ← keys_cut (by decide) (by rw [List.length_set, List.length_map]; exact HN.out.1) (by rw [List.length_set, List.length_map, HN.out.1]; exact HN.out.2), ← kidsV_set (by have := HN.out; omega), ← keys_set (by decide) (by rw [List.length_map]; have := HN.out; omega), HU.out]
        have := HF.nd
        rw [HXL.out] at this
        exact this
      · have i3 : ¬ ((i : Int) < (m : Int)) := by omega
        have HIM : Aside0 (i = m) := ⟨by have := HL.out; omega⟩
        have cv : wr.cell? ⟨b, i, none⟩ = some vi := H0.out.nd.cv i HVI.out
        clear him
        go_upto_region 9 with (fail)
        go_upto_region 10 with (fail)
        have HE3 : Aside0 (NdS w (wr.setCell ⟨b, 18 + i, none⟩ (.int .u8 0)) b .k16 (kidsV .k16 ks) p (m + 1) ((K.k16.keys (ks.map T.piv)).set i (.int .u8 0))) := ⟨H0.out.sk i (by show i < 16; omega) _⟩
        generalize wr.setCell ⟨b, 18 + i, none⟩ (.int .u8 0) = w3 at HE3 ⊢
        replace z : ∀ o, w3.frozen? ⟨b, o, none⟩ = false := HE3.out.nd.free
        replace cv : w3.cell? ⟨b, i, none⟩ = some vi := HE3.out.nd.cv i HVI.out
        clear ck cl c5
        go_upto_region 11 with (fail)
        have HE4 : Aside0 (NdS w (w3.setCell ⟨b, i, none⟩ .nilIface) b .k16 ((kidsV .k16 ks).set i .nilIface) p (m + 1) ((K.k16.keys (ks.map T.piv)).set i (.int .u8 0))) := ⟨HE3.out.sv i (by show i < 16; omega) _⟩
        generalize w3.setCell ⟨b, i, none⟩ .nilIface = w4 at HE4 ⊢
        replace z : ∀ o, w4.frozen? ⟨b, o, none⟩ = false := HE4.out.nd.free
        have c5 : w4.cell? ⟨b, 17, none⟩ = some (.int .u16 (n : Int)) := by rw [HNM.out]; exact HE4.out.nd.cn
        clear HE3 cv
        go_wp2_with fail
        refine bodyPost_ret (results_none rfl _ _ _) rfl ?_
        have HF := HE4.out.sn m
        refine ⟨rfl, ⟨_, perm_del HN.out.1 (i := i) (by rw [← HTT.out]; exact HTI.out) HT.out, ?_⟩, HF.fr, HF.size⟩
        have e0 : (ks.set i tt).take m = ks.take m := by
          rw [List.take_set]
          exact List.set_eq_of_length_le (by rw [List.length_take]; have := HIM.out; omega)
        have e1 : (ks.take m).length = m := by rw [List.length_take]; have := HN.out; omega
        unfold NodeAt
        rw [e0, e1, List.map_take, ← kidsV_cut HN.out.1 (by rw [HN.out.1]; exact HN.out.2), ← keys_cut (by decide) (by rw [List.length_map]; exact HN.out.1) (by rw [List.length_map, HN.out.1]; exact HN.out.2)]
        have := HF.nd
        rw [HIM.out] at this
        exact this
    · have HP := Aside0.mk hp
      rw [decide_eq_false hp] at hd
      clear hp
      go_wp2_with fail
      go_roundg (n - (i + 1))
      case measure => have := HQ.out.1; omega
      case rel =>
        refine ⟨i + 1, by first | rfl | go_num, rfl, ⟨by omega, ?_⟩⟩
        rcases Nat.lt_or_ge i i0 with h | h
        · omega
        · obtain rfl : i = i0 := by have := HQ.out; omega
          exact absurd (by rw [show ti = t from Option.some.inj (HTI.out.symm.trans HI.out)]) HP.out
end Go.Proofs.YtjhmpcbpbdkddaaGreat.Te
