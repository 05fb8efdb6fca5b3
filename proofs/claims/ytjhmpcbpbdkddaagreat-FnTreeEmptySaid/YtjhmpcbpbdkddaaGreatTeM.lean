/- Trees of subjects: the walks of deleteChild and shrink of nodes of forty-eight. (Printed by gen_tek.py.) Trees of subjects: the walk of shrink of nodes of forty-eight. Trees of subjects: the methods of a node of whatever kind, called through the interface. (Printed by gen_tem.py.) -/
import Derived.Test.YtjhmpcbpbdkddaaGreatTeJ
namespace Go.Proofs.YtjhmpcbpbdkddaaGreat.Te
open Go.RowKit Go.Proofs.YtjhmpcbpbdkddaaGreat.Bs Go.Proofs.YtjhmpcbpbdkddaaGreatW.PrintWords Go.Proofs.YtjhmpcbpbdkddaaGreatW.PrintLast Go.Proofs.YtjhmpcbpbdkddaaGreatW.PrintMore
set_option linter.unusedVariables false
set_option linter.unusedSimpArgs false
set_option maxRecDepth 100000
theorem slot_ne {ps : BL} (hn : ps.Nodup) {m : Nat} {pl d : UInt8} (hl : ps[m]? = some pl) (h : d ≠ pl) : slot ps d ≠ m + 1 := by
  intro hs
  by_cases hd : d ∈ ps
  · obtain ⟨j, hj⟩ := List.getElem?_of_mem hd
    rw [slot_at hn hj] at hs
    obtain rfl : j = m := by omega
    rw [hj] at hl
    injection hl with hl
    exact h hl
  · rw [slot_no hd] at hs
    omega
set_option maxHeartbeats 8000000 in
theorem del48_calls {w : World} {b : Nat} {p : BL} {ks : List T} (h : NodeAt w b .k48 p ks) {i : Nat} {t : T} (hi : ks[i]? = some t) (hnd : (ks.map T.piv).Nodup) : Calls Tryz.prog 151 #[pa b, bv t.piv] w (DelPost w b .k48 p ks t) := by
  obtain ⟨m, hm⟩ : ∃ m, ks.length = m + 1 := ⟨ks.length - 1, by have := (List.getElem?_eq_some_iff.1 hi).1; omega⟩
  obtain ⟨tt, htl⟩ : ∃ t, ks[m]? = some t := ⟨_, List.getElem?_eq_getElem (by omega)⟩
  obtain ⟨tl, al, hu⟩ := val_iface tt
  obtain ⟨n, hn⟩ : ∃ n, n = m + 1 := ⟨_, rfl⟩
  obtain ⟨x, hx⟩ : ∃ x : Nat, x = t.piv.toNat := ⟨_, rfl⟩
  obtain ⟨xl, hxl⟩ : ∃ x : Nat, x = tt.piv.toNat := ⟨_, rfl⟩
  obtain ⟨j, hj⟩ : ∃ j, j = i + 1 := ⟨_, rfl⟩
  have hil : i ≤ m := by have := (List.getElem?_eq_some_iff.1 hi).1; omega
  have HX : Aside0 (x = t.piv.toNat ∧ x < 256) := ⟨hx, by rw [hx]; exact t.piv.toNat_lt⟩
  have HXL : Aside0 (xl = tt.piv.toNat ∧ xl < 256) := ⟨hxl, by rw [hxl]; exact tt.piv.toNat_lt⟩
  have HN : Aside0 (ks.length = m + 1 ∧ m + 1 ≤ 48) := ⟨hm, by rw [← hm]; exact kids_cap h⟩
  have hm48 : m + 1 ≤ 48 := HN.out.2
  have H0 : Aside0 (NdS w w b .k48 (kidsV .k48 ks) p n (K.k48.keys (ks.map T.piv))) := ⟨⟨by rw [hn, ← hm]; exact h, Fr.refl _ _, rfl⟩⟩
  have HT := Aside0.mk htl
  have HU := Aside0.mk hu
  have HI := Aside0.mk hi
  have HND := Aside0.mk hnd
  have HJ := Aside0.mk hj
  have HNM := Aside0.mk hn
  have c9 : w.cell? ⟨b, 49, none⟩ = some (.int .u16 (n : Int)) := H0.out.nd.cn
  have ck : w.cell? ⟨b, 50 + x, none⟩ = some (.int .u8 (j : Int)) := by
    rw [hj, ← slot_at hnd (j := i) (d := t.piv) (by rw [List.getElem?_map, hi]; rfl)]
    exact H0.out.nd.ck x (by rw [hx]; exact keys48_at _)
  have x0 : (0 : Int) ≤ (x : Int) := by omega
  have x1 : (x : Int) < 256 := by have := HX.out.2; omega
  have j1 : ((j : Int) == 0) = false := by simp; omega
  have j2 : IntKind.u8.wrap ((j : Int) - 1) = (i : Int) := by rw [IntKind.wrap_u8]; omega
  have j3 : IntKind.u8.wrap ((i : Int) + 1) = (j : Int) := by rw [IntKind.wrap_u8]; omega
  have m2 : IntKind.u16.wrap ((n : Int) - 1) = (m : Int) := by rw [IntKind.wrap_u16]; omega
  have m3 : IntKind.u8.wrap (m : Int) = (m : Int) := by rw [IntKind.wrap_u8]; omega
  have m4 : IntKind.u8.wrap ((m : Int) + 1) = (n : Int) := by rw [IntKind.wrap_u8]; omega
  have m5 : (0 : Int) ≤ (m : Int) := by omega
  have m6 : (m : Int) < 48 := by omega
  have i2 : (0 : Int) ≤ (i : Int) := by omega
  have i3 : (i : Int) < 48 := by omega
  have z : ∀ o, w.frozen? ⟨b, o, none⟩ = false := H0.out.nd.free
  unfold pa bv
  rw [← hx]
  clear h hi hnd hm htl hu hx hxl hn hj
  by_cases him : i < m
  · have hlt : (i : Int) < (m : Int) := by omega
    obtain ⟨vi, hvi⟩ := getElem_some (show i < (kidsV .k48 ks).length by rw [H0.out.nd.vl]; show i < 48; omega)
    have cv : w.cell? ⟨b, i, none⟩ = some vi := H0.out.nd.cv i hvi
    have cm : w.cell? ⟨b, m, none⟩ = some (.iface tl (.pointer al)) := by rw [← HU.out]; exact H0.out.nd.cv m (kidsV_at HT.out)
    clear hvi
    go_enter Tryz.func151, Tryz.ntmps151
    go_wp2_with fail
    refine region_tail 11 (by kernel_rfl) (by kernel_rfl) (fun wd hwd => ?_)
    have HDD : Aside0 (NdS w wd b .k48 (kidsV .k48 ks) p n (K.k48.keys (ks.map T.piv))) := ⟨by rw [hwd.out]; exact H0.out.drew⟩
    replace cv : wd.cell? ⟨b, i, none⟩ = some vi := by rw [hwd.out]; exact cv
    replace cm : wd.cell? ⟨b, m, none⟩ = some (.iface tl (.pointer al)) := by rw [hwd.out]; exact cm
    replace z : ∀ o, wd.frozen? ⟨b, o, none⟩ = false := HDD.out.nd.free
    clear hwd H0 c9 ck
    simp only [List.take_succ_cons, List.take_zero, List.drop_succ_cons, List.drop_zero]
    repeat still_step
    refine wpStill_nil ?_
    go_upto_region 6 with (fail)
    have HE : Aside0 (NdS w (wd.setCell ⟨b, i, none⟩ (.iface tl (.pointer al))) b .k48 ((kidsV .k48 ks).set i (.iface tl (.pointer al))) p n (K.k48.keys (ks.map T.piv))) := ⟨HDD.out.sv i (by show i < 48; omega) _⟩
    generalize wd.setCell ⟨b, i, none⟩ (.iface tl (.pointer al)) = w2 at HE ⊢
    replace z : ∀ o, w2.frozen? ⟨b, o, none⟩ = false := HE.out.nd.free
    clear HDD cv cm
    go_wp2_with fail
    go_loopg [6] 256 (fun kq v6 wr => ∃ (ic : Nat), v6 = .int .i64 (ic : Int) ∧ wr = w2 ∧ Aside0 (kq + ic = 256 ∧ ic ≤ xl))
    case atStart => exact ⟨0, rfl, rfl, ⟨by omega, by omega⟩⟩
    case round =>
      obtain ⟨ic, rfl, rfl, HQ⟩ := hrel
      have hc2 : ic < 256 := by have := HQ.out; have := HXL.out.2; omega
      have q0 : (0 : Int) ≤ (ic : Int) := by omega
      have q1 : (ic : Int) < 256 := by omega
      have q2 : IntKind.u8.wrap (ic : Int) = (ic : Int) := by rw [IntKind.wrap_u8]; omega
      have q5 : IntKind.i64.wrap ((ic : Int) + 1) = ((ic + 1 : Nat) : Int) := by rw [IntKind.wrap_i64]; omega
      have ck : wr.cell? ⟨b, 50 + ic, none⟩ = some (.int .u8 (slot (ks.map T.piv) (UInt8.ofNat ic) : Int)) := HE.out.nd.ck ic (tab_at _ hc2)
      by_cases hx : ic = xl
      · subst hx
        have e1 : slot (ks.map T.piv) (UInt8.ofNat ic) = n := by
          rw [HXL.out.1, ofNat_toNat', HNM.out]
          exact slot_at HND.out (by rw [List.getElem?_map, HT.out]; rfl)
        rw [e1] at ck
        clear e1 hc2
        go_upto_region 11 with (fail)
        have HE2 : Aside0 (NdS w (wr.setCell ⟨b, 50 + ic, none⟩ (.int .u8 (j : Int))) b .k48 ((kidsV .k48 ks).set i (.iface tl (.pointer al))) p n ((K.k48.keys (ks.map T.piv)).set ic (.int .u8 (j : Int)))) := ⟨HE.out.sk ic HXL.out.2 _⟩
        generalize wr.setCell ⟨b, 50 + ic, none⟩ (.int .u8 (j : Int)) = w3 at HE2 ⊢
        clear HE ck
        obtain ⟨v9, hv9⟩ := getElem_some (show m < ((kidsV .k48 ks).set i (.iface tl (.pointer al))).length by rw [HE2.out.nd.vl]; show m < 48; omega)
        have cv : w3.cell? ⟨b, m, none⟩ = some v9 := HE2.out.nd.cv m hv9
        replace z : ∀ o, w3.frozen? ⟨b, o, none⟩ = false := HE2.out.nd.free
        clear hv9
        go_upto_region 12 with (fail)
        have HR1 : Aside0 (NdS w (w3.setCell ⟨b, m, none⟩ .nilIface) b .k48 (((kidsV .k48 ks).set i (.iface tl (.pointer al))).set m .nilIface) p n ((K.k48.keys (ks.map T.piv)).set ic (.int .u8 (j : Int)))) := ⟨HE2.out.sv m (by show m < 48; omega) _⟩
        generalize w3.setCell ⟨b, m, none⟩ .nilIface = w7 at HR1 ⊢
        replace z : ∀ o, w7.frozen? ⟨b, o, none⟩ = false := HR1.out.nd.free
        obtain ⟨q9, hq9⟩ := getElem_some (show x < ((K.k48.keys (ks.map T.piv)).set ic (.int .u8 (j : Int))).length by rw [HR1.out.nd.ql]; exact HX.out.2)
        have cl : w7.cell? ⟨b, 50 + x, none⟩ = some q9 := HR1.out.nd.ck x hq9
        clear hq9 cv HE2
        go_upto_region 13 with (fail)
        have HR2 : Aside0 (NdS w (w7.setCell ⟨b, 50 + x, none⟩ (.int .u8 0)) b .k48 (((kidsV .k48 ks).set i (.iface tl (.pointer al))).set m .nilIface) p n (((K.k48.keys (ks.map T.piv)).set ic (.int .u8 (j : Int))).set x (.int .u8 0))) := ⟨HR1.out.sk x HX.out.2 _⟩
        generalize w7.setCell ⟨b, 50 + x, none⟩ (.int .u8 0) = w8 at HR2 ⊢
        replace z : ∀ o, w8.frozen? ⟨b, o, none⟩ = false := HR2.out.nd.free
        have c9 : w8.cell? ⟨b, 49, none⟩ = some (.int .u16 (n : Int)) := HR2.out.nd.cn
        clear HR1 cl
        go_wp2_with fail
        refine bodyPost_end (results_none rfl _ _ _) rfl ?_
        have HF := HR2.out.sn m
        refine ⟨rfl, ⟨_, perm_del HN.out.1 HI.out HT.out, ?_⟩, HF.fr, HF.size⟩
        have h1 := HF.nd
        have hl : (ks.set i tt).length = m + 1 := by rw [List.length_set]; exact HN.out.1
        have hl2 : (((ks.set i tt).take m).map T.piv) = (((ks.map T.piv).set i tt.piv).take m) := by rw [List.map_take, List.map_set]
        have e1 : ((ks.set i tt).take m).length = m := by rw [List.length_take]; omega
        have k1 := keys48_del HND.out (i := i) (m := m) (c := t.piv) (pl := tt.piv) (by rw [List.length_map]; exact HN.out.1) (by rw [List.getElem?_map, HI.out]; rfl) (by rw [List.getElem?_map, HT.out]; rfl) (by omega)
        rw [← HX.out.1, ← HXL.out.1, ← HJ.out] at k1
        unfold NodeAt
        rw [e1, hl2, ← kidsV_cut hl (by rw [hl]; exact HN.out.2), ← k1, ← kidsV_set (by have := HN.out; omega), HU.out]
        exact h1
      · have e1 : ((slot (ks.map T.piv) (UInt8.ofNat ic) : Int) == (n : Int)) = false := by
          have h1 := slot_ne HND.out (m := m) (pl := tt.piv) (d := UInt8.ofNat ic) (by rw [List.getElem?_map, HT.out]; rfl) (fun e => hx (by rw [HXL.out.1, ← e, toNat_ofNat' hc2]))
          have h2 := HNM.out
          simp
          omega
        obtain ⟨sv, hsv⟩ : ∃ sv, sv = slot (ks.map T.piv) (UInt8.ofNat ic) := ⟨_, rfl⟩
        rw [← hsv] at ck e1
        have HNE := Aside0.mk hx
        clear hsv hx hc2
        go_wp2_with fail
        go_roundg (256 - (ic + 1))
        case measure => have := HQ.out.1; omega
        case rel => exact ⟨ic + 1, by first | rfl | go_num, rfl, ⟨by have := HQ.out; have := HXL.out; omega, by have := HQ.out; have := HNE.out; omega⟩⟩
  · have hlt : ¬ ((i : Int) < (m : Int)) := by omega
    go_enter Tryz.func151, Tryz.ntmps151
    go_upto_region 11 with (fail)
    clear c9 ck
    obtain ⟨v9, hv9⟩ := getElem_some (show m < (kidsV .k48 ks).length by rw [H0.out.nd.vl]; show m < 48; omega)
    have cv : w.cell? ⟨b, m, none⟩ = some v9 := H0.out.nd.cv m hv9
    replace z : ∀ o, w.frozen? ⟨b, o, none⟩ = false := H0.out.nd.free
    clear hv9
    go_upto_region 12 with (fail)
    have HR1 : Aside0 (NdS w (w.setCell ⟨b, m, none⟩ .nilIface) b .k48 ((kidsV .k48 ks).set m .nilIface) p n (K.k48.keys (ks.map T.piv))) := ⟨H0.out.sv m (by show m < 48; omega) _⟩
    generalize w.setCell ⟨b, m, none⟩ .nilIface = w7 at HR1 ⊢
    replace z : ∀ o, w7.frozen? ⟨b, o, none⟩ = false := HR1.out.nd.free
    obtain ⟨q9, hq9⟩ := getElem_some (show x < (K.k48.keys (ks.map T.piv)).length by rw [HR1.out.nd.ql]; exact HX.out.2)
    have cl : w7.cell? ⟨b, 50 + x, none⟩ = some q9 := HR1.out.nd.ck x hq9
    clear hq9 cv H0
    go_upto_region 13 with (fail)
    have HR2 : Aside0 (NdS w (w7.setCell ⟨b, 50 + x, none⟩ (.int .u8 0)) b .k48 ((kidsV .k48 ks).set m .nilIface) p n ((K.k48.keys (ks.map T.piv)).set x (.int .u8 0))) := ⟨HR1.out.sk x HX.out.2 _⟩
    generalize w7.setCell ⟨b, 50 + x, none⟩ (.int .u8 0) = w8 at HR2 ⊢
    replace z : ∀ o, w8.frozen? ⟨b, o, none⟩ = false := HR2.out.nd.free
    have c9 : w8.cell? ⟨b, 49, none⟩ = some (.int .u16 (n : Int)) := HR2.out.nd.cn
    clear HR1 cl
    go_wp2_with fail
    refine bodyPost_end (results_none rfl _ _ _) rfl ?_
    have HF := HR2.out.sn m
    refine ⟨rfl, ⟨_, perm_del HN.out.1 HI.out HT.out, ?_⟩, HF.fr, HF.size⟩
    have h1 := HF.nd
    have e0 : (ks.set i tt).take m = ks.take m := by
      rw [List.take_set]
      exact List.set_eq_of_length_le (by rw [List.length_take]; omega)
    have e1 : (ks.take m).length = m := by rw [List.length_take]; have := HN.out; omega
    have k1 := keys48_cut HND.out (m := m) (c := t.piv) (by rw [List.length_map]; exact HN.out.1) (by rw [List.getElem?_map, show m = i by omega, HI.out]; rfl)
    rw [← HX.out.1] at k1
    unfold NodeAt
    rw [e0, e1, List.map_take, ← kidsV_cut HN.out.1 (by rw [HN.out.1]; exact HN.out.2), ← k1]
    exact h1
end Go.Proofs.YtjhmpcbpbdkddaaGreat.Te
namespace Go.Proofs.YtjhmpcbpbdkddaaGreat.Te
open Go.RowKit Go.Proofs.YtjhmpcbpbdkddaaGreat.Bs Go.Proofs.YtjhmpcbpbdkddaaGreatW.PrintWords Go.Proofs.YtjhmpcbpbdkddaaGreatW.PrintLast Go.Proofs.YtjhmpcbpbdkddaaGreatW.PrintMore
set_option linter.unusedVariables false
set_option linter.unusedSimpArgs false
set_option maxRecDepth 100000
theorem shrink48_no {w : World} {b : Nat} {p : BL} {ks : List T} (h : NodeAt w b .k48 p ks) (hl : 16 < ks.length) : Calls Tryz.prog 157 #[pa b] w fun e w' => e = .returned .nilIface ∧ w' = w := by
  obtain ⟨n, hn⟩ : ∃ n, n = ks.length := ⟨_, rfl⟩
  have c5 : w.cell? ⟨b, 49, none⟩ = some (.int .u16 (n : Int)) := by rw [hn]; exact h.cn
  have n1 : 16 < (n : Int) := by omega
  have n2 : (n : Int) > 16 := by omega
  unfold pa
  clear h hn hl
  go_enter Tryz.func157, Tryz.ntmps157
  go_wp2
  go_ret
  exact ⟨rfl, rfl⟩
/-- The kids with a key below c. -/
structure Low (ks A : List T) (c : Nat) : Prop where
  mem : ∀ t, t ∈ A ↔ t ∈ ks ∧ t.piv.toNat < c
  nodup : (A.map T.piv).Nodup
theorem Low.perm {ks A : List T} (h : Low ks A 256) (hn : (ks.map T.piv).Nodup) : A.Perm ks := by
  have h1 : A.Nodup := List.Pairwise.of_map _ (fun a b hab h => hab (by rw [h])) h.nodup
  have h2 : ks.Nodup := List.Pairwise.of_map _ (fun a b hab h => hab (by rw [h])) hn
  refine (List.perm_ext_iff_of_nodup h1 h2).2 (fun t => ?_)
  rw [h.mem]
  have := t.piv.toNat_lt
  exact ⟨fun h => h.1, fun h => ⟨h, by omega⟩⟩
theorem Low.len {ks A : List T} {c : Nat} (h : Low ks A c) {t : T} (ht : t ∈ ks) (htc : t.piv.toNat = c) : A.length < ks.length := by
  have h1 : A.Nodup := List.Pairwise.of_map _ (fun a b hab h => hab (by rw [h])) h.nodup
  have h2 : (t :: A).Nodup := List.nodup_cons.2 ⟨fun hm => by have := ((h.mem t).1 hm).2; omega, h1⟩
  have : (t :: A).length ≤ ks.length := h2.length_le_of_subset (fun x hx => by
    rcases List.mem_cons.1 hx with rfl | hx
    · exact ht
    · exact ((h.mem x).1 hx).1)
  rw [List.length_cons] at this
  omega
theorem Low.add {ks A : List T} {c : Nat} (h : Low ks A c) (hn : (ks.map T.piv).Nodup) {t : T} (ht : t ∈ ks) (htc : t.piv.toNat = c) : Low ks (A ++ [t]) (c + 1) := by
  refine ⟨fun u => ?_, ?_⟩
  · rw [List.mem_append, h.mem, List.mem_singleton]
    constructor
    · rintro (⟨h1, h2⟩ | rfl)
      · exact ⟨h1, by omega⟩
      · exact ⟨ht, by omega⟩
    · rintro ⟨h1, h2⟩
      by_cases hu : u.piv.toNat = c
      · exact .inr (kid_eq hn h1 ht (UInt8.toNat_inj.1 (by omega)))
      · exact .inl ⟨h1, by omega⟩
  · rw [List.map_append, List.map_cons, List.map_nil, List.nodup_append]
    refine ⟨h.nodup, by simp, fun a ha b hb e => ?_⟩
    simp only [List.mem_singleton] at hb
    subst hb
    subst e
    obtain ⟨u, hu, hp⟩ := List.mem_map.1 ha
    have := ((h.mem u).1 hu).2
    rw [hp] at this
    omega
theorem Low.skip {ks A : List T} {c : Nat} (h : Low ks A c) (hno : ∀ t ∈ ks, t.piv.toNat ≠ c) : Low ks A (c + 1) := by
  refine ⟨fun u => ?_, h.nodup⟩
  rw [h.mem]
  constructor
  · rintro ⟨h1, h2⟩; exact ⟨h1, by omega⟩
  · rintro ⟨h1, h2⟩; exact ⟨h1, by have := hno u h1; omega⟩
set_option maxHeartbeats 8000000 in
theorem shrink48_calls {w : World} {b : Nat} {p : BL} {ks : List T} (h : NodeAt w b .k48 p ks) (hl : ks.length ≤ 16) (hnd : (ks.map T.piv).Nodup) : Calls Tryz.prog 157 #[pa b] w fun e w' => ∃ ks', ks'.Perm ks ∧ GrowPost w .k16 [] ks' e w' := by
  obtain ⟨n, hn⟩ : ∃ n, n = ks.length := ⟨_, rfl⟩
  have HN : Aside0 (NodeAt w b .k48 p ks ∧ n = ks.length ∧ n ≤ 16 ∧ b < w.heap.size ∧ (ks.map T.piv).Nodup) := ⟨h, hn, by omega, h.lt, hnd⟩
  have c5 : w.cell? ⟨b, 49, none⟩ = some (.int .u16 (n : Int)) := by rw [hn]; exact h.cn
  have n1 : ¬ (16 < (n : Int)) := by omega
  have n2 : ¬ ((n : Int) > 16) := by omega
  unfold pa
  clear h hl hn hnd
  go_enter Tryz.func157, Tryz.ntmps157
  go_wp2_with fail
  refine (newNode16_calls (empty_CB w)).mono ?_
  intro e w2 hp
  have HP := Aside0.mk hp
  have he := hp.ret
  clear hp
  subst he
  have HG2 : Aside0 (GrowS w w2 b .k48 .k16 p [] ks []) := ⟨⟨nodeAt_fr HN.out.1 HP.out.same (fun h => h), HP.out.nd, HP.out.same, HP.out.size⟩⟩
  obtain ⟨nb, hnb⟩ : ∃ nb, nb = w.heap.size := ⟨_, rfl⟩
  rw [← hnb]
  have HB := Aside0.mk hnb
  clear hnb c5 HP
  unfold pa
  go_wp2_with fail
  go_loopg [4] 256 (fun kq v4 wr => ∃ (c : Nat), v4 = .int .i64 (c : Int) ∧ Aside0 (kq + c = 256) ∧ Aside0 (∃ A, Low ks A c ∧ GrowS w wr b .k48 .k16 p [] ks A))
  case atStart => exact ⟨0, rfl, ⟨by omega⟩, ⟨[], ⟨fun t => by simp, by simp⟩, HG2.out⟩⟩
  case round =>
    clear HG2
    obtain ⟨c, rfl, HI, HAG⟩ := hrel
    obtain ⟨A, hA, hG⟩ := HAG.out
    have HA := Aside0.mk hA
    have HG := Aside0.mk hG
    clear hA hG HAG
    have i0 : (0 : Int) ≤ (c : Int) := by omega
    by_cases hlt : c < 256
    · have i1 : (c : Int) < 256 := by omega
      have q2 : IntKind.u8.wrap (c : Int) = (c : Int) := by rw [IntKind.wrap_u8]; omega
      have i5 : IntKind.i64.wrap ((c : Int) + 1) = ((c + 1 : Nat) : Int) := by rw [IntKind.wrap_i64]; omega
      have ck : wr.cell? ⟨b, 50 + c, none⟩ = some (.int .u8 (slot (ks.map T.piv) (UInt8.ofNat c) : Int)) := HG.out.old.ck c (tab_at _ hlt)
      have HC := Aside0.mk hlt
      by_cases hmem : UInt8.ofNat c ∈ ks.map T.piv
      · obtain ⟨h1, h2⟩ := slot_pos hmem
        obtain ⟨s, hs⟩ : ∃ s, s = (ks.map T.piv).idxOf (UInt8.ofNat c) := ⟨_, rfl⟩
        rw [← hs] at h1 h2
        obtain ⟨t, ht, hp⟩ := Option.map_eq_some_iff.1 ((List.getElem?_map ..).symm.trans h2)
        obtain ⟨j, hj⟩ : ∃ j, j = s + 1 := ⟨_, rfl⟩
        rw [h1, ← hj] at ck
        have hs16 : s < ks.length := (List.getElem?_eq_some_iff.1 ht).1
        have HT : Aside0 (ks[s]? = some t ∧ t.piv.toNat = c) := ⟨ht, by rw [hp, toNat_ofNat' hlt]⟩
        have s0 : (0 : Int) ≤ (s : Int) := by omega
        have s1 : (s : Int) < 48 := by have := HN.out; omega
        have j0 : (0 : Int) < (j : Int) := by omega
        have j1 : (j : Int) > 0 := by omega
        have j2 : IntKind.u8.wrap ((j : Int) - 1) = (s : Int) := by rw [IntKind.wrap_u8]; have := HN.out; omega
        obtain ⟨ti, ai, hu⟩ := val_iface t
        have HU := Aside0.mk hu
        have cv : wr.cell? ⟨b, s, none⟩ = some (.iface ti (.pointer ai)) := by rw [← hu]; exact HG.out.old.cv s (kidsV_at ht)
        clear hmem h1 h2 hs ht hp hj hs16 hu hlt
        go_wp2_with fail
        have hadd := add16_calls HG.out.new (by have := HA.out.len (List.mem_of_getElem? HT.out.1) HT.out.2; have := HN.out; omega) t
        rw [HU.out, ← HB.out, show bv t.piv = .int .u8 (c : Int) by unfold bv; rw [HT.out.2]] at hadd
        refine hadd.mono ?_
        intro e w5 hp
        have HP := Aside0.mk hp
        have he := hp.ret
        clear hp hadd
        subst he
        go_wp2_with fail
        go_roundg (256 - (c + 1))
        case measure => have := HI.out; omega
        case rel =>
          refine ⟨c + 1, by first | rfl | go_num, ⟨by have := HC.out; omega⟩, ⟨A ++ [t], HA.out.add HN.out.2.2.2.2 (List.mem_of_getElem? HT.out.1) HT.out.2, ?_⟩⟩
          have := HP.out
          rw [HB.out] at this
          exact HG.out.add HN.out.2.2.2.1 this
      · have h1 : slot (ks.map T.piv) (UInt8.ofNat c) = 0 := slot_no hmem
        rw [h1] at ck
        have ck2 : wr.cell? ⟨b, 50 + c, none⟩ = some (.int .u8 0) := ck
        have HM := Aside0.mk hmem
        clear ck h1 hmem hlt
        go_wp2_with fail
        go_roundg (256 - (c + 1))
        case measure => have := HI.out; omega
        case rel =>
          refine ⟨c + 1, by first | rfl | go_num, ⟨by have := HC.out; omega⟩, ⟨A, HA.out.skip (fun t ht e => HM.out (List.mem_map.2 ⟨t, ht, ?_⟩)), HG.out⟩⟩
          rw [← e, ofNat_toNat']
    · have i1 : ¬ ((c : Int) < 256) := by omega
      obtain rfl : c = 256 := by have := HI.out; omega
      go_wp2
      go_ret
      exact ⟨A, HA.out.perm HN.out.2.2.2.2, by rw [HB.out]; rfl, HG.out.new, HG.out.same, HG.out.size⟩
end Go.Proofs.YtjhmpcbpbdkddaaGreat.Te
namespace Go.Proofs.YtjhmpcbpbdkddaaGreat.Te
open Go.RowKit Go.Proofs.YtjhmpcbpbdkddaaGreat.Bs Go.Proofs.YtjhmpcbpbdkddaaGreatW.PrintWords Go.Proofs.YtjhmpcbpbdkddaaGreatW.PrintLast Go.Proofs.YtjhmpcbpbdkddaaGreatW.PrintMore
set_option linter.unusedVariables false
set_option linter.unusedSimpArgs false
set_option maxRecDepth 100000
def K.addF : K → Nat | .k4 => 76 | .k10 => 129 | .k16 => 139 | .k48 => 148
theorem m_addChild (k : K) (b : Nat) (w : World) : Sem.run Tryz.prog (method 267 k.pt (.pointer (some ⟨b, 0, none⟩)) "pub-tokenroad/pub/natsserver/server/stree.addChild") w = .ok (k.addF, .pointer (some ⟨b, 0, none⟩)) w := by cases k <;> kernel_rfl
theorem c_addChild (k : K) (x y z : Value) (w : World) : Sem.run Tryz.prog (callFunc k.addF #[x, y, z]) w = .ok (.enter k.addF #[x, y, z]) w := by cases k <;> rfl
def K.chF : K → Nat | .k4 => 121 | .k10 => 131 | .k16 => 140 | .k48 => 150
theorem m_children (k : K) (b : Nat) (w : World) : Sem.run Tryz.prog (method 267 k.pt (.pointer (some ⟨b, 0, none⟩)) "pub-tokenroad/pub/natsserver/server/stree.children") w = .ok (k.chF, .pointer (some ⟨b, 0, none⟩)) w := by cases k <;> kernel_rfl
theorem c_children (k : K) (x : Value) (w : World) : Sem.run Tryz.prog (callFunc k.chF #[x]) w = .ok (.enter k.chF #[x]) w := by cases k <;> rfl
def K.delF : K → Nat | .k4 => 122 | .k10 => 132 | .k16 => 141 | .k48 => 151
theorem m_deleteChild (k : K) (b : Nat) (w : World) : Sem.run Tryz.prog (method 267 k.pt (.pointer (some ⟨b, 0, none⟩)) "pub-tokenroad/pub/natsserver/server/stree.deleteChild") w = .ok (k.delF, .pointer (some ⟨b, 0, none⟩)) w := by cases k <;> kernel_rfl
theorem c_deleteChild (k : K) (x y : Value) (w : World) : Sem.run Tryz.prog (callFunc k.delF #[x, y]) w = .ok (.enter k.delF #[x, y]) w := by cases k <;> rfl
def K.findF : K → Nat | .k4 => 123 | .k10 => 133 | .k16 => 142 | .k48 => 152
theorem m_findChild (k : K) (b : Nat) (w : World) : Sem.run Tryz.prog (method 267 k.pt (.pointer (some ⟨b, 0, none⟩)) "pub-tokenroad/pub/natsserver/server/stree.findChild") w = .ok (k.findF, .pointer (some ⟨b, 0, none⟩)) w := by cases k <;> kernel_rfl
theorem c_findChild (k : K) (x y : Value) (w : World) : Sem.run Tryz.prog (callFunc k.findF #[x, y]) w = .ok (.enter k.findF #[x, y]) w := by cases k <;> rfl
def K.fullF : K → Nat | .k4 => 125 | .k10 => 135 | .k16 => 144 | .k48 => 154
theorem m_isFull (k : K) (b : Nat) (w : World) : Sem.run Tryz.prog (method 267 k.pt (.pointer (some ⟨b, 0, none⟩)) "pub-tokenroad/pub/natsserver/server/stree.isFull") w = .ok (k.fullF, .pointer (some ⟨b, 0, none⟩)) w := by cases k <;> kernel_rfl
theorem c_isFull (k : K) (x : Value) (w : World) : Sem.run Tryz.prog (callFunc k.fullF #[x]) w = .ok (.enter k.fullF #[x]) w := by cases k <;> rfl
def K.growF : K → Nat | .k4 => 124 | .k10 => 134 | .k16 => 143 | .k48 => 153
theorem m_grow (k : K) (b : Nat) (w : World) : Sem.run Tryz.prog (method 267 k.pt (.pointer (some ⟨b, 0, none⟩)) "pub-tokenroad/pub/natsserver/server/stree.grow") w = .ok (k.growF, .pointer (some ⟨b, 0, none⟩)) w := by cases k <;> kernel_rfl
theorem c_grow (k : K) (x : Value) (w : World) : Sem.run Tryz.prog (callFunc k.growF #[x]) w = .ok (.enter k.growF #[x]) w := by cases k <;> rfl
def K.shrF : K → Nat | .k4 => 128 | .k10 => 138 | .k16 => 147 | .k48 => 157
theorem m_shrink (k : K) (b : Nat) (w : World) : Sem.run Tryz.prog (method 267 k.pt (.pointer (some ⟨b, 0, none⟩)) "pub-tokenroad/pub/natsserver/server/stree.shrink") w = .ok (k.shrF, .pointer (some ⟨b, 0, none⟩)) w := by cases k <;> kernel_rfl
theorem c_shrink (k : K) (x : Value) (w : World) : Sem.run Tryz.prog (callFunc k.shrF #[x]) w = .ok (.enter k.shrF #[x]) w := by cases k <;> rfl
theorem m_isLeaf (k : K) (b : Nat) (w : World) : Sem.run Tryz.prog (method 267 k.pt (.pointer (some ⟨b, 0, none⟩)) "pub-tokenroad/pub/natsserver/server/stree.isLeaf") w = .ok (118, .pointer (some ⟨b, k.cap, none⟩)) w := by cases k <;> kernel_rfl
theorem m_base (k : K) (b : Nat) (w : World) : Sem.run Tryz.prog (method 267 k.pt (.pointer (some ⟨b, 0, none⟩)) "pub-tokenroad/pub/natsserver/server/stree.base") w = .ok (117, .pointer (some ⟨b, k.cap, none⟩)) w := by cases k <;> kernel_rfl
theorem m_setPrefix (k : K) (b : Nat) (w : World) : Sem.run Tryz.prog (method 267 k.pt (.pointer (some ⟨b, 0, none⟩)) "pub-tokenroad/pub/natsserver/server/stree.setPrefix") w = .ok (81, .pointer (some ⟨b, k.cap, none⟩)) w := by cases k <;> kernel_rfl
theorem m_path (k : K) (b : Nat) (w : World) : Sem.run Tryz.prog (method 267 k.pt (.pointer (some ⟨b, 0, none⟩)) "pub-tokenroad/pub/natsserver/server/stree.path") w = .ok (120, .pointer (some ⟨b, k.cap, none⟩)) w := by cases k <;> kernel_rfl
theorem na_findChild (k : K) (b : Nat) (w : World) : Sem.run Tryz.prog (nilAhead 267 k.pt (.pointer (some ⟨b, 0, none⟩)) "pub-tokenroad/pub/natsserver/server/stree.findChild") w = .ok (some false) w := by cases k <;> kernel_rfl
theorem na_addChild (k : K) (b : Nat) (w : World) : Sem.run Tryz.prog (nilAhead 267 k.pt (.pointer (some ⟨b, 0, none⟩)) "pub-tokenroad/pub/natsserver/server/stree.addChild") w = .ok (some false) w := by cases k <;> kernel_rfl
theorem na_setPrefix (k : K) (b : Nat) (w : World) : Sem.run Tryz.prog (nilAhead 267 k.pt (.pointer (some ⟨b, 0, none⟩)) "pub-tokenroad/pub/natsserver/server/stree.setPrefix") w = .ok (some false) w := by cases k <;> kernel_rfl
theorem l_isLeaf (b : Nat) (w : World) : Sem.run Tryz.prog (method 267 87 (.pointer (some ⟨b, 0, none⟩)) "pub-tokenroad/pub/natsserver/server/stree.isLeaf") w = .ok (110, .pointer (some ⟨b, 0, none⟩)) w := by kernel_rfl
theorem l_path (b : Nat) (w : World) : Sem.run Tryz.prog (method 267 87 (.pointer (some ⟨b, 0, none⟩)) "pub-tokenroad/pub/natsserver/server/stree.path") w = .ok (114, .pointer (some ⟨b, 0, none⟩)) w := by kernel_rfl
theorem isLeaf_meta {w : World} (v : Value) : Calls Tryz.prog 118 #[v] w fun e w' => e = .returned (.bool false) ∧ w' = w := by
  go_enter Tryz.func118, Tryz.ntmps118
  go_wp2
  go_ret
  exact ⟨rfl, rfl⟩
theorem isLeaf_leaf {w : World} (v : Value) : Calls Tryz.prog 110 #[v] w fun e w' => e = .returned (.bool true) ∧ w' = w := by
  go_enter Tryz.func110, Tryz.ntmps110
  go_wp2
  go_ret
  exact ⟨rfl, rfl⟩
theorem base_meta {w : World} (v : Value) : Calls Tryz.prog 117 #[v] w fun e w' => e = .returned v ∧ w' = w := by
  go_enter Tryz.func117, Tryz.ntmps117
  go_wp2
  go_ret
  exact ⟨rfl, rfl⟩
section
variable {w : World} {b : Nat} {k : K} {p : BL} {ks : List T}
theorem find_calls (h : NodeAt w b k p ks) (c : UInt8) : Calls Tryz.prog k.findF #[pa b, bv c] w (FindPost w b ks c) := by
  cases k
  · exact find4_calls h c
  · exact find10_calls h c
  · exact find16_calls h c
  · exact find48_calls h c
theorem full_calls (h : NodeAt w b k p ks) : Calls Tryz.prog k.fullF #[pa b] w fun e w' => e = .returned (.bool (decide (k.cap ≤ ks.length))) ∧ w' = w := by
  cases k
  · exact full4_calls h
  · exact full10_calls h
  · exact full16_calls h
  · exact full48_calls h
theorem add_calls (h : NodeAt w b k p ks) (hn : ks.length < k.cap) (t : T) (hc : t.piv ∉ ks.map T.piv) : Calls Tryz.prog k.addF #[pa b, bv t.piv, t.val] w (AddPost w b k p (ks ++ [t])) := by
  cases k
  · exact add4_calls h hn t
  · exact add10_calls h hn t
  · exact add16_calls h hn t
  · exact add48_calls h hn t hc
theorem children_calls (h : NodeAt w b k p ks) : Calls Tryz.prog k.chF #[pa b] w fun e w' => e = .returned (.slice (some ⟨b, 0, none⟩) ks.length k.cap) ∧ Same w w' := by
  cases k
  · exact children4_calls h
  · exact children10_calls h
  · exact children16_calls h
  · exact children48_calls h
def K.next : K → K | .k4 => .k10 | .k10 => .k16 | _ => .k48
theorem grow_calls (h : NodeAt w b k p ks) (hk : k ≠ .k48) (hl : ks.length = k.cap) (hnd : (ks.map T.piv).Nodup) : Calls Tryz.prog k.growF #[pa b] w (GrowPost w k.next p ks) := by
  cases k
  · exact grow4_calls h hl hnd
  · exact grow10_calls h hl hnd
  · exact grow16_calls h hl hnd
  · exact absurd rfl hk
theorem del_calls (h : NodeAt w b k p ks) {i : Nat} {t : T} (hi : ks[i]? = some t) (hnd : (ks.map T.piv).Nodup) : Calls Tryz.prog k.delF #[pa b, bv t.piv] w (DelPost w b k p ks t) := by
  cases k
  · exact del4_calls h hi hnd
  · exact del10_calls h hi hnd
  · exact del16_calls h hi hnd
  · exact del48_calls h hi hnd
/-- How a node shrinks. -/
inductive ShrPost (w : World) (k : K) (ks : List T) (e : Ending) (w' : World) : Prop where
  | stay (h : e = .returned .nilIface) (hw : w' = w) (hl : k.low ≤ ks.length)
  | one (hk : k = .k4) (t : T) (ht : ks = [t]) (h : e = .returned t.val) (hw : w' = w)
  | less (k' : K) (ks' : List T) (hp : ks'.Perm ks) (h : GrowPost w k' [] ks' e w') (hl : k'.low ≤ ks'.length) (hc : ks'.length ≤ k'.cap)
theorem shrink_calls (h : NodeAt w b k p ks) (hl : k.low ≤ ks.length + 1) (hnd : (ks.map T.piv).Nodup) : Calls Tryz.prog k.shrF #[pa b] w (ShrPost w k ks) := by
  cases k
  · refine (shrink4_calls h).mono ?_
    rintro e w' ⟨rfl, rfl⟩
    simp only [K.low] at hl
    match ks, hl with
    | [t], _ => exact .one rfl t rfl rfl rfl
    | t :: t2 :: r, _ => exact .stay rfl rfl (by simp [K.low])
  · simp only [K.low] at hl
    by_cases h4 : 4 < ks.length
    · refine (shrink10_no h h4).mono ?_
      rintro e w' ⟨rfl, rfl⟩
      exact .stay rfl rfl h4
    · refine (shrink10_calls h (by omega)).mono ?_
      intro e w' hp
      exact .less .k4 ks (.refl _) hp (by simp only [K.low]; omega) (by simp only [K.cap]; omega)
  · simp only [K.low] at hl
    by_cases h4 : 10 < ks.length
    · refine (shrink16_no h h4).mono ?_
      rintro e w' ⟨rfl, rfl⟩
      exact .stay rfl rfl h4
    · refine (shrink16_calls h (by omega)).mono ?_
      intro e w' hp
      exact .less .k10 ks (.refl _) hp (by simp only [K.low]; omega) (by simp only [K.cap]; omega)
  · simp only [K.low] at hl
    by_cases h4 : 16 < ks.length
    · refine (shrink48_no h h4).mono ?_
      rintro e w' ⟨rfl, rfl⟩
      exact .stay rfl rfl h4
    · refine (shrink48_calls h (by omega) hnd).mono ?_
      rintro e w' ⟨ks', hp, hg⟩
      have := hp.length_eq
      exact .less .k16 ks' hp hg (by simp only [K.low]; omega) (by simp only [K.cap]; omega)
end
/-! ### blocks of a list of trees -/
theorem idsL_perm {ks ks' : List T} (h : ks.Perm ks') : (idsL ks).Perm (idsL ks') := by
  induction h with
  | nil => exact .refl _
  | cons a _ ih => rw [idsL, idsL]; exact ih.append_left _
  | swap a b l =>
    simp only [idsL]
    rw [← List.append_assoc, ← List.append_assoc]
    exact List.perm_append_comm.append_right _
  | trans _ _ ih1 ih2 => exact ih1.trans ih2
theorem idsL_app (a b : List T) : idsL (a ++ b) = idsL a ++ idsL b := by
  induction a with
  | nil => rfl
  | cons t a ih => rw [List.cons_append, idsL, idsL, ih, List.append_assoc]
theorem idsL_set {N : Nat} : ∀ {ks : List T} {i : Nat} {t t' : T}, (idsL ks).Nodup → (∀ k ∈ idsL ks, k < N) → ks[i]? = some t → t'.ids.Nodup → (∀ k ∈ t'.ids, k ∈ t.ids ∨ N ≤ k) →
    (idsL (ks.set i t')).Nodup ∧ ∀ k ∈ idsL (ks.set i t'), k ∈ idsL ks ∨ N ≤ k
  | [], i, t, t', _, _, h, _, _ => by simp at h
  | a :: ks, 0, t, t', hn, hl, h, hn', hs => by
    simp only [List.getElem?_cons_zero, Option.some.injEq] at h
    subst h
    rw [idsL] at hn hl
    rw [List.nodup_append] at hn
    rw [List.set_cons_zero, idsL, idsL]
    refine ⟨?_, fun k hk => ?_⟩
    · rw [List.nodup_append]
      refine ⟨hn', hn.2.1, fun x hx y hy e => ?_⟩
      subst e
      rcases hs x hx with h | h
      · exact hn.2.2 x h x hy rfl
      · have := hl x (List.mem_append_right _ hy)
        omega
    · rcases List.mem_append.1 hk with h | h
      · rcases hs k h with h | h
        · exact .inl (List.mem_append_left _ h)
        · exact .inr h
      · exact .inl (List.mem_append_right _ h)
  | a :: ks, i + 1, t, t', hn, hl, h, hn', hs => by
    rw [List.getElem?_cons_succ] at h
    rw [idsL] at hn hl
    rw [List.nodup_append] at hn
    obtain ⟨h1, h2⟩ := idsL_set hn.2.1 (fun k hk => hl k (List.mem_append_right _ hk)) h hn' hs
    rw [List.set_cons_succ, idsL, idsL]
    refine ⟨?_, fun k hk => ?_⟩
    · rw [List.nodup_append]
      refine ⟨hn.1, h1, fun x hx y hy e => ?_⟩
      subst e
      rcases h2 x hy with h | h
      · exact hn.2.2 x hx x h rfl
      · have := hl x (List.mem_append_left _ hx)
        omega
    · rcases List.mem_append.1 hk with h | h
      · exact .inl (List.mem_append_left _ h)
      · rcases h2 k h with h | h
        · exact .inl (List.mem_append_right _ h)
        · exact .inr h
theorem ids_disj {ks : List T} (hn : (idsL ks).Nodup) {i : Nat} {t u : T} (hi : ks[i]? = some t) {j : Nat} (hj : ks[j]? = some u) (hij : i ≠ j) {x : Nat} (h1 : x ∈ t.ids) (h2 : x ∈ u.ids) : False := by
  induction ks generalizing i j with
  | nil => simp at hi
  | cons a ks ih =>
    rw [idsL, List.nodup_append] at hn
    cases i with
    | zero =>
      simp only [List.getElem?_cons_zero, Option.some.injEq] at hi
      subst hi
      cases j with
      | zero => exact hij rfl
      | succ j =>
        rw [List.getElem?_cons_succ] at hj
        exact hn.2.2 x h1 x (mem_idsL.2 ⟨u, List.mem_of_getElem? hj, h2⟩) rfl
    | succ i =>
      rw [List.getElem?_cons_succ] at hi
      cases j with
      | zero =>
        simp only [List.getElem?_cons_zero, Option.some.injEq] at hj
        subst hj
        exact hn.2.2 x h2 x (mem_idsL.2 ⟨t, List.mem_of_getElem? hi, h1⟩) rfl
      | succ j =>
        rw [List.getElem?_cons_succ] at hj
        exact ih hn.2.1 hi hj (fun e => hij (by rw [e]))
theorem kids_ents {ks : List T} (h : ∀ t ∈ ks, t.wf ∧ t.inner) : ks.length ≤ (entsL ks).length := by
  induction ks with
  | nil => simp [entsL]
  | cons t ks ih =>
    rw [entsL, List.length_append, List.length_cons]
    have h1 := ents_ne t (h t (by simp)).1
    have h2 : 0 < t.ents.length := List.length_pos_iff.2 h1
    have := ih (fun x hx => h x (List.mem_cons_of_mem _ hx))
    omega
theorem ents_kid {ks : List T} {i : Nat} {t : T} (h : ks[i]? = some t) : t.ents.length ≤ (entsL ks).length := by
  induction ks generalizing i with
  | nil => simp at h
  | cons a ks ih =>
    rw [entsL, List.length_append]
    cases i with
    | zero =>
      simp only [List.getElem?_cons_zero, Option.some.injEq] at h
      subst h
      omega
    | succ i =>
      rw [List.getElem?_cons_succ] at h
      have := ih h
      omega
theorem ents_len {b : Nat} {k : K} {p : BL} {ks : List T} : (T.node b k p ks).ents.length = (entsL ks).length := by rw [T.ents, List.length_map]
end Go.Proofs.YtjhmpcbpbdkddaaGreat.Te
