/- Trees of subjects: nodes of forty-eight: addChild, isFull, findChild. Trees of subjects: children of nodes; grow and shrink of nodes of four, ten, sixteen. (Printed by gen_tei.py.) Trees of subjects: nodes of forty-eight: deleteChild, shrink. -/
import Derived.Test.YtjhmpcbpbdkddaaGreatTeG
namespace Go.Proofs.YtjhmpcbpbdkddaaGreat.Te
open Go.RowKit Go.Proofs.YtjhmpcbpbdkddaaGreat.Bs Go.Proofs.YtjhmpcbpbdkddaaGreatW.PrintWords Go.Proofs.YtjhmpcbpbdkddaaGreatW.PrintLast Go.Proofs.YtjhmpcbpbdkddaaGreatW.PrintMore
set_option linter.unusedVariables false
set_option linter.unusedSimpArgs false
set_option maxRecDepth 100000
theorem slot_le (ps : BL) (c : UInt8) : slot ps c ≤ ps.length := by
  unfold slot
  split
  · rename_i h
    have := List.idxOf_lt_length_iff.2 h
    omega
  · omega
theorem slot_pos {ps : BL} {c : UInt8} (h : c ∈ ps) : slot ps c = ps.idxOf c + 1 ∧ ps[ps.idxOf c]? = some c := by
  unfold slot
  rw [if_pos h]
  refine ⟨rfl, ?_⟩
  have := List.idxOf_lt_length_iff.2 h
  rw [List.getElem?_eq_getElem this, List.getElem_idxOf]
set_option maxHeartbeats 4000000 in
theorem add48_calls {w : World} {b : Nat} {p : BL} {ks : List T} (h : NodeAt w b .k48 p ks) (hn : ks.length < 48) (t : T) (hc : t.piv ∉ ks.map T.piv) : Calls Tryz.prog 148 #[pa b, bv t.piv, t.val] w (AddPost w b .k48 p (ks ++ [t])) := by
  obtain ⟨n, hnn⟩ : ∃ n, n = ks.length := ⟨_, rfl⟩
  obtain ⟨ti, ai, hu⟩ := val_iface t
  obtain ⟨x, hx⟩ : ∃ x : Nat, x = t.piv.toNat := ⟨_, rfl⟩
  have H : Aside0 (NdS w w b .k48 (kidsV .k48 ks) p n (K.k48.keys (ks.map T.piv))) := ⟨⟨by rw [hnn]; exact h, Fr.refl _ _, rfl⟩⟩
  have HN := Aside0.mk (And.intro hnn hn)
  have HU := Aside0.mk (And.intro hu (And.intro hx hc))
  have hx2 : x < 256 := by rw [hx]; exact t.piv.toNat_lt
  have x0 : (0 : Int) ≤ (x : Int) := by omega
  have x1 : (x : Int) < 256 := by omega
  have c5 : w.cell? ⟨b, 49, none⟩ = some (.int .u16 (n : Int)) := H.out.nd.cn
  have z : ∀ o, w.frozen? ⟨b, o, none⟩ = false := h.free
  obtain ⟨v0, hv0⟩ : ∃ v, (kidsV .k48 ks)[n]? = some v := ⟨_, List.getElem?_eq_getElem (by rw [h.vl]; show n < 48; omega)⟩
  obtain ⟨q0, hq0⟩ : ∃ v, (K.k48.keys (ks.map T.piv))[x]? = some v := ⟨_, List.getElem?_eq_getElem (by rw [h.ql]; exact hx2)⟩
  have HQ := Aside0.mk hq0
  have HX2 := Aside0.mk hx2
  have cv : w.cell? ⟨b, n, none⟩ = some v0 := h.cv n hv0
  have n0 : (0 : Int) ≤ (n : Int) := by omega
  have n1 : (n : Int) < 48 := by omega
  have n2 : ¬ ((n : Int) ≥ 48) := by omega
  obtain ⟨m, hm⟩ : ∃ m, m = n + 1 := ⟨_, rfl⟩
  have n3 : IntKind.u16.wrap ((n : Int) + 1) = (m : Int) := by rw [IntKind.wrap_u16]; omega
  have n4 : IntKind.u8.wrap (m : Int) = (m : Int) := by rw [IntKind.wrap_u8]; omega
  have HM := Aside0.mk hm
  unfold pa bv
  rw [hu, ← hx]
  clear h hn hnn hu hx hv0 hq0 hx2 hc hm
  go_enter Tryz.func148, Tryz.ntmps148
  go_wp2_with fail
  refine region_tail 10 (by kernel_rfl) (by kernel_rfl) (fun wd hwd => ?_)
  have HDD : Aside0 (NdS w wd b .k48 (kidsV .k48 ks) p n (K.k48.keys (ks.map T.piv))) := ⟨by rw [hwd.out]; exact H.out.drew⟩
  replace c5 : wd.cell? ⟨b, 49, none⟩ = some (.int .u16 (n : Int)) := by rw [hwd.out]; exact c5
  replace cv : wd.cell? ⟨b, n, none⟩ = some v0 := by rw [hwd.out]; exact cv
  replace z : ∀ o, wd.frozen? ⟨b, o, none⟩ = false := HDD.out.nd.free
  clear hwd
  simp only [List.take_succ_cons, List.take_zero, List.drop_succ_cons, List.drop_zero]
  repeat still_step
  refine wpStill_nil ?_
  go_upto_region 3 with (fail)
  have HE1 : Aside0 (NdS w (wd.setCell ⟨b, n, none⟩ (.iface ti (.pointer ai))) b .k48 ((kidsV .k48 ks).set n (.iface ti (.pointer ai))) p n (K.k48.keys (ks.map T.piv))) := ⟨HDD.out.sv n (by show n < 48; omega) _⟩
  generalize wd.setCell ⟨b, n, none⟩ (.iface ti (.pointer ai)) = w1 at HE1 ⊢
  replace c5 : w1.cell? ⟨b, 49, none⟩ = some (.int .u16 (n : Int)) := HE1.out.nd.cn
  have ck : w1.cell? ⟨b, 50 + x, none⟩ = some q0 := HE1.out.nd.ck x HQ.out
  replace z : ∀ o, w1.frozen? ⟨b, o, none⟩ = false := HE1.out.nd.free
  clear HDD cv
  refine region_tail 12 (by kernel_rfl) (by kernel_rfl) (fun wd hwd => ?_)
  have HDD : Aside0 (NdS w wd b .k48 ((kidsV .k48 ks).set n (.iface ti (.pointer ai))) p n (K.k48.keys (ks.map T.piv))) := ⟨by rw [hwd.out]; exact HE1.out.drew⟩
  replace c5 : wd.cell? ⟨b, 49, none⟩ = some (.int .u16 (n : Int)) := by rw [hwd.out]; exact c5
  replace ck : wd.cell? ⟨b, 50 + x, none⟩ = some q0 := by rw [hwd.out]; exact ck
  replace z : ∀ o, wd.frozen? ⟨b, o, none⟩ = false := HDD.out.nd.free
  clear hwd HE1
  simp only [List.take_succ_cons, List.take_zero, List.drop_succ_cons, List.drop_zero]
  repeat still_step
  refine wpStill_nil ?_
  go_upto_region 4 with (fail)
  have HE2 : Aside0 (NdS w (wd.setCell ⟨b, 50 + x, none⟩ (.int .u8 (m : Int))) b .k48 ((kidsV .k48 ks).set n (.iface ti (.pointer ai))) p n ((K.k48.keys (ks.map T.piv)).set x (.int .u8 (m : Int)))) := ⟨HDD.out.sk x HX2.out _⟩
  generalize wd.setCell ⟨b, 50 + x, none⟩ (.int .u8 (m : Int)) = w1 at HE2 ⊢
  replace c5 : w1.cell? ⟨b, 49, none⟩ = some (.int .u16 (n : Int)) := HE2.out.nd.cn
  replace z : ∀ o, w1.frozen? ⟨b, o, none⟩ = false := HE2.out.nd.free
  clear HDD ck
  go_wp2_with fail
  refine bodyPost_end (results_none rfl _ _ _) rfl ?_
  have HF := HE2.out.sn m
  refine ⟨rfl, ?_, HF.fr, HF.size⟩
  have h1 := HF.nd
  have e1 : (ks ++ [t]).length = n + 1 := by rw [List.length_append, ← HN.out.1]; rfl
  have k1 := keys48_add HU.out.2.2
  rw [List.length_map, ← HN.out.1, ← HU.out.2.1, ← HM.out] at k1
  unfold NodeAt
  rw [e1, ← HM.out, ← kidsV_add (by rw [← HN.out.1]; show n < 48; have := HN.out.2; omega), List.map_append, List.map_cons, List.map_nil, ← k1, ← HN.out.1, HU.out.1]
  exact h1
theorem full48_calls {w : World} {b : Nat} {p : BL} {ks : List T} (h : NodeAt w b .k48 p ks) : Calls Tryz.prog 154 #[pa b] w fun e w' => e = .returned (.bool (decide (48 ≤ ks.length))) ∧ w' = w := by
  obtain ⟨n, hn⟩ : ∃ n, n = ks.length := ⟨_, rfl⟩
  have c5 : w.cell? ⟨b, 49, none⟩ = some (.int .u16 (n : Int)) := by rw [hn]; exact h.cn
  rw [← hn]
  unfold pa
  clear h hn
  by_cases hlt : 48 ≤ n
  · have hl2 : (n : Int) ≥ 48 := by omega
    have hl3 : ((48 : Int) ≤ (n : Int)) := by omega
    go_enter Tryz.func154, Tryz.ntmps154
    go_wp2
    go_ret
    exact ⟨by simp [hlt], rfl⟩
  · have hl2 : ¬ ((n : Int) ≥ 48) := by omega
    have hl3 : ¬ ((48 : Int) ≤ (n : Int)) := by omega
    go_enter Tryz.func154, Tryz.ntmps154
    go_wp2
    go_ret
    exact ⟨by simp [hlt], rfl⟩
theorem find48_calls {w : World} {b : Nat} {p : BL} {ks : List T} (h : NodeAt w b .k48 p ks) (c : UInt8) : Calls Tryz.prog 152 #[pa b, bv c] w (FindPost w b ks c) := by
  obtain ⟨x, hx⟩ : ∃ x : Nat, x = c.toNat := ⟨_, rfl⟩
  have hx2 : x < 256 := by rw [hx]; exact c.toNat_lt
  have x0 : (0 : Int) ≤ (x : Int) := by omega
  have x1 : (x : Int) < 256 := by omega
  have ck : w.cell? ⟨b, 50 + x, none⟩ = some (.int .u8 (slot (ks.map T.piv) c : Int)) := h.ck x (by rw [hx]; exact keys48_at c)
  have hsl := slot_le (ks.map T.piv) c
  have hcap := kids_cap h
  rw [List.length_map] at hsl
  have hcap2 : ks.length ≤ 48 := hcap
  unfold pa bv
  rw [← hx]
  by_cases hc : c ∈ ks.map T.piv
  · obtain ⟨h1, h2⟩ := slot_pos hc
    rw [h1] at ck hsl
    obtain ⟨i, hi⟩ : ∃ i, i = (ks.map T.piv).idxOf c := ⟨_, rfl⟩
    rw [← hi] at ck hsl h2
    have HI := Aside0.mk h2
    have n0 : (((i + 1 : Nat) : Int) == 0) = false := by simp; omega
    have n1 : IntKind.u8.wrap (((i + 1 : Nat) : Int) - 1) = (i : Int) := by rw [IntKind.wrap_u8]; omega
    have n2 : (0 : Int) ≤ (i : Int) := by omega
    have n3 : (i : Int) < 48 := by omega
    obtain ⟨m, hm⟩ : ∃ m, m = i + 1 := ⟨_, rfl⟩
    rw [← hm] at ck n0 n1
    clear hc h1 h2 hi hsl hcap hcap2 hx hx2 h hm
    go_enter Tryz.func152, Tryz.ntmps152
    go_wp2
    go_ret
    obtain ⟨t, ht, hp⟩ := Option.map_eq_some_iff.1 ((List.getElem?_map ..).symm.trans HI.out)
    exact ⟨.inl ⟨i, t, ht, hp, rfl⟩, Fr.refl _ _⟩
  · have h1 : slot (ks.map T.piv) c = 0 := by unfold slot; rw [if_neg hc]
    rw [h1] at ck
    have HC := Aside0.mk hc
    have ck2 : w.cell? ⟨b, 50 + x, none⟩ = some (.int .u8 0) := ck
    clear hc h1 hsl hcap hcap2 hx hx2 h ck
    go_enter Tryz.func152, Tryz.ntmps152
    go_wp2
    go_ret
    exact ⟨.inr ⟨fun t ht hp => HC.out (List.mem_map.2 ⟨t, ht, hp⟩), rfl⟩, Fr.refl _ _⟩
end Go.Proofs.YtjhmpcbpbdkddaaGreat.Te
namespace Go.Proofs.YtjhmpcbpbdkddaaGreat.Te
open Go.RowKit Go.Proofs.YtjhmpcbpbdkddaaGreat.Bs Go.Proofs.YtjhmpcbpbdkddaaGreatW.PrintWords Go.Proofs.YtjhmpcbpbdkddaaGreatW.PrintLast Go.Proofs.YtjhmpcbpbdkddaaGreatW.PrintMore
set_option linter.unusedVariables false
set_option linter.unusedSimpArgs false
set_option maxRecDepth 100000
/-- A new node with the same kids. -/
structure GrowPost (w : World) (k : K) (p : BL) (ks : List T) (e : Ending) (w' : World) : Prop where
  ret : e = .returned (.iface k.pt (pa w.heap.size))
  nd : NodeAt w' w.heap.size k p ks
  same : Same w w'
  size : w'.heap.size = w.heap.size + 1
/-- On the way. -/
structure GrowS (w0 w : World) (b : Nat) (k k' : K) (p p' : BL) (ks ks' : List T) : Prop where
  old : NodeAt w b k p ks
  new : NodeAt w w0.heap.size k' p' ks'
  same : Same w0 w
  size : w.heap.size = w0.heap.size + 1
theorem nodeAt_fr {F : Nat → Prop} {w w1 : World} {b : Nat} {k : K} {p : BL} {ks : List T} (h : NodeAt w b k p ks) (hf : Fr F w w1) (hb : ¬ F b) : NodeAt w1 b k p ks := Nd.fr h hf hb
theorem GrowS.add {w0 w w1 : World} {b : Nat} {k k' : K} {p p' : BL} {ks ks' ks2 : List T} {e : Ending} (h : GrowS w0 w b k k' p p' ks ks') (hb : b < w0.heap.size) (ha : AddPost w w0.heap.size k' p' ks2 e w1) : GrowS w0 w1 b k k' p p' ks ks2 :=
  ⟨nodeAt_fr h.old ha.fr (fun e => by omega), ha.nd, h.same.trans ha.fr (fun x hx e => by omega), by rw [ha.size]; exact h.size⟩
theorem take_add {α : Type} {l : List α} {i : Nat} {x : α} (h : l[i]? = some x) : l.take (i + 1) = l.take i ++ [x] := by
  rw [List.take_add_one, h]
  rfl
theorem piv_notin {ks : List T} (hn : (ks.map T.piv).Nodup) {i : Nat} {t : T} (h : ks[i]? = some t) : t.piv ∉ (ks.take i).map T.piv := by
  intro hm
  obtain ⟨t', ht', hp⟩ := List.mem_map.1 hm
  obtain ⟨j, hj⟩ := List.getElem?_of_mem ht'
  have hji : j < i := by
    have := (List.getElem?_eq_some_iff.1 hj).1
    rw [List.length_take] at this
    omega
  rw [List.getElem?_take_of_lt hji] at hj
  have q1 : (ks.map T.piv)[i]? = some t.piv := by rw [List.getElem?_map, h]; rfl
  have q2 : (ks.map T.piv)[j]? = some t.piv := by rw [List.getElem?_map, hj, Option.map_some, hp]
  have := (List.getElem?_inj (by have := (List.getElem?_eq_some_iff.1 h).1; simpa using this) hn).1 (q1.trans q2.symm)
  omega
theorem empty_CB (w : World) : CB w none 0 [] := CB.of_reads rfl (by omega) (fun h => by omega)
theorem children4_calls {w : World} {b : Nat} {p : BL} {ks : List T} (h : NodeAt w b .k4 p ks) : Calls Tryz.prog 121 #[pa b] w fun e w' => e = .returned (.slice (some ⟨b, 0, none⟩) ks.length 4) ∧ Same w w' := by
  obtain ⟨n, hn⟩ : ∃ n, n = ks.length := ⟨_, rfl⟩
  have c5 : w.cell? ⟨b, 5, none⟩ = some (.int .u16 (n : Int)) := by rw [hn]; exact h.cn
  have hc : n ≤ 4 := by rw [hn]; exact kids_cap h
  have n0 : (0 : Int) ≤ (n : Int) := by omega
  have n1 : (n : Int) ≤ 4 := by omega
  rw [← hn]
  unfold pa
  clear h hn hc
  go_enter Tryz.func121, Tryz.ntmps121
  go_wp2_with fail
  go_quiet (fail)
  go_wp2_with fail
  go_ret
  exact ⟨rfl, (Fr.refl _ w).drewN nq⟩
theorem children10_calls {w : World} {b : Nat} {p : BL} {ks : List T} (h : NodeAt w b .k10 p ks) : Calls Tryz.prog 131 #[pa b] w fun e w' => e = .returned (.slice (some ⟨b, 0, none⟩) ks.length 10) ∧ Same w w' := by
  obtain ⟨n, hn⟩ : ∃ n, n = ks.length := ⟨_, rfl⟩
  have c5 : w.cell? ⟨b, 11, none⟩ = some (.int .u16 (n : Int)) := by rw [hn]; exact h.cn
  have hc : n ≤ 10 := by rw [hn]; exact kids_cap h
  have n0 : (0 : Int) ≤ (n : Int) := by omega
  have n1 : (n : Int) ≤ 10 := by omega
  rw [← hn]
  unfold pa
  clear h hn hc
  go_enter Tryz.func131, Tryz.ntmps131
  go_wp2_with fail
  go_quiet (fail)
  go_wp2_with fail
  go_ret
  exact ⟨rfl, (Fr.refl _ w).drewN nq⟩
theorem children16_calls {w : World} {b : Nat} {p : BL} {ks : List T} (h : NodeAt w b .k16 p ks) : Calls Tryz.prog 140 #[pa b] w fun e w' => e = .returned (.slice (some ⟨b, 0, none⟩) ks.length 16) ∧ Same w w' := by
  obtain ⟨n, hn⟩ : ∃ n, n = ks.length := ⟨_, rfl⟩
  have c5 : w.cell? ⟨b, 17, none⟩ = some (.int .u16 (n : Int)) := by rw [hn]; exact h.cn
  have hc : n ≤ 16 := by rw [hn]; exact kids_cap h
  have n0 : (0 : Int) ≤ (n : Int) := by omega
  have n1 : (n : Int) ≤ 16 := by omega
  rw [← hn]
  unfold pa
  clear h hn hc
  go_enter Tryz.func140, Tryz.ntmps140
  go_wp2_with fail
  go_quiet (fail)
  go_wp2_with fail
  go_ret
  exact ⟨rfl, (Fr.refl _ w).drewN nq⟩
theorem children48_calls {w : World} {b : Nat} {p : BL} {ks : List T} (h : NodeAt w b .k48 p ks) : Calls Tryz.prog 150 #[pa b] w fun e w' => e = .returned (.slice (some ⟨b, 0, none⟩) ks.length 48) ∧ Same w w' := by
  obtain ⟨n, hn⟩ : ∃ n, n = ks.length := ⟨_, rfl⟩
  have c5 : w.cell? ⟨b, 49, none⟩ = some (.int .u16 (n : Int)) := by rw [hn]; exact h.cn
  have hc : n ≤ 48 := by rw [hn]; exact kids_cap h
  have n0 : (0 : Int) ≤ (n : Int) := by omega
  have n1 : (n : Int) ≤ 48 := by omega
  rw [← hn]
  unfold pa
  clear h hn hc
  go_enter Tryz.func150, Tryz.ntmps150
  go_wp2_with fail
  go_quiet (fail)
  go_wp2_with fail
  go_ret
  exact ⟨rfl, (Fr.refl _ w).drewN nq⟩
set_option maxHeartbeats 4000000 in
theorem grow4_calls {w : World} {b : Nat} {p : BL} {ks : List T} (h : NodeAt w b .k4 p ks) (hl : ks.length = 4) (hnd : (ks.map T.piv).Nodup) : Calls Tryz.prog 124 #[pa b] w (GrowPost w .k10 p ks) := by
  have HN : Aside0 (NodeAt w b .k4 p ks ∧ ks.length = 4 ∧ (ks.map T.piv).Nodup ∧ b < w.heap.size) := ⟨h, hl, hnd, h.lt⟩
  have cp : w.cell? ⟨b, 4, none⟩ = some (.string (str p)) := h.cp
  unfold pa
  clear h hl hnd
  go_enter Tryz.func124, Tryz.ntmps124
  go_upto_region 2 with (fail)
  generalize hw : w.alloc _ = w1
  have HG : Aside0 (GrowS w w1 b .k4 .k10 p [] ks []) := ⟨by
    rw [← hw]
    exact ⟨HN.out.1.alloc _, ⟨Blk.new w _ (kidsV .k10 [] ++ (.string (str []) :: .int .u16 ((0 : Nat) : Int) :: K.k10.keys [])), by decide +kernel, by decide +kernel⟩, (Fr.refl _ w).alloc _, by simp⟩⟩
  clear hw
  obtain ⟨nb, hnb⟩ : ∃ nb, nb = w.heap.size := ⟨_, rfl⟩
  rw [← hnb]
  have HB := Aside0.mk hnb
  replace cp : w1.cell? ⟨b, 4, none⟩ = some (.string (str p)) := HG.out.old.cp
  have cq : w1.cell? ⟨nb, 10, none⟩ = some (.string (str [])) := by rw [hnb]; exact HG.out.new.cp
  have zq : w1.frozen? ⟨nb, 10, none⟩ = false := by rw [hnb]; exact HG.out.new.free _
  clear hnb
  go_upto_region 3 with (fail)
  have HG2 : Aside0 (GrowS w (w1.setCell ⟨nb, 10, none⟩ (.string (str p))) b .k4 .k10 p p ks []) := ⟨by
    have hne : b ≠ nb := by have := HN.out.2.2.2; have := HB.out; omega
    exact ⟨HG.out.old.far (a := ⟨nb, 10, none⟩) hne _, by rw [HB.out]; exact HG.out.new.sp p, HG.out.same.trans ((Fr.refl (fun x => x = nb) w1).set (.inl rfl) _) (fun k hk e => by have := HB.out; omega), by rw [setCell_size]; exact HG.out.size⟩⟩
  generalize w1.setCell ⟨nb, 10, none⟩ (.string (str p)) = w2 at HG2 ⊢
  clear HG cp cq zq
  go_wp2_with fail
  go_loopg [4] 4 (fun kq v4 wr => ∃ (i : Nat), v4 = .int .i64 (i : Int) ∧ Aside0 (kq + i = 4) ∧ Aside0 (GrowS w wr b .k4 .k10 p p ks (ks.take i)))
  case atStart => exact ⟨0, rfl, ⟨by omega⟩, HG2⟩
  case round =>
    clear HG2
    obtain ⟨i, rfl, HI, HG⟩ := hrel
    have i0 : (0 : Int) ≤ (i : Int) := by omega
    by_cases hlt : i < 4
    · have i1 : (i : Int) < 4 := by omega
      have i5 : IntKind.i64.wrap ((i : Int) + 1) = ((i + 1 : Nat) : Int) := by rw [IntKind.wrap_i64]; omega
      obtain ⟨t, ht⟩ : ∃ t, ks[i]? = some t := ⟨_, List.getElem?_eq_getElem (by have := HN.out; omega)⟩
      have HT := Aside0.mk ht
      obtain ⟨ti, ai, hu⟩ := val_iface t
      have HU := Aside0.mk hu
      clear ht hu
      go_wp2_with fail
      refine region_tail 13 (by kernel_rfl) (by kernel_rfl) (fun wd hwd => ?_)
      have HGD : Aside0 (GrowS w wd b .k4 .k10 p p ks (ks.take i)) := ⟨by rw [hwd.out]; exact ⟨nodeAt_fr HG.out.old ((Fr.refl (fun _ => False) wr).drew) (fun h => h), nodeAt_fr HG.out.new ((Fr.refl (fun _ => False) wr).drew) (fun h => h), HG.out.same.trans (Fr.refl _ _).drew (fun _ _ h => h), HG.out.size⟩⟩
      clear hwd HG
      have cv : wd.cell? ⟨b, i, none⟩ = some (.iface ti (.pointer ai)) := by rw [← HU.out]; exact HGD.out.old.cv i (kidsV_at HT.out)
      have ck : wd.cell? ⟨b, 6 + i, none⟩ = some (.int .u8 (t.piv.toNat : Int)) := HGD.out.old.ck i (keys_at (by decide) (by rw [List.getElem?_map, HT.out]; rfl))
      simp only [List.take_succ_cons, List.take_zero, List.drop_succ_cons, List.drop_zero]
      repeat still_step
      refine wpStill_nil ?_
      go_wp2_with fail
      have hadd := add10_calls HGD.out.new (by rw [List.length_take]; omega) t
      rw [HU.out, ← HB.out] at hadd
      refine hadd.mono ?_
      intro e w5 hp
      have HP := Aside0.mk hp
      have he := hp.ret
      clear hp hadd
      subst he
      go_wp2_with fail
      go_roundg (4 - (i + 1))
      case measure => have := HI.out; omega
      case rel =>
        refine ⟨i + 1, by first | rfl | go_num, ⟨by omega⟩, ⟨?_⟩⟩
        rw [take_add HT.out]
        have := HP.out
        rw [HB.out] at this
        exact HGD.out.add HN.out.2.2.2 this
    · have i1 : ¬ ((i : Int) < 4) := by omega
      go_wp2
      go_ret
      have e : ks.take i = ks := List.take_of_length_le (by have := HN.out; omega)
      have := HG.out
      rw [e] at this
      exact ⟨by rw [HB.out]; rfl, this.new, this.same, this.size⟩
set_option maxHeartbeats 4000000 in
theorem grow10_calls {w : World} {b : Nat} {p : BL} {ks : List T} (h : NodeAt w b .k10 p ks) (hl : ks.length = 10) (hnd : (ks.map T.piv).Nodup) : Calls Tryz.prog 134 #[pa b] w (GrowPost w .k16 p ks) := by
  have HN : Aside0 (NodeAt w b .k10 p ks ∧ ks.length = 10 ∧ (ks.map T.piv).Nodup ∧ b < w.heap.size) := ⟨h, hl, hnd, h.lt⟩
  have cp : w.cell? ⟨b, 10, none⟩ = some (.string (str p)) := h.cp
  unfold pa
  clear h hl hnd
  go_enter Tryz.func134, Tryz.ntmps134
  go_upto_region 2 with (fail)
  generalize hw : w.alloc _ = w1
  have HG : Aside0 (GrowS w w1 b .k10 .k16 p [] ks []) := ⟨by
    rw [← hw]
    exact ⟨HN.out.1.alloc _, ⟨Blk.new w _ (kidsV .k16 [] ++ (.string (str []) :: .int .u16 ((0 : Nat) : Int) :: K.k16.keys [])), by decide +kernel, by decide +kernel⟩, (Fr.refl _ w).alloc _, by simp⟩⟩
  clear hw
  obtain ⟨nb, hnb⟩ : ∃ nb, nb = w.heap.size := ⟨_, rfl⟩
  rw [← hnb]
  have HB := Aside0.mk hnb
  replace cp : w1.cell? ⟨b, 10, none⟩ = some (.string (str p)) := HG.out.old.cp
  have cq : w1.cell? ⟨nb, 16, none⟩ = some (.string (str [])) := by rw [hnb]; exact HG.out.new.cp
  have zq : w1.frozen? ⟨nb, 16, none⟩ = false := by rw [hnb]; exact HG.out.new.free _
  clear hnb
  go_upto_region 3 with (fail)
  have HG2 : Aside0 (GrowS w (w1.setCell ⟨nb, 16, none⟩ (.string (str p))) b .k10 .k16 p p ks []) := ⟨by
    have hne : b ≠ nb := by have := HN.out.2.2.2; have := HB.out; omega
    exact ⟨HG.out.old.far (a := ⟨nb, 16, none⟩) hne _, by rw [HB.out]; exact HG.out.new.sp p, HG.out.same.trans ((Fr.refl (fun x => x = nb) w1).set (.inl rfl) _) (fun k hk e => by have := HB.out; omega), by rw [setCell_size]; exact HG.out.size⟩⟩
  generalize w1.setCell ⟨nb, 16, none⟩ (.string (str p)) = w2 at HG2 ⊢
  clear HG cp cq zq
  go_wp2_with fail
  go_loopg [4] 10 (fun kq v4 wr => ∃ (i : Nat), v4 = .int .i64 (i : Int) ∧ Aside0 (kq + i = 10) ∧ Aside0 (GrowS w wr b .k10 .k16 p p ks (ks.take i)))
  case atStart => exact ⟨0, rfl, ⟨by omega⟩, HG2⟩
  case round =>
    clear HG2
    obtain ⟨i, rfl, HI, HG⟩ := hrel
    have i0 : (0 : Int) ≤ (i : Int) := by omega
    by_cases hlt : i < 10
    · have i1 : (i : Int) < 10 := by omega
      have i5 : IntKind.i64.wrap ((i : Int) + 1) = ((i + 1 : Nat) : Int) := by rw [IntKind.wrap_i64]; omega
      obtain ⟨t, ht⟩ : ∃ t, ks[i]? = some t := ⟨_, List.getElem?_eq_getElem (by have := HN.out; omega)⟩
      have HT := Aside0.mk ht
      obtain ⟨ti, ai, hu⟩ := val_iface t
      have HU := Aside0.mk hu
      clear ht hu
      go_wp2_with fail
      refine region_tail 13 (by kernel_rfl) (by kernel_rfl) (fun wd hwd => ?_)
      have HGD : Aside0 (GrowS w wd b .k10 .k16 p p ks (ks.take i)) := ⟨by rw [hwd.out]; exact ⟨nodeAt_fr HG.out.old ((Fr.refl (fun _ => False) wr).drew) (fun h => h), nodeAt_fr HG.out.new ((Fr.refl (fun _ => False) wr).drew) (fun h => h), HG.out.same.trans (Fr.refl _ _).drew (fun _ _ h => h), HG.out.size⟩⟩
      clear hwd HG
      have cv : wd.cell? ⟨b, i, none⟩ = some (.iface ti (.pointer ai)) := by rw [← HU.out]; exact HGD.out.old.cv i (kidsV_at HT.out)
      have ck : wd.cell? ⟨b, 12 + i, none⟩ = some (.int .u8 (t.piv.toNat : Int)) := HGD.out.old.ck i (keys_at (by decide) (by rw [List.getElem?_map, HT.out]; rfl))
      simp only [List.take_succ_cons, List.take_zero, List.drop_succ_cons, List.drop_zero]
      repeat still_step
      refine wpStill_nil ?_
      go_wp2_with fail
      have hadd := add16_calls HGD.out.new (by rw [List.length_take]; omega) t
      rw [HU.out, ← HB.out] at hadd
      refine hadd.mono ?_
      intro e w5 hp
      have HP := Aside0.mk hp
      have he := hp.ret
      clear hp hadd
      subst he
      go_wp2_with fail
      go_roundg (10 - (i + 1))
      case measure => have := HI.out; omega
      case rel =>
        refine ⟨i + 1, by first | rfl | go_num, ⟨by omega⟩, ⟨?_⟩⟩
        rw [take_add HT.out]
        have := HP.out
        rw [HB.out] at this
        exact HGD.out.add HN.out.2.2.2 this
    · have i1 : ¬ ((i : Int) < 10) := by omega
      go_wp2
      go_ret
      have e : ks.take i = ks := List.take_of_length_le (by have := HN.out; omega)
      have := HG.out
      rw [e] at this
      exact ⟨by rw [HB.out]; rfl, this.new, this.same, this.size⟩
set_option maxHeartbeats 4000000 in
theorem grow16_calls {w : World} {b : Nat} {p : BL} {ks : List T} (h : NodeAt w b .k16 p ks) (hl : ks.length = 16) (hnd : (ks.map T.piv).Nodup) : Calls Tryz.prog 143 #[pa b] w (GrowPost w .k48 p ks) := by
  have HN : Aside0 (NodeAt w b .k16 p ks ∧ ks.length = 16 ∧ (ks.map T.piv).Nodup ∧ b < w.heap.size) := ⟨h, hl, hnd, h.lt⟩
  have cp : w.cell? ⟨b, 16, none⟩ = some (.string (str p)) := h.cp
  unfold pa
  clear h hl hnd
  go_enter Tryz.func143, Tryz.ntmps143
  go_upto_region 2 with (fail)
  generalize hw : w.alloc _ = w1
  have HG : Aside0 (GrowS w w1 b .k16 .k48 p [] ks []) := ⟨by
    rw [← hw]
    exact ⟨HN.out.1.alloc _, ⟨Blk.new w _ (kidsV .k48 [] ++ (.string (str []) :: .int .u16 ((0 : Nat) : Int) :: K.k48.keys [])), by decide +kernel, by decide +kernel⟩, (Fr.refl _ w).alloc _, by simp⟩⟩
  clear hw
  obtain ⟨nb, hnb⟩ : ∃ nb, nb = w.heap.size := ⟨_, rfl⟩
  rw [← hnb]
  have HB := Aside0.mk hnb
  replace cp : w1.cell? ⟨b, 16, none⟩ = some (.string (str p)) := HG.out.old.cp
  have cq : w1.cell? ⟨nb, 48, none⟩ = some (.string (str [])) := by rw [hnb]; exact HG.out.new.cp
  have zq : w1.frozen? ⟨nb, 48, none⟩ = false := by rw [hnb]; exact HG.out.new.free _
  clear hnb
  go_upto_region 3 with (fail)
  have HG2 : Aside0 (GrowS w (w1.setCell ⟨nb, 48, none⟩ (.string (str p))) b .k16 .k48 p p ks []) := ⟨by
    have hne : b ≠ nb := by have := HN.out.2.2.2; have := HB.out; omega
    exact ⟨HG.out.old.far (a := ⟨nb, 48, none⟩) hne _, by rw [HB.out]; exact HG.out.new.sp p, HG.out.same.trans ((Fr.refl (fun x => x = nb) w1).set (.inl rfl) _) (fun k hk e => by have := HB.out; omega), by rw [setCell_size]; exact HG.out.size⟩⟩
  generalize w1.setCell ⟨nb, 48, none⟩ (.string (str p)) = w2 at HG2 ⊢
  clear HG cp cq zq
  go_wp2_with fail
  go_loopg [4] 16 (fun kq v4 wr => ∃ (i : Nat), v4 = .int .i64 (i : Int) ∧ Aside0 (kq + i = 16) ∧ Aside0 (GrowS w wr b .k16 .k48 p p ks (ks.take i)))
  case atStart => exact ⟨0, rfl, ⟨by omega⟩, HG2⟩
  case round =>
    clear HG2
    obtain ⟨i, rfl, HI, HG⟩ := hrel
    have i0 : (0 : Int) ≤ (i : Int) := by omega
    by_cases hlt : i < 16
    · have i1 : (i : Int) < 16 := by omega
      have i5 : IntKind.i64.wrap ((i : Int) + 1) = ((i + 1 : Nat) : Int) := by rw [IntKind.wrap_i64]; omega
      obtain ⟨t, ht⟩ : ∃ t, ks[i]? = some t := ⟨_, List.getElem?_eq_getElem (by have := HN.out; omega)⟩
      have HT := Aside0.mk ht
      obtain ⟨ti, ai, hu⟩ := val_iface t
      have HU := Aside0.mk hu
      clear ht hu
      go_wp2_with fail
      refine region_tail 13 (by kernel_rfl) (by kernel_rfl) (fun wd hwd => ?_)
      have HGD : Aside0 (GrowS w wd b .k16 .k48 p p ks (ks.take i)) := ⟨by rw [hwd.out]; exact ⟨nodeAt_fr HG.out.old ((Fr.refl (fun _ => False) wr).drew) (fun h => h), nodeAt_fr HG.out.new ((Fr.refl (fun _ => False) wr).drew) (fun h => h), HG.out.same.trans (Fr.refl _ _).drew (fun _ _ h => h), HG.out.size⟩⟩
      clear hwd HG
      have cv : wd.cell? ⟨b, i, none⟩ = some (.iface ti (.pointer ai)) := by rw [← HU.out]; exact HGD.out.old.cv i (kidsV_at HT.out)
      have ck : wd.cell? ⟨b, 18 + i, none⟩ = some (.int .u8 (t.piv.toNat : Int)) := HGD.out.old.ck i (keys_at (by decide) (by rw [List.getElem?_map, HT.out]; rfl))
      simp only [List.take_succ_cons, List.take_zero, List.drop_succ_cons, List.drop_zero]
      repeat still_step
      refine wpStill_nil ?_
      go_wp2_with fail
      have hadd := add48_calls HGD.out.new (by rw [List.length_take]; omega) t (piv_notin HN.out.2.2.1 HT.out)
      rw [HU.out, ← HB.out] at hadd
      refine hadd.mono ?_
      intro e w5 hp
      have HP := Aside0.mk hp
      have he := hp.ret
      clear hp hadd
      subst he
      go_wp2_with fail
      go_roundg (16 - (i + 1))
      case measure => have := HI.out; omega
      case rel =>
        refine ⟨i + 1, by first | rfl | go_num, ⟨by omega⟩, ⟨?_⟩⟩
        rw [take_add HT.out]
        have := HP.out
        rw [HB.out] at this
        exact HGD.out.add HN.out.2.2.2 this
    · have i1 : ¬ ((i : Int) < 16) := by omega
      go_wp2
      go_ret
      have e : ks.take i = ks := List.take_of_length_le (by have := HN.out; omega)
      have := HG.out
      rw [e] at this
      exact ⟨by rw [HB.out]; rfl, this.new, this.same, this.size⟩
def onlyV : List T → Value
  | [t] => t.val
  | _ => .nilIface
/-- A node of one kid shrinks to that kid. -/
theorem shrink4_calls {w : World} {b : Nat} {p : BL} {ks : List T} (h : NodeAt w b .k4 p ks) : Calls Tryz.prog 128 #[pa b] w fun e w' => e = .returned (onlyV ks) ∧ w' = w := by
  obtain ⟨n, hn⟩ : ∃ n, n = ks.length := ⟨_, rfl⟩
  have c5 : w.cell? ⟨b, 5, none⟩ = some (.int .u16 (n : Int)) := by rw [hn]; exact h.cn
  unfold pa
  by_cases h1 : n = 1
  · obtain ⟨t, ht⟩ : ∃ t, ks = [t] := List.length_eq_one_iff.1 (by omega)
    obtain ⟨ti, ai, hu⟩ := val_iface t
    have cv : w.cell? ⟨b, 0, none⟩ = some (.iface ti (.pointer ai)) := by rw [← hu]; exact h.cv 0 (kidsV_at (by rw [ht]; rfl))
    have HU : Aside0 (onlyV ks = .iface ti (.pointer ai)) := ⟨by rw [ht, ← hu]; rfl⟩
    have hne : ((n : Int) == 1) = true := by simp [h1]
    clear h hu hn ht h1
    go_enter Tryz.func128, Tryz.ntmps128
    go_wp2
    go_ret
    exact ⟨congrArg Ending.returned HU.out.symm, rfl⟩
  · have hne : ((n : Int) == 1) = false := by simp; omega
    have HE : Aside0 (onlyV ks = .nilIface) := ⟨by
      match ks, hn with
      | [], _ => rfl
      | [t], hn => exact absurd hn h1
      | t :: t2 :: r, _ => rfl⟩
    clear h hn h1
    go_enter Tryz.func128, Tryz.ntmps128
    go_wp2
    go_ret
    exact ⟨congrArg Ending.returned HE.out.symm, rfl⟩
theorem shrink10_no {w : World} {b : Nat} {p : BL} {ks : List T} (h : NodeAt w b .k10 p ks) (hl : 4 < ks.length) : Calls Tryz.prog 138 #[pa b] w fun e w' => e = .returned .nilIface ∧ w' = w := by
  obtain ⟨n, hn⟩ : ∃ n, n = ks.length := ⟨_, rfl⟩
  have c5 : w.cell? ⟨b, 11, none⟩ = some (.int .u16 (n : Int)) := by rw [hn]; exact h.cn
  have n1 : 4 < (n : Int) := by omega
  have n2 : (n : Int) > 4 := by omega
  unfold pa
  clear h hn hl
  go_enter Tryz.func138, Tryz.ntmps138
  go_wp2
  go_ret
  exact ⟨rfl, rfl⟩
set_option maxHeartbeats 4000000 in
theorem shrink10_calls {w : World} {b : Nat} {p : BL} {ks : List T} (h : NodeAt w b .k10 p ks) (hl : ks.length ≤ 4) : Calls Tryz.prog 138 #[pa b] w (GrowPost w .k4 [] ks) := by
  obtain ⟨n, hn⟩ : ∃ n, n = ks.length := ⟨_, rfl⟩
  have HN : Aside0 (NodeAt w b .k10 p ks ∧ n = ks.length ∧ n ≤ 4 ∧ b < w.heap.size) := ⟨h, hn, by omega, h.lt⟩
  have c5 : w.cell? ⟨b, 11, none⟩ = some (.int .u16 (n : Int)) := by rw [hn]; exact h.cn
  have n1 : ¬ (4 < (n : Int)) := by omega
  have n2 : ¬ ((n : Int) > 4) := by omega
  unfold pa
  clear h hl hn
  go_enter Tryz.func138, Tryz.ntmps138
  go_wp2_with fail
  refine (newNode4_calls (empty_CB w)).mono ?_
  intro e w2 hp
  have HP := Aside0.mk hp
  have he := hp.ret
  clear hp
  subst he
  have HG2 : Aside0 (GrowS w w2 b .k10 .k4 p [] ks []) := ⟨⟨nodeAt_fr HN.out.1 HP.out.same (fun h => h), HP.out.nd, HP.out.same, HP.out.size⟩⟩
  obtain ⟨nb, hnb⟩ : ∃ nb, nb = w.heap.size := ⟨_, rfl⟩
  rw [← hnb]
  have HB := Aside0.mk hnb
  clear hnb c5 HP
  unfold pa
  go_wp2_with fail
  go_loopg [4] n (fun kq v4 wr => ∃ (i : Nat), v4 = .int .u16 (i : Int) ∧ Aside0 (kq + i = n) ∧ Aside0 (GrowS w wr b .k10 .k4 p [] ks (ks.take i)))
  case atStart => exact ⟨0, rfl, ⟨by omega⟩, HG2⟩
  case round =>
    clear HG2
    obtain ⟨i, rfl, HI, HG⟩ := hrel
    have i0 : (0 : Int) ≤ (i : Int) := by omega
    have c5 : wr.cell? ⟨b, 11, none⟩ = some (.int .u16 (n : Int)) := by rw [HN.out.2.1]; exact HG.out.old.cn
    by_cases hlt : i < n
    · have i1 : (i : Int) < (n : Int) := by omega
      have i2 : (i : Int) < 10 := by have := HN.out; omega
      have i5 : IntKind.u16.wrap ((i : Int) + 1) = ((i + 1 : Nat) : Int) := by rw [IntKind.wrap_u16]; have := HN.out; omega
      obtain ⟨t, ht⟩ : ∃ t, ks[i]? = some t := ⟨_, List.getElem?_eq_getElem (by have := HN.out; omega)⟩
      have HT := Aside0.mk ht
      obtain ⟨ti, ai, hu⟩ := val_iface t
      have HU := Aside0.mk hu
      clear ht hu
      go_wp2_with fail
      refine region_tail 13 (by kernel_rfl) (by kernel_rfl) (fun wd hwd => ?_)
      have HGD : Aside0 (GrowS w wd b .k10 .k4 p [] ks (ks.take i)) := ⟨by rw [hwd.out]; exact ⟨nodeAt_fr HG.out.old ((Fr.refl (fun _ => False) wr).drew) (fun h => h), nodeAt_fr HG.out.new ((Fr.refl (fun _ => False) wr).drew) (fun h => h), HG.out.same.trans (Fr.refl _ _).drew (fun _ _ h => h), HG.out.size⟩⟩
      clear hwd HG c5
      have cv : wd.cell? ⟨b, i, none⟩ = some (.iface ti (.pointer ai)) := by rw [← HU.out]; exact HGD.out.old.cv i (kidsV_at HT.out)
      have ck : wd.cell? ⟨b, 12 + i, none⟩ = some (.int .u8 (t.piv.toNat : Int)) := HGD.out.old.ck i (keys_at (by decide) (by rw [List.getElem?_map, HT.out]; rfl))
      simp only [List.take_succ_cons, List.take_zero, List.drop_succ_cons, List.drop_zero]
      repeat still_step
      refine wpStill_nil ?_
      go_wp2_with fail
      have hadd := add4_calls HGD.out.new (by rw [List.length_take]; have := HN.out; omega) t
      rw [HU.out, ← HB.out] at hadd
      refine hadd.mono ?_
      intro e w5 hp
      have HP := Aside0.mk hp
      have he := hp.ret
      clear hp hadd
      subst he
      go_wp2_with fail
      go_roundg (n - (i + 1))
      case measure => have := HI.out; omega
      case rel =>
        refine ⟨i + 1, by first | rfl | go_num, ⟨by omega⟩, ⟨?_⟩⟩
        rw [take_add HT.out]
        have := HP.out
        rw [HB.out] at this
        exact HGD.out.add HN.out.2.2.2 this
    · have i1 : ¬ ((i : Int) < (n : Int)) := by omega
      go_wp2
      go_ret
      have e : ks.take i = ks := List.take_of_length_le (by have := HN.out; omega)
      have := HG.out
      rw [e] at this
      exact ⟨by rw [HB.out]; rfl, this.new, this.same, this.size⟩
theorem shrink16_no {w : World} {b : Nat} {p : BL} {ks : List T} (h : NodeAt w b .k16 p ks) (hl : 10 < ks.length) : Calls Tryz.prog 147 #[pa b] w fun e w' => e = .returned .nilIface ∧ w' = w := by
  obtain ⟨n, hn⟩ : ∃ n, n = ks.length := ⟨_, rfl⟩
  have c5 : w.cell? ⟨b, 17, none⟩ = some (.int .u16 (n : Int)) := by rw [hn]; exact h.cn
  have n1 : 10 < (n : Int) := by omega
  have n2 : (n : Int) > 10 := by omega
  unfold pa
  clear h hn hl
  go_enter Tryz.func147, Tryz.ntmps147
  go_wp2
  go_ret
  exact ⟨rfl, rfl⟩
set_option maxHeartbeats 4000000 in
theorem shrink16_calls {w : World} {b : Nat} {p : BL} {ks : List T} (h : NodeAt w b .k16 p ks) (hl : ks.length ≤ 10) : Calls Tryz.prog 147 #[pa b] w (GrowPost w .k10 [] ks) := by
  obtain ⟨n, hn⟩ : ∃ n, n = ks.length := ⟨_, rfl⟩
  have HN : Aside0 (NodeAt w b .k16 p ks ∧ n = ks.length ∧ n ≤ 10 ∧ b < w.heap.size) := ⟨h, hn, by omega, h.lt⟩
  have c5 : w.cell? ⟨b, 17, none⟩ = some (.int .u16 (n : Int)) := by rw [hn]; exact h.cn
  have n1 : ¬ (10 < (n : Int)) := by omega
  have n2 : ¬ ((n : Int) > 10) := by omega
  unfold pa
  clear h hl hn
  go_enter Tryz.func147, Tryz.ntmps147
  go_wp2_with fail
  refine (newNode10_calls (empty_CB w)).mono ?_
  intro e w2 hp
  have HP := Aside0.mk hp
  have he := hp.ret
  clear hp
  subst he
  have HG2 : Aside0 (GrowS w w2 b .k16 .k10 p [] ks []) := ⟨⟨nodeAt_fr HN.out.1 HP.out.same (fun h => h), HP.out.nd, HP.out.same, HP.out.size⟩⟩
  obtain ⟨nb, hnb⟩ : ∃ nb, nb = w.heap.size := ⟨_, rfl⟩
  rw [← hnb]
  have HB := Aside0.mk hnb
  clear hnb c5 HP
  unfold pa
  go_wp2_with fail
  go_loopg [4] n (fun kq v4 wr => ∃ (i : Nat), v4 = .int .u16 (i : Int) ∧ Aside0 (kq + i = n) ∧ Aside0 (GrowS w wr b .k16 .k10 p [] ks (ks.take i)))
  case atStart => exact ⟨0, rfl, ⟨by omega⟩, HG2⟩
  case round =>
    clear HG2
    obtain ⟨i, rfl, HI, HG⟩ := hrel
    have i0 : (0 : Int) ≤ (i : Int) := by omega
    have c5 : wr.cell? ⟨b, 17, none⟩ = some (.int .u16 (n : Int)) := by rw [HN.out.2.1]; exact HG.out.old.cn
    by_cases hlt : i < n
    · have i1 : (i : Int) < (n : Int) := by omega
      have i2 : (i : Int) < 16 := by have := HN.out; omega
      have i5 : IntKind.u16.wrap ((i : Int) + 1) = ((i + 1 : Nat) : Int) := by rw [IntKind.wrap_u16]; have := HN.out; omega
      obtain ⟨t, ht⟩ : ∃ t, ks[i]? = some t := ⟨_, List.getElem?_eq_getElem (by have := HN.out; omega)⟩
      have HT := Aside0.mk ht
      obtain ⟨ti, ai, hu⟩ := val_iface t
      have HU := Aside0.mk hu
      clear ht hu
      go_wp2_with fail
      refine region_tail 13 (by kernel_rfl) (by kernel_rfl) (fun wd hwd => ?_)
      have HGD : Aside0 (GrowS w wd b .k16 .k10 p [] ks (ks.take i)) := ⟨by rw [hwd.out]; exact ⟨nodeAt_fr HG.out.old ((Fr.refl (fun _ => False) wr).drew) (fun h => h), nodeAt_fr HG.out.new ((Fr.refl (fun _ => False) wr).drew) (fun h => h), HG.out.same.trans (Fr.refl _ _).drew (fun _ _ h => h), HG.out.size⟩⟩
      clear hwd HG c5
      have cv : wd.cell? ⟨b, i, none⟩ = some (.iface ti (.pointer ai)) := by rw [← HU.out]; exact HGD.out.old.cv i (kidsV_at HT.out)
      have ck : wd.cell? ⟨b, 18 + i, none⟩ = some (.int .u8 (t.piv.toNat : Int)) := HGD.out.old.ck i (keys_at (by decide) (by rw [List.getElem?_map, HT.out]; rfl))
      simp only [List.take_succ_cons, List.take_zero, List.drop_succ_cons, List.drop_zero]
      repeat still_step
      refine wpStill_nil ?_
      go_wp2_with fail
      have hadd := add10_calls HGD.out.new (by rw [List.length_take]; have := HN.out; omega) t
      rw [HU.out, ← HB.out] at hadd
      refine hadd.mono ?_
      intro e w5 hp
      have HP := Aside0.mk hp
      have he := hp.ret
      clear hp hadd
      subst he
      go_wp2_with fail
      go_roundg (n - (i + 1))
      case measure => have := HI.out; omega
      case rel =>
        refine ⟨i + 1, by first | rfl | go_num, ⟨by omega⟩, ⟨?_⟩⟩
        rw [take_add HT.out]
        have := HP.out
        rw [HB.out] at this
        exact HGD.out.add HN.out.2.2.2 this
    · have i1 : ¬ ((i : Int) < (n : Int)) := by omega
      go_wp2
      go_ret
      have e : ks.take i = ks := List.take_of_length_le (by have := HN.out; omega)
      have := HG.out
      rw [e] at this
      exact ⟨by rw [HB.out]; rfl, this.new, this.same, this.size⟩
end Go.Proofs.YtjhmpcbpbdkddaaGreat.Te
namespace Go.Proofs.YtjhmpcbpbdkddaaGreat.Te
open Go.RowKit Go.Proofs.YtjhmpcbpbdkddaaGreat.Bs Go.Proofs.YtjhmpcbpbdkddaaGreatW.PrintWords Go.Proofs.YtjhmpcbpbdkddaaGreatW.PrintLast Go.Proofs.YtjhmpcbpbdkddaaGreatW.PrintMore
set_option linter.unusedVariables false
set_option linter.unusedSimpArgs false
set_option maxRecDepth 100000
def tab (f : UInt8 → Nat) : List Value := (List.range 256).map (fun c => .int .u8 (f (UInt8.ofNat c) : Int))
theorem tab_keys (ps : BL) : K.k48.keys ps = tab (slot ps) := rfl
theorem tab_len (f : UInt8 → Nat) : (tab f).length = 256 := by simp [tab]
theorem tab_at (f : UInt8 → Nat) {i : Nat} (h : i < 256) : (tab f)[i]? = some (.int .u8 (f (UInt8.ofNat i) : Int)) := by
  simp only [tab, List.getElem?_map, List.getElem?_range h, Option.map_some]
theorem ofNat_toNat' (c : UInt8) : UInt8.ofNat c.toNat = c := by simp
theorem toNat_ofNat' {i : Nat} (h : i < 256) : (UInt8.ofNat i).toNat = i := by
  simp [UInt8.toNat_ofNat']
  omega
theorem tab_set (f : UInt8 → Nat) (c : UInt8) (v : Nat) : (tab f).set c.toNat (.int .u8 (v : Int)) = tab (fun d => if d = c then v else f d) := by
  apply List.ext_getElem?
  intro i
  rw [List.getElem?_set]
  by_cases hi : i < 256
  · rw [tab_at _ hi, tab_at _ hi]
    by_cases h : c.toNat = i
    · subst h
      rw [if_pos rfl, if_pos (by rw [tab_len]; exact hi), ofNat_toNat', if_pos rfl]
    · rw [if_neg h, if_neg]
      rintro rfl
      exact h (toNat_ofNat' hi)
  · have : c.toNat ≠ i := by have := c.toNat_lt; omega
    rw [if_neg this, List.getElem?_eq_none (by rw [tab_len]; omega), List.getElem?_eq_none (by rw [tab_len]; omega)]
theorem slot_at {ps : BL} (hn : ps.Nodup) {j : Nat} {d : UInt8} (h : ps[j]? = some d) : slot ps d = j + 1 := by
  obtain ⟨h1, h2⟩ := slot_pos (List.mem_of_getElem? h)
  have := (List.getElem?_inj (by exact (List.getElem?_eq_some_iff.1 h).1) hn).1 (h.trans h2.symm)
  rw [h1, this]
theorem slot_no {ps : BL} {d : UInt8} (h : d ∉ ps) : slot ps d = 0 := by unfold slot; rw [if_neg h]
/-- The keys behind a kid's end. -/
theorem slot_del {ps : BL} (hn : ps.Nodup) {i m : Nat} {c pl : UInt8} (hm : ps.length = m + 1) (hi : ps[i]? = some c) (hl : ps[m]? = some pl) (d : UInt8) :
    slot ((ps.set i pl).take m) d = if d = c then 0 else if d = pl then i + 1 else slot ps d := by
  have hil : i < ps.length := (List.getElem?_eq_some_iff.1 hi).1
  have hn' : ((ps.set i pl).take m).Nodup ∧ c ∉ (ps.set i pl).take m := by
    have hk : ps = ps.take m ++ [pl] := by
      conv => lhs; rw [← List.take_append_drop m ps]
      rw [List.drop_eq_getElem_cons (by omega), List.drop_eq_nil_of_le (by omega)]
      congr 2
      exact (List.getElem?_eq_some_iff.1 hl).2
    have hlen : (ps.take m).length = m := by rw [List.length_take]; omega
    have h1 : (c :: (ps.set i pl).take m).Perm ps := by
      rcases Nat.lt_or_ge i m with h | h
      · have e1 : (ps.set i pl).take m = (ps.take m).set i pl := List.take_set
        have h2 : (ps.take m)[i]? = some c := by rw [List.getElem?_take_of_lt h]; exact hi
        rw [e1]
        conv => rhs; rw [hk]
        obtain ⟨l, hl0⟩ : ∃ l, l = ps.take m := ⟨_, rfl⟩
        rw [← hl0] at h2 ⊢
        obtain ⟨hil', hti⟩ := List.getElem?_eq_some_iff.1 h2
        have e3 : l = l.take i ++ c :: l.drop (i + 1) := by
          conv => lhs; rw [← List.take_append_drop i l]
          rw [List.drop_eq_getElem_cons hil', hti]
        have e4 : l.set i pl = l.take i ++ pl :: l.drop (i + 1) := List.set_eq_take_append_cons_drop ▸ (if_pos hil')
        rw [e4]
        conv => rhs; rw [e3]
        exact ((List.perm_middle (a := pl)).cons c).trans ((List.Perm.swap _ _ _).trans (((List.perm_middle (a := c)).symm.cons pl).trans (List.perm_append_singleton _ _).symm))
      · obtain rfl : i = m := by omega
        rw [hi] at hl
        injection hl with hl
        subst hl
        have e1 : (ps.set i c).take i = ps.take i := by
          rw [List.take_set]
          exact List.set_eq_of_length_le (by omega)
        rw [e1]
        conv => rhs; rw [hk]
        exact (List.perm_append_comm (l₁ := [c]))
    have := h1.nodup_iff.2 hn
    rw [List.nodup_cons] at this
    exact ⟨this.2, this.1⟩
  by_cases h1 : d = c
  · subst h1
    rw [if_pos rfl]
    exact slot_no hn'.2
  · rw [if_neg h1]
    by_cases h2 : d = pl
    · subst h2
      rw [if_pos rfl]
      have him : i < m := by
        rcases Nat.lt_or_ge i m with h | h
        · exact h
        · obtain rfl : i = m := by omega
          rw [hi] at hl
          injection hl with hl
          exact absurd hl.symm h1
      refine slot_at hn'.1 ?_
      rw [List.getElem?_take_of_lt him, List.getElem?_set_self hil]
    · rw [if_neg h2]
      by_cases h3 : d ∈ ps
      · obtain ⟨j, hj⟩ := List.getElem?_of_mem h3
        rw [slot_at hn hj]
        have hjl : j < ps.length := (List.getElem?_eq_some_iff.1 hj).1
        have hjm : j < m := by
          rcases Nat.lt_or_ge j m with h | h
          · exact h
          · obtain rfl : j = m := by omega
            rw [hj] at hl
            injection hl with hl
            exact absurd hl h2
        have hij : i ≠ j := by
          rintro rfl
          rw [hi] at hj
          injection hj with hj
          exact h1 hj.symm
        refine slot_at hn'.1 ?_
        rw [List.getElem?_take_of_lt hjm, List.getElem?_set_ne hij]
        exact hj
      · rw [slot_no h3]
        refine slot_no (fun hm' => ?_)
        rcases List.mem_or_eq_of_mem_set (List.mem_of_mem_take hm') with h | h
        · exact h3 h
        · exact h2 h
theorem keys48_del {ps : BL} (hn : ps.Nodup) {i m : Nat} {c pl : UInt8} (hm : ps.length = m + 1) (hi : ps[i]? = some c) (hl : ps[m]? = some pl) (him : i < m) :
    ((K.k48.keys ps).set pl.toNat (.int .u8 ((i + 1 : Nat) : Int))).set c.toNat (.int .u8 0) = K.k48.keys ((ps.set i pl).take m) := by
  rw [tab_keys, tab_keys, tab_set, show (Value.int .u8 0) = .int .u8 ((0 : Nat) : Int) from rfl, tab_set]
  congr 1
  funext d
  rw [slot_del hn hm hi hl]
theorem keys48_cut {ps : BL} (hn : ps.Nodup) {m : Nat} {c : UInt8} (hm : ps.length = m + 1) (hi : ps[m]? = some c) :
    (K.k48.keys ps).set c.toNat (.int .u8 0) = K.k48.keys (ps.take m) := by
  rw [tab_keys, tab_keys, show (Value.int .u8 0) = .int .u8 ((0 : Nat) : Int) from rfl, tab_set]
  congr 1
  funext d
  have e : ps.take m = (ps.set m c).take m := by
    rw [List.take_set]
    exact (List.set_eq_of_length_le (by rw [List.length_take]; omega)).symm
  rw [e, slot_del hn hm hi hi]
  by_cases h : d = c
  · rw [if_pos h, if_pos h]
  · rw [if_neg h, if_neg h, if_neg h]
end Go.Proofs.YtjhmpcbpbdkddaaGreat.Te
