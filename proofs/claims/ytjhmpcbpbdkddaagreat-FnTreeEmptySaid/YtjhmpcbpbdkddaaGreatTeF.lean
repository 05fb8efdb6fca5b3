/- Trees of subjects: the methods of nodes of four, ten, sixteen: addChild, isFull, findChild. (Printed by gen_tee.py.) Trees of subjects: the methods of nodes of four, ten, sixteen: isFull, children, findChild. (Printed by gen_tef.py.) -/
import Derived.Test.YtjhmpcbpbdkddaaGreatTeD
namespace Go.Proofs.YtjhmpcbpbdkddaaGreat.Te
open Go.RowKit Go.Proofs.YtjhmpcbpbdkddaaGreat.Bs Go.Proofs.YtjhmpcbpbdkddaaGreatW.PrintWords Go.Proofs.YtjhmpcbpbdkddaaGreatW.PrintLast Go.Proofs.YtjhmpcbpbdkddaaGreatW.PrintMore
set_option linter.unusedVariables false
set_option linter.unusedSimpArgs false
set_option maxRecDepth 100000
/-- A node with one kid more. -/
structure AddPost (w : World) (b : Nat) (k : K) (p : BL) (ks : List T) (e : Ending) (w' : World) : Prop where
  ret : e = .returned (.tuple #[])
  nd : NodeAt w' b k p ks
  fr : Fr (fun x => x = b) w w'
  size : w'.heap.size = w.heap.size
theorem val_iface (t : T) : ∃ ti ai, t.val = .iface ti (.pointer ai) := by
  cases t <;> exact ⟨_, _, rfl⟩
theorem keys_len' (k : K) {ks : List T} (h : ks.length ≤ k.cap) : (k.keys (ks.map T.piv)).length = k.kn := keys_len (by simpa using h)
set_option maxHeartbeats 2000000 in
theorem add4_calls {w : World} {b : Nat} {p : BL} {ks : List T} (h : NodeAt w b .k4 p ks) (hn : ks.length < 4) (t : T) : Calls Tryz.prog 76 #[pa b, bv t.piv, t.val] w (AddPost w b .k4 p (ks ++ [t])) := by
  obtain ⟨n, hnn⟩ : ∃ n, n = ks.length := ⟨_, rfl⟩
  obtain ⟨ti, ai, hu⟩ := val_iface t
  obtain ⟨x, hx⟩ : ∃ x : Int, x = (t.piv.toNat : Int) := ⟨_, rfl⟩
  have H := Aside0.mk h
  have HN := Aside0.mk (And.intro hnn hn)
  have HU := Aside0.mk (And.intro hu hx)
  have c5 : w.cell? ⟨b, 5, none⟩ = some (.int .u16 (n : Int)) := by rw [hnn]; exact h.cn
  have z : ∀ o, w.frozen? ⟨b, o, none⟩ = false := h.free
  obtain ⟨v0, hv0⟩ : ∃ v, (kidsV .k4 ks)[n]? = some v := ⟨_, List.getElem?_eq_getElem (by rw [h.vl]; show n < 4; omega)⟩
  obtain ⟨q0, hq0⟩ : ∃ v, (K.k4.keys (ks.map T.piv))[n]? = some v := ⟨_, List.getElem?_eq_getElem (by rw [h.ql]; show n < 4; omega)⟩
  have cv : w.cell? ⟨b, n, none⟩ = some v0 := h.cv n hv0
  have ck : w.cell? ⟨b, 6 + n, none⟩ = some q0 := h.ck n hq0
  have n0 : (0 : Int) ≤ (n : Int) := by omega
  have n1 : (n : Int) < 4 := by omega
  have n2 : ¬ ((n : Int) ≥ 4) := by omega
  have n3 : IntKind.u16.wrap ((n : Int) + 1) = ((n + 1 : Nat) : Int) := by rw [IntKind.wrap_u16]; omega
  unfold pa bv
  rw [hu, ← hx]
  have HV := Aside0.mk hv0
  clear h hn hnn hu hx hv0 hq0
  go_enter Tryz.func76, Tryz.ntmps76
  go_wp2_with fail
  refine region_tail 10 (by kernel_rfl) (by kernel_rfl) (fun wd hwd => ?_)
  have HD1 : Aside0 (Nd wd b .k4 (kidsV .k4 ks) p ks.length (K.k4.keys (ks.map T.piv)) ∧ Fr (fun x => x = b) w wd ∧ wd.heap.size = w.heap.size) := ⟨by rw [hwd.out]; exact ⟨H.out.fr ((Fr.refl (fun _ => False) w).drew) (fun h => h), (Fr.refl _ w).drew, rfl⟩⟩
  replace c5 : wd.cell? ⟨b, 5, none⟩ = some (.int .u16 (n : Int)) := by rw [hwd.out]; exact c5
  replace cv : wd.cell? ⟨b, n, none⟩ = some v0 := by rw [hwd.out]; exact cv
  replace ck : wd.cell? ⟨b, 6 + n, none⟩ = some q0 := by rw [hwd.out]; exact ck
  replace z : ∀ o, wd.frozen? ⟨b, o, none⟩ = false := HD1.out.1.free
  clear hwd
  simp only [List.take_succ_cons, List.take_zero, List.drop_succ_cons, List.drop_zero]
  repeat still_step
  refine wpStill_nil ?_
  go_wp2_with fail
  have HE1 : Aside0 (Nd (wd.setCell ⟨b, 6 + n, none⟩ (.int .u8 x)) b .k4 (kidsV .k4 ks) p ks.length ((K.k4.keys (ks.map T.piv)).set n (.int .u8 x)) ∧ Fr (fun x => x = b) w (wd.setCell ⟨b, 6 + n, none⟩ (.int .u8 x)) ∧ (wd.setCell ⟨b, 6 + n, none⟩ (.int .u8 x)).heap.size = w.heap.size) := ⟨HD1.out.1.sk n (by show n < 4; omega) _, HD1.out.2.1.set (.inl rfl) _, by rw [setCell_size]; exact HD1.out.2.2⟩
  generalize wd.setCell ⟨b, 6 + n, none⟩ (.int .u8 x) = w1 at HE1 ⊢
  replace c5 : w1.cell? ⟨b, 5, none⟩ = some (.int .u16 (n : Int)) := by rw [HN.out.1]; exact HE1.out.1.cn
  replace cv : w1.cell? ⟨b, n, none⟩ = some v0 := HE1.out.1.cv n HV.out
  replace z : ∀ o, w1.frozen? ⟨b, o, none⟩ = false := HE1.out.1.free
  clear HD1 ck
  refine region_tail 10 (by kernel_rfl) (by kernel_rfl) (fun wd hwd => ?_)
  have HD1 : Aside0 (Nd wd b .k4 (kidsV .k4 ks) p ks.length ((K.k4.keys (ks.map T.piv)).set n (.int .u8 x)) ∧ Fr (fun x => x = b) w wd ∧ wd.heap.size = w.heap.size) := ⟨by rw [hwd.out]; exact ⟨HE1.out.1.fr ((Fr.refl (fun _ => False) w1).drew) (fun h => h), HE1.out.2.1.trans (Fr.refl (fun _ => False) w1).drew (fun _ _ h => h.elim), HE1.out.2.2⟩⟩
  replace c5 : wd.cell? ⟨b, 5, none⟩ = some (.int .u16 (n : Int)) := by rw [hwd.out]; exact c5
  replace cv : wd.cell? ⟨b, n, none⟩ = some v0 := by rw [hwd.out]; exact cv
  replace z : ∀ o, wd.frozen? ⟨b, o, none⟩ = false := HD1.out.1.free
  clear hwd HE1
  simp only [List.take_succ_cons, List.take_zero, List.drop_succ_cons, List.drop_zero]
  repeat still_step
  refine wpStill_nil ?_
  go_wp2_with fail
  have HE1 : Aside0 (Nd (wd.setCell ⟨b, n, none⟩ (.iface ti (.pointer ai))) b .k4 ((kidsV .k4 ks).set n (.iface ti (.pointer ai))) p ks.length ((K.k4.keys (ks.map T.piv)).set n (.int .u8 x)) ∧ Fr (fun x => x = b) w (wd.setCell ⟨b, n, none⟩ (.iface ti (.pointer ai))) ∧ (wd.setCell ⟨b, n, none⟩ (.iface ti (.pointer ai))).heap.size = w.heap.size) := ⟨HD1.out.1.sv n (by show n < 4; omega) _, HD1.out.2.1.set (.inl rfl) _, by rw [setCell_size]; exact HD1.out.2.2⟩
  generalize wd.setCell ⟨b, n, none⟩ (.iface ti (.pointer ai)) = w1 at HE1 ⊢
  replace c5 : w1.cell? ⟨b, 5, none⟩ = some (.int .u16 (n : Int)) := by rw [HN.out.1]; exact HE1.out.1.cn
  replace z : ∀ o, w1.frozen? ⟨b, o, none⟩ = false := HE1.out.1.free
  clear HD1 cv
  go_wp2_with fail
  refine bodyPost_end (results_none rfl _ _ _) rfl ?_
  refine ⟨rfl, ?_, HE1.out.2.1.set (.inl rfl) _, by rw [setCell_size]; exact HE1.out.2.2⟩
  have h1 := HE1.out.1.sn (n + 1)
  have e1 : (ks ++ [t]).length = n + 1 := by rw [List.length_append, ← HN.out.1]; rfl
  unfold NodeAt
  rw [e1, ← kidsV_add (by rw [← HN.out.1]; show n < 4; have := HN.out.2; omega), List.map_append, List.map_cons, List.map_nil, ← keys_add (by decide) (by rw [List.length_map, ← HN.out.1]; show n < 4; have := HN.out.2; omega), List.length_map, ← HN.out.1, HU.out.1]
  show Nd _ b _ _ p _ (List.set _ n (.int .u8 (t.piv.toNat : Int)))
  rw [← HU.out.2]
  exact h1
set_option maxHeartbeats 2000000 in
theorem add10_calls {w : World} {b : Nat} {p : BL} {ks : List T} (h : NodeAt w b .k10 p ks) (hn : ks.length < 10) (t : T) : Calls Tryz.prog 129 #[pa b, bv t.piv, t.val] w (AddPost w b .k10 p (ks ++ [t])) := by
  obtain ⟨n, hnn⟩ : ∃ n, n = ks.length := ⟨_, rfl⟩
  obtain ⟨ti, ai, hu⟩ := val_iface t
  obtain ⟨x, hx⟩ : ∃ x : Int, x = (t.piv.toNat : Int) := ⟨_, rfl⟩
  have H := Aside0.mk h
  have HN := Aside0.mk (And.intro hnn hn)
  have HU := Aside0.mk (And.intro hu hx)
  have c5 : w.cell? ⟨b, 11, none⟩ = some (.int .u16 (n : Int)) := by rw [hnn]; exact h.cn
  have z : ∀ o, w.frozen? ⟨b, o, none⟩ = false := h.free
  obtain ⟨v0, hv0⟩ : ∃ v, (kidsV .k10 ks)[n]? = some v := ⟨_, List.getElem?_eq_getElem (by rw [h.vl]; show n < 10; omega)⟩
  obtain ⟨q0, hq0⟩ : ∃ v, (K.k10.keys (ks.map T.piv))[n]? = some v := ⟨_, List.getElem?_eq_getElem (by rw [h.ql]; show n < 10; omega)⟩
  have cv : w.cell? ⟨b, n, none⟩ = some v0 := h.cv n hv0
  have ck : w.cell? ⟨b, 12 + n, none⟩ = some q0 := h.ck n hq0
  have n0 : (0 : Int) ≤ (n : Int) := by omega
  have n1 : (n : Int) < 10 := by omega
  have n2 : ¬ ((n : Int) ≥ 10) := by omega
  have n3 : IntKind.u16.wrap ((n : Int) + 1) = ((n + 1 : Nat) : Int) := by rw [IntKind.wrap_u16]; omega
  unfold pa bv
  rw [hu, ← hx]
  have HV := Aside0.mk hv0
  clear h hn hnn hu hx hv0 hq0
  go_enter Tryz.func129, Tryz.ntmps129
  go_wp2_with fail
  refine region_tail 10 (by kernel_rfl) (by kernel_rfl) (fun wd hwd => ?_)
  have HD1 : Aside0 (Nd wd b .k10 (kidsV .k10 ks) p ks.length (K.k10.keys (ks.map T.piv)) ∧ Fr (fun x => x = b) w wd ∧ wd.heap.size = w.heap.size) := ⟨by rw [hwd.out]; exact ⟨H.out.fr ((Fr.refl (fun _ => False) w).drew) (fun h => h), (Fr.refl _ w).drew, rfl⟩⟩
  replace c5 : wd.cell? ⟨b, 11, none⟩ = some (.int .u16 (n : Int)) := by rw [hwd.out]; exact c5
  replace cv : wd.cell? ⟨b, n, none⟩ = some v0 := by rw [hwd.out]; exact cv
  replace ck : wd.cell? ⟨b, 12 + n, none⟩ = some q0 := by rw [hwd.out]; exact ck
  replace z : ∀ o, wd.frozen? ⟨b, o, none⟩ = false := HD1.out.1.free
  clear hwd
  simp only [List.take_succ_cons, List.take_zero, List.drop_succ_cons, List.drop_zero]
  repeat still_step
  refine wpStill_nil ?_
  go_wp2_with fail
  have HE1 : Aside0 (Nd (wd.setCell ⟨b, 12 + n, none⟩ (.int .u8 x)) b .k10 (kidsV .k10 ks) p ks.length ((K.k10.keys (ks.map T.piv)).set n (.int .u8 x)) ∧ Fr (fun x => x = b) w (wd.setCell ⟨b, 12 + n, none⟩ (.int .u8 x)) ∧ (wd.setCell ⟨b, 12 + n, none⟩ (.int .u8 x)).heap.size = w.heap.size) := ⟨HD1.out.1.sk n (by show n < 10; omega) _, HD1.out.2.1.set (.inl rfl) _, by rw [setCell_size]; exact HD1.out.2.2⟩
  generalize wd.setCell ⟨b, 12 + n, none⟩ (.int .u8 x) = w1 at HE1 ⊢
  replace c5 : w1.cell? ⟨b, 11, none⟩ = some (.int .u16 (n : Int)) := by rw [HN.out.1]; exact HE1.out.1.cn
  replace cv : w1.cell? ⟨b, n, none⟩ = some v0 := HE1.out.1.cv n HV.out
  replace z : ∀ o, w1.frozen? ⟨b, o, none⟩ = false := HE1.out.1.free
  clear HD1 ck
  refine region_tail 10 (by kernel_rfl) (by kernel_rfl) (fun wd hwd => ?_)
  have HD1 : Aside0 (Nd wd b .k10 (kidsV .k10 ks) p ks.length ((K.k10.keys (ks.map T.piv)).set n (.int .u8 x)) ∧ Fr (fun x => x = b) w wd ∧ wd.heap.size = w.heap.size) := ⟨by rw [hwd.out]; exact ⟨HE1.out.1.fr ((Fr.refl (fun _ => False) w1).drew) (fun h => h), HE1.out.2.1.trans (Fr.refl (fun _ => False) w1).drew (fun _ _ h => h.elim), HE1.out.2.2⟩⟩
  replace c5 : wd.cell? ⟨b, 11, none⟩ = some (.int .u16 (n : Int)) := by rw [hwd.out]; exact c5
  replace cv : wd.cell? ⟨b, n, none⟩ = some v0 := by rw [hwd.out]; exact cv
  replace z : ∀ o, wd.frozen? ⟨b, o, none⟩ = false := HD1.out.1.free
  clear hwd HE1
  simp only [List.take_succ_cons, List.take_zero, List.drop_succ_cons, List.drop_zero]
  repeat still_step
  refine wpStill_nil ?_
  go_wp2_with fail
  have HE1 : Aside0 (Nd (wd.setCell ⟨b, n, none⟩ (.iface ti (.pointer ai))) b .k10 ((kidsV .k10 ks).set n (.iface ti (.pointer ai))) p ks.length ((K.k10.keys (ks.map T.piv)).set n (.int .u8 x)) ∧ Fr (fun x => x = b) w (wd.setCell ⟨b, n, none⟩ (.iface ti (.pointer ai))) ∧ (wd.setCell ⟨b, n, none⟩ (.iface ti (.pointer ai))).heap.size = w.heap.size) := ⟨HD1.out.1.sv n (by show n < 10; omega) _, HD1.out.2.1.set (.inl rfl) _, by rw [setCell_size]; exact HD1.out.2.2⟩
  generalize wd.setCell ⟨b, n, none⟩ (.iface ti (.pointer ai)) = w1 at HE1 ⊢
  replace c5 : w1.cell? ⟨b, 11, none⟩ = some (.int .u16 (n : Int)) := by rw [HN.out.1]; exact HE1.out.1.cn
  replace z : ∀ o, w1.frozen? ⟨b, o, none⟩ = false := HE1.out.1.free
  clear HD1 cv
  go_wp2_with fail
  refine bodyPost_end (results_none rfl _ _ _) rfl ?_
  refine ⟨rfl, ?_, HE1.out.2.1.set (.inl rfl) _, by rw [setCell_size]; exact HE1.out.2.2⟩
  have h1 := HE1.out.1.sn (n + 1)
  have e1 : (ks ++ [t]).length = n + 1 := by rw [List.length_append, ← HN.out.1]; rfl
  unfold NodeAt
  rw [e1, ← kidsV_add (by rw [← HN.out.1]; show n < 10; have := HN.out.2; omega), List.map_append, List.map_cons, List.map_nil, ← keys_add (by decide) (by rw [List.length_map, ← HN.out.1]; show n < 10; have := HN.out.2; omega), List.length_map, ← HN.out.1, HU.out.1]
  show Nd _ b _ _ p _ (List.set _ n (.int .u8 (t.piv.toNat : Int)))
  rw [← HU.out.2]
  exact h1
set_option maxHeartbeats 2000000 in
theorem add16_calls {w : World} {b : Nat} {p : BL} {ks : List T} (h : NodeAt w b .k16 p ks) (hn : ks.length < 16) (t : T) : Calls Tryz.prog 139 #[pa b, bv t.piv, t.val] w (AddPost w b .k16 p (ks ++ [t])) := by
  obtain ⟨n, hnn⟩ : ∃ n, n = ks.length := ⟨_, rfl⟩
  obtain ⟨ti, ai, hu⟩ := val_iface t
  obtain ⟨x, hx⟩ : ∃ x : Int, x = (t.piv.toNat : Int) := ⟨_, rfl⟩
  have H := Aside0.mk h
  have HN := Aside0.mk (And.intro hnn hn)
  have HU := Aside0.mk (And.intro hu hx)
  have c5 : w.cell? ⟨b, 17, none⟩ = some (.int .u16 (n : Int)) := by rw [hnn]; exact h.cn
  have z : ∀ o, w.frozen? ⟨b, o, none⟩ = false := h.free
  obtain ⟨v0, hv0⟩ : ∃ v, (kidsV .k16 ks)[n]? = some v := ⟨_, List.getElem?_eq_getElem (by rw [h.vl]; show n < 16; omega)⟩
  obtain ⟨q0, hq0⟩ : ∃ v, (K.k16.keys (ks.map T.piv))[n]? = some v := ⟨_, List.getElem?_eq_getElem (by rw [h.ql]; show n < 16; omega)⟩
  have cv : w.cell? ⟨b, n, none⟩ = some v0 := h.cv n hv0
  have ck : w.cell? ⟨b, 18 + n, none⟩ = some q0 := h.ck n hq0
  have n0 : (0 : Int) ≤ (n : Int) := by omega
  have n1 : (n : Int) < 16 := by omega
  have n2 : ¬ ((n : Int) ≥ 16) := by omega
  have n3 : IntKind.u16.wrap ((n : Int) + 1) = ((n + 1 : Nat) : Int) := by rw [IntKind.wrap_u16]; omega
  unfold pa bv
  rw [hu, ← hx]
  have HV := Aside0.mk hv0
  clear h hn hnn hu hx hv0 hq0
  go_enter Tryz.func139, Tryz.ntmps139
  go_wp2_with fail
  refine region_tail 10 (by kernel_rfl) (by kernel_rfl) (fun wd hwd => ?_)
  have HD1 : Aside0 (Nd wd b .k16 (kidsV .k16 ks) p ks.length (K.k16.keys (ks.map T.piv)) ∧ Fr (fun x => x = b) w wd ∧ wd.heap.size = w.heap.size) := ⟨by rw [hwd.out]; exact ⟨H.out.fr ((Fr.refl (fun _ => False) w).drew) (fun h => h), (Fr.refl _ w).drew, rfl⟩⟩
  replace c5 : wd.cell? ⟨b, 17, none⟩ = some (.int .u16 (n : Int)) := by rw [hwd.out]; exact c5
  replace cv : wd.cell? ⟨b, n, none⟩ = some v0 := by rw [hwd.out]; exact cv
  replace ck : wd.cell? ⟨b, 18 + n, none⟩ = some q0 := by rw [hwd.out]; exact ck
  replace z : ∀ o, wd.frozen? ⟨b, o, none⟩ = false := HD1.out.1.free
  clear hwd
  simp only [List.take_succ_cons, List.take_zero, List.drop_succ_cons, List.drop_zero]
  repeat still_step
  refine wpStill_nil ?_
  go_wp2_with fail
  have HE1 : Aside0 (Nd (wd.setCell ⟨b, 18 + n, none⟩ (.int .u8 x)) b .k16 (kidsV .k16 ks) p ks.length ((K.k16.keys (ks.map T.piv)).set n (.int .u8 x)) ∧ Fr (fun x => x = b) w (wd.setCell ⟨b, 18 + n, none⟩ (.int .u8 x)) ∧ (wd.setCell ⟨b, 18 + n, none⟩ (.int .u8 x)).heap.size = w.heap.size) := ⟨HD1.out.1.sk n (by show n < 16; omega) _, HD1.out.2.1.set (.inl rfl) _, by rw [setCell_size]; exact HD1.out.2.2⟩
  generalize wd.setCell ⟨b, 18 + n, none⟩ (.int .u8 x) = w1 at HE1 ⊢
  replace c5 : w1.cell? ⟨b, 17, none⟩ = some (.int .u16 (n : Int)) := by rw [HN.out.1]; exact HE1.out.1.cn
  replace cv : w1.cell? ⟨b, n, none⟩ = some v0 := HE1.out.1.cv n HV.out
  replace z : ∀ o, w1.frozen? ⟨b, o, none⟩ = false := HE1.out.1.free
  clear HD1 ck
  refine region_tail 10 (by kernel_rfl) (by kernel_rfl) (fun wd hwd => ?_)
  have HD1 : Aside0 (Nd wd b .k16 (kidsV .k16 ks) p ks.length ((K.k16.keys (ks.map T.piv)).set n (.int .u8 x)) ∧ Fr (fun x => x = b) w wd ∧ wd.heap.size = w.heap.size) := ⟨by rw [hwd.out]; exact ⟨HE1.out.1.fr ((Fr.refl (fun _ => False) w1).drew) (fun h => h), HE1.out.2.1.trans (Fr.refl (fun _ => False) w1).drew (fun _ _ h => h.elim), HE1.out.2.2⟩⟩
  replace c5 : wd.cell? ⟨b, 17, none⟩ = some (.int .u16 (n : Int)) := by rw [hwd.out]; exact c5
  replace cv : wd.cell? ⟨b, n, none⟩ = some v0 := by rw [hwd.out]; exact cv
  replace z : ∀ o, wd.frozen? ⟨b, o, none⟩ = false := HD1.out.1.free
  clear hwd HE1
  simp only [List.take_succ_cons, List.take_zero, List.drop_succ_cons, List.drop_zero]
  repeat still_step
  refine wpStill_nil ?_
  go_wp2_with fail
  have HE1 : Aside0 (Nd (wd.setCell ⟨b, n, none⟩ (.iface ti (.pointer ai))) b .k16 ((kidsV .k16 ks).set n (.iface ti (.pointer ai))) p ks.length ((K.k16.keys (ks.map T.piv)).set n (.int .u8 x)) ∧ Fr (fun x => x = b) w (wd.setCell ⟨b, n, none⟩ (.iface ti (.pointer ai))) ∧ (wd.setCell ⟨b, n, none⟩ (.iface ti (.pointer ai))).heap.size = w.heap.size) := ⟨HD1.out.1.sv n (by show n < 16; omega) _, HD1.out.2.1.set (.inl rfl) _, by rw [setCell_size]; exact HD1.out.2.2⟩
  generalize wd.setCell ⟨b, n, none⟩ (.iface ti (.pointer ai)) = w1 at HE1 ⊢
  replace c5 : w1.cell? ⟨b, 17, none⟩ = some (.int .u16 (n : Int)) := by rw [HN.out.1]; exact HE1.out.1.cn
  replace z : ∀ o, w1.frozen? ⟨b, o, none⟩ = false := HE1.out.1.free
  clear HD1 cv
  go_wp2_with fail
  refine bodyPost_end (results_none rfl _ _ _) rfl ?_
  refine ⟨rfl, ?_, HE1.out.2.1.set (.inl rfl) _, by rw [setCell_size]; exact HE1.out.2.2⟩
  have h1 := HE1.out.1.sn (n + 1)
  have e1 : (ks ++ [t]).length = n + 1 := by rw [List.length_append, ← HN.out.1]; rfl
  unfold NodeAt
  rw [e1, ← kidsV_add (by rw [← HN.out.1]; show n < 16; have := HN.out.2; omega), List.map_append, List.map_cons, List.map_nil, ← keys_add (by decide) (by rw [List.length_map, ← HN.out.1]; show n < 16; have := HN.out.2; omega), List.length_map, ← HN.out.1, HU.out.1]
  show Nd _ b _ _ p _ (List.set _ n (.int .u8 (t.piv.toNat : Int)))
  rw [← HU.out.2]
  exact h1
end Go.Proofs.YtjhmpcbpbdkddaaGreat.Te
namespace Go.Proofs.YtjhmpcbpbdkddaaGreat.Te
open Go.RowKit Go.Proofs.YtjhmpcbpbdkddaaGreat.Bs Go.Proofs.YtjhmpcbpbdkddaaGreatW.PrintWords Go.Proofs.YtjhmpcbpbdkddaaGreatW.PrintLast Go.Proofs.YtjhmpcbpbdkddaaGreatW.PrintMore
set_option linter.unusedVariables false
set_option linter.unusedSimpArgs false
set_option maxRecDepth 100000
/-- Where a kid with a key lies, or that there is none. -/
structure FindPost (w : World) (b : Nat) (ks : List T) (c : UInt8) (e : Ending) (w' : World) : Prop where
  ret : (∃ i t, ks[i]? = some t ∧ t.piv = c ∧ e = .returned (.pointer (some ⟨b, i, none⟩))) ∨ ((∀ t ∈ ks, t.piv ≠ c) ∧ e = .returned (.pointer none))
  same : Same w w'
theorem piv_eq_dec (a c : UInt8) : (((a.toNat : Int) == (c.toNat : Int)) = decide (a = c)) := by
  by_cases h : a = c
  · subst h; simp
  · have : (a.toNat : Int) ≠ (c.toNat : Int) := fun e => h (UInt8.toNat_inj.1 (by omega))
    simp [h, this]
theorem kids_cap {w : World} {b : Nat} {k : K} {p : BL} {ks : List T} (h : NodeAt w b k p ks) : ks.length ≤ k.cap := by
  have := h.vl
  simp [kidsV] at this
  omega
theorem full4_calls {w : World} {b : Nat} {p : BL} {ks : List T} (h : NodeAt w b .k4 p ks) : Calls Tryz.prog 125 #[pa b] w fun e w' => e = .returned (.bool (decide (4 ≤ ks.length))) ∧ w' = w := by
  obtain ⟨n, hn⟩ : ∃ n, n = ks.length := ⟨_, rfl⟩
  have c5 : w.cell? ⟨b, 5, none⟩ = some (.int .u16 (n : Int)) := by rw [hn]; exact h.cn
  have hd : decide ((n : Int) ≥ 4) = decide (4 ≤ n) := by
    rw [decide_eq_decide]; omega
  rw [← hn]
  unfold pa
  clear h hn
  by_cases hlt : 4 ≤ n
  · have hl2 : (n : Int) ≥ 4 := by omega
    have hl3 : ((4 : Int) ≤ (n : Int)) := by omega
    clear hd
    go_enter Tryz.func125, Tryz.ntmps125
    go_wp2
    go_ret
    exact ⟨by simp [hlt], rfl⟩
  · have hl2 : ¬ ((n : Int) ≥ 4) := by omega
    have hl3 : ¬ ((4 : Int) ≤ (n : Int)) := by omega
    clear hd
    go_enter Tryz.func125, Tryz.ntmps125
    go_wp2
    go_ret
    exact ⟨by simp [hlt], rfl⟩
set_option maxHeartbeats 2000000 in
theorem find4_calls {w : World} {b : Nat} {p : BL} {ks : List T} (h : NodeAt w b .k4 p ks) (c : UInt8) : Calls Tryz.prog 123 #[pa b, bv c] w (FindPost w b ks c) := by
  obtain ⟨n, hn⟩ : ∃ n, n = ks.length := ⟨_, rfl⟩
  have H := Aside0.mk h
  have HN : Aside0 (n = ks.length ∧ n ≤ 4) := ⟨hn, by rw [hn]; exact kids_cap h⟩
  have c5 : w.cell? ⟨b, 5, none⟩ = some (.int .u16 (n : Int)) := by rw [hn]; exact h.cn
  unfold pa bv
  obtain ⟨x, hx⟩ : ∃ x : Int, x = (c.toNat : Int) := ⟨_, rfl⟩
  rw [← hx]
  have HX := Aside0.mk hx
  clear h hn hx
  go_enter Tryz.func123, Tryz.ntmps123
  go_wp2_with fail
  go_loopg [5] n (fun kq v5 wr => ∃ (i : Nat), v5 = .int .u16 (i : Int) ∧ wr = w ∧ Aside0 (kq + i = n ∧ ∀ j t, j < i → ks[j]? = some t → t.piv ≠ c))
  case atStart => exact ⟨0, rfl, rfl, ⟨by omega, fun j t h => by omega⟩⟩
  case round =>
    obtain ⟨i, rfl, rfl, HI⟩ := hrel
    have i0 : (0 : Int) ≤ (i : Int) := by omega
    by_cases hlt : i < n
    · have i1 : (i : Int) < (n : Int) := by omega
      have i2 : (i : Int) < 4 := by have := HN.out; omega
      have i5 : IntKind.u16.wrap ((i : Int) + 1) = ((i + 1 : Nat) : Int) := by rw [IntKind.wrap_u16]; have := HN.out; omega
      obtain ⟨t, ht⟩ : ∃ t, ks[i]? = some t := ⟨_, List.getElem?_eq_getElem (by have := HN.out; omega)⟩
      have ck : wr.cell? ⟨b, 6 + i, none⟩ = some (bv t.piv) := H.out.ck i (keys_at (by decide) (by rw [List.getElem?_map, ht]; rfl))
      unfold bv at ck
      have hd := piv_eq_dec t.piv c
      rw [← HX.out] at hd
      have HT := Aside0.mk ht
      clear ht
      by_cases hp : t.piv = c
      · have HP := Aside0.mk hp
        rw [decide_eq_true hp] at hd
        clear hp
        go_wp2
        go_ret
        exact ⟨.inl ⟨i, t, HT.out, HP.out, rfl⟩, Fr.refl _ _⟩
      · have HP := Aside0.mk hp
        rw [decide_eq_false hp] at hd
        clear hp
        go_wp2
        go_roundg (n - (i + 1))
        case measure => have := HI.out.1; omega
        case rel =>
          refine ⟨i + 1, by first | rfl | go_num, rfl, ⟨by omega, fun j t' hj ht' => ?_⟩⟩
          rcases Nat.lt_or_ge j i with h | h
          · exact HI.out.2 j t' h ht'
          · obtain rfl : j = i := by omega
            rw [HT.out] at ht'
            injection ht' with ht'
            rw [← ht']
            exact HP.out
    · have i1 : ¬ ((i : Int) < (n : Int)) := by omega
      go_wp2
      go_ret
      refine ⟨.inr ⟨fun t ht => ?_, rfl⟩, Fr.refl _ _⟩
      obtain ⟨j, hj⟩ := List.getElem?_of_mem ht
      have := (List.getElem?_eq_some_iff.1 hj).1
      exact HI.out.2 j t (by have := HN.out; omega) hj
theorem full10_calls {w : World} {b : Nat} {p : BL} {ks : List T} (h : NodeAt w b .k10 p ks) : Calls Tryz.prog 135 #[pa b] w fun e w' => e = .returned (.bool (decide (10 ≤ ks.length))) ∧ w' = w := by
  obtain ⟨n, hn⟩ : ∃ n, n = ks.length := ⟨_, rfl⟩
  have c5 : w.cell? ⟨b, 11, none⟩ = some (.int .u16 (n : Int)) := by rw [hn]; exact h.cn
  have hd : decide ((n : Int) ≥ 10) = decide (10 ≤ n) := by
    rw [decide_eq_decide]; omega
  rw [← hn]
  unfold pa
  clear h hn
  by_cases hlt : 10 ≤ n
  · have hl2 : (n : Int) ≥ 10 := by omega
    have hl3 : ((10 : Int) ≤ (n : Int)) := by omega
    clear hd
    go_enter Tryz.func135, Tryz.ntmps135
    go_wp2
    go_ret
    exact ⟨by simp [hlt], rfl⟩
  · have hl2 : ¬ ((n : Int) ≥ 10) := by omega
    have hl3 : ¬ ((10 : Int) ≤ (n : Int)) := by omega
    clear hd
    go_enter Tryz.func135, Tryz.ntmps135
    go_wp2
    go_ret
    exact ⟨by simp [hlt], rfl⟩
set_option maxHeartbeats 2000000 in
theorem find10_calls {w : World} {b : Nat} {p : BL} {ks : List T} (h : NodeAt w b .k10 p ks) (c : UInt8) : Calls Tryz.prog 133 #[pa b, bv c] w (FindPost w b ks c) := by
  obtain ⟨n, hn⟩ : ∃ n, n = ks.length := ⟨_, rfl⟩
  have H := Aside0.mk h
  have HN : Aside0 (n = ks.length ∧ n ≤ 10) := ⟨hn, by rw [hn]; exact kids_cap h⟩
  have c5 : w.cell? ⟨b, 11, none⟩ = some (.int .u16 (n : Int)) := by rw [hn]; exact h.cn
  unfold pa bv
  obtain ⟨x, hx⟩ : ∃ x : Int, x = (c.toNat : Int) := ⟨_, rfl⟩
  rw [← hx]
  have HX := Aside0.mk hx
  clear h hn hx
  go_enter Tryz.func133, Tryz.ntmps133
  go_wp2_with fail
  go_loopg [5] n (fun kq v5 wr => ∃ (i : Nat), v5 = .int .u16 (i : Int) ∧ wr = w ∧ Aside0 (kq + i = n ∧ ∀ j t, j < i → ks[j]? = some t → t.piv ≠ c))
  case atStart => exact ⟨0, rfl, rfl, ⟨by omega, fun j t h => by omega⟩⟩
  case round =>
    obtain ⟨i, rfl, rfl, HI⟩ := hrel
    have i0 : (0 : Int) ≤ (i : Int) := by omega
    by_cases hlt : i < n
    · have i1 : (i : Int) < (n : Int) := by omega
      have i2 : (i : Int) < 10 := by have := HN.out; omega
      have i5 : IntKind.u16.wrap ((i : Int) + 1) = ((i + 1 : Nat) : Int) := by rw [IntKind.wrap_u16]; have := HN.out; omega
      obtain ⟨t, ht⟩ : ∃ t, ks[i]? = some t := ⟨_, List.getElem?_eq_getElem (by have := HN.out; omega)⟩
      have ck : wr.cell? ⟨b, 12 + i, none⟩ = some (bv t.piv) := H.out.ck i (keys_at (by decide) (by rw [List.getElem?_map, ht]; rfl))
      unfold bv at ck
      have hd := piv_eq_dec t.piv c
      rw [← HX.out] at hd
      have HT := Aside0.mk ht
      clear ht
      by_cases hp : t.piv = c
      · have HP := Aside0.mk hp
        rw [decide_eq_true hp] at hd
        clear hp
        go_wp2
        go_ret
        exact ⟨.inl ⟨i, t, HT.out, HP.out, rfl⟩, Fr.refl _ _⟩
      · have HP := Aside0.mk hp
        rw [decide_eq_false hp] at hd
        clear hp
        go_wp2
        go_roundg (n - (i + 1))
        case measure => have := HI.out.1; omega
        case rel =>
          refine ⟨i + 1, by first | rfl | go_num, rfl, ⟨by omega, fun j t' hj ht' => ?_⟩⟩
          rcases Nat.lt_or_ge j i with h | h
          · exact HI.out.2 j t' h ht'
          · obtain rfl : j = i := by omega
            rw [HT.out] at ht'
            injection ht' with ht'
            rw [← ht']
            exact HP.out
    · have i1 : ¬ ((i : Int) < (n : Int)) := by omega
      go_wp2
      go_ret
      refine ⟨.inr ⟨fun t ht => ?_, rfl⟩, Fr.refl _ _⟩
      obtain ⟨j, hj⟩ := List.getElem?_of_mem ht
      have := (List.getElem?_eq_some_iff.1 hj).1
      exact HI.out.2 j t (by have := HN.out; omega) hj
theorem full16_calls {w : World} {b : Nat} {p : BL} {ks : List T} (h : NodeAt w b .k16 p ks) : Calls Tryz.prog 144 #[pa b] w fun e w' => e = .returned (.bool (decide (16 ≤ ks.length))) ∧ w' = w := by
  obtain ⟨n, hn⟩ : ∃ n, n = ks.length := ⟨_, rfl⟩
  have c5 : w.cell? ⟨b, 17, none⟩ = some (.int .u16 (n : Int)) := by rw [hn]; exact h.cn
  have hd : decide ((n : Int) ≥ 16) = decide (16 ≤ n) := by
    rw [decide_eq_decide]; omega
  rw [← hn]
  unfold pa
  clear h hn
  by_cases hlt : 16 ≤ n
  · have hl2 : (n : Int) ≥ 16 := by omega
    have hl3 : ((16 : Int) ≤ (n : Int)) := by omega
    clear hd
    go_enter Tryz.func144, Tryz.ntmps144
    go_wp2
    go_ret
    exact ⟨by simp [hlt], rfl⟩
  · have hl2 : ¬ ((n : Int) ≥ 16) := by omega
    have hl3 : ¬ ((16 : Int) ≤ (n : Int)) := by omega
    clear hd
    go_enter Tryz.func144, Tryz.ntmps144
    go_wp2
    go_ret
    exact ⟨by simp [hlt], rfl⟩
set_option maxHeartbeats 2000000 in
theorem find16_calls {w : World} {b : Nat} {p : BL} {ks : List T} (h : NodeAt w b .k16 p ks) (c : UInt8) : Calls Tryz.prog 142 #[pa b, bv c] w (FindPost w b ks c) := by
  obtain ⟨n, hn⟩ : ∃ n, n = ks.length := ⟨_, rfl⟩
  have H := Aside0.mk h
  have HN : Aside0 (n = ks.length ∧ n ≤ 16) := ⟨hn, by rw [hn]; exact kids_cap h⟩
  have c5 : w.cell? ⟨b, 17, none⟩ = some (.int .u16 (n : Int)) := by rw [hn]; exact h.cn
  unfold pa bv
  obtain ⟨x, hx⟩ : ∃ x : Int, x = (c.toNat : Int) := ⟨_, rfl⟩
  rw [← hx]
  have HX := Aside0.mk hx
  clear h hn hx
  go_enter Tryz.func142, Tryz.ntmps142
  go_wp2_with fail
  go_loopg [5] n (fun kq v5 wr => ∃ (i : Nat), v5 = .int .u16 (i : Int) ∧ wr = w ∧ Aside0 (kq + i = n ∧ ∀ j t, j < i → ks[j]? = some t → t.piv ≠ c))
  case atStart => exact ⟨0, rfl, rfl, ⟨by omega, fun j t h => by omega⟩⟩
  case round =>
    obtain ⟨i, rfl, rfl, HI⟩ := hrel
    have i0 : (0 : Int) ≤ (i : Int) := by omega
    by_cases hlt : i < n
    · have i1 : (i : Int) < (n : Int) := by omega
      have i2 : (i : Int) < 16 := by have := HN.out; omega
      have i5 : IntKind.u16.wrap ((i : Int) + 1) = ((i + 1 : Nat) : Int) := by rw [IntKind.wrap_u16]; have := HN.out; omega
      obtain ⟨t, ht⟩ : ∃ t, ks[i]? = some t := ⟨_, List.getElem?_eq_getElem (by have := HN.out; omega)⟩
      have ck : wr.cell? ⟨b, 18 + i, none⟩ = some (bv t.piv) := H.out.ck i (keys_at (by decide) (by rw [List.getElem?_map, ht]; rfl))
      unfold bv at ck
      have hd := piv_eq_dec t.piv c
      rw [← HX.out] at hd
      have HT := Aside0.mk ht
      clear ht
      by_cases hp : t.piv = c
      · have HP := Aside0.mk hp
        rw [decide_eq_true hp] at hd
        clear hp
        go_wp2
        go_ret
        exact ⟨.inl ⟨i, t, HT.out, HP.out, rfl⟩, Fr.refl _ _⟩
      · have HP := Aside0.mk hp
        rw [decide_eq_false hp] at hd
        clear hp
        go_wp2
        go_roundg (n - (i + 1))
        case measure => have := HI.out.1; omega
        case rel =>
          refine ⟨i + 1, by first | rfl | go_num, rfl, ⟨by omega, fun j t' hj ht' => ?_⟩⟩
          rcases Nat.lt_or_ge j i with h | h
          · exact HI.out.2 j t' h ht'
          · obtain rfl : j = i := by omega
            rw [HT.out] at ht'
            injection ht' with ht'
            rw [← ht']
            exact HP.out
    · have i1 : ¬ ((i : Int) < (n : Int)) := by omega
      go_wp2
      go_ret
      refine ⟨.inr ⟨fun t ht => ?_, rfl⟩, Fr.refl _ _⟩
      obtain ⟨j, hj⟩ := List.getElem?_of_mem ht
      have := (List.getElem?_eq_some_iff.1 hj).1
      exact HI.out.2 j t (by have := HN.out; omega) hj
end Go.Proofs.YtjhmpcbpbdkddaaGreat.Te
