/- A set's bytes: impl.SetEncode; bytes that are too few are refused: Decode, impl.SetDecode; the law FnSetCut. -/
import Derived.Test.YtebgaedalbdhaaaDoorSaS
import Derived.Deep.RegionHeld3
import Derived.Deep.QuietTactic
import Derived.BigQuiet
namespace Go.Proofs.YtebgaedalbdhaaaDoor.Av
open Go.RowKit Go.Proofs.YtebgaedalbdhaaaDoorW.PrintWords Go.Proofs.YtebgaedalbdhaaaDoorW.PrintLast Go.Proofs.YtebgaedalbdhaaaDoorW.PrintMore
set_option linter.unusedVariables false
set_option linter.unusedSimpArgs false

theorem held_set {w1 w2 w3 : World} {g : Nat} {c0 c1 c2 c3 : Option Value} (h : Fr (fun _ => False) w1 w2 ∧ w2.cell? ⟨g, 0, none⟩ = c0 ∧ w2.cell? ⟨g, 1, none⟩ = c1 ∧ w2.cell? ⟨g, 2, none⟩ = c2 ∧ w2.cell? ⟨g, 3, none⟩ = c3) (hg : g < w1.heap.size) (hf : Fr (fun _ => False) w2 w3) :
    Fr (fun _ => False) w1 w3 ∧ w3.cell? ⟨g, 0, none⟩ = c0 ∧ w3.cell? ⟨g, 1, none⟩ = c1 ∧ w3.cell? ⟨g, 2, none⟩ = c2 ∧ w3.cell? ⟨g, 3, none⟩ = c3 := by
  have e : ∀ j, w3.cell? ⟨g, j, none⟩ = w2.cell? ⟨g, j, none⟩ := fun j => World.cell?_of_block (hf.block g (Nat.lt_of_lt_of_le hg h.1.size) (fun h => h))
  exact ⟨h.1.trans hf (fun _ _ h => h), (e 0).trans h.2.1, (e 1).trans h.2.2.1, (e 2).trans h.2.2.2.1, (e 3).trans h.2.2.2.2⟩
/-- What SetEncode answers. -/
def SEncPost (w : World) (e : Ending) (w' : World) : Prop :=
  ∃ (G k m z : Nat), e = .returned (.tuple #[.slice (some ⟨G, 0, none⟩) (10 + 266 * k) (10 + 266 * m), .int .i64 (10 + (m : Int) * 266)]) ∧ Buf w' G (10 + 266 * m) ([.int .u8 22, .int .u8 2] ++ le4 m ++ le4 z) ∧ k ≤ m ∧ (m ≤ 1000 ∧ z < 65536) ∧ Fr (fun _ => False) w w'
set_option maxHeartbeats 8000000 in
set_option maxRecDepth 100000 in
theorem setEncode_calls {w : World} {A : Option Addr} {acts : List Deed} {c : Nat} (hA : ActsR w A acts) (hok : ∀ a ∈ acts, okDeed none a) (hn : acts.length ≤ 1000) :
    Calls Tryd.prog 26 #[.slice A acts.length c] w (SEncPost w) := by
  have HA := Aside0.mk hA
  have HOK := Aside0.mk hok
  clear hA hok
  go_enter Tryd.func26, Tryd.ntmps26
  go_wp2_with fail
  refine (made_calls HA.out HOK.out hn).mono ?_
  rintro e w1 ⟨g, t, sz, nd, rfl, h⟩
  have H := Aside0.mk h
  clear h
  obtain ⟨m, hm⟩ : ∃ m : Nat, nd = (m : Int) := ⟨nd.toNat, by have := H.out.rep.nd0; omega⟩
  subst hm
  have HM : Aside0 (t.flat.length ≤ m ∧ m ≤ 1000) := ⟨by have := H.out.len; have := H.out.rep.nd1; omega⟩
  have hm0 : (0 : Int) ≤ (m : Int) := by omega
  have hm1 : (m : Int) ≤ 1000000 := by have := HM.out; omega
  obtain ⟨z, hz⟩ : ∃ z : Nat, z = (plays [] acts).length := ⟨_, rfl⟩
  have HZ : Aside0 (sz = (z : Int)) := ⟨by rw [hz]; exact H.out.rep.sz⟩
  have hz0 : 0 ≤ sz := by have := HZ.out; omega
  have hz1 : sz ≤ 65535 := by have := HZ.out; have := plays_len acts []; simp at this; omega
  clear hz
  have c0 := H.out.is.set.c0
  have c1 := H.out.is.set.c1
  have c2 := H.out.is.set.c2
  have c3 := H.out.is.set.c3
  have HF0 := Aside0.mk (Fr.refl (fun _ => False) w1)
  go_upto_region 2 with (fail)
  go_region_held3 (fun w' => Fr (fun _ => False) w1 w' ∧ w'.cell? ⟨g, 0, none⟩ = some (.pointer (ptrA t.ptr)) ∧ w'.cell? ⟨g, 1, none⟩ = some (.int .i64 sz) ∧ w'.cell? ⟨g, 2, none⟩ = some (.int .i64 (m : Int)) ∧ w'.cell? ⟨g, 3, none⟩ = some (.bool false))
    (first | exact ⟨HF0.out.drew, c0, c1, c2, c3⟩ | exact held_set ⟨HF0.out.drew, c0, c1, c2, c3⟩ H.out.is.set.lt hf1 | exact held_set (by assumption) H.out.is.set.lt hf1 | exact held_set (by assumption) H.out.is.set.lt hf2)
    (first
      | (go_at_call 39; refine (encode_calls (t := t) (sz := sz) (H.out.is.lies.fr (show Fr (fun _ => False) w1 _ by first | exact HF0.out.drew | (have hh := hS; exact hh.1)) (fun _ _ h => h)) HM.out.1 HM.out.2 hz0 hz1).mono ?_; rintro e w3 ⟨G, rfl, hb, hf1⟩)
      | (go_at_call 40; refine (encLen_calls hm0 hm1).mono ?_; rintro e w4 ⟨rfl, hf2⟩))
  have HF : Aside0 (Fr (fun _ => False) w w4) := ⟨(H.out.fr.trans (HF0.out.drew.trans hf1 (fun _ _ h => h)) (fun _ _ h => h)).trans hf2 (fun _ _ h => h)⟩
  have HB := Aside0.mk (hb.fr hf2 (fun h => h))
  clear hb hf1 hf2 c0 c1 c2 c3
  go_wp2
  refine bodyPost_ret (results_list (rs := [.tmp 2, .tmp 3]) rfl (by simp) (.tmp (.tmp .nil))) rfl ?_
  exact ⟨G, t.flat.length, m, z, rfl, by rw [← HZ.out]; exact HB.out, HM.out.1, ⟨HM.out.2, by have := HZ.out; omega⟩, HF.out⟩
/-! ### reading -/
theorem or_low {a b : Nat} (ha : a < 256) : a ||| (b * 256) = a + b * 256 := by
  have h := Nat.two_pow_add_eq_or_of_lt (i := 8) (by simpa using ha) b
  rw [Nat.or_comm, Nat.mul_comm b 256, ← h]
  omega
theorem ofInt_u32 (a : Nat) (ha : a < 4294967296) : (BitVec.ofInt 32 (a : Int)).toNat = a := by
  rw [BitVec.ofInt_natCast, BitVec.toNat_ofNat]; exact Nat.mod_eq_of_lt (by omega)
theorem u32_or_nat (a b : Nat) (ha : a < 4294967296) (hb : b < 4294967296) : bits .or .u32 (a : Int) (b : Int) = ((a ||| b : Nat) : Int) := by
  have hx : a ||| b < 2 ^ 32 := Nat.or_lt_two_pow (by omega) (by omega)
  show IntKind.u32.wrap ((BitVec.ofInt 32 (a : Int) ||| BitVec.ofInt 32 (b : Int)).toNat : Int) = _
  rw [BitVec.toNat_or, ofInt_u32 a ha, ofInt_u32 b hb, IntKind.wrap_u32]
  omega
theorem u32_or0 (a : Nat) (ha : a < 4294967296) : bits .or .u32 (a : Int) 0 = (a : Int) := by
  have := u32_or_nat a 0 ha (by omega)
  rw [Nat.or_zero] at this
  exact this
theorem le4_or {x y : Nat} (h0 : x < 256) (h1 : y < 256) : bits .or .u32 (bits .or .u32 (bits .or .u32 (x : Int) ((y : Int) * 256)) 0) 0 = ((x + y * 256 : Nat) : Int) := by
  have e : ((y : Int) * 256) = ((y * 256 : Nat) : Int) := by omega
  rw [e, u32_or_nat x (y * 256) (by omega) (by omega), or_low h0, u32_or0 _ (by omega), u32_or0 _ (by omega)]
set_option maxHeartbeats 4000000 in
set_option maxRecDepth 100000 in
theorem u32_calls {W : World} {g o n c : Nat} {x y : Nat} (h0 : x < 256) (h1 : y < 256) (hn : 4 ≤ n) (c0 : W.cell? ⟨g, o, none⟩ = some (.int .u8 (x : Int))) (c1 : W.cell? ⟨g, o + 1, none⟩ = some (.int .u8 (y : Int))) (c2 : W.cell? ⟨g, o + 2, none⟩ = some (.int .u8 0)) (c3 : W.cell? ⟨g, o + 3, none⟩ = some (.int .u8 0)) :
    Calls Tryd.prog 64 #[.agg #[], .slice (some ⟨g, o, none⟩) n c] W fun e w' => e = .returned (.int .u32 ((x + y * 256 : Nat) : Int)) ∧ Fr (fun _ => False) W w' := by
  have hg := World.block_lt_of_cell? W _ c0
  have e : ∀ j, (W.alloc (.cells #[] 84)).cell? ⟨g, j, none⟩ = W.cell? ⟨g, j, none⟩ := fun j => World.cell?_of_block (Below.heap_alloc W _ g hg)
  have d0 := (e o).trans c0
  have d1 := (e (o + 1)).trans c1
  have d2 := (e (o + 2)).trans c2
  have d3 := (e (o + 3)).trans c3
  have HF := Aside0.mk ((Fr.refl (fun _ => False) W).alloc (.cells #[] 84))
  have HE := Aside0.mk (le4_or h0 h1)
  have m0 : (0 : Int) < (n : Int) := by omega
  have m1 : (1 : Int) < (n : Int) := by omega
  have m2 : (2 : Int) < (n : Int) := by omega
  have m3 : (3 : Int) < (n : Int) := by omega
  have m9 : 0 < n := by omega
  have x0 : (0 : Int) ≤ (x : Int) := by omega
  have x1 : (x : Int) < 256 := by omega
  have y0 : (0 : Int) ≤ (y : Int) := by omega
  have y1 : (y : Int) < 256 := by omega
  clear e hg c0 c1 c2 c3 h0 h1
  go_enter Tryd.func64, Tryd.ntmps64
  go_upto_region 1 with (fail)
  generalize W.alloc (.cells #[] 84) = W1 at *
  go_upto_region 2 with (fail)
  go_quiet (fail)
  go_wp2
  go_ret
  refine ⟨?_, HF.out.drewN nq⟩
  show Ending.returned (.int .u32 _) = _
  rw [HE.out]
def BadPost (w : World) (ty : TypeId) (a : Option Addr) (e : Ending) (w' : World) : Prop := e = .returned (.tuple #[.pointer none, .int .i64 (-1), .iface ty (.pointer a)]) ∧ Fr (fun _ => False) w w'
/-- Bytes that a set's begin with. -/
structure Hd (W : World) (g : Nat) (m z : Nat) : Prop where
  m1 : m < 65536
  z1 : z < 65536
  c0 : W.cell? ⟨g, 0, none⟩ = some (.int .u8 22)
  c1 : W.cell? ⟨g, 1, none⟩ = some (.int .u8 2)
  c2 : W.cell? ⟨g, 2, none⟩ = some (.int .u8 ((m % 256 : Nat) : Int))
  c3 : W.cell? ⟨g, 2 + 1, none⟩ = some (.int .u8 ((m / 256 : Nat) : Int))
  c4 : W.cell? ⟨g, 2 + 2, none⟩ = some (.int .u8 0)
  c5 : W.cell? ⟨g, 2 + 3, none⟩ = some (.int .u8 0)
  c6 : W.cell? ⟨g, 6, none⟩ = some (.int .u8 ((z % 256 : Nat) : Int))
  c7 : W.cell? ⟨g, 6 + 1, none⟩ = some (.int .u8 ((z / 256 : Nat) : Int))
  c8 : W.cell? ⟨g, 6 + 2, none⟩ = some (.int .u8 0)
  c9 : W.cell? ⟨g, 6 + 3, none⟩ = some (.int .u8 0)
theorem Hd.fr {W W' : World} {g m z : Nat} (h : Hd W g m z) (hf : Fr (fun _ => False) W W') : Hd W' g m z := by
  have hg := World.block_lt_of_cell? W _ h.c0
  have e : ∀ j, W'.cell? ⟨g, j, none⟩ = W.cell? ⟨g, j, none⟩ := fun j => World.cell?_of_block (hf.block g hg (fun h => h))
  exact ⟨h.m1, h.z1, (e _).trans h.c0, (e _).trans h.c1, (e _).trans h.c2, (e _).trans h.c3, (e _).trans h.c4, (e _).trans h.c5, (e _).trans h.c6, (e _).trans h.c7, (e _).trans h.c8, (e _).trans h.c9⟩
set_option maxHeartbeats 8000000 in
set_option maxRecDepth 100000 in
theorem dec2_calls {w : World} {g n c m z : Nat} {ty : TypeId} {a : Option Addr} (h : Hd w g m z) (hn : 10 ≤ n) (hc : n ≤ c) (hs : (n - 10) / 266 < m) (hm : n ≤ 1000000000) (hG : w.cell? ⟨2, 0, none⟩ = some (.iface ty (.pointer a))) :
    Calls Tryd.prog 59 #[.slice (some ⟨g, 0, none⟩) n c] w (BadPost w ty a) := by
  have H := Aside0.mk h
  have HG := Aside0.mk hG
  have HS := Aside0.mk hs
  have HF0 := Aside0.mk ((Fr.refl (fun _ => False) w).alloc (.cells #[] 84))
  have n1 : (10 : Int) ≤ (n : Int) := by omega
  have n2 : (n : Int) ≤ (c : Int) := by omega
  have n3 : (n : Int) ≤ 1000000000 := by omega
  have n4 : c ≠ 2 := by omega
  have n5 : c ≠ 6 := by omega
  have n6 : 2 ≤ n := by omega
  have n7 : 6 ≤ n := by omega
  have n8 : (2 : Int) ≤ (n : Int) := by omega
  have n9 : (6 : Int) ≤ (n : Int) := by omega
  clear h hG hs hn hc hm
  go_enter Tryd.func59, Tryd.ntmps59
  go_upto_region 3 with (fail)
  generalize w.alloc (.cells #[] 84) = w1 at *
  refine region_tail 4 (by kernel_rfl) (by kernel_rfl) (fun wd hwd => ?_)
  have HF1 : Aside0 (Fr (fun _ => False) w wd) := ⟨by rw [hwd.out]; exact HF0.out.drew⟩
  have H1 := Aside0.mk (H.out.fr HF1.out)
  clear hwd HF0
  simp only [List.take_succ_cons, List.take_zero, List.drop_succ_cons, List.drop_zero]
  repeat still_step
  refine wpStill_nil ?_
  go_wp2_with fail
  refine (u32_calls (x := m % 256) (y := m / 256) (Nat.mod_lt _ (by omega)) (by have := H1.out.m1; omega) (by omega) H1.out.c2 H1.out.c3 H1.out.c4 H1.out.c5).mono ?_
  rintro e w2 ⟨rfl, hf⟩
  rw [show m % 256 + m / 256 * 256 = m by omega]
  have HF2 := Aside0.mk (HF1.out.trans hf (fun _ _ h => h))
  have m0 : (0 : Int) ≤ (m : Int) := by omega
  have m1 : (m : Int) < 65536 := by have := H1.out.m1; omega
  have e1 : IntKind.i64.wrap (2 + 4) = 6 := by decide
  have e2 : IntKind.i64.wrap 6 = 6 := by decide
  clear hf HF1 H1
  go_upto_region 4 with (fail)
  refine region_tail 5 (by kernel_rfl) (by kernel_rfl) (fun wd hwd => ?_)
  have HF3 : Aside0 (Fr (fun _ => False) w wd) := ⟨by rw [hwd.out]; exact HF2.out.drew⟩
  have H3 := Aside0.mk (H.out.fr HF3.out)
  clear hwd HF2
  simp only [List.take_succ_cons, List.take_zero, List.drop_succ_cons, List.drop_zero]
  repeat still_step
  refine wpStill_nil ?_
  clear e1 e2
  go_wp2_with fail
  refine (u32_calls (x := z % 256) (y := z / 256) (Nat.mod_lt _ (by omega)) (by have := H3.out.z1; omega) (by omega) H3.out.c6 H3.out.c7 H3.out.c8 H3.out.c9).mono ?_
  rintro e w3 ⟨rfl, hf⟩
  have HF4 := Aside0.mk (HF3.out.trans hf (fun _ _ h => h))
  have hg4 : w3.cell? ⟨2, 0, none⟩ = some (.iface ty (.pointer a)) := (World.cell?_of_block (HF4.out.block 2 (World.block_lt_of_cell? w _ HG.out) (fun h => h))).trans HG.out
  have s1 : ((n : Int) - 10) / 266 < (m : Int) := by have := HS.out; omega
  obtain ⟨y, hy⟩ : ∃ y, y = z % 256 + z / 256 * 256 := ⟨_, rfl⟩
  rw [← hy]
  clear hf HF3 H3 hy
  go_upto_region 7 with (fail)
  go_quiet (fail)
  go_wp2
  refine bodyPost_ret (results_list (rs := [.tmp 2, .tmp 3, .tmp 4]) rfl (by simp) (.tmp (.tmp (.tmp .nil)))) rfl ?_
  exact ⟨rfl, HF4.out.drewN nq⟩
def BadDec (w : World) (ty : TypeId) (a : Option Addr) (e : Ending) (w' : World) : Prop := e = .returned (.tuple #[.pointer none, .int .i64 (-1), .iface ty (.pointer a)]) ∧ Fr (fun _ => False) w w'
set_option maxHeartbeats 8000000 in
set_option maxRecDepth 100000 in
theorem dec_short {w : World} {X : Option Addr} {n c : Nat} {ty : TypeId} {a : Option Addr} (hn : n < 10) (hG : w.cell? ⟨2, 0, none⟩ = some (.iface ty (.pointer a))) :
    Calls Tryd.prog 41 #[.slice X n c] w (BadPost w ty a) := by
  have HF := Aside0.mk (Fr.refl (fun _ => False) w)
  have n1 : (n : Int) < 10 := by omega
  clear hn
  go_enter Tryd.func41, Tryd.ntmps41
  go_upto_region 2 with (fail)
  go_quiet (fail)
  go_wp2
  refine bodyPost_ret (results_list (rs := [.tmp 2, .tmp 3, .tmp 4]) rfl (by simp) (.tmp (.tmp (.tmp .nil)))) rfl ?_
  exact ⟨rfl, HF.out.drewN nq⟩
set_option maxHeartbeats 8000000 in
set_option maxRecDepth 100000 in
theorem dec_bad {w : World} {g n c m z : Nat} {ty : TypeId} {a : Option Addr} (h : Hd w g m z) (hn : 10 ≤ n) (hc : n ≤ c) (hs : (n - 10) / 266 < m) (hm : n ≤ 1000000000) (hG : w.cell? ⟨2, 0, none⟩ = some (.iface ty (.pointer a))) :
    Calls Tryd.prog 41 #[.slice (some ⟨g, 0, none⟩) n c] w (BadPost w ty a) := by
  have D2 := Aside0.mk (dec2_calls h hn hc hs hm hG)
  have f0 := h.c0
  have f1 := h.c1
  have n1 : (10 : Int) ≤ (n : Int) := by omega
  have n2 : (0 : Int) < (n : Int) := by omega
  have n3 : (1 : Int) < (n : Int) := by omega
  have n4 : 0 < n := by omega
  clear h hn hc hs hm hG
  go_enter Tryd.func41, Tryd.ntmps41
  go_wp2_with fail
  refine D2.out.mono ?_
  rintro e w' ⟨rfl, hf⟩
  have HF := Aside0.mk hf
  clear hf f0 f1
  go_wp2
  refine bodyPost_ret (results_list (rs := [.tmp 2, .tmp 3, .tmp 4]) rfl (by simp) (.tmp (.tmp (.tmp .nil)))) rfl ?_
  exact ⟨rfl, HF.out⟩
end Go.Proofs.YtebgaedalbdhaaaDoor.Av
