/- A walk of Go functions (plain functions of theirs, and that the machine's calls do what these say), written by a program of this session's. -/
import Derived.Test.YtnkioieocjgekaaGFnHeaderRemovePrefixx0
import Derived.Test.YtnkioieocjgekaaGFnHeaderRemovePrefixx3
namespace Go.Proofs.Ytnkioieocjgekaa.GFnHeaderRemovePrefix
open Go.RowKit Go.Proofs.YtnkioieocjgekaaW.PrintWords Go.Proofs.YtnkioieocjgekaaW.PrintLast Go.Proofs.YtnkioieocjgekaaW.PrintMore
attribute [local go_sem] max2_int min2_int max_two min_two max_three min_three max_four min_four   -- for this text's walks alone
set_option linter.unusedVariables false
set_option linter.unusedSimpArgs false

/-! ### server_stringToBytes: function 30 (by hand) -/
def server_stringToBytes.f (a0 : ByteArray) : Option (List Int) := if a0.size ≤ 140737488351232 then some (bytesOf a0) else none
set_option maxHeartbeats 8000000 in
set_option maxRecDepth 100000 in
theorem server_stringToBytes.calls (a0 : ByteArray) (r : List Int) (w : World) (h : server_stringToBytes.f a0 = some r) :
    Calls Try.prog 30 #[.string a0] w fun e w' => ∃ v0_, e = .returned v0_ ∧ Kd.V (Kd.int .u8) 5 w' w.heap.size (fun k_ => w.heap.size ≤ k_) v0_ r ∧ Below w.heap.size w w' := by
  by_cases hl : a0.size ≤ 140737488351232
  · rw [server_stringToBytes.f, if_pos hl] at h
    obtain rfl := Option.some.inj h
    obtain ⟨c, w1, hrun, hv, -, hb⟩ := Hg.conv_V (w := w) a0 hl
    have HV := Aside0.mk hv
    have HB := Aside0.mk hb
    clear h hl hv hb
    go_enter Try.func30, Try.ntmps30
    go_wp2
    go_ret
    exact ⟨_, rfl, HV.out, HB.out⟩
  · rw [server_stringToBytes.f, if_neg hl] at h
    cases h

/-! ### server_getHeaderKeyIndex: function 29 -/
mutual
def server_getHeaderKeyIndex.l0 : Nat → List Int → List Int → Int → Int → Int → Option (Int)
  | 0, _, _, _, _, _ => none
  | k + 1, x1, x5, x6, x7, x8 => if 0 ≤ x8 then (if x8 ≤ (x1.length : Int) then ((server_zzIndexBytes.f k (x1.drop (x8 : Int).toNat) x5).bind fun t130 => (if t130 < 2 then (some (-1)) else (if (wrap64 (t130 + x8)) ≥ (wrap64 (x7 - 1)) then (server_getHeaderKeyIndex.j1 k x1 x5 x6 x7 (wrap64 (t130 + x8)) true) else (if 0 ≤ (wrap64 ((wrap64 (t130 + x8)) - 1)) then (if (wrap64 ((wrap64 (t130 + x8)) - 1)) < (x1.length : Int) then (if (rd x1 (wrap64 ((wrap64 (t130 + x8)) - 1))) = 10 then (if 0 ≤ (wrap64 ((wrap64 (t130 + x8)) - 2)) then (if (wrap64 ((wrap64 (t130 + x8)) - 2)) < (x1.length : Int) then (server_getHeaderKeyIndex.j1 k x1 x5 x6 x7 (wrap64 (t130 + x8)) ((rd x1 (wrap64 ((wrap64 (t130 + x8)) - 2))) != 13)) else (none)) else (none)) else (server_getHeaderKeyIndex.j1 k x1 x5 x6 x7 (wrap64 (t130 + x8)) true)) else (none)) else (none))))) else (none)) else (none)
def server_getHeaderKeyIndex.j1 : Nat → List Int → List Int → Int → Int → Int → Bool → Option (Int)
  | 0, _, _, _, _, _, _ => none
  | k + 1, x1, x5, x6, x7, x9, x48 => if x48 = true then (server_getHeaderKeyIndex.l0 k x1 x5 x6 x7 (wrap64 (x9 + x6))) else (if (wrap64 (x9 + x6)) ≥ x7 then (some (-1)) else (if 0 ≤ (wrap64 (x9 + x6)) then (if (wrap64 (x9 + x6)) < (x1.length : Int) then (if (rd x1 (wrap64 (x9 + x6))) = 58 then (some x9) else (server_getHeaderKeyIndex.l0 k x1 x5 x6 x7 (wrap64 (x9 + x6)))) else (none)) else (none)))
end
def server_getHeaderKeyIndex.f (k : Nat) (a0 : ByteArray) (l1 : List Int) : Option (Int) := if (l1.length : Int) = 0 then (some (-1)) else ((server_stringToBytes.f a0).bind fun t126 => (server_getHeaderKeyIndex.l0 k l1 t126 (a0.size : Int) (l1.length : Int) 0))
theorem server_getHeaderKeyIndex.mono_l : ∀ k, (∀ y0 y1 y2 y3 y4, LeO (server_getHeaderKeyIndex.l0 k y0 y1 y2 y3 y4) (server_getHeaderKeyIndex.l0 (k + 1) y0 y1 y2 y3 y4)) ∧ (∀ y0 y1 y2 y3 y4 y5, LeO (server_getHeaderKeyIndex.j1 k y0 y1 y2 y3 y4 y5) (server_getHeaderKeyIndex.j1 (k + 1) y0 y1 y2 y3 y4 y5))
  | 0 => ⟨fun _ _ _ _ _ r h => by simp [server_getHeaderKeyIndex.l0] at h, fun _ _ _ _ _ _ r h => by simp [server_getHeaderKeyIndex.j1] at h⟩
  | k + 1 => by
    obtain ⟨ih0, ih1⟩ := server_getHeaderKeyIndex.mono_l k
    refine ⟨?_, ?_⟩
    · intro y0 y1 y2 y3 y4
      unfold server_getHeaderKeyIndex.l0
      repeat' first
      | (with_reducible exact ih0 _ _ _ _ _)
      | (with_reducible exact ih1 _ _ _ _ _ _)
      | (with_reducible exact server_zzIndexBytes.mono _ _ _)
      | (with_reducible exact LeO.refl _)
      | (with_reducible exact LeO.none _)
      | (with_reducible refine LeO.ite ?_ ?_)
      | (with_reducible refine LeO.bind ?_ (fun _ => ?_))
      | exact ih0 _ _ _ _ _
      | exact ih1 _ _ _ _ _ _
      | exact server_zzIndexBytes.mono _ _ _
      | exact LeO.none _
      | refine LeO.ite ?_ ?_
      | refine LeO.bind ?_ (fun _ => ?_)
    · intro y0 y1 y2 y3 y4 y5
      unfold server_getHeaderKeyIndex.j1
      repeat' first
      | (with_reducible exact ih0 _ _ _ _ _)
      | (with_reducible exact ih1 _ _ _ _ _ _)
      | (with_reducible exact server_zzIndexBytes.mono _ _ _)
      | (with_reducible exact LeO.refl _)
      | (with_reducible exact LeO.none _)
      | (with_reducible refine LeO.ite ?_ ?_)
      | (with_reducible refine LeO.bind ?_ (fun _ => ?_))
      | exact ih0 _ _ _ _ _
      | exact ih1 _ _ _ _ _ _
      | exact server_zzIndexBytes.mono _ _ _
      | exact LeO.none _
      | refine LeO.ite ?_ ?_
      | refine LeO.bind ?_ (fun _ => ?_)
theorem server_getHeaderKeyIndex.mono : ∀ a0 a1 k, LeO (server_getHeaderKeyIndex.f k a0 a1) (server_getHeaderKeyIndex.f (k + 1) a0 a1) := by
  intro a0 a1 k
  obtain ⟨ih0, ih1⟩ := server_getHeaderKeyIndex.mono_l k
  unfold server_getHeaderKeyIndex.f
  repeat' first
      | (with_reducible exact ih0 _ _ _ _ _)
      | (with_reducible exact ih1 _ _ _ _ _ _)
      | (with_reducible exact server_zzIndexBytes.mono _ _ _)
      | (with_reducible exact LeO.refl _)
      | (with_reducible exact LeO.none _)
      | (with_reducible refine LeO.ite ?_ ?_)
      | (with_reducible refine LeO.bind ?_ (fun _ => ?_))
      | exact ih0 _ _ _ _ _
      | exact ih1 _ _ _ _ _ _
      | exact server_zzIndexBytes.mono _ _ _
      | exact LeO.none _
      | refine LeO.ite ?_ ?_
      | refine LeO.bind ?_ (fun _ => ?_)
set_option maxHeartbeats 8000000 in
set_option maxRecDepth 100000 in
theorem server_getHeaderKeyIndex.calls (k : Nat) (a0 : ByteArray) (A1 : Option Addr) (c1 : Nat) (l1 : List Int) (r : Int) (w : World) (hr1 : Kd.C (Kd.int .u8) w A1 l1.length l1) (hc1 : l1.length ≤ c1) (h : server_getHeaderKeyIndex.f k a0 l1 = some r) :
    Calls Try.prog 29 #[.string a0, .slice A1 l1.length c1] w fun e w' => e = .returned (.int .i64 r) ∧ Below w.heap.size w w' := by
  have HR1 := Aside0.mk hr1
  have HC1 := Aside0.mk hc1
  clear hr1 hc1
  have HB := Aside0.mk (Below.refl w.heap.size w)
  have H : (if (l1.length : Int) = 0 then (some (-1)) else ((server_stringToBytes.f a0).bind fun t126 => (server_getHeaderKeyIndex.l0 k l1 t126 (a0.size : Int) (l1.length : Int) 0))) = some r := h
  clear h
  by_cases c3 : (l1.length : Int) = 0
  · rw [if_pos c3] at H
    have c3b0 : ((l1.length : Int) == 0) = true := beq_iff_eq.mpr c3
    have c3b1 : ((l1.length : Int) != 0) = false := bne_eq_false_iff_eq.mpr c3
    clear c3
    obtain rfl := Option.some.inj H
    go_enter Try.func29, Try.ntmps29
    go_wp2
    go_ret
    exact ⟨by first | rfl | (simp [errW_none, errW_some] <;> rfl) | (simp [*, errW_none, errW_some] <;> rfl), by repeat (first | (with_reducible first | exact HB.out | apply below_alloc | apply pw_below_drewN | apply below_drew1) | exact HB.out)⟩
  · rw [if_neg c3] at H
    have c3b0 : ((l1.length : Int) == 0) = false := beq_eq_false_iff_ne.mpr c3
    have c3b1 : ((l1.length : Int) != 0) = true := bne_iff_ne.mpr c3
    have c3b2 : ¬ (l1 = []) := fun h_ => c3 (by rw [h_]; rfl)
    replace H := Option.bind_eq_some_iff.mp H
    obtain ⟨t126, A40, H⟩ := H
    replace H : (server_getHeaderKeyIndex.l0 k l1 t126 (a0.size : Int) (l1.length : Int) 0) = some r := H
    have A4 := Aside0.mk A40
    clear A40
    have H' := Aside0.mk H
    clear H
    go_enter Try.func29, Try.ntmps29
    go_wp2_with (first | ((with_reducible refine gate_callee (f := 30) rfl ?_); refine goesL_ (some 14) rfl rfl Try.func30 (by kernel_rfl) rfl #[.string a0] rfl (by (try simp only [List.map_toArray, List.map_cons, List.map_nil]); first | done | rfl | (simp only [List.length_drop, List.length_take]; rfl)) ?_; (with_reducible refine (server_stringToBytes.calls a0 t126 _ A4.out).mono ?_); rintro e w5 ⟨v127, rfl, ho0, hb⟩; refine ⟨_, rfl, ?_⟩; have n0_ := Aside0.mk (Kd.V_lower (Kd.V_mono (ok' := fun k_ => True) ho0 (fun k_ hk_ => trivial)) (below_size (by repeat (first | (with_reducible first | exact HB.out | apply below_alloc | apply pw_below_drewN | apply below_drew1) | exact HB.out)))); have n1_ := Aside0.mk (below_step (by repeat (first | (with_reducible first | exact HB.out | apply below_alloc | apply pw_below_drewN | apply below_drew1) | exact HB.out)) hb); clear HB; have HO128 := n0_; have HB := n1_; clear n0_ n1_; (try clear hb); (try clear hb2); (try clear hk); (try clear hi); (try clear ho0)))
    go_loopg [8] k (fun kq v8 w' => ∃ (x8_1 : Int), v8 = .int .i64 x8_1 ∧ Aside0 (server_getHeaderKeyIndex.l0 kq l1 t126 (a0.size : Int) (l1.length : Int) x8_1 = some r) ∧ Aside0 (kq ≤ k) ∧ Aside0 (Kd.V (Kd.int .u8) 5 w' w.heap.size (fun _ => True) v127 t126) ∧ Aside0 (Below w.heap.size w w'))
    case atStart => exact ⟨(0), (by first | rfl | (simp; done) | (simp [*]; done)), H', ⟨Nat.le_refl _⟩, ⟨by (with_reducible repeat (first | apply Kd.V_alloc | apply Kd.V_drewN | apply Kd.V_drew)); exact HO128.out⟩, ⟨by repeat (first | (with_reducible first | exact HB.out | apply below_alloc | apply pw_below_drewN | apply below_drew1) | exact HB.out)⟩⟩
    case round =>
      clear H'
      try clear c1
      try clear c2
      try clear p2
      try clear c3
      try clear c3b0
      try clear c3b1
      try clear c3b2
      obtain ⟨x8_1, rfl, HA, HK1, HO_5, HB⟩ := hrel
      cases gk with
      | zero => exact absurd HA.out (by simp [server_getHeaderKeyIndex.l0])
      | succ k1 =>
        have H := HA.out
        clear HA
        simp only [server_getHeaderKeyIndex.l0] at H
        by_cases c6 : 0 ≤ x8_1
        · rw [if_pos c6] at H
          have c6b0 := eq_true c6
          have c6b1 : decide (0 ≤ x8_1) = true := decide_eq_true c6
          clear c6
          by_cases c7 : x8_1 ≤ (l1.length : Int)
          · rw [if_pos c7] at H
            have c7b0 := eq_true c7
            have c7b1 : decide (x8_1 ≤ (l1.length : Int)) = true := decide_eq_true c7
            clear c7
            replace H := Option.bind_eq_some_iff.mp H
            obtain ⟨t130, A80, H⟩ := H
            replace H : (if t130 < 2 then (some (-1)) else (if (wrap64 (t130 + x8_1)) ≥ (wrap64 ((l1.length : Int) - 1)) then (server_getHeaderKeyIndex.j1 k1 l1 t126 (a0.size : Int) (l1.length : Int) (wrap64 (t130 + x8_1)) true) else (if 0 ≤ (wrap64 ((wrap64 (t130 + x8_1)) - 1)) then (if (wrap64 ((wrap64 (t130 + x8_1)) - 1)) < (l1.length : Int) then (if (rd l1 (wrap64 ((wrap64 (t130 + x8_1)) - 1))) = 10 then (if 0 ≤ (wrap64 ((wrap64 (t130 + x8_1)) - 2)) then (if (wrap64 ((wrap64 (t130 + x8_1)) - 2)) < (l1.length : Int) then (server_getHeaderKeyIndex.j1 k1 l1 t126 (a0.size : Int) (l1.length : Int) (wrap64 (t130 + x8_1)) ((rd l1 (wrap64 ((wrap64 (t130 + x8_1)) - 2))) != 13)) else (none)) else (none)) else (server_getHeaderKeyIndex.j1 k1 l1 t126 (a0.size : Int) (l1.length : Int) (wrap64 (t130 + x8_1)) true)) else (none)) else (none)))) = some r := H
            have A8 := Aside0.mk A80
            clear A80
            by_cases c9 : t130 < 2
            · rw [if_pos c9] at H
              have c9b0 : decide (t130 < 2) = true := decide_eq_true c9
              clear c9
              obtain rfl := Option.some.inj H
              obtain ⟨i010, hi010, _, hsz10, _⟩ := info_parts info5
              obtain ⟨A10, hcut10, hA10, hC10⟩ := print_drop_of (P := Try.prog) (Value.int .u8) 0 28 5 .i64 Try.underlying28 hi010 hsz10 A1 c1 l1 x8_1 (of_decide_eq_true (by first | (with_reducible assumption) | assumption)) (of_decide_eq_true (by first | (with_reducible assumption) | assumption)) HC1.out
              have HR129 := Aside0.mk (Kd.C_of_reads (h1 := fun _ => rfl) (hA10 _ (Kd.reads_of_C HR1.out)))
              have HC129 := Aside0.mk hC10
              clear hA10 hC10 hi010 hsz10
              obtain ⟨Ao11, co11, eo11⟩ := Kd.V_slice HO_5.out
              subst eo11
              go_wp2_with (first | ((with_reducible refine gate_callee (f := 28) rfl ?_); refine goesL_ (some 23) rfl rfl Try.func28 (by kernel_rfl) rfl #[.slice A10 (l1.drop (x8_1 : Int).toNat).length (c1 - x8_1.toNat), .slice Ao11 t126.length co11] rfl (by (try simp only [List.map_toArray, List.map_cons, List.map_nil]); first | done | (rw [show (l1.drop (x8_1 : Int).toNat).length = (l1.length - x8_1.toNat) from List.length_drop] <;> rfl) | rfl | (simp only [List.length_drop, List.length_take]; rfl)) ?_; (with_reducible refine (server_zzIndexBytes.calls k1 _ _ (l1.drop (x8_1 : Int).toNat) _ _ t126 t130 _ ?side1 ?side2 ?side3 ?side4 A8.out).mono ?_); (case side1 => repeat (first | exact (Kd.C_below HR129.out HB.out) | (with_reducible refine Kd.C_alloc ?_ _) | (with_reducible refine Kd.C_drewN ?_ _) | (with_reducible refine Kd.C_drew ?_))); (case side2 => exact HC129.out); (case side3 => repeat (first | exact (Kd.V_reads' HO_5.out).2.2 | (with_reducible refine Kd.C_alloc ?_ _) | (with_reducible refine Kd.C_drewN ?_ _) | (with_reducible refine Kd.C_drew ?_))); (case side4 => exact (Kd.V_reads' HO_5.out).2.1); rintro e w' ⟨rfl, ⟨nd, rfl⟩⟩; refine ⟨_, rfl, ?_⟩))
              go_ret
              exact ⟨by first | rfl | (simp [errW_none, errW_some] <;> rfl) | (simp [*, errW_none, errW_some] <;> rfl), by repeat (first | (with_reducible first | exact HB.out | apply below_alloc | apply pw_below_drewN | apply below_drew1) | exact HB.out)⟩
            · rw [if_neg c9] at H
              have c9b0 : decide (t130 < 2) = false := decide_eq_false c9
              clear c9
              have HC12 := Aside0.mk H
              clear H
              obtain ⟨i013, hi013, _, hsz13, _⟩ := info_parts info5
              obtain ⟨A13, hcut13, hA13, hC13⟩ := print_drop_of (P := Try.prog) (Value.int .u8) 0 28 5 .i64 Try.underlying28 hi013 hsz13 A1 c1 l1 x8_1 (of_decide_eq_true (by first | (with_reducible assumption) | assumption)) (of_decide_eq_true (by first | (with_reducible assumption) | assumption)) HC1.out
              have HR129 := Aside0.mk (Kd.C_of_reads (h1 := fun _ => rfl) (hA13 _ (Kd.reads_of_C HR1.out)))
              have HC129 := Aside0.mk hC13
              clear hA13 hC13 hi013 hsz13
              obtain ⟨Ao14, co14, eo14⟩ := Kd.V_slice HO_5.out
              subst eo14
              go_upto_region 10 with (first | ((with_reducible refine gate_callee (f := 28) rfl ?_); refine goesL_ (some 23) rfl rfl Try.func28 (by kernel_rfl) rfl #[.slice A13 (l1.drop (x8_1 : Int).toNat).length (c1 - x8_1.toNat), .slice Ao14 t126.length co14] rfl (by (try simp only [List.map_toArray, List.map_cons, List.map_nil]); first | done | (rw [show (l1.drop (x8_1 : Int).toNat).length = (l1.length - x8_1.toNat) from List.length_drop] <;> rfl) | rfl | (simp only [List.length_drop, List.length_take]; rfl)) ?_; (with_reducible refine (server_zzIndexBytes.calls k1 _ _ (l1.drop (x8_1 : Int).toNat) _ _ t126 t130 _ ?side1 ?side2 ?side3 ?side4 A8.out).mono ?_); (case side1 => repeat (first | exact (Kd.C_below HR129.out HB.out) | (with_reducible refine Kd.C_alloc ?_ _) | (with_reducible refine Kd.C_drewN ?_ _) | (with_reducible refine Kd.C_drew ?_))); (case side2 => exact HC129.out); (case side3 => repeat (first | exact (Kd.V_reads' HO_5.out).2.2 | (with_reducible refine Kd.C_alloc ?_ _) | (with_reducible refine Kd.C_drewN ?_ _) | (with_reducible refine Kd.C_drew ?_))); (case side4 => exact (Kd.V_reads' HO_5.out).2.1); rintro e w' ⟨rfl, ⟨nd, rfl⟩⟩; refine ⟨_, rfl, ?_⟩))
              (try simp only [Act.put, List.setIfInBounds_toArray, List.set_cons_zero, List.set_cons_succ])
              go_cut [48] (fun v48 wc => ∃ (kq : Nat) (x48_11 : Bool), v48 = .bool x48_11 ∧ Aside0 (server_getHeaderKeyIndex.j1 kq l1 t126 (a0.size : Int) (l1.length : Int) (wrap64 (t130 + x8_1)) x48_11 = some r) ∧ Aside0 (kq ≤ k1) ∧ Aside0 (Kd.V (Kd.int .u8) 5 wc w.heap.size (fun _ => True) (.slice Ao14 t126.length co14) t126) ∧ Aside0 (Below w.heap.size w wc))
              case first =>
                have H := HC12.out
                clear HC12
                by_cases c15 : (wrap64 (t130 + x8_1)) ≥ (wrap64 ((l1.length : Int) - 1))
                · rw [if_pos c15] at H
                  have c15b0 : decide ((wrap64 ((l1.length : Int) - 1)) ≤ (wrap64 (t130 + x8_1))) = true := decide_eq_true c15
                  clear c15
                  (first | rw [c15b0] | (simp only [i64_w, i32_w]; rw [c15b0]) | skip)
                  have H' := Aside0.mk H
                  clear H
                  go_wp2
                  go_meet
                  case rel => exact ⟨_, (true), (by first | rfl | (simp; done) | (simp [*]; done)), H', ⟨by have := HK1.out; first | omega | exact Nat.le_refl _⟩, ⟨by (with_reducible repeat (first | apply Kd.V_alloc | apply Kd.V_drewN | apply Kd.V_drew)); exact HO_5.out⟩, ⟨by repeat (first | (with_reducible first | exact HB.out | apply below_alloc | apply pw_below_drewN | apply below_drew1) | exact HB.out)⟩⟩
                · rw [if_neg c15] at H
                  have c15b0 : decide ((wrap64 ((l1.length : Int) - 1)) ≤ (wrap64 (t130 + x8_1))) = false := decide_eq_false c15
                  clear c15
                  (first | rw [c15b0] | (simp only [i64_w, i32_w]; rw [c15b0]) | skip)
                  obtain ⟨ji16, hji16⟩ : ∃ j_ : Int, (wrap64 ((wrap64 (t130 + x8_1)) - 1)) = j_ := ⟨_, rfl⟩
                  replace H : (if 0 ≤ (ji16) then (if (ji16) < (l1.length : Int) then (if (rd l1 (ji16)) = 10 then (if 0 ≤ (wrap64 ((wrap64 (t130 + x8_1)) - 2)) then (if (wrap64 ((wrap64 (t130 + x8_1)) - 2)) < (l1.length : Int) then (server_getHeaderKeyIndex.j1 k1 l1 t126 (a0.size : Int) (l1.length : Int) (wrap64 (t130 + x8_1)) ((rd l1 (wrap64 ((wrap64 (t130 + x8_1)) - 2))) != 13)) else (none)) else (none)) else (server_getHeaderKeyIndex.j1 k1 l1 t126 (a0.size : Int) (l1.length : Int) (wrap64 (t130 + x8_1)) true)) else (none)) else (none)) = some r := by first | (rw [hji16] at H; exact H) | (simp only [hji16] at H ⊢; exact H)
                  have hji16w : (IntKind.i64.wrap ((wrap64 (t130 + x8_1)) - 1)) = ji16 := (i64_w _).trans hji16
                  by_cases c17 : 0 ≤ (ji16)
                  · rw [if_pos c17] at H
                    have c17b0 : decide (0 ≤ (ji16)) = true := decide_eq_true c17
                    clear c17
                    by_cases c18 : (ji16) < (l1.length : Int)
                    · rw [if_pos c18] at H
                      have c18b0 : decide ((ji16) < (l1.length : Int)) = true := decide_eq_true c18
                      clear c18
                      by_cases c19 : (rd l1 (ji16)) = 10
                      · rw [if_pos c19] at H
                        have c19b0 : ((rd l1 (ji16)) == 10) = true := beq_iff_eq.mpr c19
                        have c19b1 : ((rd l1 (ji16)) != 10) = false := bne_eq_false_iff_eq.mpr c19
                        clear c19
                        obtain ⟨ji20, hji20⟩ : ∃ j_ : Int, (wrap64 ((wrap64 (t130 + x8_1)) - 2)) = j_ := ⟨_, rfl⟩
                        replace H : (if 0 ≤ (ji20) then (if (ji20) < (l1.length : Int) then (server_getHeaderKeyIndex.j1 k1 l1 t126 (a0.size : Int) (l1.length : Int) (wrap64 (t130 + x8_1)) ((rd l1 (ji20)) != 13)) else (none)) else (none)) = some r := by first | (rw [hji20] at H; exact H) | (simp only [hji20] at H ⊢; exact H)
                        have hji20w : (IntKind.i64.wrap ((wrap64 (t130 + x8_1)) - 2)) = ji20 := (i64_w _).trans hji20
                        by_cases c21 : 0 ≤ (ji20)
                        · rw [if_pos c21] at H
                          have c21b0 : decide (0 ≤ (ji20)) = true := decide_eq_true c21
                          clear c21
                          by_cases c22 : (ji20) < (l1.length : Int)
                          · rw [if_pos c22] at H
                            have c22b0 : decide ((ji20) < (l1.length : Int)) = true := decide_eq_true c22
                            clear c22
                            have H' := Aside0.mk H
                            clear H
                            have p131 : 0 ≤ ((ji16) : Int) := of_decide_eq_true (by first | (with_reducible assumption) | assumption)
                            have q131 : (ji16) < (l1.length : Int) := of_decide_eq_true (by first | (with_reducible assumption) | assumption)
                            obtain ⟨ad131, e131, hx131_0⟩ := Kd.at_int HR1.out (ji16) p131 q131
                            cases e131
                            replace hx131_0 := (HB.out.cell (World.block_lt_of_cell? w _ hx131_0)).trans hx131_0
                            replace p131 := eq_true p131
                            replace q131 := eq_true q131
                            have p132 : 0 ≤ ((ji20) : Int) := of_decide_eq_true (by first | (with_reducible assumption) | assumption)
                            have q132 : (ji20) < (l1.length : Int) := of_decide_eq_true (by first | (with_reducible assumption) | assumption)
                            obtain ⟨ad132, e132, hx132_0⟩ := Kd.at_int HR1.out (ji20) p132 q132
                            obtain rfl : ad131 = ad132 := (by injection e132)
                            replace hx132_0 := (HB.out.cell (World.block_lt_of_cell? w _ hx132_0)).trans hx132_0
                            replace p132 := eq_true p132
                            replace q132 := eq_true q132
                            go_wp2
                            go_meet
                            case rel => exact ⟨_, (((rd l1 (ji20)) != 13)), (by first | rfl | (simp; done) | (simp only [← hji20] <;> (first | rfl | simp)) | (simp [*]; done)), H', ⟨by have := HK1.out; first | omega | exact Nat.le_refl _⟩, ⟨by (with_reducible repeat (first | apply Kd.V_alloc | apply Kd.V_drewN | apply Kd.V_drew)); exact HO_5.out⟩, ⟨by repeat (first | (with_reducible first | exact HB.out | apply below_alloc | apply pw_below_drewN | apply below_drew1) | exact HB.out)⟩⟩
                          · rw [if_neg c22] at H
                            exact absurd H (by simp)
                        · rw [if_neg c21] at H
                          exact absurd H (by simp)
                      · rw [if_neg c19] at H
                        have c19b0 : ((rd l1 (ji16)) == 10) = false := beq_eq_false_iff_ne.mpr c19
                        have c19b1 : ((rd l1 (ji16)) != 10) = true := bne_iff_ne.mpr c19
                        have H' := Aside0.mk H
                        clear H
                        have p131 : 0 ≤ ((ji16) : Int) := of_decide_eq_true (by first | (with_reducible assumption) | assumption)
                        have q131 : (ji16) < (l1.length : Int) := of_decide_eq_true (by first | (with_reducible assumption) | assumption)
                        obtain ⟨ad131, e131, hx131_0⟩ := Kd.at_int HR1.out (ji16) p131 q131
                        cases e131
                        replace hx131_0 := (HB.out.cell (World.block_lt_of_cell? w _ hx131_0)).trans hx131_0
                        replace p131 := eq_true p131
                        replace q131 := eq_true q131
                        go_wp2
                        go_meet
                        case rel => exact ⟨_, (true), (by first | rfl | (simp; done) | (simp [*]; done)), H', ⟨by have := HK1.out; first | omega | exact Nat.le_refl _⟩, ⟨by (with_reducible repeat (first | apply Kd.V_alloc | apply Kd.V_drewN | apply Kd.V_drew)); exact HO_5.out⟩, ⟨by repeat (first | (with_reducible first | exact HB.out | apply below_alloc | apply pw_below_drewN | apply below_drew1) | exact HB.out)⟩⟩
                    · rw [if_neg c18] at H
                      exact absurd H (by simp)
                  · rw [if_neg c17] at H
                    exact absurd H (by simp)
              case rest =>
                clear HC12
                try clear c1
                try clear p1
                try clear q1
                try clear hx1
                try clear c2
                try clear p2
                try clear c3
                try clear c3b0
                try clear c3b1
                try clear c3b2
                try clear c6
                try clear c6b0
                try clear c6b1
                try clear p6
                try clear c7
                try clear c7b0
                try clear c7b1
                try clear c9
                try clear c9b0
                try clear p13
                try clear q13
                try clear hx13
                try clear c15
                try clear c15b0
                try clear c17
                try clear c17b0
                try clear c18
                try clear c18b0
                try clear c19
                try clear c19b0
                try clear c19b1
                try clear c21
                try clear c21b0
                try clear c22
                try clear c22b0
                try clear hx131_0
                try clear hx132_0
                try clear p131
                try clear p132
                try clear p2
                try clear q131
                try clear q132
                obtain ⟨kq, x48_11, rfl, HA, HJ11, HO_5, HB⟩ := hcut
                cases kq with
                | zero => exact absurd HA.out (by simp [server_getHeaderKeyIndex.j1])
                | succ kj11 =>
                  have H := HA.out
                  clear HA
                  simp only [server_getHeaderKeyIndex.j1] at H
                  by_cases c23 : x48_11 = true
                  · subst c23
                    have H1 : (server_getHeaderKeyIndex.l0 kj11 l1 t126 (a0.size : Int) (l1.length : Int) (wrap64 ((wrap64 (t130 + x8_1)) + (a0.size : Int)))) = some r := by rw [if_pos rfl] at H; exact H
                    clear H
                    have H := H1
                    clear H1
                    have H' := Aside0.mk H
                    clear H
                    go_wp2
                    go_roundg kj11
                    case measure => have := HK1.out; have := HJ11.out; omega
                    case rel => exact ⟨(wrap64 ((wrap64 (t130 + x8_1)) + (a0.size : Int))), (by first | rfl | (simp; done) | (simp [*]; done)), H', ⟨by have := HK1.out; have := HJ11.out; omega⟩, ⟨by (with_reducible repeat (first | apply Kd.V_alloc | apply Kd.V_drewN | apply Kd.V_drew)); exact HO_5.out⟩, ⟨by repeat (first | (with_reducible first | exact HB.out | apply below_alloc | apply pw_below_drewN | apply below_drew1) | exact HB.out)⟩⟩
                  · replace c23 := Bool.eq_false_iff.mpr c23
                    subst c23
                    have H1 : (if (wrap64 ((wrap64 (t130 + x8_1)) + (a0.size : Int))) ≥ (l1.length : Int) then (some (-1)) else (if 0 ≤ (wrap64 ((wrap64 (t130 + x8_1)) + (a0.size : Int))) then (if (wrap64 ((wrap64 (t130 + x8_1)) + (a0.size : Int))) < (l1.length : Int) then (if (rd l1 (wrap64 ((wrap64 (t130 + x8_1)) + (a0.size : Int)))) = 58 then (some (wrap64 (t130 + x8_1))) else (server_getHeaderKeyIndex.l0 kj11 l1 t126 (a0.size : Int) (l1.length : Int) (wrap64 ((wrap64 (t130 + x8_1)) + (a0.size : Int))))) else (none)) else (none))) = some r := by rw [if_neg (show ¬ (false = true) by decide)] at H; exact H
                    clear H
                    have H := H1
                    clear H1
                    by_cases c24 : (wrap64 ((wrap64 (t130 + x8_1)) + (a0.size : Int))) ≥ (l1.length : Int)
                    · rw [if_pos c24] at H
                      have c24b0 : decide ((l1.length : Int) ≤ (wrap64 ((wrap64 (t130 + x8_1)) + (a0.size : Int)))) = true := decide_eq_true c24
                      clear c24
                      obtain rfl := Option.some.inj H
                      go_wp2
                      go_ret
                      exact ⟨by first | rfl | (simp [errW_none, errW_some] <;> rfl) | (simp [*, errW_none, errW_some] <;> rfl), by repeat (first | (with_reducible first | exact HB.out | apply below_alloc | apply pw_below_drewN | apply below_drew1) | exact HB.out)⟩
                    · rw [if_neg c24] at H
                      have c24b0 : decide ((l1.length : Int) ≤ (wrap64 ((wrap64 (t130 + x8_1)) + (a0.size : Int)))) = false := decide_eq_false c24
                      clear c24
                      obtain ⟨ji25, hji25⟩ : ∃ j_ : Int, (wrap64 ((wrap64 (t130 + x8_1)) + (a0.size : Int))) = j_ := ⟨_, rfl⟩
                      replace H : (if 0 ≤ (ji25) then (if (ji25) < (l1.length : Int) then (if (rd l1 (ji25)) = 58 then (some (wrap64 (t130 + x8_1))) else (server_getHeaderKeyIndex.l0 kj11 l1 t126 (a0.size : Int) (l1.length : Int) ji25)) else (none)) else (none)) = some r := by first | (rw [hji25] at H; exact H) | (simp only [hji25] at H ⊢; exact H)
                      (try rw [hji25] at c24b0)
                      have hji25w : (IntKind.i64.wrap ((wrap64 (t130 + x8_1)) + (a0.size : Int))) = ji25 := (i64_w _).trans hji25
                      by_cases c26 : 0 ≤ (ji25)
                      · rw [if_pos c26] at H
                        have c26b0 : decide (0 ≤ (ji25)) = true := decide_eq_true c26
                        clear c26
                        by_cases c27 : (ji25) < (l1.length : Int)
                        · rw [if_pos c27] at H
                          have c27b0 : decide ((ji25) < (l1.length : Int)) = true := decide_eq_true c27
                          clear c27
                          by_cases c28 : (rd l1 (ji25)) = 58
                          · rw [if_pos c28] at H
                            have c28b0 : ((rd l1 (ji25)) == 58) = true := beq_iff_eq.mpr c28
                            have c28b1 : ((rd l1 (ji25)) != 58) = false := bne_eq_false_iff_eq.mpr c28
                            clear c28
                            obtain rfl := Option.some.inj H
                            have p133 : 0 ≤ ((ji25) : Int) := of_decide_eq_true (by first | (with_reducible assumption) | assumption)
                            have q133 : (ji25) < (l1.length : Int) := of_decide_eq_true (by first | (with_reducible assumption) | assumption)
                            obtain ⟨ad133, e133, hx133_0⟩ := Kd.at_int HR1.out (ji25) p133 q133
                            cases e133
                            replace hx133_0 := (HB.out.cell (World.block_lt_of_cell? w _ hx133_0)).trans hx133_0
                            replace p133 := eq_true p133
                            replace q133 := eq_true q133
                            go_wp2
                            go_ret
                            exact ⟨by first | rfl | (simp [errW_none, errW_some] <;> rfl) | (simp only [← hji25]; first | rfl | (simp [errW_none, errW_some] <;> rfl)) | (simp [*, errW_none, errW_some] <;> rfl), by repeat (first | (with_reducible first | exact HB.out | apply below_alloc | apply pw_below_drewN | apply below_drew1) | exact HB.out)⟩
                          · rw [if_neg c28] at H
                            have c28b0 : ((rd l1 (ji25)) == 58) = false := beq_eq_false_iff_ne.mpr c28
                            have c28b1 : ((rd l1 (ji25)) != 58) = true := bne_iff_ne.mpr c28
                            have H' := Aside0.mk H
                            clear H
                            have p133 : 0 ≤ ((ji25) : Int) := of_decide_eq_true (by first | (with_reducible assumption) | assumption)
                            have q133 : (ji25) < (l1.length : Int) := of_decide_eq_true (by first | (with_reducible assumption) | assumption)
                            obtain ⟨ad133, e133, hx133_0⟩ := Kd.at_int HR1.out (ji25) p133 q133
                            cases e133
                            replace hx133_0 := (HB.out.cell (World.block_lt_of_cell? w _ hx133_0)).trans hx133_0
                            replace p133 := eq_true p133
                            replace q133 := eq_true q133
                            go_wp2
                            go_roundg kj11
                            case measure => have := HK1.out; have := HJ11.out; omega
                            case rel => exact ⟨(ji25), (by first | rfl | (simp; done) | (simp only [← hji25] <;> (first | rfl | simp)) | (simp [*]; done)), H', ⟨by have := HK1.out; have := HJ11.out; omega⟩, ⟨by (with_reducible repeat (first | apply Kd.V_alloc | apply Kd.V_drewN | apply Kd.V_drew)); exact HO_5.out⟩, ⟨by repeat (first | (with_reducible first | exact HB.out | apply below_alloc | apply pw_below_drewN | apply below_drew1) | exact HB.out)⟩⟩
                        · rw [if_neg c27] at H
                          exact absurd H (by simp)
                      · rw [if_neg c26] at H
                        exact absurd H (by simp)
          · rw [if_neg c7] at H
            exact absurd H (by simp)
        · rw [if_neg c6] at H
          exact absurd H (by simp)

-- NOT PRINTED: function 27 (server_sliceHeader)

/-! ### server_getHeader: function 25 -/
def server_getHeader.f (a0 : ByteArray) (l1 : List Int) : Option (List Int) := none
set_option maxHeartbeats 8000000 in
set_option maxRecDepth 100000 in
theorem server_getHeader.calls (a0 : ByteArray) (A1 : Option Addr) (c1 : Nat) (l1 : List Int) (r : List Int) (w : World) (hr1 : Kd.C (Kd.int .u8) w A1 l1.length l1) (hc1 : l1.length ≤ c1) (h : server_getHeader.f a0 l1 = some r) :
    Calls Try.prog 25 #[.string a0, .slice A1 l1.length c1] w fun e w' => ∃ v0_ : Value, e = .returned (v0_) ∧ Kd.R (Kd.int .u8) 5 w' w.heap.size (fun _ => True) v0_ r ∧ Below w.heap.size w w' := by
  have HR1 := Aside0.mk hr1
  have HC1 := Aside0.mk hc1
  clear hr1 hc1
  have HB := Aside0.mk (Below.refl w.heap.size w)
  have H : (none) = some r := h
  clear h
  exact absurd H (by simp)

/-! ### server_GetHeader: function 20 -/
def server_GetHeader.f (a0 : ByteArray) (l1 : List Int) : Option (List Int) := (server_getHeader.f a0 l1).bind fun t138 => (some t138)
set_option maxHeartbeats 8000000 in
set_option maxRecDepth 100000 in
theorem server_GetHeader.calls (a0 : ByteArray) (A1 : Option Addr) (c1 : Nat) (l1 : List Int) (r : List Int) (w : World) (hr1 : Kd.C (Kd.int .u8) w A1 l1.length l1) (hc1 : l1.length ≤ c1) (h : server_GetHeader.f a0 l1 = some r) :
    Calls Try.prog 20 #[.string a0, .slice A1 l1.length c1] w fun e w' => ∃ v0_ : Value, e = .returned (v0_) ∧ Kd.R (Kd.int .u8) 5 w' w.heap.size (fun _ => True) v0_ r ∧ Below w.heap.size w w' := by
  have HR1 := Aside0.mk hr1
  have HC1 := Aside0.mk hc1
  clear hr1 hc1
  have HB := Aside0.mk (Below.refl w.heap.size w)
  have H : ((server_getHeader.f a0 l1).bind fun t138 => (some t138)) = some r := h
  clear h
  replace H := Option.bind_eq_some_iff.mp H
  obtain ⟨t138, A30, H⟩ := H
  replace H : (some t138) = some r := H
  have A3 := Aside0.mk A30
  clear A30
  obtain rfl := Option.some.inj H
  go_enter Try.func20, Try.ntmps20
  go_wp2_with (first | ((with_reducible refine gate_callee (f := 25) rfl ?_); refine goesL_ (some 7) rfl rfl Try.func25 (by kernel_rfl) rfl #[.string a0, .slice A1 l1.length c1] rfl (by (try simp only [List.map_toArray, List.map_cons, List.map_nil]); first | done | rfl | (simp only [List.length_drop, List.length_take]; rfl)) ?_; (with_reducible refine (server_getHeader.calls a0 _ _ l1 t138 _ ?side1 ?side2 A3.out).mono ?_); (case side1 => repeat (first | exact HR1.out | (with_reducible refine Kd.C_alloc ?_ _) | (with_reducible refine Kd.C_drewN ?_ _) | (with_reducible refine Kd.C_drew ?_))); (case side2 => exact HC1.out); rintro e w4 ⟨v139, rfl, ho0, hb⟩; refine ⟨_, rfl, ?_⟩; have n0_ := Aside0.mk (Kd.R_lower ho0 (below_size (by repeat (first | (with_reducible first | exact HB.out | apply below_alloc | apply pw_below_drewN | apply below_drew1) | exact HB.out)))); have n1_ := Aside0.mk (below_step (by repeat (first | (with_reducible first | exact HB.out | apply below_alloc | apply pw_below_drewN | apply below_drew1) | exact HB.out)) hb); clear HB; have HO140 := n0_; have HB := n1_; clear n0_ n1_; (try clear hb); (try clear hb2); (try clear hk); (try clear hi); (try clear ho0)))
  go_ret
  exact ⟨_, by first | rfl | (simp [errW_none, errW_some] <;> rfl) | (simp [*, errW_none, errW_some] <;> rfl), by (with_reducible repeat (first | apply Kd.R_alloc | apply Kd.R_drewN | apply Kd.R_drew)); exact HO140.out, by repeat (first | (with_reducible first | exact HB.out | apply below_alloc | apply pw_below_drewN | apply below_drew1) | exact HB.out)⟩

-- NOT PRINTED: function 10 (impl_HeaderGet)

/-! ### spec_Header: function 11 -/
def spec_Header.l0 : Nat → List (S34) → ByteArray → Int → Option (ByteArray)
  | 0, _, _, _ => none
  | k + 1, x0, x3, x4 => if x4 < (x0.length : Int) then (if 0 ≤ x4 then (if ((rd_T34 x0 x4).f0).size + 2 ≤ 9223372036854775807 then (if (((rd_T34 x0 x4).f0) ++ (⟨#[58, 32]⟩ : ByteArray)).size + ((rd_T34 x0 x4).f1).size ≤ 9223372036854775807 then (if ((((rd_T34 x0 x4).f0) ++ (⟨#[58, 32]⟩ : ByteArray)) ++ ((rd_T34 x0 x4).f1)).size + 2 ≤ 9223372036854775807 then (if x3.size + (((((rd_T34 x0 x4).f0) ++ (⟨#[58, 32]⟩ : ByteArray)) ++ ((rd_T34 x0 x4).f1)) ++ (⟨#[13, 10]⟩ : ByteArray)).size ≤ 9223372036854775807 then (spec_Header.l0 k x0 (x3 ++ (((((rd_T34 x0 x4).f0) ++ (⟨#[58, 32]⟩ : ByteArray)) ++ ((rd_T34 x0 x4).f1)) ++ (⟨#[13, 10]⟩ : ByteArray))) (wrap64 (x4 + 1))) else (none)) else (none)) else (none)) else (none)) else (none)) else (if x3.size + 2 ≤ 9223372036854775807 then (some (x3 ++ (⟨#[13, 10]⟩ : ByteArray))) else (none))
def spec_Header.f (k : Nat) (l0 : List (S34)) : Option (ByteArray) := spec_Header.l0 k l0 (⟨#[78, 65, 84, 83, 47, 49, 46, 48, 13, 10]⟩ : ByteArray) 0
theorem spec_Header.mono_l : ∀ k, (∀ y0 y1 y2, LeO (spec_Header.l0 k y0 y1 y2) (spec_Header.l0 (k + 1) y0 y1 y2))
  | 0 => fun _ _ _ r h => by simp [spec_Header.l0] at h
  | k + 1 => by
    have ih0 := spec_Header.mono_l k
    · intro y0 y1 y2
      unfold spec_Header.l0
      repeat' first
      | (with_reducible exact ih0 _ _ _)
      | (with_reducible exact LeO.refl _)
      | (with_reducible exact LeO.none _)
      | (with_reducible refine LeO.ite ?_ ?_)
      | (with_reducible refine LeO.bind ?_ (fun _ => ?_))
      | exact ih0 _ _ _
      | exact LeO.none _
      | refine LeO.ite ?_ ?_
      | refine LeO.bind ?_ (fun _ => ?_)
theorem spec_Header.mono : ∀ a0 k, LeO (spec_Header.f k a0) (spec_Header.f (k + 1) a0) := by
  intro a0 k
  have ih0 := spec_Header.mono_l k
  unfold spec_Header.f
  repeat' first
      | (with_reducible exact ih0 _ _ _)
      | (with_reducible exact LeO.refl _)
      | (with_reducible exact LeO.none _)
      | (with_reducible refine LeO.ite ?_ ?_)
      | (with_reducible refine LeO.bind ?_ (fun _ => ?_))
      | exact ih0 _ _ _
      | exact LeO.none _
      | refine LeO.ite ?_ ?_
      | refine LeO.bind ?_ (fun _ => ?_)
set_option maxHeartbeats 8000000 in
set_option maxRecDepth 100000 in
theorem spec_Header.calls (k : Nat) (A0 : Option Addr) (c0 : Nat) (l0 : List (S34)) (r : ByteArray) (w : World) (hr0 : Kd.C k34 w A0 l0.length l0) (hc0 : l0.length ≤ c0) (h : spec_Header.f k l0 = some r) :
    Calls Try.prog 11 #[.slice A0 l0.length c0] w fun e w' => e = .returned (.string r) ∧ Drawn0 w w' := by
  have HR0 := Aside0.mk hr0
  have HC0 := Aside0.mk hc0
  clear hr0 hc0
  have H : (spec_Header.l0 k l0 (⟨#[78, 65, 84, 83, 47, 49, 46, 48, 13, 10]⟩ : ByteArray) 0) = some r := h
  clear h
  have H' := Aside0.mk H
  clear H
  go_enter Try.func11, Try.ntmps11
  go_wp2
  repeat (go_quiet (fail); try go_wp2)
  go_loopg [3, 4] k (fun kq v3 v4 w' => ∃ (x3_1 : ByteArray) (x4_1 : Int), v3 = .string x3_1 ∧ v4 = .int .i64 x4_1 ∧ Aside0 (spec_Header.l0 kq l0 x3_1 x4_1 = some r) ∧ Aside0 (kq ≤ k) ∧ Drawn0 w w')
  case atStart => exact ⟨((⟨#[78, 65, 84, 83, 47, 49, 46, 48, 13, 10]⟩ : ByteArray)), (0), (by first | rfl | (simp; done) | (simp [*]; done)), (by first | rfl | (simp; done) | (simp [*]; done)), H', ⟨Nat.le_refl _⟩, by repeat (first | exact Drawn0.refl _ | apply Drawn0.step)⟩
  case round =>
    clear H'
    try clear c1
    obtain ⟨x3_1, x4_1, rfl, rfl, HA, HK1, ⟨m1, rfl⟩⟩ := hrel
    cases gk with
    | zero => exact absurd HA.out (by simp [spec_Header.l0])
    | succ k1 =>
      have H := HA.out
      clear HA
      simp only [spec_Header.l0] at H
      by_cases c2 : x4_1 < (l0.length : Int)
      · rw [if_pos c2] at H
        have c2b0 : decide (x4_1 < (l0.length : Int)) = true := decide_eq_true c2
        clear c2
        by_cases c3 : 0 ≤ x4_1
        · rw [if_pos c3] at H
          have c3b0 : decide (0 ≤ x4_1) = true := decide_eq_true c3
          clear c3
          by_cases c4 : ((rd_T34 l0 x4_1).f0).size + 2 ≤ 9223372036854775807
          · rw [if_pos c4] at H
            have c4b0 := eq_true c4
            have c4b1 : decide (((rd_T34 l0 x4_1).f0).size + 2 ≤ 9223372036854775807) = true := decide_eq_true c4
            try have c4b2 : (9223372036854775807 < ((rd_T34 l0 x4_1).f0).size + 2) = False := eq_false (Nat.not_lt.2 c4)
            by_cases c5 : (((rd_T34 l0 x4_1).f0) ++ (⟨#[58, 32]⟩ : ByteArray)).size + ((rd_T34 l0 x4_1).f1).size ≤ 9223372036854775807
            · rw [if_pos c5] at H
              have c5b0 := eq_true c5
              have c5b1 : decide ((((rd_T34 l0 x4_1).f0) ++ (⟨#[58, 32]⟩ : ByteArray)).size + ((rd_T34 l0 x4_1).f1).size ≤ 9223372036854775807) = true := decide_eq_true c5
              try have c5b2 : (9223372036854775807 < (((rd_T34 l0 x4_1).f0) ++ (⟨#[58, 32]⟩ : ByteArray)).size + ((rd_T34 l0 x4_1).f1).size) = False := eq_false (Nat.not_lt.2 c5)
              have c5z : (9223372036854775807 < ((rd_T34 l0 x4_1).f0).size + 2 + ((rd_T34 l0 x4_1).f1).size) = False := eq_false (Nat.not_lt.2 (by have h_ := c5; simp only [ByteArray.size_append] at h_; exact h_))
              by_cases c6 : ((((rd_T34 l0 x4_1).f0) ++ (⟨#[58, 32]⟩ : ByteArray)) ++ ((rd_T34 l0 x4_1).f1)).size + 2 ≤ 9223372036854775807
              · rw [if_pos c6] at H
                have c6b0 := eq_true c6
                have c6b1 : decide (((((rd_T34 l0 x4_1).f0) ++ (⟨#[58, 32]⟩ : ByteArray)) ++ ((rd_T34 l0 x4_1).f1)).size + 2 ≤ 9223372036854775807) = true := decide_eq_true c6
                try have c6b2 : (9223372036854775807 < ((((rd_T34 l0 x4_1).f0) ++ (⟨#[58, 32]⟩ : ByteArray)) ++ ((rd_T34 l0 x4_1).f1)).size + 2) = False := eq_false (Nat.not_lt.2 c6)
                have c6z : (9223372036854775807 < ((rd_T34 l0 x4_1).f0).size + 2 + ((rd_T34 l0 x4_1).f1).size + 2) = False := eq_false (Nat.not_lt.2 (by have h_ := c6; simp only [ByteArray.size_append] at h_; exact h_))
                by_cases c7 : x3_1.size + (((((rd_T34 l0 x4_1).f0) ++ (⟨#[58, 32]⟩ : ByteArray)) ++ ((rd_T34 l0 x4_1).f1)) ++ (⟨#[13, 10]⟩ : ByteArray)).size ≤ 9223372036854775807
                · rw [if_pos c7] at H
                  have c7b0 := eq_true c7
                  have c7b1 : decide (x3_1.size + (((((rd_T34 l0 x4_1).f0) ++ (⟨#[58, 32]⟩ : ByteArray)) ++ ((rd_T34 l0 x4_1).f1)) ++ (⟨#[13, 10]⟩ : ByteArray)).size ≤ 9223372036854775807) = true := decide_eq_true c7
                  try have c7b2 : (9223372036854775807 < x3_1.size + (((((rd_T34 l0 x4_1).f0) ++ (⟨#[58, 32]⟩ : ByteArray)) ++ ((rd_T34 l0 x4_1).f1)) ++ (⟨#[13, 10]⟩ : ByteArray)).size) = False := eq_false (Nat.not_lt.2 c7)
                  have c7z : (9223372036854775807 < (x3_1).size + (((rd_T34 l0 x4_1).f0).size + 2 + ((rd_T34 l0 x4_1).f1).size + 2)) = False := eq_false (Nat.not_lt.2 (by have h_ := c7; simp only [ByteArray.size_append] at h_; exact h_))
                  have H' := Aside0.mk H
                  clear H
                  have p144 : 0 ≤ (x4_1 : Int) := of_decide_eq_true (by first | (with_reducible assumption) | assumption)
                  have q144 : x4_1 < (l0.length : Int) := of_decide_eq_true (by first | (with_reducible assumption) | assumption)
                  obtain ⟨ad144, e144, hx144_0, hx144_1⟩ := at_T34 HR0.out x4_1 p144 q144
                  cases e144
                  replace p144 := eq_true p144
                  replace q144 := eq_true q144
                  have p145 : 0 ≤ (x4_1 : Int) := of_decide_eq_true (by first | (with_reducible assumption) | assumption)
                  have q145 : x4_1 < (l0.length : Int) := of_decide_eq_true (by first | (with_reducible assumption) | assumption)
                  obtain ⟨ad145, e145, hx145_0, hx145_1⟩ := at_T34 HR0.out x4_1 p145 q145
                  obtain rfl : ad144 = ad145 := (by injection e145)
                  replace p145 := eq_true p145
                  replace q145 := eq_true q145
                  go_wp2
                  repeat (go_quiet (fail); try go_wp2)
                  go_roundg k1
                  case measure => have := HK1.out; omega
                  case rel => exact ⟨(x3_1 ++ (((((rd_T34 l0 x4_1).f0) ++ (⟨#[58, 32]⟩ : ByteArray)) ++ ((rd_T34 l0 x4_1).f1)) ++ (⟨#[13, 10]⟩ : ByteArray))), (wrap64 (x4_1 + 1)), (by first | rfl | (simp; done) | (simp [*]; done)), (by first | rfl | (simp; done) | (simp [*]; done)), H', ⟨by have := HK1.out; omega⟩, by repeat (first | exact Drawn0.refl _ | apply Drawn0.step)⟩
                · rw [if_neg c7] at H
                  exact absurd H (by simp)
              · rw [if_neg c6] at H
                exact absurd H (by simp)
            · rw [if_neg c5] at H
              exact absurd H (by simp)
          · rw [if_neg c4] at H
            exact absurd H (by simp)
        · rw [if_neg c3] at H
          exact absurd H (by simp)
      · rw [if_neg c2] at H
        have c2b0 : decide (x4_1 < (l0.length : Int)) = false := decide_eq_false c2
        clear c2
        by_cases c8 : x3_1.size + 2 ≤ 9223372036854775807
        · rw [if_pos c8] at H
          have c8b0 := eq_true c8
          have c8b1 : decide (x3_1.size + 2 ≤ 9223372036854775807) = true := decide_eq_true c8
          try have c8b2 : (9223372036854775807 < x3_1.size + 2) = False := eq_false (Nat.not_lt.2 c8)
          obtain rfl := Option.some.inj H
          go_wp2
          repeat (go_quiet (fail); try go_wp2)
          go_ret
          exact ⟨by first | rfl | (simp; done) | (simp [*]; done), by repeat (first | exact Drawn0.refl _ | apply Drawn0.step)⟩
        · rw [if_neg c8] at H
          exact absurd H (by simp)

-- NOT PRINTED: function 8 (laws_awakeHeader)

/-! ### laws_left: function 14 -/
def laws_left.f (k : Nat) (l0 : List Int) (l1 : List (S34)) : Option (Bool) := (spec_Header.f k l1).bind fun t150 => (if (strOfNums l0).toList = t150.toList then (some true) else (if (l1.length : Int) = 0 then (some ((l0.length : Int) == 0)) else (some false)))
theorem laws_left.mono : ∀ a0 a1 k, LeO (laws_left.f k a0 a1) (laws_left.f (k + 1) a0 a1) := by
  intro a0 a1 k
  unfold laws_left.f
  repeat' first
      | (with_reducible exact spec_Header.mono _ _)
      | (with_reducible exact LeO.refl _)
      | (with_reducible exact LeO.none _)
      | (with_reducible refine LeO.ite ?_ ?_)
      | (with_reducible refine LeO.bind ?_ (fun _ => ?_))
      | exact spec_Header.mono _ _
      | exact LeO.none _
      | refine LeO.ite ?_ ?_
      | refine LeO.bind ?_ (fun _ => ?_)
set_option maxHeartbeats 8000000 in
set_option maxRecDepth 100000 in
theorem laws_left.calls (k : Nat) (A0 : Option Addr) (c0 : Nat) (l0 : List Int) (A1 : Option Addr) (c1 : Nat) (l1 : List (S34)) (r : Bool) (w : World) (hr0 : Kd.C (Kd.int .u8) w A0 l0.length l0) (hc0 : l0.length ≤ c0) (hr1 : Kd.C k34 w A1 l1.length l1) (hc1 : l1.length ≤ c1) (h : laws_left.f k l0 l1 = some r) :
    Calls Try.prog 14 #[.slice A0 l0.length c0, .slice A1 l1.length c1] w fun e w' => e = .returned (.bool r) ∧ Drawn0 w w' := by
  have HR0 := Aside0.mk hr0
  have HC0 := Aside0.mk hc0
  clear hr0 hc0
  have HR1 := Aside0.mk hr1
  have HC1 := Aside0.mk hc1
  clear hr1 hc1
  have H : ((spec_Header.f k l1).bind fun t150 => (if (strOfNums l0).toList = t150.toList then (some true) else (if (l1.length : Int) = 0 then (some ((l0.length : Int) == 0)) else (some false)))) = some r := h
  clear h
  replace H := Option.bind_eq_some_iff.mp H
  obtain ⟨t150, A30, H⟩ := H
  replace H : (if (strOfNums l0).toList = t150.toList then (some true) else (if (l1.length : Int) = 0 then (some ((l0.length : Int) == 0)) else (some false))) = some r := H
  have A3 := Aside0.mk A30
  clear A30
  by_cases c4 : (strOfNums l0).toList = t150.toList
  · rw [if_pos c4] at H
    have c4b0 : ((strOfNums l0).toList == t150.toList) = true := beq_iff_eq.mpr c4
    have c4b1 : ((strOfNums l0).toList != t150.toList) = false := bne_eq_false_iff_eq.mpr c4
    clear c4
    obtain rfl := Option.some.inj H
    have hcv5 := fun n : Nat => Kd.C_string (P := Try.prog) (w := w.drewN n) (A := A0) (c := c0) Try.underlying28 Try.underlying5 Try.underlying9 HR0.out
    go_enter Try.func14, Try.ntmps14
    go_wp2_with (first | (go_at_call 11; (with_reducible refine (spec_Header.calls k _ _ l1 t150 _ ?side1 ?side2 A3.out).mono ?_); (case side1 => repeat (first | exact HR1.out | (with_reducible refine Kd.C_alloc ?_ _) | (with_reducible refine Kd.C_drewN ?_ _) | (with_reducible refine Kd.C_drew ?_))); (case side2 => exact HC1.out); rintro e w' ⟨rfl, ⟨nd, rfl⟩⟩; (try first | exact ⟨rfl, _, World.drewN_drewN _ _ _⟩ | exact ⟨rfl, _, Eq.trans (World.drewN_drewN _ _ _) (congrArg (World.drewN _) (Nat.add_assoc _ _ _))⟩)))
    repeat (go_quiet (first | (go_at_call 11; (with_reducible refine (spec_Header.calls k _ _ l1 t150 _ ?side1 ?side2 A3.out).mono ?_); (case side1 => repeat (first | exact HR1.out | (with_reducible refine Kd.C_alloc ?_ _) | (with_reducible refine Kd.C_drewN ?_ _) | (with_reducible refine Kd.C_drew ?_))); (case side2 => exact HC1.out); rintro e w' ⟨rfl, ⟨nd, rfl⟩⟩; (try first | exact ⟨rfl, _, World.drewN_drewN _ _ _⟩ | exact ⟨rfl, _, Eq.trans (World.drewN_drewN _ _ _) (congrArg (World.drewN _) (Nat.add_assoc _ _ _))⟩))); try go_wp2_with (first | (go_at_call 11; (with_reducible refine (spec_Header.calls k _ _ l1 t150 _ ?side1 ?side2 A3.out).mono ?_); (case side1 => repeat (first | exact HR1.out | (with_reducible refine Kd.C_alloc ?_ _) | (with_reducible refine Kd.C_drewN ?_ _) | (with_reducible refine Kd.C_drew ?_))); (case side2 => exact HC1.out); rintro e w' ⟨rfl, ⟨nd, rfl⟩⟩; (try first | exact ⟨rfl, _, World.drewN_drewN _ _ _⟩ | exact ⟨rfl, _, Eq.trans (World.drewN_drewN _ _ _) (congrArg (World.drewN _) (Nat.add_assoc _ _ _))⟩))))
    go_ret
    exact ⟨by first | rfl | (simp; done) | (simp [*]; done), by repeat (first | exact Drawn0.refl _ | apply Drawn0.step)⟩
  · rw [if_neg c4] at H
    have c4b0 : ((strOfNums l0).toList == t150.toList) = false := beq_eq_false_iff_ne.mpr c4
    have c4b1 : ((strOfNums l0).toList != t150.toList) = true := bne_iff_ne.mpr c4
    by_cases c6 : (l1.length : Int) = 0
    · rw [if_pos c6] at H
      have c6b0 : ((l1.length : Int) == 0) = true := beq_iff_eq.mpr c6
      have c6b1 : ((l1.length : Int) != 0) = false := bne_eq_false_iff_eq.mpr c6
      clear c6
      obtain rfl := Option.some.inj H
      have hcv7 := fun n : Nat => Kd.C_string (P := Try.prog) (w := w.drewN n) (A := A0) (c := c0) Try.underlying28 Try.underlying5 Try.underlying9 HR0.out
      go_enter Try.func14, Try.ntmps14
      go_wp2_with (first | (go_at_call 11; (with_reducible refine (spec_Header.calls k _ _ l1 t150 _ ?side1 ?side2 A3.out).mono ?_); (case side1 => repeat (first | exact HR1.out | (with_reducible refine Kd.C_alloc ?_ _) | (with_reducible refine Kd.C_drewN ?_ _) | (with_reducible refine Kd.C_drew ?_))); (case side2 => exact HC1.out); rintro e w' ⟨rfl, ⟨nd, rfl⟩⟩; (try first | exact ⟨rfl, _, World.drewN_drewN _ _ _⟩ | exact ⟨rfl, _, Eq.trans (World.drewN_drewN _ _ _) (congrArg (World.drewN _) (Nat.add_assoc _ _ _))⟩)))
      repeat (go_quiet (first | (go_at_call 11; (with_reducible refine (spec_Header.calls k _ _ l1 t150 _ ?side1 ?side2 A3.out).mono ?_); (case side1 => repeat (first | exact HR1.out | (with_reducible refine Kd.C_alloc ?_ _) | (with_reducible refine Kd.C_drewN ?_ _) | (with_reducible refine Kd.C_drew ?_))); (case side2 => exact HC1.out); rintro e w' ⟨rfl, ⟨nd, rfl⟩⟩; (try first | exact ⟨rfl, _, World.drewN_drewN _ _ _⟩ | exact ⟨rfl, _, Eq.trans (World.drewN_drewN _ _ _) (congrArg (World.drewN _) (Nat.add_assoc _ _ _))⟩))); try go_wp2_with (first | (go_at_call 11; (with_reducible refine (spec_Header.calls k _ _ l1 t150 _ ?side1 ?side2 A3.out).mono ?_); (case side1 => repeat (first | exact HR1.out | (with_reducible refine Kd.C_alloc ?_ _) | (with_reducible refine Kd.C_drewN ?_ _) | (with_reducible refine Kd.C_drew ?_))); (case side2 => exact HC1.out); rintro e w' ⟨rfl, ⟨nd, rfl⟩⟩; (try first | exact ⟨rfl, _, World.drewN_drewN _ _ _⟩ | exact ⟨rfl, _, Eq.trans (World.drewN_drewN _ _ _) (congrArg (World.drewN _) (Nat.add_assoc _ _ _))⟩))))
      go_ret
      exact ⟨by first | rfl | (simp; done) | (simp [*]; done), by repeat (first | exact Drawn0.refl _ | apply Drawn0.step)⟩
    · rw [if_neg c6] at H
      have c6b0 : ((l1.length : Int) == 0) = false := beq_eq_false_iff_ne.mpr c6
      have c6b1 : ((l1.length : Int) != 0) = true := bne_iff_ne.mpr c6
      have c6b2 : ¬ (l1 = []) := fun h_ => c6 (by rw [h_]; rfl)
      obtain rfl := Option.some.inj H
      have hcv8 := fun n : Nat => Kd.C_string (P := Try.prog) (w := w.drewN n) (A := A0) (c := c0) Try.underlying28 Try.underlying5 Try.underlying9 HR0.out
      go_enter Try.func14, Try.ntmps14
      go_wp2_with (first | (go_at_call 11; (with_reducible refine (spec_Header.calls k _ _ l1 t150 _ ?side1 ?side2 A3.out).mono ?_); (case side1 => repeat (first | exact HR1.out | (with_reducible refine Kd.C_alloc ?_ _) | (with_reducible refine Kd.C_drewN ?_ _) | (with_reducible refine Kd.C_drew ?_))); (case side2 => exact HC1.out); rintro e w' ⟨rfl, ⟨nd, rfl⟩⟩; (try first | exact ⟨rfl, _, World.drewN_drewN _ _ _⟩ | exact ⟨rfl, _, Eq.trans (World.drewN_drewN _ _ _) (congrArg (World.drewN _) (Nat.add_assoc _ _ _))⟩)))
      repeat (go_quiet (first | (go_at_call 11; (with_reducible refine (spec_Header.calls k _ _ l1 t150 _ ?side1 ?side2 A3.out).mono ?_); (case side1 => repeat (first | exact HR1.out | (with_reducible refine Kd.C_alloc ?_ _) | (with_reducible refine Kd.C_drewN ?_ _) | (with_reducible refine Kd.C_drew ?_))); (case side2 => exact HC1.out); rintro e w' ⟨rfl, ⟨nd, rfl⟩⟩; (try first | exact ⟨rfl, _, World.drewN_drewN _ _ _⟩ | exact ⟨rfl, _, Eq.trans (World.drewN_drewN _ _ _) (congrArg (World.drewN _) (Nat.add_assoc _ _ _))⟩))); try go_wp2_with (first | (go_at_call 11; (with_reducible refine (spec_Header.calls k _ _ l1 t150 _ ?side1 ?side2 A3.out).mono ?_); (case side1 => repeat (first | exact HR1.out | (with_reducible refine Kd.C_alloc ?_ _) | (with_reducible refine Kd.C_drewN ?_ _) | (with_reducible refine Kd.C_drew ?_))); (case side2 => exact HC1.out); rintro e w' ⟨rfl, ⟨nd, rfl⟩⟩; (try first | exact ⟨rfl, _, World.drewN_drewN _ _ _⟩ | exact ⟨rfl, _, Eq.trans (World.drewN_drewN _ _ _) (congrArg (World.drewN _) (Nat.add_assoc _ _ _))⟩))))
      go_ret
      exact ⟨by first | rfl | (simp; done) | (simp [*]; done), by repeat (first | exact Drawn0.refl _ | apply Drawn0.step)⟩

-- NOT PRINTED: function 26 (server_removeHeaderIfPrefixPresent)

-- NOT PRINTED: function 21 (server_RemoveHeaders)

/-! ### impl_copied: function 22 -/
def impl_copied.f (l0 : List Int) : Option (List Int) := (some (([] : List Int) : List Int)).bind fun y155 => (if y155.length + l0.length < 140737488355328 then (some (y155 ++ l0)) else (none))
set_option maxHeartbeats 8000000 in
set_option maxRecDepth 100000 in
theorem impl_copied.calls (A0 : Option Addr) (c0 : Nat) (l0 : List Int) (r : List Int) (w : World) (hr0 : Kd.C (Kd.int .u8) w A0 l0.length l0) (hc0 : l0.length ≤ c0) (h : impl_copied.f l0 = some r) :
    Calls Try.prog 22 #[.slice A0 l0.length c0] w fun e w' => ∃ v0_ : Value, e = .returned (v0_) ∧ Kd.R (Kd.int .u8) 5 w' w.heap.size (fun _ => True) v0_ r ∧ Below w.heap.size w w' := by
  have HR0 := Aside0.mk hr0
  have HC0 := Aside0.mk hc0
  clear hr0 hc0
  have HB := Aside0.mk (Below.refl w.heap.size w)
  have H : ((some (([] : List Int) : List Int)).bind fun y155 => (if y155.length + l0.length < 140737488355328 then (some (y155 ++ l0)) else (none))) = some r := h
  clear h
  obtain ⟨y155, hy155⟩ : ∃ y_ : List Int, y_ = (([] : List Int)) := ⟨_, rfl⟩
  replace H : (if y155.length + l0.length < 140737488355328 then (some (y155 ++ l0)) else (none)) = some r := by first | (rw [hy155]; with_reducible exact H) | (have H2_ := (Option.bind_some _ _).symm.trans H; rw [hy155]; with_reducible exact H2_) | (have H2_ := (Option.bind_some _ _).symm.trans H; with_reducible exact H2_) | with_reducible exact H | (rw [hy155]; exact H) | exact H
  have Ny155 := Aside0.mk hy155
  clear hy155
  by_cases c2 : y155.length + l0.length < 140737488355328
  · rw [if_pos c2] at H
    have LMc2 := Aside0.mk c2
    clear c2
    obtain ⟨y158, hy158⟩ : ∃ y_ : List Int, y_ = (y155 ++ l0) := ⟨_, rfl⟩
    replace H : (some y158) = some r := by first | (rw [hy158]; with_reducible exact H) | (have H2_ := (Option.bind_some _ _).symm.trans H; rw [hy158]; with_reducible exact H2_) | (have H2_ := (Option.bind_some _ _).symm.trans H; with_reducible exact H2_) | with_reducible exact H | (rw [hy158]; exact H) | exact H
    have Ny158 := Aside0.mk hy158
    clear hy158
    obtain rfl := Option.some.inj H
    go_enter Try.func22, Try.ntmps22
    go_wp2_with (first | ((with_reducible refine gate_dst (N := 3) rfl ?_); refine Kd.R_lit (Kd.int .u8) _ 5 ?hg (N := 3) ?hd (xs := ([] : List Int)) (inner := []) (ok := fun _ => True) (okp := fun _ => True) ?hr ?hp (fun _ hk => hk) trivial (Below.refl _ _) (Nat.le_refl _) (by simp) ?_; (case hd => rfl); (case hg => rfl); (case hr => first | (go_simp; done) | (go_simp; rfl)); (case hp => exact (Reps.none _ _)); intro v156 w3 ho4 hb hg_ hnew_; clear hg_ hnew_; (first | rw [← Ny155.out] at ho4 | (simp only [Int.reduceToNat] at ho4; rw [← Ny155.out] at ho4)); have n0_ := Aside0.mk (Kd.R_lower ho4 (below_size (by repeat (first | (with_reducible first | exact HB.out | apply below_alloc | apply pw_below_drewN | apply below_drew1) | exact HB.out)))); have n1_ := Aside0.mk (below_step (by repeat (first | (with_reducible first | exact HB.out | apply below_alloc | apply pw_below_drewN | apply below_drew1) | exact HB.out)) hb); clear HB; have HO157 := n0_; have HB := n1_; clear n0_ n1_; clear hb ho4) | ((with_reducible refine gate_builtin (b := .append) (xs := #[.tmp 3, .tmp 4]) rfl ?_); at_builtin; refine Kd.R_append_rows (Kd.int .u8) (w0 := w) w.heap.size rfl (.tmp 3) (.tmp 4) 28 5 (.int .u8 0) 1 rfl Try.underlying28 info5 rfl (by decide) (by omega) v156 y155 l0 _ _ _ (fun _ => True) (fun _ => False) rfl rfl ?aO ?aR (fun _ _ h => h) (fun _ h => h.elim) ?aF ?aB ?aS ?aL ?_; (case aR => repeat (first | exact (Kd.C_below HR0.out HB.out) | (with_reducible refine Kd.C_alloc ?_ _) | (with_reducible refine Kd.C_drewN ?_ _) | (with_reducible refine Kd.C_drew ?_))); (case aB => exact (by repeat (first | (with_reducible first | exact HB.out | apply below_alloc | apply pw_below_drewN | apply below_drew1) | exact HB.out))); (case aF => exact (fun _ _ => trivial)); (case aO => exact (by (with_reducible repeat (first | apply Kd.R_alloc | apply Kd.R_drewN | apply Kd.R_drew)); exact HO157.out)); (case aS => exact (below_size (by repeat (first | (with_reducible first | exact HB.out | apply below_alloc | apply pw_below_drewN | apply below_drew1) | exact HB.out)))); (case aL => have := LMc2.out; omega); intro v159 w5 ho hb hg hat; rw [← Ny158.out] at ho; have n0_ := Aside0.mk (hb); have n1_ := Aside0.mk (ho); clear HB; clear HO157; have HB := n0_; have HO160 := n1_; clear n0_ n1_; clear ho hb hg hat))
    go_ret
    exact ⟨_, by first | rfl | (simp [errW_none, errW_some] <;> rfl) | (simp [*, errW_none, errW_some] <;> rfl), by (with_reducible repeat (first | apply Kd.R_alloc | apply Kd.R_drewN | apply Kd.R_drew)); exact HO160.out, by repeat (first | (with_reducible first | exact HB.out | apply below_alloc | apply pw_below_drewN | apply below_drew1) | exact HB.out)⟩
  · rw [if_neg c2] at H
    exact absurd H (by simp)

/-! ### impl_HeaderRemovePrefix: function 15 -/
def impl_HeaderRemovePrefix.f (l0 : List Int) (a1 : ByteArray) : Option (List Int) := (impl_copied.f l0).bind fun t161 => (none)
set_option maxHeartbeats 8000000 in
set_option maxRecDepth 100000 in
theorem impl_HeaderRemovePrefix.calls (A0 : Option Addr) (c0 : Nat) (l0 : List Int) (a1 : ByteArray) (r : List Int) (w : World) (hr0 : Kd.C (Kd.int .u8) w A0 l0.length l0) (hc0 : l0.length ≤ c0) (h : impl_HeaderRemovePrefix.f l0 a1 = some r) :
    Calls Try.prog 15 #[.slice A0 l0.length c0, .string a1] w fun e w' => ∃ v0_ : Value, e = .returned (v0_) ∧ Kd.R (Kd.int .u8) 5 w' w.heap.size (fun _ => True) v0_ r ∧ Below w.heap.size w w' := by
  have HR0 := Aside0.mk hr0
  have HC0 := Aside0.mk hc0
  clear hr0 hc0
  have HB := Aside0.mk (Below.refl w.heap.size w)
  have H : ((impl_copied.f l0).bind fun t161 => (none)) = some r := h
  clear h
  replace H := Option.bind_eq_some_iff.mp H
  obtain ⟨t161, A30, H⟩ := H
  replace H : (none) = some r := H
  have A3 := Aside0.mk A30
  clear A30
  exact absurd H (by simp)

/-! ### spec_prefixed: function 23 -/
def spec_prefixed.f (a0 : ByteArray) (a1 : ByteArray) : Option (Bool) := if (a0.size : Int) ≥ (a1.size : Int) then (if 0 ≤ (a1.size : Int) then (if (a1.size : Int) ≤ (a0.size : Int) then (some ((a0.extract 0 ((a1.size : Int) : Int).toNat).toList == a1.toList)) else (none)) else (none)) else (some false)
set_option maxHeartbeats 8000000 in
set_option maxRecDepth 100000 in
theorem spec_prefixed.calls (a0 : ByteArray) (a1 : ByteArray) (r : Bool) (w : World) (h : spec_prefixed.f a0 a1 = some r) :
    Calls Try.prog 23 #[.string a0, .string a1] w fun e w' => e = .returned (.bool r) ∧ Drawn0 w w' := by
  have H : (if (a0.size : Int) ≥ (a1.size : Int) then (if 0 ≤ (a1.size : Int) then (if (a1.size : Int) ≤ (a0.size : Int) then (some ((a0.extract 0 ((a1.size : Int) : Int).toNat).toList == a1.toList)) else (none)) else (none)) else (some false)) = some r := h
  clear h
  by_cases c3 : (a0.size : Int) ≥ (a1.size : Int)
  · rw [if_pos c3] at H
    have c3b0 : decide ((a1.size : Int) ≤ (a0.size : Int)) = true := decide_eq_true c3
    have c3b1 : decide (a1.size ≤ a0.size) = true := decide_eq_true (Int.ofNat_le.mp c3)
    clear c3
    by_cases c4 : 0 ≤ (a1.size : Int)
    · rw [if_pos c4] at H
      have c4b0 := eq_true c4
      have c4b1 : decide (0 ≤ (a1.size : Int)) = true := decide_eq_true c4
      clear c4
      by_cases c5 : (a1.size : Int) ≤ (a0.size : Int)
      · rw [if_pos c5] at H
        have c5b0 := eq_true c5
        have c5b1 : decide ((a1.size : Int) ≤ (a0.size : Int)) = true := decide_eq_true c5
        clear c5
        obtain rfl := Option.some.inj H
        go_enter Try.func23, Try.ntmps23
        go_wp2
        go_ret
        exact ⟨by first | rfl | (simp; done) | (simp [*]; done), by repeat (first | exact Drawn0.refl _ | apply Drawn0.step)⟩
      · rw [if_neg c5] at H
        exact absurd H (by simp)
    · rw [if_neg c4] at H
      exact absurd H (by simp)
  · rw [if_neg c3] at H
    have c3b0 : decide ((a1.size : Int) ≤ (a0.size : Int)) = false := decide_eq_false c3
    have c3b1 : decide (a1.size ≤ a0.size) = false := decide_eq_false (fun h => c3 (Int.ofNat_le.mpr h))
    clear c3
    obtain rfl := Option.some.inj H
    go_enter Try.func23, Try.ntmps23
    go_wp2
    go_ret
    exact ⟨by first | rfl | (simp; done) | (simp [*]; done), by repeat (first | exact Drawn0.refl _ | apply Drawn0.step)⟩

/-! ### spec_WithoutPrefix: function 16 -/
def spec_WithoutPrefix.l0 : Nat → List (S34) → ByteArray → List (S34) → Int → Option ((List (S34)))
  | 0, _, _, _, _ => none
  | k + 1, x0, x1, x5, x6 => if x6 < (x0.length : Int) then (if 0 ≤ x6 then ((spec_prefixed.f ((rd_T34 x0 x6).f0) x1).bind fun t165 => (if t165 = true then (spec_WithoutPrefix.l0 k x0 x1 x5 (wrap64 (x6 + 1))) else (if x5.length < 4398046511104 then (spec_WithoutPrefix.l0 k x0 x1 (x5 ++ [(⟨(rd_T34 x0 x6).f0, (rd_T34 x0 x6).f1⟩ : S34)]) (wrap64 (x6 + 1))) else (none)))) else (none)) else (some x5)
def spec_WithoutPrefix.f (k : Nat) (l0 : List (S34)) (a1 : ByteArray) : Option ((List (S34))) := spec_WithoutPrefix.l0 k l0 a1 ([] : List (S34)) 0
theorem spec_WithoutPrefix.mono_l : ∀ k, (∀ y0 y1 y2 y3, LeO (spec_WithoutPrefix.l0 k y0 y1 y2 y3) (spec_WithoutPrefix.l0 (k + 1) y0 y1 y2 y3))
  | 0 => fun _ _ _ _ r h => by simp [spec_WithoutPrefix.l0] at h
  | k + 1 => by
    have ih0 := spec_WithoutPrefix.mono_l k
    · intro y0 y1 y2 y3
      unfold spec_WithoutPrefix.l0
      repeat' first
      | (with_reducible exact ih0 _ _ _ _)
      | (with_reducible exact LeO.refl _)
      | (with_reducible exact LeO.none _)
      | (with_reducible refine LeO.ite ?_ ?_)
      | (with_reducible refine LeO.bind ?_ (fun _ => ?_))
      | exact ih0 _ _ _ _
      | exact LeO.none _
      | refine LeO.ite ?_ ?_
      | refine LeO.bind ?_ (fun _ => ?_)
theorem spec_WithoutPrefix.mono : ∀ a0 a1 k, LeO (spec_WithoutPrefix.f k a0 a1) (spec_WithoutPrefix.f (k + 1) a0 a1) := by
  intro a0 a1 k
  have ih0 := spec_WithoutPrefix.mono_l k
  unfold spec_WithoutPrefix.f
  repeat' first
      | (with_reducible exact ih0 _ _ _ _)
      | (with_reducible exact LeO.refl _)
      | (with_reducible exact LeO.none _)
      | (with_reducible refine LeO.ite ?_ ?_)
      | (with_reducible refine LeO.bind ?_ (fun _ => ?_))
      | exact ih0 _ _ _ _
      | exact LeO.none _
      | refine LeO.ite ?_ ?_
      | refine LeO.bind ?_ (fun _ => ?_)
set_option maxHeartbeats 8000000 in
set_option maxRecDepth 100000 in
theorem spec_WithoutPrefix.calls (k : Nat) (A0 : Option Addr) (c0 : Nat) (l0 : List (S34)) (a1 : ByteArray) (r : List (S34)) (w : World) (hr0 : Kd.C k34 w A0 l0.length l0) (hc0 : l0.length ≤ c0) (h : spec_WithoutPrefix.f k l0 a1 = some r) :
    Calls Try.prog 16 #[.slice A0 l0.length c0, .string a1] w fun e w' => ∃ v0_ : Value, e = .returned (v0_) ∧ Kd.R k34 34 w' w.heap.size (fun _ => True) v0_ r ∧ Below w.heap.size w w' := by
  have hu34 := Try.underlying34
  have HR0 := Aside0.mk hr0
  have HC0 := Aside0.mk hc0
  clear hr0 hc0
  have HB := Aside0.mk (Below.refl w.heap.size w)
  have H : (spec_WithoutPrefix.l0 k l0 a1 ([] : List (S34)) 0) = some r := h
  clear h
  have H' := Aside0.mk H
  clear H
  go_enter Try.func16, Try.ntmps16
  go_wp2
  go_loopg [5, 6] k (fun kq v5 v6 w' => ∃ (x5_1 : List (S34)) (x6_1 : Int), v6 = .int .i64 x6_1 ∧ Aside0 (spec_WithoutPrefix.l0 kq l0 a1 x5_1 x6_1 = some r) ∧ Aside0 (kq ≤ k) ∧ Aside0 (Kd.R k34 34 w' w.heap.size (fun _ => True) v5 x5_1) ∧ Aside0 (Below w.heap.size w w'))
  case atStart => exact ⟨(([] : List (S34))), (0), (by first | rfl | (simp; done) | (simp [*]; done)), H', ⟨Nat.le_refl _⟩, ⟨by first | exact Kd.R_nil _ _ _ _ _ | exact Kd.N_nil _ _ _ _ _ | exact Kd.V_nil _ _ _ _ _ | exact Kd.Q_nil _ _ _ _ _ | exact Kd.S_nil _ _ _ _ _⟩, ⟨by repeat (first | (with_reducible first | exact HB.out | apply below_alloc | apply pw_below_drewN | apply below_drew1) | exact HB.out)⟩⟩
  case round =>
    clear H'
    try clear c1
    try clear p2
    obtain ⟨x5_1, x6_1, rfl, HA, HK1, HO_5, HB⟩ := hrel
    cases gk with
    | zero => exact absurd HA.out (by simp [spec_WithoutPrefix.l0])
    | succ k1 =>
      have H := HA.out
      clear HA
      simp only [spec_WithoutPrefix.l0] at H
      by_cases c3 : x6_1 < (l0.length : Int)
      · rw [if_pos c3] at H
        have c3b0 : decide (x6_1 < (l0.length : Int)) = true := decide_eq_true c3
        clear c3
        by_cases c4 : 0 ≤ x6_1
        · rw [if_pos c4] at H
          have c4b0 : decide (0 ≤ x6_1) = true := decide_eq_true c4
          clear c4
          replace H := Option.bind_eq_some_iff.mp H
          obtain ⟨t165, A50, H⟩ := H
          replace H : (if t165 = true then (spec_WithoutPrefix.l0 k1 l0 a1 x5_1 (wrap64 (x6_1 + 1))) else (if x5_1.length < 4398046511104 then (spec_WithoutPrefix.l0 k1 l0 a1 (x5_1 ++ [(⟨(rd_T34 l0 x6_1).f0, (rd_T34 l0 x6_1).f1⟩ : S34)]) (wrap64 (x6_1 + 1))) else (none))) = some r := H
          have A5 := Aside0.mk A50
          clear A50
          by_cases c6 : t165 = true
          · subst c6
            have H1 : (spec_WithoutPrefix.l0 k1 l0 a1 x5_1 (wrap64 (x6_1 + 1))) = some r := by rw [if_pos rfl] at H; exact H
            clear H
            have H := H1
            clear H1
            have H' := Aside0.mk H
            clear H
            have p164 : 0 ≤ (x6_1 : Int) := of_decide_eq_true (by first | (with_reducible assumption) | assumption)
            have q164 : x6_1 < (l0.length : Int) := of_decide_eq_true (by first | (with_reducible assumption) | assumption)
            obtain ⟨ad164, e164, hx164_0, hx164_1⟩ := at_T34 HR0.out x6_1 p164 q164
            cases e164
            replace hx164_0 := (HB.out.cell (World.block_lt_of_cell? w _ hx164_0)).trans hx164_0
            replace hx164_1 := (HB.out.cell (World.block_lt_of_cell? w _ hx164_1)).trans hx164_1
            replace p164 := eq_true p164
            replace q164 := eq_true q164
            go_wp2_with (first | ((with_reducible refine gate_callee (f := 23) rfl ?_); refine goesL_ (some 19) rfl rfl Try.func23 (by kernel_rfl) rfl #[.string ((rd_T34 l0 x6_1).f0), .string a1] rfl (by (try simp only [List.map_toArray, List.map_cons, List.map_nil]); first | done | rfl | (simp only [List.length_drop, List.length_take]; rfl)) ?_; (with_reducible refine (spec_prefixed.calls ((rd_T34 l0 x6_1).f0) a1 true _ A5.out).mono ?_); rintro e w' ⟨rfl, ⟨nd, rfl⟩⟩; refine ⟨_, rfl, ?_⟩))
            go_roundg k1
            case measure => have := HK1.out; omega
            case rel => exact ⟨(x5_1), (wrap64 (x6_1 + 1)), (by first | rfl | (simp; done) | (simp [*]; done)), H', ⟨by have := HK1.out; omega⟩, ⟨by (with_reducible repeat (first | apply Kd.R_alloc | apply Kd.R_drewN | apply Kd.R_drew)); exact HO_5.out⟩, ⟨by repeat (first | (with_reducible first | exact HB.out | apply below_alloc | apply pw_below_drewN | apply below_drew1) | exact HB.out)⟩⟩
          · replace c6 := Bool.eq_false_iff.mpr c6
            subst c6
            have H1 : (if x5_1.length < 4398046511104 then (spec_WithoutPrefix.l0 k1 l0 a1 (x5_1 ++ [(⟨(rd_T34 l0 x6_1).f0, (rd_T34 l0 x6_1).f1⟩ : S34)]) (wrap64 (x6_1 + 1))) else (none)) = some r := by rw [if_neg (show ¬ (false = true) by decide)] at H; exact H
            clear H
            have H := H1
            clear H1
            by_cases c7 : x5_1.length < 4398046511104
            · rw [if_pos c7] at H
              have LMc7 := Aside0.mk c7
              clear c7
              obtain ⟨y167, hy167⟩ : ∃ y_ : List (S34), y_ = (x5_1 ++ [(⟨(rd_T34 l0 x6_1).f0, (rd_T34 l0 x6_1).f1⟩ : S34)]) := ⟨_, rfl⟩
              replace H : (spec_WithoutPrefix.l0 k1 l0 a1 y167 (wrap64 (x6_1 + 1))) = some r := by first | (rw [hy167]; with_reducible exact H) | (have H2_ := (Option.bind_some _ _).symm.trans H; rw [hy167]; with_reducible exact H2_) | (have H2_ := (Option.bind_some _ _).symm.trans H; with_reducible exact H2_) | with_reducible exact H | (rw [hy167]; exact H) | exact H
              have Ny167 := Aside0.mk hy167
              clear hy167
              have H' := Aside0.mk H
              clear H
              have p164 : 0 ≤ (x6_1 : Int) := of_decide_eq_true (by first | (with_reducible assumption) | assumption)
              have q164 : x6_1 < (l0.length : Int) := of_decide_eq_true (by first | (with_reducible assumption) | assumption)
              obtain ⟨ad164, e164, hx164_0, hx164_1⟩ := at_T34 HR0.out x6_1 p164 q164
              cases e164
              replace hx164_0 := (HB.out.cell (World.block_lt_of_cell? w _ hx164_0)).trans hx164_0
              replace hx164_1 := (HB.out.cell (World.block_lt_of_cell? w _ hx164_1)).trans hx164_1
              replace p164 := eq_true p164
              replace q164 := eq_true q164
              go_wp2_with (first | ((with_reducible refine gate_callee (f := 23) rfl ?_); refine goesL_ (some 19) rfl rfl Try.func23 (by kernel_rfl) rfl #[.string ((rd_T34 l0 x6_1).f0), .string a1] rfl (by (try simp only [List.map_toArray, List.map_cons, List.map_nil]); first | done | rfl | (simp only [List.length_drop, List.length_take]; rfl)) ?_; (with_reducible refine (spec_prefixed.calls ((rd_T34 l0 x6_1).f0) a1 false _ A5.out).mono ?_); rintro e w' ⟨rfl, ⟨nd, rfl⟩⟩; refine ⟨_, rfl, ?_⟩; have p166 : 0 ≤ (x6_1 : Int) := of_decide_eq_true (by first | (with_reducible assumption) | assumption); have q166 : x6_1 < (l0.length : Int) := of_decide_eq_true (by first | (with_reducible assumption) | assumption); obtain ⟨ad166, e166, hx166_0, hx166_1⟩ := at_T34 HR0.out x6_1 p166 q166; obtain rfl : ad164 = ad166 := (by injection e166); replace hx166_0 := (HB.out.cell (World.block_lt_of_cell? w _ hx166_0)).trans hx166_0; replace hx166_1 := (HB.out.cell (World.block_lt_of_cell? w _ hx166_1)).trans hx166_1; replace p166 := eq_true p166; replace q166 := eq_true q166) | ((with_reducible refine gate_builtin (b := .append) (xs := #[.tmp 21, .tmp 26]) rfl ?_); at_builtin; refine Kd.R_append k34 (w0 := w) w.heap.size rfl (.tmp 21) (.tmp 26) 22 34 (.agg #[(.string ⟨#[]⟩), (.string ⟨#[]⟩)]) 32 rfl Try.underlying22 info34 rfl (by decide) (by omega) u5 x5_1 (⟨(rd_T34 l0 x6_1).f0, (rd_T34 l0 x6_1).f1⟩ : S34) [.string ((rd_T34 l0 x6_1).f0), .string ((rd_T34 l0 x6_1).f1)] (fun _ => True) (fun _ => False) rfl rfl ?aP (fun _ hk => hk.elim) ?aF ?aO ?aB ?aS ?aL ?_; (case aP => exact k34_mkM _ _ _ (⟨(rd_T34 l0 x6_1).f0, (rd_T34 l0 x6_1).f1⟩ : S34)); (case aB => exact (by repeat (first | (with_reducible first | exact HB.out | apply below_alloc | apply pw_below_drewN | apply below_drew1) | exact HB.out))); (case aF => exact (fun _ _ => trivial)); (case aO => exact (by (with_reducible repeat (first | apply Kd.R_alloc | apply Kd.R_drewN | apply Kd.R_drew)); exact HO_5.out)); (case aS => exact (below_size (by repeat (first | (with_reducible first | exact HB.out | apply below_alloc | apply pw_below_drewN | apply below_drew1) | exact HB.out)))); (case aL => have := LMc7.out; omega); intro v168 w8 ho hb hg hat; rw [← Ny167.out] at ho; have n0_ := Aside0.mk (hb); have n1_ := Aside0.mk (ho); clear HB; clear HO_5; have HB := n0_; have HO169 := n1_; clear n0_ n1_; clear ho hb hg hat))
              go_roundg k1
              case measure => have := HK1.out; omega
              case rel => exact ⟨(y167), (wrap64 (x6_1 + 1)), (by first | rfl | (simp; done) | (simp [*]; done)), H', ⟨by have := HK1.out; omega⟩, ⟨by (with_reducible repeat (first | apply Kd.R_alloc | apply Kd.R_drewN | apply Kd.R_drew)); exact HO169.out⟩, ⟨by repeat (first | (with_reducible first | exact HB.out | apply below_alloc | apply pw_below_drewN | apply below_drew1) | exact HB.out)⟩⟩
            · rw [if_neg c7] at H
              exact absurd H (by simp)
        · rw [if_neg c4] at H
          exact absurd H (by simp)
      · rw [if_neg c3] at H
        have c3b0 : decide (x6_1 < (l0.length : Int)) = false := decide_eq_false c3
        clear c3
        obtain rfl := Option.some.inj H
        go_wp2
        go_ret
        exact ⟨_, by first | rfl | (simp [errW_none, errW_some] <;> rfl) | (simp [*, errW_none, errW_some] <;> rfl), by (with_reducible repeat (first | apply Kd.R_alloc | apply Kd.R_drewN | apply Kd.R_drew)); exact HO_5.out, by repeat (first | (with_reducible first | exact HB.out | apply below_alloc | apply pw_below_drewN | apply below_drew1) | exact HB.out)⟩

-- NOT PRINTED: function 4 (laws_FnHeaderRemovePrefix)

end Go.Proofs.Ytnkioieocjgekaa.GFnHeaderRemovePrefix
