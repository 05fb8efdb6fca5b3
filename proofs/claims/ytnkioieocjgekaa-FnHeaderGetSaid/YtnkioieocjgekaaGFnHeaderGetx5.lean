/- A walk of Go functions (plain functions of theirs, and that the machine's calls do what these say), written by a program of this session's. -/
import Derived.Test.YtnkioieocjgekaaGFnHeaderGetx0
import Derived.Test.YtnkioieocjgekaaGFnHeaderGetx4
namespace Go.Proofs.Ytnkioieocjgekaa.GFnHeaderGet
open Go.RowKit Go.Proofs.YtnkioieocjgekaaW.PrintWords Go.Proofs.YtnkioieocjgekaaW.PrintLast Go.Proofs.YtnkioieocjgekaaW.PrintMore
attribute [local go_sem] max2_int min2_int max_two min_two max_three min_three max_four min_four   -- for this text's walks alone
set_option linter.unusedVariables false
set_option linter.unusedSimpArgs false

/-! ### server_getHeaderKeyIndex: function 29 -/
mutual
def server_getHeaderKeyIndex.l0 : Nat → List Int → List Int → Int → Int → Int → Option (Int)
  | 0, _, _, _, _, _ => none
  | k + 1, x1, x5, x6, x7, x8 => if 0 ≤ x8 then (if x8 ≤ (x1.length : Int) then ((server_zzIndexBytes.f k (x1.drop (x8 : Int).toNat) x5).bind fun t143 => (if t143 < 2 then (some (-1)) else (if (wrap64 (t143 + x8)) ≥ (wrap64 (x7 - 1)) then (server_getHeaderKeyIndex.j1 k x1 x5 x6 x7 (wrap64 (t143 + x8)) true) else (if 0 ≤ (wrap64 ((wrap64 (t143 + x8)) - 1)) then (if (wrap64 ((wrap64 (t143 + x8)) - 1)) < (x1.length : Int) then (if (rd x1 (wrap64 ((wrap64 (t143 + x8)) - 1))) = 10 then (if 0 ≤ (wrap64 ((wrap64 (t143 + x8)) - 2)) then (if (wrap64 ((wrap64 (t143 + x8)) - 2)) < (x1.length : Int) then (server_getHeaderKeyIndex.j1 k x1 x5 x6 x7 (wrap64 (t143 + x8)) ((rd x1 (wrap64 ((wrap64 (t143 + x8)) - 2))) != 13)) else (none)) else (none)) else (server_getHeaderKeyIndex.j1 k x1 x5 x6 x7 (wrap64 (t143 + x8)) true)) else (none)) else (none))))) else (none)) else (none)
def server_getHeaderKeyIndex.j1 : Nat → List Int → List Int → Int → Int → Int → Bool → Option (Int)
  | 0, _, _, _, _, _, _ => none
  | k + 1, x1, x5, x6, x7, x9, x48 => if x48 = true then (server_getHeaderKeyIndex.l0 k x1 x5 x6 x7 (wrap64 (x9 + x6))) else (if (wrap64 (x9 + x6)) ≥ x7 then (some (-1)) else (if 0 ≤ (wrap64 (x9 + x6)) then (if (wrap64 (x9 + x6)) < (x1.length : Int) then (if (rd x1 (wrap64 (x9 + x6))) = 58 then (some x9) else (server_getHeaderKeyIndex.l0 k x1 x5 x6 x7 (wrap64 (x9 + x6)))) else (none)) else (none)))
end
def server_getHeaderKeyIndex.f (k : Nat) (a0 : ByteArray) (l1 : List Int) : Option (Int) := if (l1.length : Int) = 0 then (some (-1)) else ((server_stringToBytes.f a0).bind fun t139 => (server_getHeaderKeyIndex.l0 k l1 t139 (a0.size : Int) (l1.length : Int) 0))
theorem server_getHeaderKeyIndex.mono_l : ∀ k, (∀ y0 y1 y2 y3 y4, LeO (server_getHeaderKeyIndex.l0 k y0 y1 y2 y3 y4) (server_getHeaderKeyIndex.l0 (k + 1) y0 y1 y2 y3 y4)) ∧ (∀ y0 y1 y2 y3 y4 y5, LeO (server_getHeaderKeyIndex.j1 k y0 y1 y2 y3 y4 y5) (server_getHeaderKeyIndex.j1 (k + 1) y0 y1 y2 y3 y4 y5))
  | 0 => ⟨fun _ _ _ _ _ r h => by simp [server_getHeaderKeyIndex.l0] at h, fun _ _ _ _ _ _ r h => by simp [server_getHeaderKeyIndex.j1] at h⟩
  | k + 1 => by
    obtain ⟨ih0, ih1⟩ := server_getHeaderKeyIndex.mono_l k
    refine ⟨?_, ?_⟩
    · intro y0 y1 y2 y3 y4
      unfold server_getHeaderKeyIndex.l0
      repeat' first
      | (with_reducible exact ih0 _ _ _ _ _)
      | (with_reducible exact ih1 _ _ _ _ _ _)
      | (with_reducible exact server_zzIndexBytes.mono _ _ _)
      | (with_reducible exact LeO.refl _)
      | (with_reducible exact LeO.none _)
      | (with_reducible refine LeO.ite ?_ ?_)
      | (with_reducible refine LeO.bind ?_ (fun _ => ?_))
      | exact ih0 _ _ _ _ _
      | exact ih1 _ _ _ _ _ _
      | exact server_zzIndexBytes.mono _ _ _
      | exact LeO.none _
      | refine LeO.ite ?_ ?_
      | refine LeO.bind ?_ (fun _ => ?_)
    · intro y0 y1 y2 y3 y4 y5
      unfold server_getHeaderKeyIndex.j1
      repeat' first
      | (with_reducible exact ih0 _ _ _ _ _)
      | (with_reducible exact ih1 _ _ _ _ _ _)
      | (with_reducible exact server_zzIndexBytes.mono _ _ _)
      | (with_reducible exact LeO.refl _)
      | (with_reducible exact LeO.none _)
      | (with_reducible refine LeO.ite ?_ ?_)
      | (with_reducible refine LeO.bind ?_ (fun _ => ?_))
      | exact ih0 _ _ _ _ _
      | exact ih1 _ _ _ _ _ _
      | exact server_zzIndexBytes.mono _ _ _
      | exact LeO.none _
      | refine LeO.ite ?_ ?_
      | refine LeO.bind ?_ (fun _ => ?_)
theorem server_getHeaderKeyIndex.mono : ∀ a0 a1 k, LeO (server_getHeaderKeyIndex.f k a0 a1) (server_getHeaderKeyIndex.f (k + 1) a0 a1) := by
  intro a0 a1 k
  obtain ⟨ih0, ih1⟩ := server_getHeaderKeyIndex.mono_l k
  unfold server_getHeaderKeyIndex.f
  repeat' first
      | (with_reducible exact ih0 _ _ _ _ _)
      | (with_reducible exact ih1 _ _ _ _ _ _)
      | (with_reducible exact server_zzIndexBytes.mono _ _ _)
      | (with_reducible exact LeO.refl _)
      | (with_reducible exact LeO.none _)
      | (with_reducible refine LeO.ite ?_ ?_)
      | (with_reducible refine LeO.bind ?_ (fun _ => ?_))
      | exact ih0 _ _ _ _ _
      | exact ih1 _ _ _ _ _ _
      | exact server_zzIndexBytes.mono _ _ _
      | exact LeO.none _
      | refine LeO.ite ?_ ?_
      | refine LeO.bind ?_ (fun _ => ?_)
set_option maxHeartbeats 8000000 in
set_option maxRecDepth 100000 in
theorem server_getHeaderKeyIndex.calls (k : Nat) (a0 : ByteArray) (A1 : Option Addr) (c1 : Nat) (l1 : List Int) (r : Int) (w : World) (hr1 : Kd.C (Kd.int .u8) w A1 l1.length l1) (hc1 : l1.length ≤ c1) (h : server_getHeaderKeyIndex.f k a0 l1 = some r) :
    Calls Try.prog 29 #[.string a0, .slice A1 l1.length c1] w fun e w' => e = .returned (.int .i64 r) ∧ Below w.heap.size w w' := by
  have HR1 := Aside0.mk hr1
  have HC1 := Aside0.mk hc1
  clear hr1 hc1
  have HB := Aside0.mk (Below.refl w.heap.size w)
  have H : (if (l1.length : Int) = 0 then (some (-1)) else ((server_stringToBytes.f a0).bind fun t139 => (server_getHeaderKeyIndex.l0 k l1 t139 (a0.size : Int) (l1.length : Int) 0))) = some r := h
  clear h
  by_cases c3 : (l1.length : Int) = 0
  · rw [if_pos c3] at H
    have c3b0 : ((l1.length : Int) == 0) = true := beq_iff_eq.mpr c3
    have c3b1 : ((l1.length : Int) != 0) = false := bne_eq_false_iff_eq.mpr c3
    clear c3
    obtain rfl := Option.some.inj H
    go_enter Try.func29, Try.ntmps29
    go_wp2
    go_ret
    exact ⟨by first | rfl | (simp [errW_none, errW_some] <;> rfl) | (simp [*, errW_none, errW_some] <;> rfl), by repeat (first | (with_reducible first | exact HB.out | apply below_alloc | apply pw_below_drewN | apply below_drew1) | exact HB.out)⟩
  · rw [if_neg c3] at H
    have c3b0 : ((l1.length : Int) == 0) = false := beq_eq_false_iff_ne.mpr c3
    have c3b1 : ((l1.length : Int) != 0) = true := bne_iff_ne.mpr c3
    have c3b2 : ¬ (l1 = []) := fun h_ => c3 (by rw [h_]; rfl)
    replace H := Option.bind_eq_some_iff.mp H
    obtain ⟨t139, A40, H⟩ := H
    replace H : (server_getHeaderKeyIndex.l0 k l1 t139 (a0.size : Int) (l1.length : Int) 0) = some r := H
    have A4 := Aside0.mk A40
    clear A40
    have H' := Aside0.mk H
    clear H
    go_enter Try.func29, Try.ntmps29
    go_wp2_with (first | ((with_reducible refine gate_callee (f := 30) rfl ?_); refine goesL_ (some 14) rfl rfl Try.func30 (by kernel_rfl) rfl #[.string a0] rfl (by (try simp only [List.map_toArray, List.map_cons, List.map_nil]); first | done | rfl | (simp only [List.length_drop, List.length_take]; rfl)) ?_; (with_reducible refine (server_stringToBytes.calls a0 t139 _ A4.out).mono ?_); rintro e w5 ⟨v140, rfl, ho0, hb⟩; refine ⟨_, rfl, ?_⟩; have n0_ := Aside0.mk (Kd.V_lower (Kd.V_mono (ok' := fun k_ => True) ho0 (fun k_ hk_ => trivial)) (below_size (by repeat (first | (with_reducible first | exact HB.out | apply below_alloc | apply pw_below_drewN | apply below_drew1) | exact HB.out)))); have n1_ := Aside0.mk (below_step (by repeat (first | (with_reducible first | exact HB.out | apply below_alloc | apply pw_below_drewN | apply below_drew1) | exact HB.out)) hb); clear HB; have HO141 := n0_; have HB := n1_; clear n0_ n1_; (try clear hb); (try clear hb2); (try clear hk); (try clear hi); (try clear ho0)))
    go_loopg [8] k (fun kq v8 w' => ∃ (x8_1 : Int), v8 = .int .i64 x8_1 ∧ Aside0 (server_getHeaderKeyIndex.l0 kq l1 t139 (a0.size : Int) (l1.length : Int) x8_1 = some r) ∧ Aside0 (kq ≤ k) ∧ Aside0 (Kd.V (Kd.int .u8) 5 w' w.heap.size (fun _ => True) v140 t139) ∧ Aside0 (Below w.heap.size w w'))
    case atStart => exact ⟨(0), (by first | rfl | (simp; done) | (simp [*]; done)), H', ⟨Nat.le_refl _⟩, ⟨by (with_reducible repeat (first | apply Kd.V_alloc | apply Kd.V_drewN | apply Kd.V_drew)); exact HO141.out⟩, ⟨by repeat (first | (with_reducible first | exact HB.out | apply below_alloc | apply pw_below_drewN | apply below_drew1) | exact HB.out)⟩⟩
    case round =>
      clear H'
      try clear c1
      try clear c2
      try clear p2
      try clear c3
      try clear c3b0
      try clear c3b1
      try clear c3b2
      obtain ⟨x8_1, rfl, HA, HK1, HO_5, HB⟩ := hrel
      cases gk with
      | zero => exact absurd HA.out (by simp [server_getHeaderKeyIndex.l0])
      | succ k1 =>
        have H := HA.out
        clear HA
        simp only [server_getHeaderKeyIndex.l0] at H
        by_cases c6 : 0 ≤ x8_1
        · rw [if_pos c6] at H
          have c6b0 := eq_true c6
          have c6b1 : decide (0 ≤ x8_1) = true := decide_eq_true c6
          clear c6
          by_cases c7 : x8_1 ≤ (l1.length : Int)
          · rw [if_pos c7] at H
            have c7b0 := eq_true c7
            have c7b1 : decide (x8_1 ≤ (l1.length : Int)) = true := decide_eq_true c7
            clear c7
            replace H := Option.bind_eq_some_iff.mp H
            obtain ⟨t143, A80, H⟩ := H
            replace H : (if t143 < 2 then (some (-1)) else (if (wrap64 (t143 + x8_1)) ≥ (wrap64 ((l1.length : Int) - 1)) then (server_getHeaderKeyIndex.j1 k1 l1 t139 (a0.size : Int) (l1.length : Int) (wrap64 (t143 + x8_1)) true) else (if 0 ≤ (wrap64 ((wrap64 (t143 + x8_1)) - 1)) then (if (wrap64 ((wrap64 (t143 + x8_1)) - 1)) < (l1.length : Int) then (if (rd l1 (wrap64 ((wrap64 (t143 + x8_1)) - 1))) = 10 then (if 0 ≤ (wrap64 ((wrap64 (t143 + x8_1)) - 2)) then (if (wrap64 ((wrap64 (t143 + x8_1)) - 2)) < (l1.length : Int) then (server_getHeaderKeyIndex.j1 k1 l1 t139 (a0.size : Int) (l1.length : Int) (wrap64 (t143 + x8_1)) ((rd l1 (wrap64 ((wrap64 (t143 + x8_1)) - 2))) != 13)) else (none)) else (none)) else (server_getHeaderKeyIndex.j1 k1 l1 t139 (a0.size : Int) (l1.length : Int) (wrap64 (t143 + x8_1)) true)) else (none)) else (none)))) = some r := H
            have A8 := Aside0.mk A80
            clear A80
            by_cases c9 : t143 < 2
            · rw [if_pos c9] at H
              have c9b0 : decide (t143 < 2) = true := decide_eq_true c9
              clear c9
              obtain rfl := Option.some.inj H
              obtain ⟨i010, hi010, _, hsz10, _⟩ := info_parts info5
              obtain ⟨A10, hcut10, hA10, hC10⟩ := print_drop_of (P := Try.prog) (Value.int .u8) 0 28 5 .i64 Try.underlying28 hi010 hsz10 A1 c1 l1 x8_1 (of_decide_eq_true (by first | (with_reducible assumption) | assumption)) (of_decide_eq_true (by first | (with_reducible assumption) | assumption)) HC1.out
              have HR142 := Aside0.mk (Kd.C_of_reads (h1 := fun _ => rfl) (hA10 _ (Kd.reads_of_C HR1.out)))
              have HC142 := Aside0.mk hC10
              clear hA10 hC10 hi010 hsz10
              obtain ⟨Ao11, co11, eo11⟩ := Kd.V_slice HO_5.out
              subst eo11
              go_wp2_with (first | ((with_reducible refine gate_callee (f := 28) rfl ?_); refine goesL_ (some 23) rfl rfl Try.func28 (by kernel_rfl) rfl #[.slice A10 (l1.drop (x8_1 : Int).toNat).length (c1 - x8_1.toNat), .slice Ao11 t139.length co11] rfl (by (try simp only [List.map_toArray, List.map_cons, List.map_nil]); first | done | (rw [show (l1.drop (x8_1 : Int).toNat).length = (l1.length - x8_1.toNat) from List.length_drop] <;> rfl) | rfl | (simp only [List.length_drop, List.length_take]; rfl)) ?_; (with_reducible refine (server_zzIndexBytes.calls k1 _ _ (l1.drop (x8_1 : Int).toNat) _ _ t139 t143 _ ?side1 ?side2 ?side3 ?side4 A8.out).mono ?_); (case side1 => repeat (first | exact (Kd.C_below HR142.out HB.out) | (with_reducible refine Kd.C_alloc ?_ _) | (with_reducible refine Kd.C_drewN ?_ _) | (with_reducible refine Kd.C_drew ?_))); (case side2 => exact HC142.out); (case side3 => repeat (first | exact (Kd.V_reads' HO_5.out).2.2 | (with_reducible refine Kd.C_alloc ?_ _) | (with_reducible refine Kd.C_drewN ?_ _) | (with_reducible refine Kd.C_drew ?_))); (case side4 => exact (Kd.V_reads' HO_5.out).2.1); rintro e w' ⟨rfl, ⟨nd, rfl⟩⟩; refine ⟨_, rfl, ?_⟩))
              go_ret
              exact ⟨by first | rfl | (simp [errW_none, errW_some] <;> rfl) | (simp [*, errW_none, errW_some] <;> rfl), by repeat (first | (with_reducible first | exact HB.out | apply below_alloc | apply pw_below_drewN | apply below_drew1) | exact HB.out)⟩
            · rw [if_neg c9] at H
              have c9b0 : decide (t143 < 2) = false := decide_eq_false c9
              clear c9
              have HC12 := Aside0.mk H
              clear H
              obtain ⟨i013, hi013, _, hsz13, _⟩ := info_parts info5
              obtain ⟨A13, hcut13, hA13, hC13⟩ := print_drop_of (P := Try.prog) (Value.int .u8) 0 28 5 .i64 Try.underlying28 hi013 hsz13 A1 c1 l1 x8_1 (of_decide_eq_true (by first | (with_reducible assumption) | assumption)) (of_decide_eq_true (by first | (with_reducible assumption) | assumption)) HC1.out
              have HR142 := Aside0.mk (Kd.C_of_reads (h1 := fun _ => rfl) (hA13 _ (Kd.reads_of_C HR1.out)))
              have HC142 := Aside0.mk hC13
              clear hA13 hC13 hi013 hsz13
              obtain ⟨Ao14, co14, eo14⟩ := Kd.V_slice HO_5.out
              subst eo14
              go_upto_region 10 with (first | ((with_reducible refine gate_callee (f := 28) rfl ?_); refine goesL_ (some 23) rfl rfl Try.func28 (by kernel_rfl) rfl #[.slice A13 (l1.drop (x8_1 : Int).toNat).length (c1 - x8_1.toNat), .slice Ao14 t139.length co14] rfl (by (try simp only [List.map_toArray, List.map_cons, List.map_nil]); first | done | (rw [show (l1.drop (x8_1 : Int).toNat).length = (l1.length - x8_1.toNat) from List.length_drop] <;> rfl) | rfl | (simp only [List.length_drop, List.length_take]; rfl)) ?_; (with_reducible refine (server_zzIndexBytes.calls k1 _ _ (l1.drop (x8_1 : Int).toNat) _ _ t139 t143 _ ?side1 ?side2 ?side3 ?side4 A8.out).mono ?_); (case side1 => repeat (first | exact (Kd.C_below HR142.out HB.out) | (with_reducible refine Kd.C_alloc ?_ _) | (with_reducible refine Kd.C_drewN ?_ _) | (with_reducible refine Kd.C_drew ?_))); (case side2 => exact HC142.out); (case side3 => repeat (first | exact (Kd.V_reads' HO_5.out).2.2 | (with_reducible refine Kd.C_alloc ?_ _) | (with_reducible refine Kd.C_drewN ?_ _) | (with_reducible refine Kd.C_drew ?_))); (case side4 => exact (Kd.V_reads' HO_5.out).2.1); rintro e w' ⟨rfl, ⟨nd, rfl⟩⟩; refine ⟨_, rfl, ?_⟩))
              (try simp only [Act.put, List.setIfInBounds_toArray, List.set_cons_zero, List.set_cons_succ])
              go_cut [48] (fun v48 wc => ∃ (kq : Nat) (x48_11 : Bool), v48 = .bool x48_11 ∧ Aside0 (server_getHeaderKeyIndex.j1 kq l1 t139 (a0.size : Int) (l1.length : Int) (wrap64 (t143 + x8_1)) x48_11 = some r) ∧ Aside0 (kq ≤ k1) ∧ Aside0 (Kd.V (Kd.int .u8) 5 wc w.heap.size (fun _ => True) (.slice Ao14 t139.length co14) t139) ∧ Aside0 (Below w.heap.size w wc))
              case first =>
                have H := HC12.out
                clear HC12
                by_cases c15 : (wrap64 (t143 + x8_1)) ≥ (wrap64 ((l1.length : Int) - 1))
                · rw [if_pos c15] at H
                  have c15b0 : decide ((wrap64 ((l1.length : Int) - 1)) ≤ (wrap64 (t143 + x8_1))) = true := decide_eq_true c15
                  clear c15
                  (first | rw [c15b0] | (simp only [i64_w, i32_w]; rw [c15b0]) | skip)
                  have H' := Aside0.mk H
                  clear H
                  go_wp2
                  go_meet
                  case rel => exact ⟨_, (true), (by first | rfl | (simp; done) | (simp [*]; done)), H', ⟨by have := HK1.out; first | omega | exact Nat.le_refl _⟩, ⟨by (with_reducible repeat (first | apply Kd.V_alloc | apply Kd.V_drewN | apply Kd.V_drew)); exact HO_5.out⟩, ⟨by repeat (first | (with_reducible first | exact HB.out | apply below_alloc | apply pw_below_drewN | apply below_drew1) | exact HB.out)⟩⟩
                · rw [if_neg c15] at H
                  have c15b0 : decide ((wrap64 ((l1.length : Int) - 1)) ≤ (wrap64 (t143 + x8_1))) = false := decide_eq_false c15
                  clear c15
                  (first | rw [c15b0] | (simp only [i64_w, i32_w]; rw [c15b0]) | skip)
                  obtain ⟨ji16, hji16⟩ : ∃ j_ : Int, (wrap64 ((wrap64 (t143 + x8_1)) - 1)) = j_ := ⟨_, rfl⟩
                  replace H : (if 0 ≤ (ji16) then (if (ji16) < (l1.length : Int) then (if (rd l1 (ji16)) = 10 then (if 0 ≤ (wrap64 ((wrap64 (t143 + x8_1)) - 2)) then (if (wrap64 ((wrap64 (t143 + x8_1)) - 2)) < (l1.length : Int) then (server_getHeaderKeyIndex.j1 k1 l1 t139 (a0.size : Int) (l1.length : Int) (wrap64 (t143 + x8_1)) ((rd l1 (wrap64 ((wrap64 (t143 + x8_1)) - 2))) != 13)) else (none)) else (none)) else (server_getHeaderKeyIndex.j1 k1 l1 t139 (a0.size : Int) (l1.length : Int) (wrap64 (t143 + x8_1)) true)) else (none)) else (none)) = some r := by first | (rw [hji16] at H; exact H) | (simp only [hji16] at H ⊢; exact H)
                  have hji16w : (IntKind.i64.wrap ((wrap64 (t143 + x8_1)) - 1)) = ji16 := (i64_w _).trans hji16
                  by_cases c17 : 0 ≤ (ji16)
                  · rw [if_pos c17] at H
                    have c17b0 : decide (0 ≤ (ji16)) = true := decide_eq_true c17
                    clear c17
                    by_cases c18 : (ji16) < (l1.length : Int)
                    · rw [if_pos c18] at H
                      have c18b0 : decide ((ji16) < (l1.length : Int)) = true := decide_eq_true c18
                      clear c18
                      by_cases c19 : (rd l1 (ji16)) = 10
                      · rw [if_pos c19] at H
                        have c19b0 : ((rd l1 (ji16)) == 10) = true := beq_iff_eq.mpr c19
                        have c19b1 : ((rd l1 (ji16)) != 10) = false := bne_eq_false_iff_eq.mpr c19
                        clear c19
                        obtain ⟨ji20, hji20⟩ : ∃ j_ : Int, (wrap64 ((wrap64 (t143 + x8_1)) - 2)) = j_ := ⟨_, rfl⟩
                        replace H : (if 0 ≤ (ji20) then (if (ji20) < (l1.length : Int) then (server_getHeaderKeyIndex.j1 k1 l1 t139 (a0.size : Int) (l1.length : Int) (wrap64 (t143 + x8_1)) ((rd l1 (ji20)) != 13)) else (none)) else (none)) = some r := by first | (rw [hji20] at H; exact H) | (simp only [hji20] at H ⊢; exact H)
                        have hji20w : (IntKind.i64.wrap ((wrap64 (t143 + x8_1)) - 2)) = ji20 := (i64_w _).trans hji20
                        by_cases c21 : 0 ≤ (ji20)
                        · rw [if_pos c21] at H
                          have c21b0 : decide (0 ≤ (ji20)) = true := decide_eq_true c21
                          clear c21
                          by_cases c22 : (ji20) < (l1.length : Int)
                          · rw [if_pos c22] at H
                            have c22b0 : decide ((ji20) < (l1.length : Int)) = true := decide_eq_true c22
                            clear c22
                            have H' := Aside0.mk H
                            clear H
                            have p144 : 0 ≤ ((ji16) : Int) := of_decide_eq_true (by first | (with_reducible assumption) | assumption)
                            have q144 : (ji16) < (l1.length : Int) := of_decide_eq_true (by first | (with_reducible assumption) | assumption)
                            obtain ⟨ad144, e144, hx144_0⟩ := Kd.at_int HR1.out (ji16) p144 q144
                            cases e144
                            replace hx144_0 := (HB.out.cell (World.block_lt_of_cell? w _ hx144_0)).trans hx144_0
                            replace p144 := eq_true p144
                            replace q144 := eq_true q144
                            have p145 : 0 ≤ ((ji20) : Int) := of_decide_eq_true (by first | (with_reducible assumption) | assumption)
                            have q145 : (ji20) < (l1.length : Int) := of_decide_eq_true (by first | (with_reducible assumption) | assumption)
                            obtain ⟨ad145, e145, hx145_0⟩ := Kd.at_int HR1.out (ji20) p145 q145
                            obtain rfl : ad144 = ad145 := (by injection e145)
                            replace hx145_0 := (HB.out.cell (World.block_lt_of_cell? w _ hx145_0)).trans hx145_0
                            replace p145 := eq_true p145
                            replace q145 := eq_true q145
                            go_wp2
                            go_meet
                            case rel => exact ⟨_, (((rd l1 (ji20)) != 13)), (by first | rfl | (simp; done) | (simp only [← hji20] <;> (first | rfl | simp)) | (simp [*]; done)), H', ⟨by have := HK1.out; first | omega | exact Nat.le_refl _⟩, ⟨by (with_reducible repeat (first | apply Kd.V_alloc | apply Kd.V_drewN | apply Kd.V_drew)); exact HO_5.out⟩, ⟨by repeat (first | (with_reducible first | exact HB.out | apply below_alloc | apply pw_below_drewN | apply below_drew1) | exact HB.out)⟩⟩
                          · rw [if_neg c22] at H
                            exact absurd H (by simp)
                        · rw [if_neg c21] at H
                          exact absurd H (by simp)
                      · rw [if_neg c19] at H
                        have c19b0 : ((rd l1 (ji16)) == 10) = false := beq_eq_false_iff_ne.mpr c19
                        have c19b1 : ((rd l1 (ji16)) != 10) = true := bne_iff_ne.mpr c19
                        have H' := Aside0.mk H
                        clear H
                        have p144 : 0 ≤ ((ji16) : Int) := of_decide_eq_true (by first | (with_reducible assumption) | assumption)
                        have q144 : (ji16) < (l1.length : Int) := of_decide_eq_true (by first | (with_reducible assumption) | assumption)
                        obtain ⟨ad144, e144, hx144_0⟩ := Kd.at_int HR1.out (ji16) p144 q144
                        cases e144
                        replace hx144_0 := (HB.out.cell (World.block_lt_of_cell? w _ hx144_0)).trans hx144_0
                        replace p144 := eq_true p144
                        replace q144 := eq_true q144
                        go_wp2
                        go_meet
                        case rel => exact ⟨_, (true), (by first | rfl | (simp; done) | (simp [*]; done)), H', ⟨by have := HK1.out; first | omega | exact Nat.le_refl _⟩, ⟨by (with_reducible repeat (first | apply Kd.V_alloc | apply Kd.V_drewN | apply Kd.V_drew)); exact HO_5.out⟩, ⟨by repeat (first | (with_reducible first | exact HB.out | apply below_alloc | apply pw_below_drewN | apply below_drew1) | exact HB.out)⟩⟩
                    · rw [if_neg c18] at H
                      exact absurd H (by simp)
                  · rw [if_neg c17] at H
                    exact absurd H (by simp)
              case rest =>
                clear HC12
                try clear c1
                try clear p1
                try clear q1
                try clear hx1
                try clear c2
                try clear p2
                try clear c3
                try clear c3b0
                try clear c3b1
                try clear c3b2
                try clear c6
                try clear c6b0
                try clear c6b1
                try clear p6
                try clear c7
                try clear c7b0
                try clear c7b1
                try clear c9
                try clear c9b0
                try clear p14
                try clear q14
                try clear hx14
                try clear c15
                try clear c15b0
                try clear c17
                try clear c17b0
                try clear c18
                try clear c18b0
                try clear c19
                try clear c19b0
                try clear c19b1
                try clear c21
                try clear c21b0
                try clear c22
                try clear c22b0
                try clear hx144_0
                try clear hx145_0
                try clear p144
                try clear p145
                try clear p2
                try clear q144
                try clear q145
                obtain ⟨kq, x48_11, rfl, HA, HJ11, HO_5, HB⟩ := hcut
                cases kq with
                | zero => exact absurd HA.out (by simp [server_getHeaderKeyIndex.j1])
                | succ kj11 =>
                  have H := HA.out
                  clear HA
                  simp only [server_getHeaderKeyIndex.j1] at H
                  by_cases c23 : x48_11 = true
                  · subst c23
                    have H1 : (server_getHeaderKeyIndex.l0 kj11 l1 t139 (a0.size : Int) (l1.length : Int) (wrap64 ((wrap64 (t143 + x8_1)) + (a0.size : Int)))) = some r := by rw [if_pos rfl] at H; exact H
                    clear H
                    have H := H1
                    clear H1
                    have H' := Aside0.mk H
                    clear H
                    go_wp2
                    go_roundg kj11
                    case measure => have := HK1.out; have := HJ11.out; omega
                    case rel => exact ⟨(wrap64 ((wrap64 (t143 + x8_1)) + (a0.size : Int))), (by first | rfl | (simp; done) | (simp [*]; done)), H', ⟨by have := HK1.out; have := HJ11.out; omega⟩, ⟨by (with_reducible repeat (first | apply Kd.V_alloc | apply Kd.V_drewN | apply Kd.V_drew)); exact HO_5.out⟩, ⟨by repeat (first | (with_reducible first | exact HB.out | apply below_alloc | apply pw_below_drewN | apply below_drew1) | exact HB.out)⟩⟩
                  · replace c23 := Bool.eq_false_iff.mpr c23
                    subst c23
                    have H1 : (if (wrap64 ((wrap64 (t143 + x8_1)) + (a0.size : Int))) ≥ (l1.length : Int) then (some (-1)) else (if 0 ≤ (wrap64 ((wrap64 (t143 + x8_1)) + (a0.size : Int))) then (if (wrap64 ((wrap64 (t143 + x8_1)) + (a0.size : Int))) < (l1.length : Int) then (if (rd l1 (wrap64 ((wrap64 (t143 + x8_1)) + (a0.size : Int)))) = 58 then (some (wrap64 (t143 + x8_1))) else (server_getHeaderKeyIndex.l0 kj11 l1 t139 (a0.size : Int) (l1.length : Int) (wrap64 ((wrap64 (t143 + x8_1)) + (a0.size : Int))))) else (none)) else (none))) = some r := by rw [if_neg (show ¬ (false = true) by decide)] at H; exact H
                    clear H
                    have H := H1
                    clear H1
                    by_cases c24 : (wrap64 ((wrap64 (t143 + x8_1)) + (a0.size : Int))) ≥ (l1.length : Int)
                    · rw [if_pos c24] at H
                      have c24b0 : decide ((l1.length : Int) ≤ (wrap64 ((wrap64 (t143 + x8_1)) + (a0.size : Int)))) = true := decide_eq_true c24
                      clear c24
                      obtain rfl := Option.some.inj H
                      go_wp2
                      go_ret
                      exact ⟨by first | rfl | (simp [errW_none, errW_some] <;> rfl) | (simp [*, errW_none, errW_some] <;> rfl), by repeat (first | (with_reducible first | exact HB.out | apply below_alloc | apply pw_below_drewN | apply below_drew1) | exact HB.out)⟩
                    · rw [if_neg c24] at H
                      have c24b0 : decide ((l1.length : Int) ≤ (wrap64 ((wrap64 (t143 + x8_1)) + (a0.size : Int)))) = false := decide_eq_false c24
                      clear c24
                      obtain ⟨ji25, hji25⟩ : ∃ j_ : Int, (wrap64 ((wrap64 (t143 + x8_1)) + (a0.size : Int))) = j_ := ⟨_, rfl⟩
                      replace H : (if 0 ≤ (ji25) then (if (ji25) < (l1.length : Int) then (if (rd l1 (ji25)) = 58 then (some (wrap64 (t143 + x8_1))) else (server_getHeaderKeyIndex.l0 kj11 l1 t139 (a0.size : Int) (l1.length : Int) ji25)) else (none)) else (none)) = some r := by first | (rw [hji25] at H; exact H) | (simp only [hji25] at H ⊢; exact H)
                      (try rw [hji25] at c24b0)
                      have hji25w : (IntKind.i64.wrap ((wrap64 (t143 + x8_1)) + (a0.size : Int))) = ji25 := (i64_w _).trans hji25
                      by_cases c26 : 0 ≤ (ji25)
                      · rw [if_pos c26] at H
                        have c26b0 : decide (0 ≤ (ji25)) = true := decide_eq_true c26
                        clear c26
                        by_cases c27 : (ji25) < (l1.length : Int)
                        · rw [if_pos c27] at H
                          have c27b0 : decide ((ji25) < (l1.length : Int)) = true := decide_eq_true c27
                          clear c27
                          by_cases c28 : (rd l1 (ji25)) = 58
                          · rw [if_pos c28] at H
                            have c28b0 : ((rd l1 (ji25)) == 58) = true := beq_iff_eq.mpr c28
                            have c28b1 : ((rd l1 (ji25)) != 58) = false := bne_eq_false_iff_eq.mpr c28
                            clear c28
                            obtain rfl := Option.some.inj H
                            have p146 : 0 ≤ ((ji25) : Int) := of_decide_eq_true (by first | (with_reducible assumption) | assumption)
                            have q146 : (ji25) < (l1.length : Int) := of_decide_eq_true (by first | (with_reducible assumption) | assumption)
                            obtain ⟨ad146, e146, hx146_0⟩ := Kd.at_int HR1.out (ji25) p146 q146
                            cases e146
                            replace hx146_0 := (HB.out.cell (World.block_lt_of_cell? w _ hx146_0)).trans hx146_0
                            replace p146 := eq_true p146
                            replace q146 := eq_true q146
                            go_wp2
                            go_ret
                            exact ⟨by first | rfl | (simp [errW_none, errW_some] <;> rfl) | (simp only [← hji25]; first | rfl | (simp [errW_none, errW_some] <;> rfl)) | (simp [*, errW_none, errW_some] <;> rfl), by repeat (first | (with_reducible first | exact HB.out | apply below_alloc | apply pw_below_drewN | apply below_drew1) | exact HB.out)⟩
                          · rw [if_neg c28] at H
                            have c28b0 : ((rd l1 (ji25)) == 58) = false := beq_eq_false_iff_ne.mpr c28
                            have c28b1 : ((rd l1 (ji25)) != 58) = true := bne_iff_ne.mpr c28
                            have H' := Aside0.mk H
                            clear H
                            have p146 : 0 ≤ ((ji25) : Int) := of_decide_eq_true (by first | (with_reducible assumption) | assumption)
                            have q146 : (ji25) < (l1.length : Int) := of_decide_eq_true (by first | (with_reducible assumption) | assumption)
                            obtain ⟨ad146, e146, hx146_0⟩ := Kd.at_int HR1.out (ji25) p146 q146
                            cases e146
                            replace hx146_0 := (HB.out.cell (World.block_lt_of_cell? w _ hx146_0)).trans hx146_0
                            replace p146 := eq_true p146
                            replace q146 := eq_true q146
                            go_wp2
                            go_roundg kj11
                            case measure => have := HK1.out; have := HJ11.out; omega
                            case rel => exact ⟨(ji25), (by first | rfl | (simp; done) | (simp only [← hji25] <;> (first | rfl | simp)) | (simp [*]; done)), H', ⟨by have := HK1.out; have := HJ11.out; omega⟩, ⟨by (with_reducible repeat (first | apply Kd.V_alloc | apply Kd.V_drewN | apply Kd.V_drew)); exact HO_5.out⟩, ⟨by repeat (first | (with_reducible first | exact HB.out | apply below_alloc | apply pw_below_drewN | apply below_drew1) | exact HB.out)⟩⟩
                        · rw [if_neg c27] at H
                          exact absurd H (by simp)
                      · rw [if_neg c26] at H
                        exact absurd H (by simp)
          · rw [if_neg c7] at H
            exact absurd H (by simp)
        · rw [if_neg c6] at H
          exact absurd H (by simp)

-- NOT PRINTED: function 27 (server_sliceHeader)

/-! ### server_getHeader: function 25 -/
def server_getHeader.f (a0 : ByteArray) (l1 : List Int) : Option (List Int) := none
set_option maxHeartbeats 8000000 in
set_option maxRecDepth 100000 in
theorem server_getHeader.calls (a0 : ByteArray) (A1 : Option Addr) (c1 : Nat) (l1 : List Int) (r : List Int) (w : World) (hr1 : Kd.C (Kd.int .u8) w A1 l1.length l1) (hc1 : l1.length ≤ c1) (h : server_getHeader.f a0 l1 = some r) :
    Calls Try.prog 25 #[.string a0, .slice A1 l1.length c1] w fun e w' => ∃ v0_ : Value, e = .returned (v0_) ∧ Kd.R (Kd.int .u8) 5 w' w.heap.size (fun _ => True) v0_ r ∧ Below w.heap.size w w' := by
  have HR1 := Aside0.mk hr1
  have HC1 := Aside0.mk hc1
  clear hr1 hc1
  have HB := Aside0.mk (Below.refl w.heap.size w)
  have H : (none) = some r := h
  clear h
  exact absurd H (by simp)

/-! ### server_GetHeader: function 20 -/
def server_GetHeader.f (a0 : ByteArray) (l1 : List Int) : Option (List Int) := (server_getHeader.f a0 l1).bind fun t151 => (some t151)
set_option maxHeartbeats 8000000 in
set_option maxRecDepth 100000 in
theorem server_GetHeader.calls (a0 : ByteArray) (A1 : Option Addr) (c1 : Nat) (l1 : List Int) (r : List Int) (w : World) (hr1 : Kd.C (Kd.int .u8) w A1 l1.length l1) (hc1 : l1.length ≤ c1) (h : server_GetHeader.f a0 l1 = some r) :
    Calls Try.prog 20 #[.string a0, .slice A1 l1.length c1] w fun e w' => ∃ v0_ : Value, e = .returned (v0_) ∧ Kd.R (Kd.int .u8) 5 w' w.heap.size (fun _ => True) v0_ r ∧ Below w.heap.size w w' := by
  have HR1 := Aside0.mk hr1
  have HC1 := Aside0.mk hc1
  clear hr1 hc1
  have HB := Aside0.mk (Below.refl w.heap.size w)
  have H : ((server_getHeader.f a0 l1).bind fun t151 => (some t151)) = some r := h
  clear h
  replace H := Option.bind_eq_some_iff.mp H
  obtain ⟨t151, A30, H⟩ := H
  replace H : (some t151) = some r := H
  have A3 := Aside0.mk A30
  clear A30
  obtain rfl := Option.some.inj H
  go_enter Try.func20, Try.ntmps20
  go_wp2_with (first | ((with_reducible refine gate_callee (f := 25) rfl ?_); refine goesL_ (some 7) rfl rfl Try.func25 (by kernel_rfl) rfl #[.string a0, .slice A1 l1.length c1] rfl (by (try simp only [List.map_toArray, List.map_cons, List.map_nil]); first | done | rfl | (simp only [List.length_drop, List.length_take]; rfl)) ?_; (with_reducible refine (server_getHeader.calls a0 _ _ l1 t151 _ ?side1 ?side2 A3.out).mono ?_); (case side1 => repeat (first | exact HR1.out | (with_reducible refine Kd.C_alloc ?_ _) | (with_reducible refine Kd.C_drewN ?_ _) | (with_reducible refine Kd.C_drew ?_))); (case side2 => exact HC1.out); rintro e w4 ⟨v152, rfl, ho0, hb⟩; refine ⟨_, rfl, ?_⟩; have n0_ := Aside0.mk (Kd.R_lower ho0 (below_size (by repeat (first | (with_reducible first | exact HB.out | apply below_alloc | apply pw_below_drewN | apply below_drew1) | exact HB.out)))); have n1_ := Aside0.mk (below_step (by repeat (first | (with_reducible first | exact HB.out | apply below_alloc | apply pw_below_drewN | apply below_drew1) | exact HB.out)) hb); clear HB; have HO153 := n0_; have HB := n1_; clear n0_ n1_; (try clear hb); (try clear hb2); (try clear hk); (try clear hi); (try clear ho0)))
  go_ret
  exact ⟨_, by first | rfl | (simp [errW_none, errW_some] <;> rfl) | (simp [*, errW_none, errW_some] <;> rfl), by (with_reducible repeat (first | apply Kd.R_alloc | apply Kd.R_drewN | apply Kd.R_drew)); exact HO153.out, by repeat (first | (with_reducible first | exact HB.out | apply below_alloc | apply pw_below_drewN | apply below_drew1) | exact HB.out)⟩

-- NOT PRINTED: function 10 (impl_HeaderGet)

-- NOT PRINTED: function 8 (laws_awakeHeader)

-- NOT PRINTED: function 3 (laws_FnHeaderGet)

end Go.Proofs.Ytnkioieocjgekaa.GFnHeaderGet
