/- A walk of Go functions (plain functions of theirs, and that the machine's calls do what these say), written by a program of this session's. -/
import Derived.Test.YtoopmpjgmgffoaaDoorTpD
namespace Go.Proofs.YtoopmpjgmgffoaaDoor.GFnTransformBack
open Go.RowKit Go.Proofs.YtoopmpjgmgffoaaDoorW.PrintWords Go.Proofs.YtoopmpjgmgffoaaDoorW.PrintLast Go.Proofs.YtoopmpjgmgffoaaDoorW.PrintMore
set_option linter.unusedVariables false
set_option linter.unusedSimpArgs false
/-! ### laws_back: function 15 -/
mutual
def laws_back.l0 : Nat → ByteArray → List (S42) → List ByteArray → List Int → Int → Int → Option (ByteArray × (List (S42)))
  | 0, _, _, _, _, _, _ => none
  | k + 1, x0, x1, x6, x7, x8, x9 => if x9 < (x1.length : Int) then (if 0 ≤ x9 then (if ((rd_T42 x1 x9).f0) = 0 then (if x6.length < 8796093022208 then (laws_back.l0 k x0 x1 (x6 ++ [(rd_T42 x1 x9).f1]) x7 x8 (wrap64 (x9 + 1))) else (none)) else (if ((rd_T42 x1 x9).f0) = 11 then (if x6.length < 8796093022208 then (laws_back.l0 k x0 x1 (x6 ++ [(⟨#[62]⟩ : ByteArray)]) x7 x8 (wrap64 (x9 + 1))) else (none)) else (if 0 ≤ ((rd_T42 x1 x9).f2) then (if ((rd_T42 x1 x9).f2) < (x7.length : Int) then (if x6.length < 8796093022208 then (laws_back.l0 k x0 x1 (x6 ++ [(⟨#[42]⟩ : ByteArray)]) (x7.set (((rd_T42 x1 x9).f2) : Int).toNat (wrap64 (x8 + 1))) (wrap64 (x8 + 1)) (wrap64 (x9 + 1))) else (none)) else (none)) else (none)))) else (none)) else ((spec_Tokens.f k x0).bind fun t422 => (laws_back.l1 k x6 x7 0 ([] : List (S42)) t422 0))
def laws_back.l1 : Nat → List ByteArray → List Int → Int → List (S42) → List ByteArray → Int → Option (ByteArray × (List (S42)))
  | 0, _, _, _, _, _, _ => none
  | k + 1, x6, x7, x8, x10, x11, x12 => if x12 < (x11.length : Int) then (if 0 ≤ x12 then (if (rdOf ByteArray.empty x11 x12).toList = ([42] : List UInt8) then (if 0 ≤ (wrap64 (x8 + 1)) then (if (wrap64 (x8 + 1)) < (x7.length : Int) then (if x10.length < 2199023255552 then (laws_back.l1 k x6 x7 (wrap64 (x8 + 1)) (x10 ++ [(⟨2, (⟨#[]⟩ : ByteArray), rd x7 (wrap64 (x8 + 1)), 0, ([] : List Int)⟩ : S42)]) x11 (wrap64 (x12 + 1))) else (none)) else (none)) else (none)) else (if (rdOf ByteArray.empty x11 x12).toList = ([62] : List UInt8) then (if x10.length < 2199023255552 then (laws_back.l1 k x6 x7 x8 (x10 ++ [(⟨11, (⟨#[]⟩ : ByteArray), 0, 0, ([] : List Int)⟩ : S42)]) x11 (wrap64 (x12 + 1))) else (none)) else (if x10.length < 2199023255552 then (laws_back.l1 k x6 x7 x8 (x10 ++ [(⟨0, rdOf ByteArray.empty x11 x12, 0, 0, ([] : List Int)⟩ : S42)]) x11 (wrap64 (x12 + 1))) else (none)))) else (none)) else ((spec_Join.f k x6).bind fun t425 => (some (t425, x10)))
end
def laws_back.f (k : Nat) (a0 : ByteArray) (l1 : List (S42)) : Option (ByteArray × (List (S42))) := (spec_Wilds.f k a0).bind fun t405 => (if 0 ≤ (wrap64 (t405 + 1)) then (if (wrap64 (t405 + 1) : Int).toNat ≤ 35184372088832 then (laws_back.l0 k a0 l1 ([] : List ByteArray) (List.replicate (wrap64 (t405 + 1) : Int).toNat 0) 0 0) else (none)) else (none))
set_option maxHeartbeats 8000000 in
set_option maxRecDepth 100000 in
theorem laws_back.calls (k : Nat) (a0 : ByteArray) (A1 : Option Addr) (c1 : Nat) (l1 : List (S42)) (r1 : ByteArray) (r2 : List (S42)) (w : World) (hr1 : Kd.C k42 w A1 l1.length l1) (hc1 : l1.length ≤ c1) (h : laws_back.f k a0 l1 = some (r1, r2)) :
    Calls Tryd.prog 15 #[.string a0, .slice A1 l1.length c1] w fun e w' => ∃ v1_ : Value, e = .returned (.tuple #[.string r1, v1_]) ∧ Kd.S k42 42 w' w.heap.size (fun _ => True) v1_ r2 ∧ Below w.heap.size w w' := by
  have hu42 := Tryd.underlying42
  have HR1 := Aside0.mk hr1
  have HC1 := Aside0.mk hc1
  clear hr1 hc1
  have HB := Aside0.mk (Below.refl w.heap.size w)
  have H : ((spec_Wilds.f k a0).bind fun t405 => (if 0 ≤ (wrap64 (t405 + 1)) then (if (wrap64 (t405 + 1) : Int).toNat ≤ 35184372088832 then (laws_back.l0 k a0 l1 ([] : List ByteArray) (List.replicate (wrap64 (t405 + 1) : Int).toNat 0) 0 0) else (none)) else (none))) = some (r1, r2) := h
  clear h
  replace H := Option.bind_eq_some_iff.mp H
  obtain ⟨t405, A30, H⟩ := H
  replace H : (if 0 ≤ (wrap64 (t405 + 1)) then (if (wrap64 (t405 + 1) : Int).toNat ≤ 35184372088832 then (laws_back.l0 k a0 l1 ([] : List ByteArray) (List.replicate (wrap64 (t405 + 1) : Int).toNat 0) 0 0) else (none)) else (none)) = some (r1, r2) := H
  have A3 := Aside0.mk A30
  clear A30
  obtain ⟨ji4, hji4⟩ : ∃ j_ : Int, (wrap64 (t405 + 1)) = j_ := ⟨_, rfl⟩
  replace H : (if 0 ≤ (ji4) then (if (ji4 : Int).toNat ≤ 35184372088832 then (laws_back.l0 k a0 l1 ([] : List ByteArray) (List.replicate (ji4 : Int).toNat 0) 0 0) else (none)) else (none)) = some (r1, r2) := by first | (rw [hji4] at H; exact H) | (simp only [hji4] at H ⊢; exact H)
  (try rw [hji4] at A3)
  have hji4w : (IntKind.i64.wrap (t405 + 1)) = ji4 := (i64_w _).trans hji4
  by_cases c5 : 0 ≤ (ji4)
  · rw [if_pos c5] at H
    have c5b0 := eq_true c5
    have c5b1 : decide (0 ≤ (ji4)) = true := decide_eq_true c5
    clear c5
    by_cases c6 : (ji4 : Int).toNat ≤ 35184372088832
    · rw [if_pos c6] at H
      have c6b0 := eq_true c6
      have c6b1 : decide ((ji4 : Int).toNat ≤ 35184372088832) = true := decide_eq_true c6
      clear c6
      obtain ⟨y406, hy406⟩ : ∃ y_ : List Int, y_ = (List.replicate (ji4 : Int).toNat 0) := ⟨_, rfl⟩
      replace H : (laws_back.l0 k a0 l1 ([] : List ByteArray) y406 0 0) = some (r1, r2) := by first | (rw [hy406]; with_reducible exact H) | (have H2_ := (Option.bind_some _ _).symm.trans H; rw [hy406]; with_reducible exact H2_) | (have H2_ := (Option.bind_some _ _).symm.trans H; with_reducible exact H2_) | with_reducible exact H | (rw [hy406]; exact H) | exact H
      have Ny406 := Aside0.mk hy406
      clear hy406
      have H' := Aside0.mk H
      clear H
      go_enter Tryd.func15, Tryd.ntmps15
      go_wp2_with (first | ((with_reducible refine gate_callee (f := 38) rfl ?_); refine goesL_ (some 14) rfl rfl Tryd.func38 (by kernel_rfl) rfl #[.string a0] rfl (by (try simp only [List.map_toArray, List.map_cons, List.map_nil]); first | done | rfl | (simp only [List.length_drop, List.length_take]; rfl)) ?_; (with_reducible refine (spec_Wilds.calls k a0 t405 _ A3.out).mono ?_); rintro e w7 ⟨rfl, hb⟩; refine ⟨_, rfl, ?_⟩; have n0_ := Aside0.mk (below_step (by repeat (first | (with_reducible first | exact HB.out | apply below_alloc | apply pw_below_drewN | apply below_drew1) | exact HB.out)) hb); clear HB; have HB := n0_; clear n0_; (try clear hb); (try clear hb2); (try clear hk); (try clear hi)) | ((with_reducible refine gate_dst (N := 16) rfl ?_); refine Kd.R_make (Kd.int .i64) _ 3 rfl (N := 16) rfl 31 _ _ rfl ji4 rfl rfl Tryd.underlying31 (.int .i64 0) 8 info3 rfl (by decide) (by omega) 0 (ok := fun _ => True) (okp := fun _ => True) rfl (fun _ hk => hk) trivial (of_decide_eq_true (by first | (with_reducible assumption) | assumption)) (Nat.le_trans (Nat.mul_le_mul_right _ (of_decide_eq_true (by first | (with_reducible assumption) | assumption) : ji4.toNat ≤ 35184372088832)) (by omega)) (Below.refl _ _) (Nat.le_refl _) ?_; intro v407 w8 ho9 hb hg_ hnew_; clear hg_ hnew_; (first | rw [← Ny406.out] at ho9 | (simp only [Int.reduceToNat] at ho9; rw [← Ny406.out] at ho9)); have n0_ := Aside0.mk (Kd.R_lower ho9 (below_size (by repeat (first | (with_reducible first | exact HB.out | apply below_alloc | apply pw_below_drewN | apply below_drew1) | exact HB.out)))); have n1_ := Aside0.mk (below_step (by repeat (first | (with_reducible first | exact HB.out | apply below_alloc | apply pw_below_drewN | apply below_drew1) | exact HB.out)) hb); clear HB; have HO408 := n0_; have HB := n1_; clear n0_ n1_; clear hb ho9))
      go_loopg [6, 8, 9] k (fun kq v6 v8 v9 w' => ∃ (x6_1 : List ByteArray) (x7_1 : List Int) (x8_1 : Int) (x9_1 : Int), v8 = .int .i64 x8_1 ∧ v9 = .int .i64 x9_1 ∧ Aside0 (laws_back.l0 kq a0 l1 x6_1 x7_1 x8_1 x9_1 = some (r1, r2)) ∧ Aside0 (kq ≤ k) ∧ Aside0 (Kd.R Kd.string 9 w' w.heap.size (fun _ => True) v6 x6_1) ∧ Aside0 (Kd.R (Kd.int .i64) 3 w' w.heap.size (fun _ => True) v407 x7_1) ∧ Aside0 (Below w.heap.size w w'))
      case atStart => exact ⟨(([] : List ByteArray)), (y406), (0), (0), (by first | rfl | (simp; done) | (simp [*]; done)), (by first | rfl | (simp; done) | (simp [*]; done)), H', ⟨Nat.le_refl _⟩, ⟨by first | exact Kd.R_nil _ _ _ _ _ | exact Kd.N_nil _ _ _ _ _ | exact Kd.V_nil _ _ _ _ _ | exact Kd.Q_nil _ _ _ _ _ | exact Kd.S_nil _ _ _ _ _⟩, ⟨by (with_reducible repeat (first | apply Kd.R_alloc | apply Kd.R_drewN | apply Kd.R_drew)); exact HO408.out⟩, ⟨by repeat (first | (with_reducible first | exact HB.out | apply below_alloc | apply pw_below_drewN | apply below_drew1) | exact HB.out)⟩⟩
      case round =>
        clear H'
        try clear c1
        try clear p2
        try clear c3
        try clear c5
        try clear c5b0
        try clear c5b1
        try clear c6
        try clear c6b0
        try clear c6b1
        try clear p6
        obtain ⟨x6_1, x7_1, x8_1, x9_1, rfl, rfl, HA, HK1, HO_6, HO_7, HB⟩ := hrel
        cases gk with
        | zero => exact absurd HA.out (by simp [laws_back.l0])
        | succ k1 =>
          have H := HA.out
          clear HA
          simp only [laws_back.l0] at H
          by_cases c10 : x9_1 < (l1.length : Int)
          · rw [if_pos c10] at H
            have c10b0 : decide (x9_1 < (l1.length : Int)) = true := decide_eq_true c10
            clear c10
            by_cases c11 : 0 ≤ x9_1
            · rw [if_pos c11] at H
              have c11b0 : decide (0 ≤ x9_1) = true := decide_eq_true c11
              clear c11
              by_cases c12 : ((rd_T42 l1 x9_1).f0) = 0
              · rw [if_pos c12] at H
                have c12b0 : (((rd_T42 l1 x9_1).f0) == 0) = true := beq_iff_eq.mpr c12
                have c12b1 : (((rd_T42 l1 x9_1).f0) != 0) = false := bne_eq_false_iff_eq.mpr c12
                clear c12
                by_cases c13 : x6_1.length < 8796093022208
                · rw [if_pos c13] at H
                  have LMc13 := Aside0.mk c13
                  clear c13
                  obtain ⟨y411, hy411⟩ : ∃ y_ : List ByteArray, y_ = (x6_1 ++ [(rd_T42 l1 x9_1).f1]) := ⟨_, rfl⟩
                  replace H : (laws_back.l0 k1 a0 l1 y411 x7_1 x8_1 (wrap64 (x9_1 + 1))) = some (r1, r2) := by first | (rw [hy411]; with_reducible exact H) | (have H2_ := (Option.bind_some _ _).symm.trans H; rw [hy411]; with_reducible exact H2_) | (have H2_ := (Option.bind_some _ _).symm.trans H; with_reducible exact H2_) | with_reducible exact H | (rw [hy411]; exact H) | exact H
                  have Ny411 := Aside0.mk hy411
                  clear hy411
                  have H' := Aside0.mk H
                  clear H
                  have p409 : 0 ≤ (x9_1 : Int) := of_decide_eq_true (by first | (with_reducible assumption) | assumption)
                  have q409 : x9_1 < (l1.length : Int) := of_decide_eq_true (by first | (with_reducible assumption) | assumption)
                  obtain ⟨ad409, A409_4, c409_4, e409, hx409_0, hx409_1, hx409_2, hx409_3, hx409_4, hl409_4, hi409_4⟩ := at_T42 HR1.out x9_1 p409 q409
                  cases e409
                  replace hx409_0 := (HB.out.cell (World.block_lt_of_cell? w _ hx409_0)).trans hx409_0
                  replace hx409_1 := (HB.out.cell (World.block_lt_of_cell? w _ hx409_1)).trans hx409_1
                  replace hx409_2 := (HB.out.cell (World.block_lt_of_cell? w _ hx409_2)).trans hx409_2
                  replace hx409_3 := (HB.out.cell (World.block_lt_of_cell? w _ hx409_3)).trans hx409_3
                  replace hx409_4 := (HB.out.cell (World.block_lt_of_cell? w _ hx409_4)).trans hx409_4
                  have HR409_4 := Aside0.mk hi409_4
                  have HC409_4 := Aside0.mk hl409_4
                  clear hi409_4 hl409_4
                  replace p409 := eq_true p409
                  replace q409 := eq_true q409
                  have p410 : 0 ≤ (x9_1 : Int) := of_decide_eq_true (by first | (with_reducible assumption) | assumption)
                  have q410 : x9_1 < (l1.length : Int) := of_decide_eq_true (by first | (with_reducible assumption) | assumption)
                  obtain ⟨ad410, A410_4, c410_4, e410, hx410_0, hx410_1, hx410_2, hx410_3, hx410_4, hl410_4, hi410_4⟩ := at_T42 HR1.out x9_1 p410 q410
                  obtain rfl : ad409 = ad410 := (by injection e410)
                  replace hx410_0 := (HB.out.cell (World.block_lt_of_cell? w _ hx410_0)).trans hx410_0
                  replace hx410_1 := (HB.out.cell (World.block_lt_of_cell? w _ hx410_1)).trans hx410_1
                  replace hx410_2 := (HB.out.cell (World.block_lt_of_cell? w _ hx410_2)).trans hx410_2
                  replace hx410_3 := (HB.out.cell (World.block_lt_of_cell? w _ hx410_3)).trans hx410_3
                  replace hx410_4 := (HB.out.cell (World.block_lt_of_cell? w _ hx410_4)).trans hx410_4
                  have HR410_4 := Aside0.mk hi410_4
                  have HC410_4 := Aside0.mk hl410_4
                  clear hi410_4 hl410_4
                  replace p410 := eq_true p410
                  replace q410 := eq_true q410
                  have ea_ := Option.some.inj (hx409_4.symm.trans hx410_4)
                  injection ea_ with ea_ en_ ec_
                  subst ea_
                  subst ec_
                  clear en_
                  go_wp2_with (first | ((with_reducible refine gate_builtin (b := .append) (xs := #[.tmp 43, .tmp 49]) rfl ?_); at_builtin; refine Kd.R_append Kd.string (w0 := w) w.heap.size rfl (.tmp 43) (.tmp 49) 30 9 (.string ⟨#[]⟩) 16 rfl Tryd.underlying30 info9 rfl (by decide) (by omega) u6 x6_1 ((rd_T42 l1 x9_1).f1) [.string ((rd_T42 l1 x9_1).f1)] (fun _ => True) (fun _ => False) rfl rfl ?aP (fun _ hk => hk.elim) ?aF ?aO ?aB ?aS ?aL ?_; (case aP => exact rfl); (case aB => exact (by repeat (first | (with_reducible first | exact HB.out | apply below_alloc | apply pw_below_drewN | apply below_drew1) | exact HB.out))); (case aF => exact (fun _ _ => trivial)); (case aO => exact (by (with_reducible repeat (first | apply Kd.R_alloc | apply Kd.R_drewN | apply Kd.R_drew)); exact HO_6.out)); (case aS => exact (below_size (by repeat (first | (with_reducible first | exact HB.out | apply below_alloc | apply pw_below_drewN | apply below_drew1) | exact HB.out)))); (case aL => have := LMc13.out; omega); intro v412 w14 ho hb hg hat; rw [← Ny411.out] at ho; have n0_ := Aside0.mk (Kd.R_over' (by (with_reducible repeat (first | apply Kd.R_alloc | apply Kd.R_drewN | apply Kd.R_drew)); exact HO_7.out) (Kd.R_typed (by (with_reducible repeat (first | apply Kd.R_alloc | apply Kd.R_drewN | apply Kd.R_drew)); exact HO_6.out)) (by decide) hg); have n1_ := Aside0.mk (hb); have n2_ := Aside0.mk (ho); clear HO_7; clear HB; clear HO_6; have HO_7 := n0_; have HB := n1_; have HO413 := n2_; clear n0_ n1_ n2_; clear ho hb hg hat))
                  go_roundg k1
                  case measure => have := HK1.out; omega
                  case rel => exact ⟨(y411), (x7_1), (x8_1), (wrap64 (x9_1 + 1)), (by first | rfl | (simp; done) | (simp [*]; done)), (by first | rfl | (simp; done) | (simp [*]; done)), H', ⟨by have := HK1.out; omega⟩, ⟨by (with_reducible repeat (first | apply Kd.R_alloc | apply Kd.R_drewN | apply Kd.R_drew)); exact HO413.out⟩, ⟨by (with_reducible repeat (first | apply Kd.R_alloc | apply Kd.R_drewN | apply Kd.R_drew)); exact HO_7.out⟩, ⟨by repeat (first | (with_reducible first | exact HB.out | apply below_alloc | apply pw_below_drewN | apply below_drew1) | exact HB.out)⟩⟩
                rw [if_neg c13] at H
                exact absurd H (by simp)
              rw [if_neg c12] at H
              have c12b0 : (((rd_T42 l1 x9_1).f0) == 0) = false := beq_eq_false_iff_ne.mpr c12
              have c12b1 : (((rd_T42 l1 x9_1).f0) != 0) = true := bne_iff_ne.mpr c12
              by_cases c15 : ((rd_T42 l1 x9_1).f0) = 11
              · rw [if_pos c15] at H
                have c15b0 : (((rd_T42 l1 x9_1).f0) == 11) = true := beq_iff_eq.mpr c15
                have c15b1 : (((rd_T42 l1 x9_1).f0) != 11) = false := bne_eq_false_iff_eq.mpr c15
                clear c15
                by_cases c16 : x6_1.length < 8796093022208
                · rw [if_pos c16] at H
                  have LMc16 := Aside0.mk c16
                  clear c16
                  obtain ⟨y414, hy414⟩ : ∃ y_ : List ByteArray, y_ = (x6_1 ++ [(⟨#[62]⟩ : ByteArray)]) := ⟨_, rfl⟩
                  replace H : (laws_back.l0 k1 a0 l1 y414 x7_1 x8_1 (wrap64 (x9_1 + 1))) = some (r1, r2) := by first | (rw [hy414]; with_reducible exact H) | (have H2_ := (Option.bind_some _ _).symm.trans H; rw [hy414]; with_reducible exact H2_) | (have H2_ := (Option.bind_some _ _).symm.trans H; with_reducible exact H2_) | with_reducible exact H | (rw [hy414]; exact H) | exact H
                  have Ny414 := Aside0.mk hy414
                  clear hy414
                  have H' := Aside0.mk H
                  clear H
                  have p409 : 0 ≤ (x9_1 : Int) := of_decide_eq_true (by first | (with_reducible assumption) | assumption)
                  have q409 : x9_1 < (l1.length : Int) := of_decide_eq_true (by first | (with_reducible assumption) | assumption)
                  obtain ⟨ad409, A409_4, c409_4, e409, hx409_0, hx409_1, hx409_2, hx409_3, hx409_4, hl409_4, hi409_4⟩ := at_T42 HR1.out x9_1 p409 q409
                  cases e409
                  replace hx409_0 := (HB.out.cell (World.block_lt_of_cell? w _ hx409_0)).trans hx409_0
                  replace hx409_1 := (HB.out.cell (World.block_lt_of_cell? w _ hx409_1)).trans hx409_1
                  replace hx409_2 := (HB.out.cell (World.block_lt_of_cell? w _ hx409_2)).trans hx409_2
                  replace hx409_3 := (HB.out.cell (World.block_lt_of_cell? w _ hx409_3)).trans hx409_3
                  replace hx409_4 := (HB.out.cell (World.block_lt_of_cell? w _ hx409_4)).trans hx409_4
                  have HR409_4 := Aside0.mk hi409_4
                  have HC409_4 := Aside0.mk hl409_4
                  clear hi409_4 hl409_4
                  replace p409 := eq_true p409
                  replace q409 := eq_true q409
                  go_wp2_with (first | ((with_reducible refine gate_builtin (b := .append) (xs := #[.tmp 53, .tmp 54]) rfl ?_); at_builtin; refine Kd.R_append Kd.string (w0 := w) w.heap.size rfl (.tmp 53) (.tmp 54) 30 9 (.string ⟨#[]⟩) 16 rfl Tryd.underlying30 info9 rfl (by decide) (by omega) u6 x6_1 (⟨#[62]⟩ : ByteArray) [.string (⟨#[62]⟩ : ByteArray)] (fun _ => True) (fun _ => False) rfl rfl ?aP (fun _ hk => hk.elim) ?aF ?aO ?aB ?aS ?aL ?_; (case aP => exact rfl); (case aB => exact (by repeat (first | (with_reducible first | exact HB.out | apply below_alloc | apply pw_below_drewN | apply below_drew1) | exact HB.out))); (case aF => exact (fun _ _ => trivial)); (case aO => exact (by (with_reducible repeat (first | apply Kd.R_alloc | apply Kd.R_drewN | apply Kd.R_drew)); exact HO_6.out)); (case aS => exact (below_size (by repeat (first | (with_reducible first | exact HB.out | apply below_alloc | apply pw_below_drewN | apply below_drew1) | exact HB.out)))); (case aL => have := LMc16.out; omega); intro v415 w17 ho hb hg hat; rw [← Ny414.out] at ho; have n0_ := Aside0.mk (Kd.R_over' (by (with_reducible repeat (first | apply Kd.R_alloc | apply Kd.R_drewN | apply Kd.R_drew)); exact HO_7.out) (Kd.R_typed (by (with_reducible repeat (first | apply Kd.R_alloc | apply Kd.R_drewN | apply Kd.R_drew)); exact HO_6.out)) (by decide) hg); have n1_ := Aside0.mk (hb); have n2_ := Aside0.mk (ho); clear HO_7; clear HB; clear HO_6; have HO_7 := n0_; have HB := n1_; have HO416 := n2_; clear n0_ n1_ n2_; clear ho hb hg hat))
                  go_roundg k1
                  case measure => have := HK1.out; omega
                  case rel => exact ⟨(y414), (x7_1), (x8_1), (wrap64 (x9_1 + 1)), (by first | rfl | (simp; done) | (simp [*]; done)), (by first | rfl | (simp; done) | (simp [*]; done)), H', ⟨by have := HK1.out; omega⟩, ⟨by (with_reducible repeat (first | apply Kd.R_alloc | apply Kd.R_drewN | apply Kd.R_drew)); exact HO416.out⟩, ⟨by (with_reducible repeat (first | apply Kd.R_alloc | apply Kd.R_drewN | apply Kd.R_drew)); exact HO_7.out⟩, ⟨by repeat (first | (with_reducible first | exact HB.out | apply below_alloc | apply pw_below_drewN | apply below_drew1) | exact HB.out)⟩⟩
                rw [if_neg c16] at H
                exact absurd H (by simp)
              rw [if_neg c15] at H
              have c15b0 : (((rd_T42 l1 x9_1).f0) == 11) = false := beq_eq_false_iff_ne.mpr c15
              have c15b1 : (((rd_T42 l1 x9_1).f0) != 11) = true := bne_iff_ne.mpr c15
              by_cases c18 : 0 ≤ ((rd_T42 l1 x9_1).f2)
              · rw [if_pos c18] at H
                have c18b0 : decide (0 ≤ ((rd_T42 l1 x9_1).f2)) = true := decide_eq_true c18
                clear c18
                by_cases c19 : ((rd_T42 l1 x9_1).f2) < (x7_1.length : Int)
                · rw [if_pos c19] at H
                  have c19b0 : decide (((rd_T42 l1 x9_1).f2) < (x7_1.length : Int)) = true := decide_eq_true c19
                  clear c19
                  obtain ⟨y418, hy418⟩ : ∃ y_ : List Int, y_ = (x7_1.set (((rd_T42 l1 x9_1).f2) : Int).toNat (wrap64 (x8_1 + 1))) := ⟨_, rfl⟩
                  replace H : (if x6_1.length < 8796093022208 then (laws_back.l0 k1 a0 l1 (x6_1 ++ [(⟨#[42]⟩ : ByteArray)]) y418 (wrap64 (x8_1 + 1)) (wrap64 (x9_1 + 1))) else (none)) = some (r1, r2) := by first | (rw [hy418]; with_reducible exact H) | (have H2_ := (Option.bind_some _ _).symm.trans H; rw [hy418]; with_reducible exact H2_) | (have H2_ := (Option.bind_some _ _).symm.trans H; with_reducible exact H2_) | with_reducible exact H | (rw [hy418]; exact H) | exact H
                  have Ny418 := Aside0.mk hy418
                  clear hy418
                  by_cases c21 : x6_1.length < 8796093022208
                  · rw [if_pos c21] at H
                    have LMc21 := Aside0.mk c21
                    clear c21
                    obtain ⟨y419, hy419⟩ : ∃ y_ : List ByteArray, y_ = (x6_1 ++ [(⟨#[42]⟩ : ByteArray)]) := ⟨_, rfl⟩
                    replace H : (laws_back.l0 k1 a0 l1 y419 y418 (wrap64 (x8_1 + 1)) (wrap64 (x9_1 + 1))) = some (r1, r2) := by first | (rw [hy419]; with_reducible exact H) | (have H2_ := (Option.bind_some _ _).symm.trans H; rw [hy419]; with_reducible exact H2_) | (have H2_ := (Option.bind_some _ _).symm.trans H; with_reducible exact H2_) | with_reducible exact H | (rw [hy419]; exact H) | exact H
                    have Ny419 := Aside0.mk hy419
                    clear hy419
                    have H' := Aside0.mk H
                    clear H
                    have p409 : 0 ≤ (x9_1 : Int) := of_decide_eq_true (by first | (with_reducible assumption) | assumption)
                    have q409 : x9_1 < (l1.length : Int) := of_decide_eq_true (by first | (with_reducible assumption) | assumption)
                    obtain ⟨ad409, A409_4, c409_4, e409, hx409_0, hx409_1, hx409_2, hx409_3, hx409_4, hl409_4, hi409_4⟩ := at_T42 HR1.out x9_1 p409 q409
                    cases e409
                    replace hx409_0 := (HB.out.cell (World.block_lt_of_cell? w _ hx409_0)).trans hx409_0
                    replace hx409_1 := (HB.out.cell (World.block_lt_of_cell? w _ hx409_1)).trans hx409_1
                    replace hx409_2 := (HB.out.cell (World.block_lt_of_cell? w _ hx409_2)).trans hx409_2
                    replace hx409_3 := (HB.out.cell (World.block_lt_of_cell? w _ hx409_3)).trans hx409_3
                    replace hx409_4 := (HB.out.cell (World.block_lt_of_cell? w _ hx409_4)).trans hx409_4
                    have HR409_4 := Aside0.mk hi409_4
                    have HC409_4 := Aside0.mk hl409_4
                    clear hi409_4 hl409_4
                    replace p409 := eq_true p409
                    replace q409 := eq_true q409
                    have p417 : 0 ≤ (x9_1 : Int) := of_decide_eq_true (by first | (with_reducible assumption) | assumption)
                    have q417 : x9_1 < (l1.length : Int) := of_decide_eq_true (by first | (with_reducible assumption) | assumption)
                    obtain ⟨ad417, A417_4, c417_4, e417, hx417_0, hx417_1, hx417_2, hx417_3, hx417_4, hl417_4, hi417_4⟩ := at_T42 HR1.out x9_1 p417 q417
                    obtain rfl : ad409 = ad417 := (by injection e417)
                    replace hx417_0 := (HB.out.cell (World.block_lt_of_cell? w _ hx417_0)).trans hx417_0
                    replace hx417_1 := (HB.out.cell (World.block_lt_of_cell? w _ hx417_1)).trans hx417_1
                    replace hx417_2 := (HB.out.cell (World.block_lt_of_cell? w _ hx417_2)).trans hx417_2
                    replace hx417_3 := (HB.out.cell (World.block_lt_of_cell? w _ hx417_3)).trans hx417_3
                    replace hx417_4 := (HB.out.cell (World.block_lt_of_cell? w _ hx417_4)).trans hx417_4
                    have HR417_4 := Aside0.mk hi417_4
                    have HC417_4 := Aside0.mk hl417_4
                    clear hi417_4 hl417_4
                    replace p417 := eq_true p417
                    replace q417 := eq_true q417
                    have ea_ := Option.some.inj (hx409_4.symm.trans hx417_4)
                    injection ea_ with ea_ en_ ec_
                    subst ea_
                    subst ec_
                    clear en_
                    have p20 : 0 ≤ (((rd_T42 l1 x9_1).f2) : Int) := of_decide_eq_true (by first | (with_reducible assumption) | assumption)
                    have q20 : (((rd_T42 l1 x9_1).f2) : Int) < ((x7_1.length : Int) : Int) := of_decide_eq_true (by first | (with_reducible assumption) | assumption)
                    obtain ⟨go20, co20, eo20, gb20, gl20, cl20, HG20⟩ := Kd.R_form HO_7.out (by omega)
                    (first | cases eo20 | (injection eo20 with ea_ en_ ec_; (first | subst ea_ | (injection ea_ with ea_; subst ea_)); subst ec_; clear en_))
                    have GB20 := Aside0.mk gb20
                    have GG20 := Aside0.mk HG20
                    clear gb20 gl20 HG20
                    obtain ⟨hx20_0, hf20_0⟩ := Kd.R_celln 0 HO_7.out (((rd_T42 l1 x9_1).f2) : Int) p20 q20
                    replace p20 := eq_true p20
                    replace q20 := eq_true q20
                    have HP22 := Kd.R_putg HO_7.out (((rd_T42 l1 x9_1).f2) : Int) (wrap64 (x8_1 + 1))
                    go_wp2_with (first | ((with_reducible refine gate_store (t := 3) (p := 37) rfl ?_); refine store_event (t := 3) (p := 37) (v := ?vo_w23) (w1 := (wr.setCell ⟨go20, (((rd_T42 l1 x9_1).f2) : Int).toNat, none⟩ (.int .i64 (wrap64 (x8_1 + 1))))) ?hg ?ho ?hn ?hr ?_; (case ho => rfl); (case hg => rfl); (case hn => rfl); (case hr => first | (go_simp; done) | (go_simp; rfl)); intro w23 hw; have hg : wr.grownBy w23 (some go20) := (by rw [hw]; exact HP22.2); have hp_ : Kd.R (Kd.int .i64) 3 w23 w.heap.size (fun _ => True) (.slice (some ⟨go20, 0, none⟩) x7_1.length co20) y418 := (by rw [hw, Ny418.out]; exact HP22.1); clear HP22; have n0_ := Aside0.mk (Kd.R_over' (v := (.slice (some ⟨go20, 0, none⟩) x7_1.length co20)) (by (with_reducible repeat (first | apply Kd.R_alloc | apply Kd.R_drewN | apply Kd.R_drew)); exact HO_6.out) (Kd.R_typed HO_7.out) (by decide) hg); have n1_ := Aside0.mk (hp_); have n2_ := Aside0.mk ((by rw [hw]; exact below_set (HB.out) GB20.out : Below w.heap.size w w23)); clear HO_6; clear HO_7; clear HB; have HO_6 := n0_; have HO_7 := n1_; have HB := n2_; clear n0_ n1_ n2_; clear hg hw hp_) | ((with_reducible refine gate_builtin (b := .append) (xs := #[.tmp 38, .tmp 39]) rfl ?_); at_builtin; refine Kd.R_append Kd.string (w0 := w) w.heap.size rfl (.tmp 38) (.tmp 39) 30 9 (.string ⟨#[]⟩) 16 rfl Tryd.underlying30 info9 rfl (by decide) (by omega) u6 x6_1 (⟨#[42]⟩ : ByteArray) [.string (⟨#[42]⟩ : ByteArray)] (fun _ => True) (fun _ => False) rfl rfl ?aP (fun _ hk => hk.elim) ?aF ?aO ?aB ?aS ?aL ?_; (case aP => exact rfl); (case aB => exact (by repeat (first | (with_reducible first | exact HB.out | apply below_alloc | apply pw_below_drewN | apply below_drew1) | exact HB.out))); (case aF => exact (fun _ _ => trivial)); (case aO => exact (by (with_reducible repeat (first | apply Kd.R_alloc | apply Kd.R_drewN | apply Kd.R_drew)); exact HO_6.out)); (case aS => exact (below_size (by repeat (first | (with_reducible first | exact HB.out | apply below_alloc | apply pw_below_drewN | apply below_drew1) | exact HB.out)))); (case aL => have := LMc21.out; omega); intro v420 w24 ho hb hg hat; rw [← Ny419.out] at ho; have n0_ := Aside0.mk (Kd.R_over' (by (with_reducible repeat (first | apply Kd.R_alloc | apply Kd.R_drewN | apply Kd.R_drew)); exact HO_7.out) (Kd.R_typed (by (with_reducible repeat (first | apply Kd.R_alloc | apply Kd.R_drewN | apply Kd.R_drew)); exact HO_6.out)) (by decide) hg); have n1_ := Aside0.mk (hb); have n2_ := Aside0.mk (ho); clear HO_7; clear HB; clear HO_6; have HO_7 := n0_; have HB := n1_; have HO421 := n2_; clear n0_ n1_ n2_; clear ho hb hg hat))
                    go_roundg k1
                    case measure => have := HK1.out; omega
                    case rel => exact ⟨(y419), (y418), (wrap64 (x8_1 + 1)), (wrap64 (x9_1 + 1)), (by first | rfl | (simp; done) | (simp [*]; done)), (by first | rfl | (simp; done) | (simp [*]; done)), H', ⟨by have := HK1.out; omega⟩, ⟨by (with_reducible repeat (first | apply Kd.R_alloc | apply Kd.R_drewN | apply Kd.R_drew)); exact HO421.out⟩, ⟨by (with_reducible repeat (first | apply Kd.R_alloc | apply Kd.R_drewN | apply Kd.R_drew)); exact HO_7.out⟩, ⟨by repeat (first | (with_reducible first | exact HB.out | apply below_alloc | apply pw_below_drewN | apply below_drew1) | exact HB.out)⟩⟩
                  rw [if_neg c21] at H
                  exact absurd H (by simp)
                rw [if_neg c19] at H
                exact absurd H (by simp)
              rw [if_neg c18] at H
              exact absurd H (by simp)
            rw [if_neg c11] at H
            exact absurd H (by simp)
          rw [if_neg c10] at H
          have c10b0 : decide (x9_1 < (l1.length : Int)) = false := decide_eq_false c10
          clear c10
          replace H := Option.bind_eq_some_iff.mp H
          obtain ⟨t422, A250, H⟩ := H
          replace H : (laws_back.l1 k1 x6_1 x7_1 0 ([] : List (S42)) t422 0) = some (r1, r2) := H
          have A25 := Aside0.mk A250
          clear A250
          have H' := Aside0.mk H
          clear H
          go_wp2_with (first | ((with_reducible refine gate_callee (f := 25) rfl ?_); refine goesL_ (some 57) rfl rfl Tryd.func25 (by kernel_rfl) rfl #[.string a0] rfl (by (try simp only [List.map_toArray, List.map_cons, List.map_nil]); first | done | rfl | (simp only [List.length_drop, List.length_take]; rfl)) ?_; (with_reducible refine (spec_Tokens.calls k1 a0 t422 _ A25.out).mono ?_); rintro e w26 ⟨v423, rfl, ho0, hb⟩; refine ⟨_, rfl, ?_⟩; have n0_ := Aside0.mk (Kd.R_elder' (by (with_reducible repeat (first | apply Kd.R_alloc | apply Kd.R_drewN | apply Kd.R_drew)); exact HO_6.out) (Kd.R_base ho0) hb); have n1_ := Aside0.mk (Kd.R_below (by (with_reducible repeat (first | apply Kd.R_alloc | apply Kd.R_drewN | apply Kd.R_drew)); exact HO_7.out) hb); have n2_ := Aside0.mk (Kd.R_lower (Kd.R_new' ho0 (Kd.R_lt (by (with_reducible repeat (first | apply Kd.R_alloc | apply Kd.R_drewN | apply Kd.R_drew)); exact HO_6.out))) (below_size (by repeat (first | (with_reducible first | exact HB.out | apply below_alloc | apply pw_below_drewN | apply below_drew1) | exact HB.out)))); have n3_ := Aside0.mk (below_step (by repeat (first | (with_reducible first | exact HB.out | apply below_alloc | apply pw_below_drewN | apply below_drew1) | exact HB.out)) hb); clear HO_6; clear HO_7; clear HB; have HO_6 := n0_; have HO_7 := n1_; have HO424 := n2_; have HB := n3_; clear n0_ n1_ n2_ n3_; (try clear hb); (try clear hb2); (try clear hk); (try clear hi); (try clear ho0)))
          go_loopg [8, 10, 12] k1 (fun kq v8 v10 v12 w' => ∃ (x8_2 : Int) (x10_2 : List (S42)) (x12_2 : Int), v8 = .int .i64 x8_2 ∧ v12 = .int .i64 x12_2 ∧ Aside0 (laws_back.l1 kq x6_1 x7_1 x8_2 x10_2 t422 x12_2 = some (r1, r2)) ∧ Aside0 (kq ≤ k1) ∧ Aside0 (Kd.R Kd.string 9 w' w.heap.size (fun k_ => some k_ ≠ (v423 : Value).ownBlock) u6 x6_1) ∧ Aside0 (Kd.R (Kd.int .i64) 3 w' w.heap.size (fun _ => True) v407 x7_1) ∧ Aside0 (Kd.S k42 42 w' w.heap.size (fun k_ => some k_ ≠ (v407 : Value).ownBlock) v10 x10_2) ∧ Aside0 (Kd.R Kd.string 9 w' w.heap.size (fun k_ => some k_ ≠ (u6 : Value).ownBlock) v423 t422) ∧ Aside0 (Below w.heap.size w w'))
          case atStart => exact ⟨(0), (([] : List (S42))), (0), (by first | rfl | (simp; done) | (simp [*]; done)), (by first | rfl | (simp; done) | (simp [*]; done)), H', ⟨Nat.le_refl _⟩, ⟨by (with_reducible repeat (first | apply Kd.R_alloc | apply Kd.R_drewN | apply Kd.R_drew)); exact Kd.R_mono HO_6.out (fun _ hk => hk.2)⟩, ⟨by (with_reducible repeat (first | apply Kd.R_alloc | apply Kd.R_drewN | apply Kd.R_drew)); exact HO_7.out⟩, ⟨by first | exact Kd.S_nil _ _ _ _ _ | exact Kd.N_nil _ _ _ _ _ | exact Kd.V_nil _ _ _ _ _ | exact Kd.Q_nil _ _ _ _ _ | exact Kd.R_nil _ _ _ _ _⟩, ⟨by (with_reducible repeat (first | apply Kd.R_alloc | apply Kd.R_drewN | apply Kd.R_drew)); exact Kd.R_mono HO424.out (fun _ hk => hk.2)⟩, ⟨by repeat (first | (with_reducible first | exact HB.out | apply below_alloc | apply pw_below_drewN | apply below_drew1) | exact HB.out)⟩⟩
          case round =>
            clear H'
            try clear c1
            try clear c2
            try clear p2
            try clear q2
            try clear hx2
            try clear hf2
            try clear c3
            try clear c4
            try clear p4
            try clear q4
            try clear hx4
            try clear c5
            try clear c5b0
            try clear c5b1
            try clear c6
            try clear c6b0
            try clear c6b1
            try clear p6
            try clear c10
            try clear c10b0
            try clear c11
            try clear c11b0
            try clear c12
            try clear c12b0
            try clear c12b1
            try clear c13
            try clear c15
            try clear c15b0
            try clear c15b1
            try clear c16
            try clear c18
            try clear c18b0
            try clear c19
            try clear c19b0
            try clear p20
            try clear q20
            try clear hx20
            try clear hf20
            try clear c21
            try clear c25
            try clear hx20_0
            try clear hx409_0
            try clear hx409_1
            try clear hx409_2
            try clear hx409_3
            try clear hx409_4
            try clear hx410_0
            try clear hx410_1
            try clear hx410_2
            try clear hx410_3
            try clear hx410_4
            try clear hx417_0
            try clear hx417_1
            try clear hx417_2
            try clear hx417_3
            try clear hx417_4
            try clear p2
            try clear p20
            try clear p409
            try clear p410
            try clear p417
            try clear p6
            try clear q20
            try clear q409
            try clear q410
            try clear q417
            obtain ⟨x8_2, x10_2, x12_2, rfl, rfl, HA, HK2, HO_6, HO_7, HO_10, HO_11, HB⟩ := hrel
            cases gk with
            | zero => exact absurd HA.out (by simp [laws_back.l1])
            | succ k2 =>
              have H := HA.out
              clear HA
              simp only [laws_back.l1] at H
              by_cases c27 : x12_2 < (t422.length : Int)
              · rw [if_pos c27] at H
                have c27b0 : decide (x12_2 < (t422.length : Int)) = true := decide_eq_true c27
                clear c27
                by_cases c28 : 0 ≤ x12_2
                · rw [if_pos c28] at H
                  have c28b0 : decide (0 ≤ x12_2) = true := decide_eq_true c28
                  clear c28
                  by_cases c29 : (rdOf ByteArray.empty t422 x12_2).toList = ([42] : List UInt8)
                  · rw [if_pos c29] at H
                    have c29b0 : ((rdOf ByteArray.empty t422 x12_2).toList == ([42] : List UInt8)) = true := beq_iff_eq.mpr c29
                    have c29b1 : ((rdOf ByteArray.empty t422 x12_2).toList != ([42] : List UInt8)) = false := bne_eq_false_iff_eq.mpr c29
                    clear c29
                    obtain ⟨ji30, hji30⟩ : ∃ j_ : Int, (wrap64 (x8_2 + 1)) = j_ := ⟨_, rfl⟩
                    replace H : (if 0 ≤ (ji30) then (if (ji30) < (x7_1.length : Int) then (if x10_2.length < 2199023255552 then (laws_back.l1 k2 x6_1 x7_1 ji30 (x10_2 ++ [(⟨2, (⟨#[]⟩ : ByteArray), rd x7_1 (ji30), 0, ([] : List Int)⟩ : S42)]) t422 (wrap64 (x12_2 + 1))) else (none)) else (none)) else (none)) = some (r1, r2) := by first | (rw [hji30] at H; exact H) | (simp only [hji30] at H ⊢; exact H)
                    have hji30w : (IntKind.i64.wrap (x8_2 + 1)) = ji30 := (i64_w _).trans hji30
                    by_cases c31 : 0 ≤ (ji30)
                    · rw [if_pos c31] at H
                      have c31b0 : decide (0 ≤ (ji30)) = true := decide_eq_true c31
                      clear c31
                      by_cases c32 : (ji30) < (x7_1.length : Int)
                      · rw [if_pos c32] at H
                        have c32b0 : decide ((ji30) < (x7_1.length : Int)) = true := decide_eq_true c32
                        clear c32
                        by_cases c33 : x10_2.length < 2199023255552
                        · rw [if_pos c33] at H
                          have LMc33 := Aside0.mk c33
                          clear c33
                          obtain ⟨y428, hy428⟩ : ∃ y_ : List (S42), y_ = (x10_2 ++ [(⟨2, (⟨#[]⟩ : ByteArray), rd x7_1 (ji30), 0, ([] : List Int)⟩ : S42)]) := ⟨_, rfl⟩
                          replace H : (laws_back.l1 k2 x6_1 x7_1 ji30 y428 t422 (wrap64 (x12_2 + 1))) = some (r1, r2) := by first | (rw [hy428]; with_reducible exact H) | (have H2_ := (Option.bind_some _ _).symm.trans H; rw [hy428]; with_reducible exact H2_) | (have H2_ := (Option.bind_some _ _).symm.trans H; with_reducible exact H2_) | with_reducible exact H | (rw [hy428]; exact H) | exact H
                          have Ny428 := Aside0.mk hy428
                          clear hy428
                          have H' := Aside0.mk H
                          clear H
                          obtain ⟨Ao34, co34, eo34⟩ := Kd.R_slice HO_11.out
                          subst eo34
                          have p426 : 0 ≤ (x12_2 : Int) := of_decide_eq_true (by first | (with_reducible assumption) | assumption)
                          have q426 : x12_2 < (t422.length : Int) := of_decide_eq_true (by first | (with_reducible assumption) | assumption)
                          obtain ⟨ad426, e426, hx426_0⟩ := Kd.at_string (Kd.R_reads' HO_11.out).2.2 x12_2 p426 q426
                          cases e426
                          replace p426 := eq_true p426
                          replace q426 := eq_true q426
                          obtain ⟨Ao35, co35, eo35⟩ := Kd.R_slice HO_7.out
                          subst eo35
                          have p427 : 0 ≤ ((ji30) : Int) := of_decide_eq_true (by first | (with_reducible assumption) | assumption)
                          have q427 : (ji30) < (x7_1.length : Int) := of_decide_eq_true (by first | (with_reducible assumption) | assumption)
                          obtain ⟨ad427, e427, hx427_0⟩ := Kd.at_int (Kd.R_reads' HO_7.out).2.2 (ji30) p427 q427
                          cases e427
                          replace p427 := eq_true p427
                          replace q427 := eq_true q427
                          go_wp2_with (first | ((with_reducible refine gate_builtin (b := .append) (xs := #[.tmp 80, .tmp 86]) rfl ?_); at_builtin; refine Kd.S_append k42 (w0 := w) w.heap.size rfl (.tmp 80) (.tmp 86) 22 42 (.agg #[(.int .i64 0), (.string ⟨#[]⟩), (.int .i64 0), (.int .i64 0), (.slice none 0 0)]) 64 rfl Tryd.underlying22 info42 rfl (by decide) (by omega) u10 x10_2 (⟨2, (⟨#[]⟩ : ByteArray), rd x7_1 (ji30), 0, ([] : List Int)⟩ : S42) [.int .i64 2, .string (⟨#[]⟩ : ByteArray), .int .i64 (rd x7_1 (ji30)), .int .i64 0, .slice none 0 0] (fun k_ => some k_ ≠ (.slice (some ad427) x7_1.length co35 : Value).ownBlock) (fun _ => False) rfl rfl ?aP (fun k_ hk_ => hk_.elim) ?aF ?aO ?aB ?aS ?aL ?_; (case aP => exact k42_mkM _ _ _ (⟨2, (⟨#[]⟩ : ByteArray), rd x7_1 (ji30), 0, ([] : List Int)⟩ : S42) (Kd.R_nil _ _ _ _ _)); (case aB => exact (by repeat (first | (with_reducible first | exact HB.out | apply below_alloc | apply pw_below_drewN | apply below_drew1) | exact HB.out))); (case aF => exact (fun k_ hk => Kd.fresh' (Kd.R_lt (by (with_reducible repeat (first | apply Kd.R_alloc | apply Kd.R_drewN | apply Kd.R_drew)); exact HO_7.out)) k_ hk)); (case aO => exact (by (with_reducible repeat (first | apply Kd.S_alloc | apply Kd.S_drewN | apply Kd.S_drew)); exact Kd.S_mono HO_10.out (fun k_ hk => ⟨hk, fun e_ => e_⟩))); (case aS => exact (below_size (by repeat (first | (with_reducible first | exact HB.out | apply below_alloc | apply pw_below_drewN | apply below_drew1) | exact HB.out)))); (case aL => have := LMc33.out; omega); intro v429 w36 ho hb hg hat; rw [← Ny428.out] at ho; have n0_ := Aside0.mk (Kd.R_over' (by (with_reducible repeat (first | apply Kd.R_alloc | apply Kd.R_drewN | apply Kd.R_drew)); exact HO_6.out) (Kd.S_typed (by (with_reducible repeat (first | apply Kd.S_alloc | apply Kd.S_drewN | apply Kd.S_drew)); exact HO_10.out)) (by decide) hg); have n1_ := Aside0.mk (Kd.R_over' (by (with_reducible repeat (first | apply Kd.R_alloc | apply Kd.R_drewN | apply Kd.R_drew)); exact HO_7.out) (Kd.S_typed (by (with_reducible repeat (first | apply Kd.S_alloc | apply Kd.S_drewN | apply Kd.S_drew)); exact HO_10.out)) (by decide) hg); have n2_ := Aside0.mk (Kd.R_over' (by (with_reducible repeat (first | apply Kd.R_alloc | apply Kd.R_drewN | apply Kd.R_drew)); exact HO_11.out) (Kd.S_typed (by (with_reducible repeat (first | apply Kd.S_alloc | apply Kd.S_drewN | apply Kd.S_drew)); exact HO_10.out)) (by decide) hg); have n3_ := Aside0.mk (hb); have n4_ := Aside0.mk (ho); clear HO_6; clear HO_7; clear HO_11; clear HB; clear HO_10; have HO_6 := n0_; have HO_7 := n1_; have HO_11 := n2_; have HB := n3_; have HO430 := n4_; clear n0_ n1_ n2_ n3_ n4_; clear ho hb hg hat))
                          go_roundg k2
                          case measure => have := HK1.out; have := HK2.out; omega
                          case rel => exact ⟨(ji30), (y428), (wrap64 (x12_2 + 1)), (by first | rfl | (simp; done) | (simp only [← hji30] <;> (first | rfl | simp)) | (simp [*]; done)), (by first | rfl | (simp; done) | (simp [*]; done)), H', ⟨by have := HK1.out; have := HK2.out; omega⟩, ⟨by (with_reducible repeat (first | apply Kd.R_alloc | apply Kd.R_drewN | apply Kd.R_drew)); exact HO_6.out⟩, ⟨by (with_reducible repeat (first | apply Kd.R_alloc | apply Kd.R_drewN | apply Kd.R_drew)); exact HO_7.out⟩, ⟨by (with_reducible repeat (first | apply Kd.S_alloc | apply Kd.S_drewN | apply Kd.S_drew)); exact HO430.out⟩, ⟨by (with_reducible repeat (first | apply Kd.R_alloc | apply Kd.R_drewN | apply Kd.R_drew)); exact HO_11.out⟩, ⟨by repeat (first | (with_reducible first | exact HB.out | apply below_alloc | apply pw_below_drewN | apply below_drew1) | exact HB.out)⟩⟩
                        rw [if_neg c33] at H
                        exact absurd H (by simp)
                      rw [if_neg c32] at H
                      exact absurd H (by simp)
                    rw [if_neg c31] at H
                    exact absurd H (by simp)
                  rw [if_neg c29] at H
                  have c29b0 : ((rdOf ByteArray.empty t422 x12_2).toList == ([42] : List UInt8)) = false := beq_eq_false_iff_ne.mpr c29
                  have c29b1 : ((rdOf ByteArray.empty t422 x12_2).toList != ([42] : List UInt8)) = true := bne_iff_ne.mpr c29
                  by_cases c37 : (rdOf ByteArray.empty t422 x12_2).toList = ([62] : List UInt8)
                  · rw [if_pos c37] at H
                    have c37b0 : ((rdOf ByteArray.empty t422 x12_2).toList == ([62] : List UInt8)) = true := beq_iff_eq.mpr c37
                    have c37b1 : ((rdOf ByteArray.empty t422 x12_2).toList != ([62] : List UInt8)) = false := bne_eq_false_iff_eq.mpr c37
                    clear c37
                    by_cases c38 : x10_2.length < 2199023255552
                    · rw [if_pos c38] at H
                      have LMc38 := Aside0.mk c38
                      clear c38
                      obtain ⟨y431, hy431⟩ : ∃ y_ : List (S42), y_ = (x10_2 ++ [(⟨11, (⟨#[]⟩ : ByteArray), 0, 0, ([] : List Int)⟩ : S42)]) := ⟨_, rfl⟩
                      replace H : (laws_back.l1 k2 x6_1 x7_1 x8_2 y431 t422 (wrap64 (x12_2 + 1))) = some (r1, r2) := by first | (rw [hy431]; with_reducible exact H) | (have H2_ := (Option.bind_some _ _).symm.trans H; rw [hy431]; with_reducible exact H2_) | (have H2_ := (Option.bind_some _ _).symm.trans H; with_reducible exact H2_) | with_reducible exact H | (rw [hy431]; exact H) | exact H
                      have Ny431 := Aside0.mk hy431
                      clear hy431
                      have H' := Aside0.mk H
                      clear H
                      obtain ⟨Ao39, co39, eo39⟩ := Kd.R_slice HO_11.out
                      subst eo39
                      have p426 : 0 ≤ (x12_2 : Int) := of_decide_eq_true (by first | (with_reducible assumption) | assumption)
                      have q426 : x12_2 < (t422.length : Int) := of_decide_eq_true (by first | (with_reducible assumption) | assumption)
                      obtain ⟨ad426, e426, hx426_0⟩ := Kd.at_string (Kd.R_reads' HO_11.out).2.2 x12_2 p426 q426
                      cases e426
                      replace p426 := eq_true p426
                      replace q426 := eq_true q426
                      go_wp2_with (first | ((with_reducible refine gate_builtin (b := .append) (xs := #[.tmp 90, .tmp 92]) rfl ?_); at_builtin; refine Kd.S_append k42 (w0 := w) w.heap.size rfl (.tmp 90) (.tmp 92) 22 42 (.agg #[(.int .i64 0), (.string ⟨#[]⟩), (.int .i64 0), (.int .i64 0), (.slice none 0 0)]) 64 rfl Tryd.underlying22 info42 rfl (by decide) (by omega) u10 x10_2 (⟨11, (⟨#[]⟩ : ByteArray), 0, 0, ([] : List Int)⟩ : S42) [.int .i64 11, .string (⟨#[]⟩ : ByteArray), .int .i64 0, .int .i64 0, .slice none 0 0] (fun k_ => some k_ ≠ (v407 : Value).ownBlock) (fun _ => False) rfl rfl ?aP (fun k_ hk_ => hk_.elim) ?aF ?aO ?aB ?aS ?aL ?_; (case aP => exact k42_mkM _ _ _ (⟨11, (⟨#[]⟩ : ByteArray), 0, 0, ([] : List Int)⟩ : S42) (Kd.R_nil _ _ _ _ _)); (case aB => exact (by repeat (first | (with_reducible first | exact HB.out | apply below_alloc | apply pw_below_drewN | apply below_drew1) | exact HB.out))); (case aF => exact (fun k_ hk => Kd.fresh' (Kd.R_lt (by (with_reducible repeat (first | apply Kd.R_alloc | apply Kd.R_drewN | apply Kd.R_drew)); exact HO_7.out)) k_ hk)); (case aO => exact (by (with_reducible repeat (first | apply Kd.S_alloc | apply Kd.S_drewN | apply Kd.S_drew)); exact Kd.S_mono HO_10.out (fun k_ hk => ⟨hk, fun e_ => e_⟩))); (case aS => exact (below_size (by repeat (first | (with_reducible first | exact HB.out | apply below_alloc | apply pw_below_drewN | apply below_drew1) | exact HB.out)))); (case aL => have := LMc38.out; omega); intro v432 w40 ho hb hg hat; rw [← Ny431.out] at ho; have n0_ := Aside0.mk (Kd.R_over' (by (with_reducible repeat (first | apply Kd.R_alloc | apply Kd.R_drewN | apply Kd.R_drew)); exact HO_6.out) (Kd.S_typed (by (with_reducible repeat (first | apply Kd.S_alloc | apply Kd.S_drewN | apply Kd.S_drew)); exact HO_10.out)) (by decide) hg); have n1_ := Aside0.mk (Kd.R_over' (by (with_reducible repeat (first | apply Kd.R_alloc | apply Kd.R_drewN | apply Kd.R_drew)); exact HO_7.out) (Kd.S_typed (by (with_reducible repeat (first | apply Kd.S_alloc | apply Kd.S_drewN | apply Kd.S_drew)); exact HO_10.out)) (by decide) hg); have n2_ := Aside0.mk (Kd.R_over' (by (with_reducible repeat (first | apply Kd.R_alloc | apply Kd.R_drewN | apply Kd.R_drew)); exact HO_11.out) (Kd.S_typed (by (with_reducible repeat (first | apply Kd.S_alloc | apply Kd.S_drewN | apply Kd.S_drew)); exact HO_10.out)) (by decide) hg); have n3_ := Aside0.mk (hb); have n4_ := Aside0.mk (ho); clear HO_6; clear HO_7; clear HO_11; clear HB; clear HO_10; have HO_6 := n0_; have HO_7 := n1_; have HO_11 := n2_; have HB := n3_; have HO433 := n4_; clear n0_ n1_ n2_ n3_ n4_; clear ho hb hg hat))
                      go_roundg k2
                      case measure => have := HK1.out; have := HK2.out; omega
                      case rel => exact ⟨(x8_2), (y431), (wrap64 (x12_2 + 1)), (by first | rfl | (simp; done) | (simp [*]; done)), (by first | rfl | (simp; done) | (simp [*]; done)), H', ⟨by have := HK1.out; have := HK2.out; omega⟩, ⟨by (with_reducible repeat (first | apply Kd.R_alloc | apply Kd.R_drewN | apply Kd.R_drew)); exact HO_6.out⟩, ⟨by (with_reducible repeat (first | apply Kd.R_alloc | apply Kd.R_drewN | apply Kd.R_drew)); exact HO_7.out⟩, ⟨by (with_reducible repeat (first | apply Kd.S_alloc | apply Kd.S_drewN | apply Kd.S_drew)); exact HO433.out⟩, ⟨by (with_reducible repeat (first | apply Kd.R_alloc | apply Kd.R_drewN | apply Kd.R_drew)); exact HO_11.out⟩, ⟨by repeat (first | (with_reducible first | exact HB.out | apply below_alloc | apply pw_below_drewN | apply below_drew1) | exact HB.out)⟩⟩
                    rw [if_neg c38] at H
                    exact absurd H (by simp)
                  rw [if_neg c37] at H
                  have c37b0 : ((rdOf ByteArray.empty t422 x12_2).toList == ([62] : List UInt8)) = false := beq_eq_false_iff_ne.mpr c37
                  have c37b1 : ((rdOf ByteArray.empty t422 x12_2).toList != ([62] : List UInt8)) = true := bne_iff_ne.mpr c37
                  by_cases c41 : x10_2.length < 2199023255552
                  · rw [if_pos c41] at H
                    have LMc41 := Aside0.mk c41
                    clear c41
                    obtain ⟨y435, hy435⟩ : ∃ y_ : List (S42), y_ = (x10_2 ++ [(⟨0, rdOf ByteArray.empty t422 x12_2, 0, 0, ([] : List Int)⟩ : S42)]) := ⟨_, rfl⟩
                    replace H : (laws_back.l1 k2 x6_1 x7_1 x8_2 y435 t422 (wrap64 (x12_2 + 1))) = some (r1, r2) := by first | (rw [hy435]; with_reducible exact H) | (have H2_ := (Option.bind_some _ _).symm.trans H; rw [hy435]; with_reducible exact H2_) | (have H2_ := (Option.bind_some _ _).symm.trans H; with_reducible exact H2_) | with_reducible exact H | (rw [hy435]; exact H) | exact H
                    have Ny435 := Aside0.mk hy435
                    clear hy435
                    have H' := Aside0.mk H
                    clear H
                    obtain ⟨Ao42, co42, eo42⟩ := Kd.R_slice HO_11.out
                    subst eo42
                    have p426 : 0 ≤ (x12_2 : Int) := of_decide_eq_true (by first | (with_reducible assumption) | assumption)
                    have q426 : x12_2 < (t422.length : Int) := of_decide_eq_true (by first | (with_reducible assumption) | assumption)
                    obtain ⟨ad426, e426, hx426_0⟩ := Kd.at_string (Kd.R_reads' HO_11.out).2.2 x12_2 p426 q426
                    cases e426
                    replace p426 := eq_true p426
                    replace q426 := eq_true q426
                    have p434 : 0 ≤ (x12_2 : Int) := of_decide_eq_true (by first | (with_reducible assumption) | assumption)
                    have q434 : x12_2 < (t422.length : Int) := of_decide_eq_true (by first | (with_reducible assumption) | assumption)
                    obtain ⟨ad434, e434, hx434_0⟩ := Kd.at_string (Kd.R_reads' HO_11.out).2.2 x12_2 p434 q434
                    obtain rfl : ad426 = ad434 := (by injection e434)
                    replace p434 := eq_true p434
                    replace q434 := eq_true q434
                    go_wp2_with (first | ((with_reducible refine gate_builtin (b := .append) (xs := #[.tmp 68, .tmp 74]) rfl ?_); at_builtin; refine Kd.S_append k42 (w0 := w) w.heap.size rfl (.tmp 68) (.tmp 74) 22 42 (.agg #[(.int .i64 0), (.string ⟨#[]⟩), (.int .i64 0), (.int .i64 0), (.slice none 0 0)]) 64 rfl Tryd.underlying22 info42 rfl (by decide) (by omega) u10 x10_2 (⟨0, rdOf ByteArray.empty t422 x12_2, 0, 0, ([] : List Int)⟩ : S42) [.int .i64 0, .string (rdOf ByteArray.empty t422 x12_2), .int .i64 0, .int .i64 0, .slice none 0 0] (fun k_ => some k_ ≠ (v407 : Value).ownBlock) (fun _ => False) rfl rfl ?aP (fun k_ hk_ => hk_.elim) ?aF ?aO ?aB ?aS ?aL ?_; (case aP => exact k42_mkM _ _ _ (⟨0, rdOf ByteArray.empty t422 x12_2, 0, 0, ([] : List Int)⟩ : S42) (Kd.R_nil _ _ _ _ _)); (case aB => exact (by repeat (first | (with_reducible first | exact HB.out | apply below_alloc | apply pw_below_drewN | apply below_drew1) | exact HB.out))); (case aF => exact (fun k_ hk => Kd.fresh' (Kd.R_lt (by (with_reducible repeat (first | apply Kd.R_alloc | apply Kd.R_drewN | apply Kd.R_drew)); exact HO_7.out)) k_ hk)); (case aO => exact (by (with_reducible repeat (first | apply Kd.S_alloc | apply Kd.S_drewN | apply Kd.S_drew)); exact Kd.S_mono HO_10.out (fun k_ hk => ⟨hk, fun e_ => e_⟩))); (case aS => exact (below_size (by repeat (first | (with_reducible first | exact HB.out | apply below_alloc | apply pw_below_drewN | apply below_drew1) | exact HB.out)))); (case aL => have := LMc41.out; omega); intro v436 w43 ho hb hg hat; rw [← Ny435.out] at ho; have n0_ := Aside0.mk (Kd.R_over' (by (with_reducible repeat (first | apply Kd.R_alloc | apply Kd.R_drewN | apply Kd.R_drew)); exact HO_6.out) (Kd.S_typed (by (with_reducible repeat (first | apply Kd.S_alloc | apply Kd.S_drewN | apply Kd.S_drew)); exact HO_10.out)) (by decide) hg); have n1_ := Aside0.mk (Kd.R_over' (by (with_reducible repeat (first | apply Kd.R_alloc | apply Kd.R_drewN | apply Kd.R_drew)); exact HO_7.out) (Kd.S_typed (by (with_reducible repeat (first | apply Kd.S_alloc | apply Kd.S_drewN | apply Kd.S_drew)); exact HO_10.out)) (by decide) hg); have n2_ := Aside0.mk (Kd.R_over' (by (with_reducible repeat (first | apply Kd.R_alloc | apply Kd.R_drewN | apply Kd.R_drew)); exact HO_11.out) (Kd.S_typed (by (with_reducible repeat (first | apply Kd.S_alloc | apply Kd.S_drewN | apply Kd.S_drew)); exact HO_10.out)) (by decide) hg); have n3_ := Aside0.mk (hb); have n4_ := Aside0.mk (ho); clear HO_6; clear HO_7; clear HO_11; clear HB; clear HO_10; have HO_6 := n0_; have HO_7 := n1_; have HO_11 := n2_; have HB := n3_; have HO437 := n4_; clear n0_ n1_ n2_ n3_ n4_; clear ho hb hg hat))
                    go_roundg k2
                    case measure => have := HK1.out; have := HK2.out; omega
                    case rel => exact ⟨(x8_2), (y435), (wrap64 (x12_2 + 1)), (by first | rfl | (simp; done) | (simp [*]; done)), (by first | rfl | (simp; done) | (simp [*]; done)), H', ⟨by have := HK1.out; have := HK2.out; omega⟩, ⟨by (with_reducible repeat (first | apply Kd.R_alloc | apply Kd.R_drewN | apply Kd.R_drew)); exact HO_6.out⟩, ⟨by (with_reducible repeat (first | apply Kd.R_alloc | apply Kd.R_drewN | apply Kd.R_drew)); exact HO_7.out⟩, ⟨by (with_reducible repeat (first | apply Kd.S_alloc | apply Kd.S_drewN | apply Kd.S_drew)); exact HO437.out⟩, ⟨by (with_reducible repeat (first | apply Kd.R_alloc | apply Kd.R_drewN | apply Kd.R_drew)); exact HO_11.out⟩, ⟨by repeat (first | (with_reducible first | exact HB.out | apply below_alloc | apply pw_below_drewN | apply below_drew1) | exact HB.out)⟩⟩
                  rw [if_neg c41] at H
                  exact absurd H (by simp)
                rw [if_neg c28] at H
                exact absurd H (by simp)
              rw [if_neg c27] at H
              have c27b0 : decide (x12_2 < (t422.length : Int)) = false := decide_eq_false c27
              clear c27
              replace H := Option.bind_eq_some_iff.mp H
              obtain ⟨t425, A440, H⟩ := H
              replace H : (some (t425, x10_2)) = some (r1, r2) := H
              have A44 := Aside0.mk A440
              clear A440
              simp only [Option.some.injEq, Prod.mk.injEq] at H
              obtain ⟨rfl, rfl⟩ := H
              obtain ⟨Ao45, co45, eo45⟩ := Kd.R_slice HO_11.out
              subst eo45
              obtain ⟨Ao46, co46, eo46⟩ := Kd.R_slice HO_6.out
              subst eo46
              go_wp2_with (first | ((with_reducible refine gate_callee (f := 37) rfl ?_); refine goesL_ (some 95) rfl rfl Tryd.func37 (by kernel_rfl) rfl #[.slice Ao46 x6_1.length co46] rfl (by (try simp only [List.map_toArray, List.map_cons, List.map_nil]); first | done | rfl | (simp only [List.length_drop, List.length_take]; rfl)) ?_; (with_reducible refine (spec_Join.calls k2 _ _ x6_1 t425 _ ?side1 ?side2 A44.out).mono ?_); (case side1 => repeat (first | exact (Kd.R_reads' HO_6.out).2.2 | (with_reducible refine Kd.C_alloc ?_ _) | (with_reducible refine Kd.C_drewN ?_ _) | (with_reducible refine Kd.C_drew ?_))); (case side2 => exact (Kd.R_reads' HO_6.out).2.1); rintro e w' ⟨rfl, ⟨nd, rfl⟩⟩; refine ⟨_, rfl, ?_⟩))
              go_ret2
              exact ⟨_, by first | rfl | (simp [errW_none, errW_some] <;> rfl) | (simp only [← hji4]; first | rfl | (simp [errW_none, errW_some] <;> rfl)) | (simp [*, errW_none, errW_some] <;> rfl), by (with_reducible repeat (first | apply Kd.S_alloc | apply Kd.S_drewN | apply Kd.S_drew)); exact Kd.S_mono HO_10.out (fun _ hk => trivial), by repeat (first | (with_reducible first | exact HB.out | apply below_alloc | apply pw_below_drewN | apply below_drew1) | exact HB.out)⟩
    rw [if_neg c6] at H
    exact absurd H (by simp)
  rw [if_neg c5] at H
  exact absurd H (by simp)
/-! ### bytes_IndexByte: function 77 -/
/-! ### server_zzIndexAny: function 85 (by hand) -/
/-- One of the characters cs stands at i. -/
def server_zzIndexAny.hit (s cs : ByteArray) (i : Nat) : Bool := (List.range cs.size).any fun j => decide (bt s (i : Int) = bt cs (j : Int))
def server_zzIndexAny.f (a0 a1 : ByteArray) : Option Int := if a0.size ≤ 140737488351232 ∧ a1.size ≤ 140737488351232 ∧ ∀ j, j < a1.size → bt a1 (j : Int) < 128 then some (((List.range a0.size).find? (server_zzIndexAny.hit a0 a1)).elim (-1) fun i => (i : Int)) else none
theorem server_zzIndexAny.found (s cs : ByteArray) (pos : Nat) (h : pos < s.size) (hW : ∀ j, j < pos → server_zzIndexAny.hit s cs j = false) (hh : server_zzIndexAny.hit s cs pos = true) : (List.range s.size).find? (server_zzIndexAny.hit s cs) = some pos := by
  rw [List.find?_range_eq_some]
  exact ⟨hh, List.mem_range.mpr h, fun j hj => by simp [hW j hj]⟩
theorem server_zzIndexAny.lost (s cs : ByteArray) (pos : Nat) (h : ¬ pos < s.size) (hW : ∀ j, j < pos → server_zzIndexAny.hit s cs j = false) : (List.range s.size).find? (server_zzIndexAny.hit s cs) = none := by
  rw [List.find?_eq_none]
  intro j hj
  rw [List.mem_range] at hj
  rw [hW j (by omega)]
  simp
set_option maxHeartbeats 8000000 in
set_option maxRecDepth 100000 in
theorem server_zzIndexAny.calls (a0 a1 : ByteArray) (r : Int) (w : World) (h : server_zzIndexAny.f a0 a1 = some r) :
    Calls Tryd.prog 85 #[.string a0, .string a1] w fun e w' => e = .returned (.int .i64 r) ∧ Below w.heap.size w w' := by
  unfold server_zzIndexAny.f at h
  have hsz : a0.size ≤ 140737488351232 ∧ a1.size ≤ 140737488351232 ∧ ∀ j, j < a1.size → bt a1 (j : Int) < 128 := by
    apply Classical.byContradiction
    intro hn; rw [if_neg hn] at h; cases h
  rw [if_pos hsz] at h
  have HR := Aside0.mk (Option.some.inj h)
  clear h
  have HS := Aside0.mk hsz
  clear hsz
  go_enter Tryd.func85, Tryd.ntmps85
  go_wp2
  go_loopw [] (fun w' => ∃ pos : Nat, w'.heap[w.heap.size]? = some (.stringIter a0 pos) ∧ Aside0 (Below w.heap.size w w' ∧ ∀ j, j < pos → server_zzIndexAny.hit a0 a1 j = false)) (fun w' => a0.size - w'.iterPos w.heap.size)
  case atStart => exact ⟨0, World.iter_heap w a0 0, ⟨below_alloc (Below.refl _ _) _, fun j h => absurd h (Nat.not_lt_zero _)⟩⟩
  case round =>
    obtain ⟨pos, hit, HW⟩ := hrel
    by_cases hp : pos < a0.size
    · obtain ⟨c, n, hd, hn, hc, hcase⟩ := Wk.decode_step a0 pos hp
      have hnx : ∀ ty, (Instr.next (.pointer (some ⟨w.heap.size, 0, none⟩)) true ty).run Tryd.prog wr = .ok (.tuple #[.bool true, .int .i64 pos, .int .i32 c]) (wr.iterAt w.heap.size a0 (pos + n)) := fun ty => by have h := Lib.run_next_any_at (P := Tryd.prog) wr w.heap.size a0 pos ty hit hp; rw [hd] at h; exact h
      clear hd
      have hit2 := Lib.iterAt_heap wr w.heap.size a0 pos (pos + n) hit
      have hsz2 : w.heap.size ≤ wr.heap.size := HW.out.1.size
      have hlt : w.heap.size < wr.heap.size := (Array.getElem?_eq_some_iff.1 hit).1
      have hs2 := Lib.iterAt_size wr w.heap.size a0 (pos + n)
      have hB2 := Aside0.mk (Lib.below_iterAt HW.out.1 (Nat.le_refl _) a0 (pos + n))
      generalize wr.iterAt w.heap.size a0 (pos + n) = w2 at hnx hit2 hs2 hB2
      have hit3 : (w2.iter a1 0).heap[w.heap.size]? = some (.stringIter a0 (pos + n)) := by
        unfold World.iter; rw [Below.heap_alloc w2 _ w.heap.size (by omega)]; exact hit2
      have hit4 := World.iter_heap w2 a1 0
      have hB3 := Aside0.mk (below_alloc hB2.out (.stringIter a1 0))
      have hpos : wr.iterPos w.heap.size = pos := by simp only [World.iterPos, hit]
      have hltw : w.heap.size < w2.heap.size := by omega
      clear hs2 hlt hsz2
      go_wp2_with fail
      go_loopw [] (fun w' => ∃ ip : Nat, w'.heap[w.heap.size]? = some (.stringIter a0 (pos + n)) ∧ w'.heap[w2.heap.size]? = some (.stringIter a1 ip) ∧ Aside0 (Below w.heap.size w w' ∧ ∀ j, j < ip → bt a1 (j : Int) ≠ (c : Int))) (fun w' => a1.size - w'.iterPos w2.heap.size)
      case atStart => exact ⟨0, hit3, hit4, hB3.out, fun j h => absurd h (Nat.not_lt_zero _)⟩
      case round =>
        obtain ⟨ip, it1, it2, IW⟩ := hrel
        have hne : w.heap.size ≠ w2.heap.size := by omega
        by_cases hq : ip < a1.size
        · obtain ⟨c2, n2, hd2, hn2, hc2, hcase2⟩ := Wk.decode_step a1 ip hq
          have hs := HS.out.2.2
          obtain ⟨hlt2, rfl, hbt2⟩ : c2 < 128 ∧ n2 = 1 ∧ bt a1 (ip : Int) = (c2 : Int) := by
            rcases hcase2 with h | ⟨h1, h2⟩
            · exact h
            exfalso
            have h3 := (h2 ip (Nat.le_refl _) (by omega)).2
            have h4 := hs ip hq
            omega
          clear hcase2
          have hnx2 : ∀ ty, (Instr.next (.pointer (some ⟨w2.heap.size, 0, none⟩)) true ty).run Tryd.prog wr = .ok (.tuple #[.bool true, .int .i64 ip, .int .i32 c2]) (wr.iterAt w2.heap.size a1 (ip + 1)) := fun ty => by have h := Lib.run_next_any_at (P := Tryd.prog) wr w2.heap.size a1 ip ty it2 hq; rw [hd2] at h; exact h
          clear hd2
          have hpos2 : wr.iterPos w2.heap.size = ip := by simp only [World.iterPos, it2]
          have j1 := (Lib.iterAt_other wr w2.heap.size w.heap.size a1 (ip + 1) hne).trans it1
          have j2 := Lib.iterAt_heap wr w2.heap.size a1 ip (ip + 1) it2
          have JB := Aside0.mk (Lib.below_iterAt IW.out.1 (show w.heap.size ≤ w2.heap.size by omega) a1 (ip + 1))
          generalize wr.iterAt w2.heap.size a1 (ip + 1) = w4 at hnx2 j1 j2 JB
          rcases Nat.decEq c c2 with hcc | hcc
          · have hce : ((c : Int) = (c2 : Int)) = False := eq_false (by omega)
            have hcb : ((c : Int) == (c2 : Int)) = false := beq_eq_false_iff_ne.mpr (by omega)
            go_wp2_with fail
            go_roundw
            case rel =>
              refine ⟨ip + 1, j1, j2, JB.out, fun j hj => ?_⟩
              rcases Nat.lt_or_ge j ip with h | h
              · exact IW.out.2 j h
              obtain rfl : j = ip := by omega
              rw [hbt2]; omega
            case measure =>
              rw [hpos2]
              simp only [World.iterPos, j2]
              omega
          subst hcc
          go_wp2_with fail
          go_ret
          obtain ⟨h1, h2, h3⟩ : c < 128 ∧ n = 1 ∧ bt a0 (pos : Int) = (c : Int) := by
            rcases hcase with h | h
            · exact h
            exfalso; omega
          have hr := HR.out
          rw [server_zzIndexAny.found a0 a1 pos hp HW.out.2 (by
            unfold server_zzIndexAny.hit
            rw [List.any_eq_true]
            exact ⟨ip, List.mem_range.mpr hq, by rw [h3, hbt2]; simp⟩)] at hr
          subst hr
          exact ⟨rfl, JB.out⟩
        have hnx2 : ∀ ty, (Instr.next (.pointer (some ⟨w2.heap.size, 0, none⟩)) true ty).run Tryd.prog wr = _ := fun ty => Lib.run_next_end_at wr w2.heap.size a1 ip ty it2 hq
        go_wp2_with fail
        go_roundw
        case rel =>
          refine ⟨pos + n, it1, IW.out.1, fun j hj => ?_⟩
          rcases Nat.lt_or_ge j pos with h | h
          · exact HW.out.2 j h
          unfold server_zzIndexAny.hit
          rw [List.any_eq_false]
          intro i hi
          rw [List.mem_range] at hi
          have h1 := IW.out.2 i (by omega)
          have h2 := HS.out.2.2 i hi
          have h3 : bt a0 (j : Int) = (c : Int) ∨ 128 ≤ bt a0 (j : Int) := by
            rcases hcase with ⟨g1, g2, g3⟩ | ⟨g1, g2⟩
            · obtain rfl : j = pos := by omega
              exact .inl g3
            exact .inr (g2 j h hj).2
          simp only [decide_eq_true_eq]
          omega
        case measure =>
          rw [hpos]
          simp only [World.iterPos, it1]
          omega
    have hnx : ∀ ty, (Instr.next (.pointer (some ⟨w.heap.size, 0, none⟩)) true ty).run Tryd.prog wr = _ := fun ty => Lib.run_next_end_at wr w.heap.size a0 pos ty hit hp
    go_wp2
    go_ret
    have hr := HR.out
    rw [server_zzIndexAny.lost a0 a1 pos hp HW.out.2] at hr
    subst hr
    exact ⟨rfl, HW.out.1⟩
/-! ### server_zzContainsAny: function 79 -/
def server_zzContainsAny.f (a0 : ByteArray) (a1 : ByteArray) : Option (Bool) := (server_zzIndexAny.f a0 a1).bind fun t438 => (some (decide (t438 ≥ 0)))
set_option maxHeartbeats 8000000 in
set_option maxRecDepth 100000 in
theorem server_zzContainsAny.calls (a0 : ByteArray) (a1 : ByteArray) (r : Bool) (w : World) (h : server_zzContainsAny.f a0 a1 = some r) :
    Calls Tryd.prog 79 #[.string a0, .string a1] w fun e w' => e = .returned (.bool r) ∧ Below w.heap.size w w' := by
  have HB := Aside0.mk (Below.refl w.heap.size w)
  have H : ((server_zzIndexAny.f a0 a1).bind fun t438 => (some (decide (t438 ≥ 0)))) = some r := h
  clear h
  replace H := Option.bind_eq_some_iff.mp H
  obtain ⟨t438, A30, H⟩ := H
  replace H : (some (decide (t438 ≥ 0))) = some r := H
  have A3 := Aside0.mk A30
  clear A30
  obtain rfl := Option.some.inj H
  go_enter Tryd.func79, Tryd.ntmps79
  go_wp2_with (first | ((with_reducible refine gate_callee (f := 85) rfl ?_); refine goesL_ (some 7) rfl rfl Tryd.func85 (by kernel_rfl) rfl #[.string a0, .string a1] rfl (by (try simp only [List.map_toArray, List.map_cons, List.map_nil]); first | done | rfl | (simp only [List.length_drop, List.length_take]; rfl)) ?_; (with_reducible refine (server_zzIndexAny.calls a0 a1 t438 _ A3.out).mono ?_); rintro e w4 ⟨rfl, hb⟩; refine ⟨_, rfl, ?_⟩; have n0_ := Aside0.mk (below_step (by repeat (first | (with_reducible first | exact HB.out | apply below_alloc | apply pw_below_drewN | apply below_drew1) | exact HB.out)) hb); clear HB; have HB := n0_; clear n0_; (try clear hb); (try clear hb2); (try clear hk); (try clear hi)))
  go_ret
  exact ⟨by first | rfl | (simp [errW_none, errW_some] <;> rfl) | (simp [*, errW_none, errW_some] <;> rfl), by repeat (first | (with_reducible first | exact HB.out | apply below_alloc | apply pw_below_drewN | apply below_drew1) | exact HB.out)⟩
/-! ### server_isValidSubject: function 69 -/
mutual
def server_isValidSubject.l1 : Nat → Bool → List ByteArray → Int → Int → Option (Bool)
  | 0, _, _, _, _ => none
  | k + 1, x7, x26, x27, x28 => if x28 < x27 then (if 0 ≤ x28 then (if x28 < (x26.length : Int) then (if ((rdOf ByteArray.empty x26 x28).size : Int) = 0 then (server_isValidSubject.j1 k x7 (rdOf ByteArray.empty x26 x28) ((rdOf ByteArray.empty x26 x28).size : Int) x26 x27 x28 true) else (server_isValidSubject.j1 k x7 (rdOf ByteArray.empty x26 x28) ((rdOf ByteArray.empty x26 x28).size : Int) x26 x27 x28 x7)) else (none)) else (none)) else (some true)
def server_isValidSubject.j1 : Nat → Bool → ByteArray → Int → List ByteArray → Int → Int → Bool → Option (Bool)
  | 0, _, _, _, _, _, _, _ => none
  | k + 1, x7, x9, x10, x26, x27, x28, x38 => if x38 = true then (some false) else (if x10 > 1 then ((server_zzContainsAny.f x9 (⟨#[9, 10, 12, 13, 32]⟩ : ByteArray)).bind fun t443 => (if t443 = true then (some false) else (server_isValidSubject.l1 k x7 x26 x27 (wrap64 (x28 + 1))))) else (if 0 < (x9.size : Int) then (if (bt x9 0) = 62 then (server_isValidSubject.l1 k true x26 x27 (wrap64 (x28 + 1))) else (if (bt x9 0) = 32 then (some false) else (if (bt x9 0) = 9 then (some false) else (if (bt x9 0) = 10 then (some false) else (if (bt x9 0) = 13 then (some false) else (if (bt x9 0) = 12 then (some false) else (server_isValidSubject.l1 k x7 x26 x27 (wrap64 (x28 + 1))))))))) else (none)))
end
def server_isValidSubject.f (k : Nat) (a0 : ByteArray) (a1 : Bool) : Option (Bool) := if a0.toList = ([] : List UInt8) then (some false) else (if a1 = true then (none) else ((server_zzSplit.f k a0 (⟨#[46]⟩ : ByteArray)).bind fun t439 => (server_isValidSubject.l1 k false t439 (t439.length : Int) 0)))
set_option maxHeartbeats 8000000 in
set_option maxRecDepth 100000 in
theorem server_isValidSubject.calls (k : Nat) (a0 : ByteArray) (a1 : Bool) (r : Bool) (w : World) (h : server_isValidSubject.f k a0 a1 = some r) :
    Calls Tryd.prog 69 #[.string a0, .bool a1] w fun e w' => e = .returned (.bool r) ∧ Below w.heap.size w w' := by
  have HB := Aside0.mk (Below.refl w.heap.size w)
  have H : (if a0.toList = ([] : List UInt8) then (some false) else (if a1 = true then (none) else ((server_zzSplit.f k a0 (⟨#[46]⟩ : ByteArray)).bind fun t439 => (server_isValidSubject.l1 k false t439 (t439.length : Int) 0)))) = some r := h
  clear h
  by_cases c3 : a0.toList = ([] : List UInt8)
  · rw [if_pos c3] at H
    have c3b0 : (a0.toList == ([] : List UInt8)) = true := beq_iff_eq.mpr c3
    have c3b1 : (a0.toList != ([] : List UInt8)) = false := bne_eq_false_iff_eq.mpr c3
    clear c3
    obtain rfl := Option.some.inj H
    go_enter Tryd.func69, Tryd.ntmps69
    go_wp2
    go_ret
    exact ⟨by first | rfl | (simp [errW_none, errW_some] <;> rfl) | (simp [*, errW_none, errW_some] <;> rfl), by repeat (first | (with_reducible first | exact HB.out | apply below_alloc | apply pw_below_drewN | apply below_drew1) | exact HB.out)⟩
  rw [if_neg c3] at H
  have c3b0 : (a0.toList == ([] : List UInt8)) = false := beq_eq_false_iff_ne.mpr c3
  have c3b1 : (a0.toList != ([] : List UInt8)) = true := bne_iff_ne.mpr c3
  by_cases c4 : a1 = true
  · subst c4
    have H1 : (none) = some r := by rw [if_pos rfl] at H; exact H
    clear H
    have H := H1
    clear H1
    exact absurd H (by simp)
  replace c4 := Bool.eq_false_iff.mpr c4
  subst c4
  have H1 : ((server_zzSplit.f k a0 (⟨#[46]⟩ : ByteArray)).bind fun t439 => (server_isValidSubject.l1 k false t439 (t439.length : Int) 0)) = some r := by rw [if_neg (show ¬ (false = true) by decide)] at H; exact H
  clear H
  have H := H1
  clear H1
  replace H := Option.bind_eq_some_iff.mp H
  obtain ⟨t439, A50, H⟩ := H
  replace H : (server_isValidSubject.l1 k false t439 (t439.length : Int) 0) = some r := H
  have A5 := Aside0.mk A50
  clear A50
  have H' := Aside0.mk H
  clear H
  go_enter Tryd.func69, Tryd.ntmps69
  go_wp2_with (first | ((with_reducible refine gate_callee (f := 65) rfl ?_); refine goesL_ (some 26) rfl rfl Tryd.func65 (by kernel_rfl) rfl #[.string a0, .string (⟨#[46]⟩ : ByteArray)] rfl (by (try simp only [List.map_toArray, List.map_cons, List.map_nil]); first | done | rfl | (simp only [List.length_drop, List.length_take]; rfl)) ?_; (with_reducible refine (server_zzSplit.calls k a0 (⟨#[46]⟩ : ByteArray) t439 _ A5.out).mono ?_); rintro e w6 ⟨v440, rfl, ho0, hb⟩; refine ⟨_, rfl, ?_⟩; have n0_ := Aside0.mk (Kd.R_lower ho0 (below_size (by repeat (first | (with_reducible first | exact HB.out | apply below_alloc | apply pw_below_drewN | apply below_drew1) | exact HB.out)))); have n1_ := Aside0.mk (below_step (by repeat (first | (with_reducible first | exact HB.out | apply below_alloc | apply pw_below_drewN | apply below_drew1) | exact HB.out)) hb); clear HB; have HO441 := n0_; have HB := n1_; clear n0_ n1_; (try clear hb); (try clear hb2); (try clear hk); (try clear hi); (try clear ho0); obtain ⟨Ao7, co7, eo7⟩ := Kd.R_slice HO441.out; subst eo7))
  go_loopg [7, 28] k (fun kq v7 v28 w' => ∃ (x7_1 : Bool) (x28_1 : Int), v7 = .bool x7_1 ∧ v28 = .int .i64 x28_1 ∧ Aside0 (server_isValidSubject.l1 kq x7_1 t439 (t439.length : Int) x28_1 = some r) ∧ Aside0 (kq ≤ k) ∧ Aside0 (Kd.R Kd.string 9 w' w.heap.size (fun _ => True) (.slice Ao7 t439.length co7) t439) ∧ Aside0 (Below w.heap.size w w'))
  case atStart => exact ⟨(false), (0), (by first | rfl | (simp; done) | (simp [*]; done)), (by first | rfl | (simp; done) | (simp [*]; done)), H', ⟨Nat.le_refl _⟩, ⟨by (with_reducible repeat (first | apply Kd.R_alloc | apply Kd.R_drewN | apply Kd.R_drew)); exact HO441.out⟩, ⟨by repeat (first | (with_reducible first | exact HB.out | apply below_alloc | apply pw_below_drewN | apply below_drew1) | exact HB.out)⟩⟩
  case round =>
    clear H'
    try clear p2
    try clear c3
    try clear c3b0
    try clear c3b1
    try clear c4
    try clear c6
    obtain ⟨x7_1, x28_1, rfl, rfl, HA, HK1, HO_26, HB⟩ := hrel
    cases gk with
    | zero => exact absurd HA.out (by simp [server_isValidSubject.l1])
    | succ k1 =>
      have H := HA.out
      clear HA
      simp only [server_isValidSubject.l1] at H
      by_cases c8 : x28_1 < (t439.length : Int)
      · rw [if_pos c8] at H
        have c8b0 : decide (x28_1 < (t439.length : Int)) = true := decide_eq_true c8
        clear c8
        by_cases c9 : 0 ≤ x28_1
        · rw [if_pos c9] at H
          have c9b0 : decide (0 ≤ x28_1) = true := decide_eq_true c9
          clear c9
          by_cases c10 : x28_1 < (t439.length : Int)
          · rw [if_pos c10] at H
            have c10b0 : decide (x28_1 < (t439.length : Int)) = true := decide_eq_true c10
            clear c10
            have HC11 := Aside0.mk H
            clear H
            have p442 : 0 ≤ (x28_1 : Int) := of_decide_eq_true (by first | (with_reducible assumption) | assumption)
            have q442 : x28_1 < (t439.length : Int) := of_decide_eq_true (by first | (with_reducible assumption) | assumption)
            obtain ⟨ad442, e442, hx442_0⟩ := Kd.at_string (Kd.R_reads' HO_26.out).2.2 x28_1 p442 q442
            cases e442
            replace p442 := eq_true p442
            replace q442 := eq_true q442
            go_upto_region 16 with (fail)
            go_cut [38] (fun v38 wc => ∃ (kq : Nat) (x38_10 : Bool), v38 = .bool x38_10 ∧ Aside0 (server_isValidSubject.j1 kq x7_1 (rdOf ByteArray.empty t439 x28_1) ((rdOf ByteArray.empty t439 x28_1).size : Int) t439 (t439.length : Int) x28_1 x38_10 = some r) ∧ Aside0 (kq ≤ k1) ∧ Aside0 (Kd.R Kd.string 9 wc w.heap.size (fun _ => True) (.slice (some ad442) t439.length co7) t439) ∧ Aside0 (Below w.heap.size w wc))
            case first =>
              have H := HC11.out
              clear HC11
              by_cases c12 : ((rdOf ByteArray.empty t439 x28_1).size : Int) = 0
              · rw [if_pos c12] at H
                have c12b0 : (((rdOf ByteArray.empty t439 x28_1).size : Int) == 0) = true := beq_iff_eq.mpr c12
                have c12b1 : (((rdOf ByteArray.empty t439 x28_1).size : Int) != 0) = false := bne_eq_false_iff_eq.mpr c12
                clear c12
                (first | rw [c12b0] | (simp only [i64_w, i32_w]; rw [c12b0]) | skip)
                have H' := Aside0.mk H
                clear H
                go_wp2
                go_meet
                case rel => exact ⟨_, (true), (by first | rfl | (simp; done) | (simp [*]; done)), H', ⟨by have := HK1.out; first | omega | exact Nat.le_refl _⟩, ⟨by (with_reducible repeat (first | apply Kd.R_alloc | apply Kd.R_drewN | apply Kd.R_drew)); exact HO_26.out⟩, ⟨by repeat (first | (with_reducible first | exact HB.out | apply below_alloc | apply pw_below_drewN | apply below_drew1) | exact HB.out)⟩⟩
              rw [if_neg c12] at H
              have c12b0 : (((rdOf ByteArray.empty t439 x28_1).size : Int) == 0) = false := beq_eq_false_iff_ne.mpr c12
              have c12b1 : (((rdOf ByteArray.empty t439 x28_1).size : Int) != 0) = true := bne_iff_ne.mpr c12
              (first | rw [c12b0] | (simp only [i64_w, i32_w]; rw [c12b0]) | skip)
              have H' := Aside0.mk H
              clear H
              go_wp2
              go_meet
              case rel => exact ⟨_, (x7_1), (by first | rfl | (simp; done) | (simp [*]; done)), H', ⟨by have := HK1.out; first | omega | exact Nat.le_refl _⟩, ⟨by (with_reducible repeat (first | apply Kd.R_alloc | apply Kd.R_drewN | apply Kd.R_drew)); exact HO_26.out⟩, ⟨by repeat (first | (with_reducible first | exact HB.out | apply below_alloc | apply pw_below_drewN | apply below_drew1) | exact HB.out)⟩⟩
            case rest =>
              clear HC11
              try clear c1
              try clear p2
              try clear c3
              try clear c3b0
              try clear c3b1
              try clear c4
              try clear p4
              try clear q4
              try clear hx4
              try clear c6
              try clear c8
              try clear c8b0
              try clear c9
              try clear c9b0
              try clear c10
              try clear c10b0
              try clear c12
              try clear c12b0
              try clear c12b1
              try clear hx442_0
              try clear p2
              try clear p442
              try clear q442
              obtain ⟨kq, x38_10, rfl, HA, HJ10, HO_26, HB⟩ := hcut
              cases kq with
              | zero => exact absurd HA.out (by simp [server_isValidSubject.j1])
              | succ kj10 =>
                have H := HA.out
                clear HA
                simp only [server_isValidSubject.j1] at H
                by_cases c13 : x38_10 = true
                · subst c13
                  have H1 : (some false) = some r := by rw [if_pos rfl] at H; exact H
                  clear H
                  have H := H1
                  clear H1
                  obtain rfl := Option.some.inj H
                  go_wp2
                  go_ret
                  exact ⟨by first | rfl | (simp [errW_none, errW_some] <;> rfl) | (simp [*, errW_none, errW_some] <;> rfl), by repeat (first | (with_reducible first | exact HB.out | apply below_alloc | apply pw_below_drewN | apply below_drew1) | exact HB.out)⟩
                replace c13 := Bool.eq_false_iff.mpr c13
                subst c13
                have H1 : (if ((rdOf ByteArray.empty t439 x28_1).size : Int) > 1 then ((server_zzContainsAny.f (rdOf ByteArray.empty t439 x28_1) (⟨#[9, 10, 12, 13, 32]⟩ : ByteArray)).bind fun t443 => (if t443 = true then (some false) else (server_isValidSubject.l1 kj10 x7_1 t439 (t439.length : Int) (wrap64 (x28_1 + 1))))) else (if 0 < ((rdOf ByteArray.empty t439 x28_1).size : Int) then (if (bt (rdOf ByteArray.empty t439 x28_1) 0) = 62 then (server_isValidSubject.l1 kj10 true t439 (t439.length : Int) (wrap64 (x28_1 + 1))) else (if (bt (rdOf ByteArray.empty t439 x28_1) 0) = 32 then (some false) else (if (bt (rdOf ByteArray.empty t439 x28_1) 0) = 9 then (some false) else (if (bt (rdOf ByteArray.empty t439 x28_1) 0) = 10 then (some false) else (if (bt (rdOf ByteArray.empty t439 x28_1) 0) = 13 then (some false) else (if (bt (rdOf ByteArray.empty t439 x28_1) 0) = 12 then (some false) else (server_isValidSubject.l1 kj10 x7_1 t439 (t439.length : Int) (wrap64 (x28_1 + 1))))))))) else (none))) = some r := by rw [if_neg (show ¬ (false = true) by decide)] at H; exact H
                clear H
                have H := H1
                clear H1
                by_cases c14 : ((rdOf ByteArray.empty t439 x28_1).size : Int) > 1
                · rw [if_pos c14] at H
                  have c14b0 : decide (1 < ((rdOf ByteArray.empty t439 x28_1).size : Int)) = true := decide_eq_true c14
                  have c14b1 : decide (1 < (rdOf ByteArray.empty t439 x28_1).size) = true := decide_eq_true (by omega)
                  clear c14
                  replace H := Option.bind_eq_some_iff.mp H
                  obtain ⟨t443, A150, H⟩ := H
                  replace H : (if t443 = true then (some false) else (server_isValidSubject.l1 kj10 x7_1 t439 (t439.length : Int) (wrap64 (x28_1 + 1)))) = some r := H
                  have A15 := Aside0.mk A150
                  clear A150
                  by_cases c16 : t443 = true
                  · subst c16
                    have H1 : (some false) = some r := by rw [if_pos rfl] at H; exact H
                    clear H
                    have H := H1
                    clear H1
                    obtain rfl := Option.some.inj H
                    go_wp2_with (first | ((with_reducible refine gate_callee (f := 79) rfl ?_); refine goesL_ (some 42) rfl rfl Tryd.func79 (by kernel_rfl) rfl #[.string (rdOf ByteArray.empty t439 x28_1), .string (⟨#[9, 10, 12, 13, 32]⟩ : ByteArray)] rfl (by (try simp only [List.map_toArray, List.map_cons, List.map_nil]); first | done | rfl | (simp only [List.length_drop, List.length_take]; rfl)) ?_; (with_reducible refine (server_zzContainsAny.calls (rdOf ByteArray.empty t439 x28_1) (⟨#[9, 10, 12, 13, 32]⟩ : ByteArray) true _ A15.out).mono ?_); rintro e w17 ⟨rfl, hb⟩; refine ⟨_, rfl, ?_⟩; have n0_ := Aside0.mk (Kd.R_below (by (with_reducible repeat (first | apply Kd.R_alloc | apply Kd.R_drewN | apply Kd.R_drew)); exact HO_26.out) hb); have n1_ := Aside0.mk (below_step (by repeat (first | (with_reducible first | exact HB.out | apply below_alloc | apply pw_below_drewN | apply below_drew1) | exact HB.out)) hb); clear HO_26; clear HB; have HO_26 := n0_; have HB := n1_; clear n0_ n1_; (try clear hb); (try clear hb2); (try clear hk); (try clear hi)))
                    go_ret
                    exact ⟨by first | rfl | (simp [errW_none, errW_some] <;> rfl) | (simp [*, errW_none, errW_some] <;> rfl), by repeat (first | (with_reducible first | exact HB.out | apply below_alloc | apply pw_below_drewN | apply below_drew1) | exact HB.out)⟩
                  replace c16 := Bool.eq_false_iff.mpr c16
                  subst c16
                  have H1 : (server_isValidSubject.l1 kj10 x7_1 t439 (t439.length : Int) (wrap64 (x28_1 + 1))) = some r := by rw [if_neg (show ¬ (false = true) by decide)] at H; exact H
                  clear H
                  have H := H1
                  clear H1
                  have H' := Aside0.mk H
                  clear H
                  go_wp2_with (first | ((with_reducible refine gate_callee (f := 79) rfl ?_); refine goesL_ (some 42) rfl rfl Tryd.func79 (by kernel_rfl) rfl #[.string (rdOf ByteArray.empty t439 x28_1), .string (⟨#[9, 10, 12, 13, 32]⟩ : ByteArray)] rfl (by (try simp only [List.map_toArray, List.map_cons, List.map_nil]); first | done | rfl | (simp only [List.length_drop, List.length_take]; rfl)) ?_; (with_reducible refine (server_zzContainsAny.calls (rdOf ByteArray.empty t439 x28_1) (⟨#[9, 10, 12, 13, 32]⟩ : ByteArray) false _ A15.out).mono ?_); rintro e w18 ⟨rfl, hb⟩; refine ⟨_, rfl, ?_⟩; have n0_ := Aside0.mk (Kd.R_below (by (with_reducible repeat (first | apply Kd.R_alloc | apply Kd.R_drewN | apply Kd.R_drew)); exact HO_26.out) hb); have n1_ := Aside0.mk (below_step (by repeat (first | (with_reducible first | exact HB.out | apply below_alloc | apply pw_below_drewN | apply below_drew1) | exact HB.out)) hb); clear HO_26; clear HB; have HO_26 := n0_; have HB := n1_; clear n0_ n1_; (try clear hb); (try clear hb2); (try clear hk); (try clear hi)))
                  go_roundg kj10
                  case measure => have := HK1.out; have := HJ10.out; omega
                  case rel => exact ⟨(x7_1), (wrap64 (x28_1 + 1)), (by first | rfl | (simp; done) | (simp [*]; done)), (by first | rfl | (simp; done) | (simp [*]; done)), H', ⟨by have := HK1.out; have := HJ10.out; omega⟩, ⟨by (with_reducible repeat (first | apply Kd.R_alloc | apply Kd.R_drewN | apply Kd.R_drew)); exact HO_26.out⟩, ⟨by repeat (first | (with_reducible first | exact HB.out | apply below_alloc | apply pw_below_drewN | apply below_drew1) | exact HB.out)⟩⟩
                rw [if_neg c14] at H
                have c14b0 : decide (1 < ((rdOf ByteArray.empty t439 x28_1).size : Int)) = false := decide_eq_false c14
                have c14b1 : decide (1 < (rdOf ByteArray.empty t439 x28_1).size) = false := decide_eq_false (by omega)
                clear c14
                by_cases c19 : 0 < ((rdOf ByteArray.empty t439 x28_1).size : Int)
                · rw [if_pos c19] at H
                  have c19b0 : decide (0 < ((rdOf ByteArray.empty t439 x28_1).size : Int)) = true := decide_eq_true c19
                  have c19b1 : decide (0 < (rdOf ByteArray.empty t439 x28_1).size) = true := decide_eq_true (by omega)
                  clear c19
                  by_cases c21 : (bt (rdOf ByteArray.empty t439 x28_1) 0) = 62
                  · rw [if_pos c21] at H
                    have c21b0 : ((bt (rdOf ByteArray.empty t439 x28_1) 0) == 62) = true := beq_iff_eq.mpr c21
                    have c21b1 : ((bt (rdOf ByteArray.empty t439 x28_1) 0) != 62) = false := bne_eq_false_iff_eq.mpr c21
                    clear c21
                    have H' := Aside0.mk H
                    clear H
                    have p20 : 0 ≤ (0 : Int) := (by omega)
                    have q20 : 0 < (rdOf ByteArray.empty t439 x28_1).size := (by have : (0 : Int) < ((rdOf ByteArray.empty t439 x28_1).size : Int) := of_decide_eq_true (by first | (with_reducible assumption) | assumption); omega)
                    have hx20 : ∀ h : 0 < (rdOf ByteArray.empty t439 x28_1).size, (((rdOf ByteArray.empty t439 x28_1)[0]'h).toNat : Int) = bt (rdOf ByteArray.empty t439 x28_1) 0 := bt_at (rdOf ByteArray.empty t439 x28_1) 0
                    clear p20
                    have qi20 : (0 < ((rdOf ByteArray.empty t439 x28_1).size : Int)) = True := eq_true (of_decide_eq_true (by first | (with_reducible assumption) | assumption))
                    replace q20 := eq_true q20
                    go_wp2
                    go_roundg kj10
                    case measure => have := HK1.out; have := HJ10.out; omega
                    case rel => exact ⟨(true), (wrap64 (x28_1 + 1)), (by first | rfl | (simp; done) | (simp [*]; done)), (by first | rfl | (simp; done) | (simp [*]; done)), H', ⟨by have := HK1.out; have := HJ10.out; omega⟩, ⟨by (with_reducible repeat (first | apply Kd.R_alloc | apply Kd.R_drewN | apply Kd.R_drew)); exact HO_26.out⟩, ⟨by repeat (first | (with_reducible first | exact HB.out | apply below_alloc | apply pw_below_drewN | apply below_drew1) | exact HB.out)⟩⟩
                  rw [if_neg c21] at H
                  have c21b0 : ((bt (rdOf ByteArray.empty t439 x28_1) 0) == 62) = false := beq_eq_false_iff_ne.mpr c21
                  have c21b1 : ((bt (rdOf ByteArray.empty t439 x28_1) 0) != 62) = true := bne_iff_ne.mpr c21
                  by_cases c22 : (bt (rdOf ByteArray.empty t439 x28_1) 0) = 32
                  · rw [if_pos c22] at H
                    have c22b0 : ((bt (rdOf ByteArray.empty t439 x28_1) 0) == 32) = true := beq_iff_eq.mpr c22
                    have c22b1 : ((bt (rdOf ByteArray.empty t439 x28_1) 0) != 32) = false := bne_eq_false_iff_eq.mpr c22
                    clear c22
                    obtain rfl := Option.some.inj H
                    have p20 : 0 ≤ (0 : Int) := (by omega)
                    have q20 : 0 < (rdOf ByteArray.empty t439 x28_1).size := (by have : (0 : Int) < ((rdOf ByteArray.empty t439 x28_1).size : Int) := of_decide_eq_true (by first | (with_reducible assumption) | assumption); omega)
                    have hx20 : ∀ h : 0 < (rdOf ByteArray.empty t439 x28_1).size, (((rdOf ByteArray.empty t439 x28_1)[0]'h).toNat : Int) = bt (rdOf ByteArray.empty t439 x28_1) 0 := bt_at (rdOf ByteArray.empty t439 x28_1) 0
                    clear p20
                    have qi20 : (0 < ((rdOf ByteArray.empty t439 x28_1).size : Int)) = True := eq_true (of_decide_eq_true (by first | (with_reducible assumption) | assumption))
                    replace q20 := eq_true q20
                    go_wp2
                    go_ret
                    exact ⟨by first | rfl | (simp [errW_none, errW_some] <;> rfl) | (simp [*, errW_none, errW_some] <;> rfl), by repeat (first | (with_reducible first | exact HB.out | apply below_alloc | apply pw_below_drewN | apply below_drew1) | exact HB.out)⟩
                  rw [if_neg c22] at H
                  have c22b0 : ((bt (rdOf ByteArray.empty t439 x28_1) 0) == 32) = false := beq_eq_false_iff_ne.mpr c22
                  have c22b1 : ((bt (rdOf ByteArray.empty t439 x28_1) 0) != 32) = true := bne_iff_ne.mpr c22
                  by_cases c23 : (bt (rdOf ByteArray.empty t439 x28_1) 0) = 9
                  · rw [if_pos c23] at H
                    have c23b0 : ((bt (rdOf ByteArray.empty t439 x28_1) 0) == 9) = true := beq_iff_eq.mpr c23
                    have c23b1 : ((bt (rdOf ByteArray.empty t439 x28_1) 0) != 9) = false := bne_eq_false_iff_eq.mpr c23
                    clear c23
                    obtain rfl := Option.some.inj H
                    have p20 : 0 ≤ (0 : Int) := (by omega)
                    have q20 : 0 < (rdOf ByteArray.empty t439 x28_1).size := (by have : (0 : Int) < ((rdOf ByteArray.empty t439 x28_1).size : Int) := of_decide_eq_true (by first | (with_reducible assumption) | assumption); omega)
                    have hx20 : ∀ h : 0 < (rdOf ByteArray.empty t439 x28_1).size, (((rdOf ByteArray.empty t439 x28_1)[0]'h).toNat : Int) = bt (rdOf ByteArray.empty t439 x28_1) 0 := bt_at (rdOf ByteArray.empty t439 x28_1) 0
                    clear p20
                    have qi20 : (0 < ((rdOf ByteArray.empty t439 x28_1).size : Int)) = True := eq_true (of_decide_eq_true (by first | (with_reducible assumption) | assumption))
                    replace q20 := eq_true q20
                    go_wp2
                    go_ret
                    exact ⟨by first | rfl | (simp [errW_none, errW_some] <;> rfl) | (simp [*, errW_none, errW_some] <;> rfl), by repeat (first | (with_reducible first | exact HB.out | apply below_alloc | apply pw_below_drewN | apply below_drew1) | exact HB.out)⟩
                  rw [if_neg c23] at H
                  have c23b0 : ((bt (rdOf ByteArray.empty t439 x28_1) 0) == 9) = false := beq_eq_false_iff_ne.mpr c23
                  have c23b1 : ((bt (rdOf ByteArray.empty t439 x28_1) 0) != 9) = true := bne_iff_ne.mpr c23
                  by_cases c24 : (bt (rdOf ByteArray.empty t439 x28_1) 0) = 10
                  · rw [if_pos c24] at H
                    have c24b0 : ((bt (rdOf ByteArray.empty t439 x28_1) 0) == 10) = true := beq_iff_eq.mpr c24
                    have c24b1 : ((bt (rdOf ByteArray.empty t439 x28_1) 0) != 10) = false := bne_eq_false_iff_eq.mpr c24
                    clear c24
                    obtain rfl := Option.some.inj H
                    have p20 : 0 ≤ (0 : Int) := (by omega)
                    have q20 : 0 < (rdOf ByteArray.empty t439 x28_1).size := (by have : (0 : Int) < ((rdOf ByteArray.empty t439 x28_1).size : Int) := of_decide_eq_true (by first | (with_reducible assumption) | assumption); omega)
                    have hx20 : ∀ h : 0 < (rdOf ByteArray.empty t439 x28_1).size, (((rdOf ByteArray.empty t439 x28_1)[0]'h).toNat : Int) = bt (rdOf ByteArray.empty t439 x28_1) 0 := bt_at (rdOf ByteArray.empty t439 x28_1) 0
                    clear p20
                    have qi20 : (0 < ((rdOf ByteArray.empty t439 x28_1).size : Int)) = True := eq_true (of_decide_eq_true (by first | (with_reducible assumption) | assumption))
                    replace q20 := eq_true q20
                    go_wp2
                    go_ret
                    exact ⟨by first | rfl | (simp [errW_none, errW_some] <;> rfl) | (simp [*, errW_none, errW_some] <;> rfl), by repeat (first | (with_reducible first | exact HB.out | apply below_alloc | apply pw_below_drewN | apply below_drew1) | exact HB.out)⟩
                  rw [if_neg c24] at H
                  have c24b0 : ((bt (rdOf ByteArray.empty t439 x28_1) 0) == 10) = false := beq_eq_false_iff_ne.mpr c24
                  have c24b1 : ((bt (rdOf ByteArray.empty t439 x28_1) 0) != 10) = true := bne_iff_ne.mpr c24
                  by_cases c25 : (bt (rdOf ByteArray.empty t439 x28_1) 0) = 13
                  · rw [if_pos c25] at H
                    have c25b0 : ((bt (rdOf ByteArray.empty t439 x28_1) 0) == 13) = true := beq_iff_eq.mpr c25
                    have c25b1 : ((bt (rdOf ByteArray.empty t439 x28_1) 0) != 13) = false := bne_eq_false_iff_eq.mpr c25
                    clear c25
                    obtain rfl := Option.some.inj H
                    have p20 : 0 ≤ (0 : Int) := (by omega)
                    have q20 : 0 < (rdOf ByteArray.empty t439 x28_1).size := (by have : (0 : Int) < ((rdOf ByteArray.empty t439 x28_1).size : Int) := of_decide_eq_true (by first | (with_reducible assumption) | assumption); omega)
                    have hx20 : ∀ h : 0 < (rdOf ByteArray.empty t439 x28_1).size, (((rdOf ByteArray.empty t439 x28_1)[0]'h).toNat : Int) = bt (rdOf ByteArray.empty t439 x28_1) 0 := bt_at (rdOf ByteArray.empty t439 x28_1) 0
                    clear p20
                    have qi20 : (0 < ((rdOf ByteArray.empty t439 x28_1).size : Int)) = True := eq_true (of_decide_eq_true (by first | (with_reducible assumption) | assumption))
                    replace q20 := eq_true q20
                    go_wp2
                    go_ret
                    exact ⟨by first | rfl | (simp [errW_none, errW_some] <;> rfl) | (simp [*, errW_none, errW_some] <;> rfl), by repeat (first | (with_reducible first | exact HB.out | apply below_alloc | apply pw_below_drewN | apply below_drew1) | exact HB.out)⟩
                  rw [if_neg c25] at H
                  have c25b0 : ((bt (rdOf ByteArray.empty t439 x28_1) 0) == 13) = false := beq_eq_false_iff_ne.mpr c25
                  have c25b1 : ((bt (rdOf ByteArray.empty t439 x28_1) 0) != 13) = true := bne_iff_ne.mpr c25
                  by_cases c26 : (bt (rdOf ByteArray.empty t439 x28_1) 0) = 12
                  · rw [if_pos c26] at H
                    have c26b0 : ((bt (rdOf ByteArray.empty t439 x28_1) 0) == 12) = true := beq_iff_eq.mpr c26
                    have c26b1 : ((bt (rdOf ByteArray.empty t439 x28_1) 0) != 12) = false := bne_eq_false_iff_eq.mpr c26
                    clear c26
                    obtain rfl := Option.some.inj H
                    have p20 : 0 ≤ (0 : Int) := (by omega)
                    have q20 : 0 < (rdOf ByteArray.empty t439 x28_1).size := (by have : (0 : Int) < ((rdOf ByteArray.empty t439 x28_1).size : Int) := of_decide_eq_true (by first | (with_reducible assumption) | assumption); omega)
                    have hx20 : ∀ h : 0 < (rdOf ByteArray.empty t439 x28_1).size, (((rdOf ByteArray.empty t439 x28_1)[0]'h).toNat : Int) = bt (rdOf ByteArray.empty t439 x28_1) 0 := bt_at (rdOf ByteArray.empty t439 x28_1) 0
                    clear p20
                    have qi20 : (0 < ((rdOf ByteArray.empty t439 x28_1).size : Int)) = True := eq_true (of_decide_eq_true (by first | (with_reducible assumption) | assumption))
                    replace q20 := eq_true q20
                    go_wp2
                    go_ret
                    exact ⟨by first | rfl | (simp [errW_none, errW_some] <;> rfl) | (simp [*, errW_none, errW_some] <;> rfl), by repeat (first | (with_reducible first | exact HB.out | apply below_alloc | apply pw_below_drewN | apply below_drew1) | exact HB.out)⟩
                  rw [if_neg c26] at H
                  have c26b0 : ((bt (rdOf ByteArray.empty t439 x28_1) 0) == 12) = false := beq_eq_false_iff_ne.mpr c26
                  have c26b1 : ((bt (rdOf ByteArray.empty t439 x28_1) 0) != 12) = true := bne_iff_ne.mpr c26
                  have H' := Aside0.mk H
                  clear H
                  have p20 : 0 ≤ (0 : Int) := (by omega)
                  have q20 : 0 < (rdOf ByteArray.empty t439 x28_1).size := (by have : (0 : Int) < ((rdOf ByteArray.empty t439 x28_1).size : Int) := of_decide_eq_true (by first | (with_reducible assumption) | assumption); omega)
                  have hx20 : ∀ h : 0 < (rdOf ByteArray.empty t439 x28_1).size, (((rdOf ByteArray.empty t439 x28_1)[0]'h).toNat : Int) = bt (rdOf ByteArray.empty t439 x28_1) 0 := bt_at (rdOf ByteArray.empty t439 x28_1) 0
                  clear p20
                  have qi20 : (0 < ((rdOf ByteArray.empty t439 x28_1).size : Int)) = True := eq_true (of_decide_eq_true (by first | (with_reducible assumption) | assumption))
                  replace q20 := eq_true q20
                  go_wp2
                  go_roundg kj10
                  case measure => have := HK1.out; have := HJ10.out; omega
                  case rel => exact ⟨(x7_1), (wrap64 (x28_1 + 1)), (by first | rfl | (simp; done) | (simp [*]; done)), (by first | rfl | (simp; done) | (simp [*]; done)), H', ⟨by have := HK1.out; have := HJ10.out; omega⟩, ⟨by (with_reducible repeat (first | apply Kd.R_alloc | apply Kd.R_drewN | apply Kd.R_drew)); exact HO_26.out⟩, ⟨by repeat (first | (with_reducible first | exact HB.out | apply below_alloc | apply pw_below_drewN | apply below_drew1) | exact HB.out)⟩⟩
                rw [if_neg c19] at H
                exact absurd H (by simp)
          rw [if_neg c10] at H
          exact absurd H (by simp)
        rw [if_neg c9] at H
        exact absurd H (by simp)
      rw [if_neg c8] at H
      have c8b0 : decide (x28_1 < (t439.length : Int)) = false := decide_eq_false c8
      clear c8
      obtain rfl := Option.some.inj H
      go_wp2
      go_ret
      exact ⟨by first | rfl | (simp [errW_none, errW_some] <;> rfl) | (simp [*, errW_none, errW_some] <;> rfl), by repeat (first | (with_reducible first | exact HB.out | apply below_alloc | apply pw_below_drewN | apply below_drew1) | exact HB.out)⟩
/-! ### server_IsValidSubject: function 54 -/
def server_IsValidSubject.f (k : Nat) (a0 : ByteArray) : Option (Bool) := (server_isValidSubject.f k a0 false).bind fun t444 => (some t444)
set_option maxHeartbeats 8000000 in
set_option maxRecDepth 100000 in
theorem server_IsValidSubject.calls (k : Nat) (a0 : ByteArray) (r : Bool) (w : World) (h : server_IsValidSubject.f k a0 = some r) :
    Calls Tryd.prog 54 #[.string a0] w fun e w' => e = .returned (.bool r) ∧ Below w.heap.size w w' := by
  have HB := Aside0.mk (Below.refl w.heap.size w)
  have H : ((server_isValidSubject.f k a0 false).bind fun t444 => (some t444)) = some r := h
  clear h
  replace H := Option.bind_eq_some_iff.mp H
  obtain ⟨t444, A20, H⟩ := H
  replace H : (some t444) = some r := H
  have A2 := Aside0.mk A20
  clear A20
  obtain rfl := Option.some.inj H
  go_enter Tryd.func54, Tryd.ntmps54
  go_wp2_with (first | ((with_reducible refine gate_callee (f := 69) rfl ?_); refine goesL_ (some 4) rfl rfl Tryd.func69 (by kernel_rfl) rfl #[.string a0, .bool false] rfl (by (try simp only [List.map_toArray, List.map_cons, List.map_nil]); first | done | rfl | (simp only [List.length_drop, List.length_take]; rfl)) ?_; (with_reducible refine (server_isValidSubject.calls k a0 false t444 _ A2.out).mono ?_); rintro e w3 ⟨rfl, hb⟩; refine ⟨_, rfl, ?_⟩; have n0_ := Aside0.mk (below_step (by repeat (first | (with_reducible first | exact HB.out | apply below_alloc | apply pw_below_drewN | apply below_drew1) | exact HB.out)) hb); clear HB; have HB := n0_; clear n0_; (try clear hb); (try clear hb2); (try clear hk); (try clear hi)))
  go_ret
  exact ⟨by first | rfl | (simp [errW_none, errW_some] <;> rfl) | (simp [*, errW_none, errW_some] <;> rfl), by repeat (first | (with_reducible first | exact HB.out | apply below_alloc | apply pw_below_drewN | apply below_drew1) | exact HB.out)⟩
/-! ### server_subjectIsLiteral: function 55 (by hand) -/
/-- A wildcard that is a token of its own stands at i. -/
def server_subjectIsLiteral.wildAt (s : ByteArray) (i : Nat) : Bool :=
  (decide (bt s (i : Int) = 42) || decide (bt s (i : Int) = 62)) && (decide (i = 0) || decide (bt s ((i : Int) - 1) = 46)) && (decide (i + 1 = s.size) || decide (bt s ((i : Int) + 1) = 46))
def server_subjectIsLiteral.f (a0 : ByteArray) : Option Bool := if a0.size ≤ 140737488351232 then some ((List.range a0.size).all fun i => !server_subjectIsLiteral.wildAt a0 i) else none
theorem server_subjectIsLiteral.wild_t (s : ByteArray) (pos : Nat) (hb : bt s (pos : Int) = 42 ∨ bt s (pos : Int) = 62) (h1 : pos = 0 ∨ ∃ h : pos - 1 < s.size, 0 < pos ∧ ((s[pos - 1]'h).toNat : Int) = 46) (h2 : pos + 1 = s.size ∨ ∃ h : pos + 1 < s.size, ((s[pos + 1]'h).toNat : Int) = 46) : server_subjectIsLiteral.wildAt s pos = true := by
  unfold server_subjectIsLiteral.wildAt
  simp only [Bool.and_eq_true, Bool.or_eq_true, decide_eq_true_eq]
  refine ⟨⟨hb, ?_⟩, ?_⟩
  · rcases h1 with h | ⟨h, h0, h3⟩
    · exact .inl h
    refine .inr ?_
    have e : ((pos : Int) - 1) = ((pos - 1 : Nat) : Int) := by omega
    rw [e, Wk.bt_at s _ h]; exact h3
  rcases h2 with h | ⟨h, h3⟩
  · exact .inl h
  refine .inr ?_
  have e : ((pos : Int) + 1) = ((pos + 1 : Nat) : Int) := by omega
  rw [e, Wk.bt_at s _ h]; exact h3
theorem server_subjectIsLiteral.wild_f1 (s : ByteArray) (pos : Nat) (h0 : 0 < pos) (h : pos - 1 < s.size) (h3 : ¬ ((s[pos - 1]'h).toNat : Int) = 46) : server_subjectIsLiteral.wildAt s pos = false := by
  unfold server_subjectIsLiteral.wildAt
  have e : ((pos : Int) - 1) = ((pos - 1 : Nat) : Int) := by omega
  rw [e, Wk.bt_at s _ h, decide_eq_false h3, decide_eq_false (show ¬ pos = 0 by omega)]
  simp
theorem server_subjectIsLiteral.wild_f2 (s : ByteArray) (pos : Nat) (h : pos + 1 < s.size) (h3 : ¬ ((s[pos + 1]'h).toNat : Int) = 46) : server_subjectIsLiteral.wildAt s pos = false := by
  unfold server_subjectIsLiteral.wildAt
  have e : ((pos : Int) + 1) = ((pos + 1 : Nat) : Int) := by omega
  rw [e, Wk.bt_at s _ h, decide_eq_false h3, decide_eq_false (show ¬ pos + 1 = s.size by omega)]
  simp
theorem server_subjectIsLiteral.ret (s : ByteArray) (pos : Nat) (h : pos < s.size) (hw : server_subjectIsLiteral.wildAt s pos = true) {r : Bool} (hr : ((List.range s.size).all fun i => !server_subjectIsLiteral.wildAt s i) = r) : r = false := by
  rw [← hr, List.all_eq_false]
  exact ⟨pos, List.mem_range.mpr h, by rw [hw]; simp⟩
theorem server_subjectIsLiteral.nxt (s : ByteArray) (pos n : Nat) (hn : n = 1) (hW : ∀ j, j < pos → server_subjectIsLiteral.wildAt s j = false) (hw : server_subjectIsLiteral.wildAt s pos = false) : ∀ j, j < pos + n → server_subjectIsLiteral.wildAt s j = false := by
  intro j hj
  rcases Nat.lt_or_ge j pos with h | h
  · exact hW j h
  obtain rfl : j = pos := by omega
  exact hw
set_option maxHeartbeats 8000000 in
set_option maxRecDepth 100000 in
theorem server_subjectIsLiteral.calls (a0 : ByteArray) (r : Bool) (w : World) (h : server_subjectIsLiteral.f a0 = some r) :
    Calls Tryd.prog 55 #[.string a0] w fun e w' => e = .returned (.bool r) ∧ Below w.heap.size w w' := by
  unfold server_subjectIsLiteral.f at h
  have hsz : a0.size ≤ 140737488351232 := by
    apply Classical.byContradiction
    intro hn; rw [if_neg hn] at h; cases h
  rw [if_pos hsz] at h
  have HR := Aside0.mk (Option.some.inj h)
  clear h
  have HS := Aside0.mk hsz
  clear hsz
  have hbelow : ∀ p, Below w.heap.size w (w.iter a0 p) := fun p => below_alloc (Below.refl _ _) _
  have HBL := Aside0.mk hbelow
  clear hbelow
  go_enter Tryd.func55, Tryd.ntmps55
  go_wp2
  go_loopw [] (fun w' => ∃ pos : Nat, w' = w.iter a0 pos ∧ Aside0 (∀ j, j < pos → server_subjectIsLiteral.wildAt a0 j = false)) (fun w' => a0.size - w'.iterPos w.heap.size)
  case atStart => exact ⟨0, rfl, ⟨fun j h => absurd h (Nat.not_lt_zero _)⟩⟩
  case round =>
    obtain ⟨pos, rfl, HW⟩ := hrel
    by_cases hp : pos < a0.size
    · obtain ⟨c, n, hd, hn, hc, hcase⟩ := Wk.decode_step a0 pos hp
      have hnx : ∀ ty, (Instr.next (.pointer (some ⟨w.heap.size, 0, none⟩)) true ty).run Tryd.prog (w.iter a0 pos) = .ok (.tuple #[.bool true, .int .i64 pos, .int .i32 c]) (w.iter a0 (pos + n)) := fun ty => by have h := run_next_any (P := Tryd.prog) w a0 pos ty hp; rw [hd] at h; exact h
      clear hd
      have hs := HS.out
      rcases (show c = 42 ∨ c = 62 ∨ (c ≠ 42 ∧ c ≠ 62) by omega) with rfl | rfl | ⟨hc1, hc2⟩
      · have hbt : bt a0 (pos : Int) = 42 ∨ bt a0 (pos : Int) = 62 := by
          rcases hcase with h | h
          · exact .inl h.2.2
          exfalso; omega
        have hn1 : n = 1 := by
          rcases hcase with h | h
          · exact h.2.1
          exfalso; omega
        clear hcase
        go_wp2
        · rename_i g0 g1
          go_ret
          obtain rfl := server_subjectIsLiteral.ret a0 pos hp (server_subjectIsLiteral.wild_t a0 pos hbt (.inl g0) (.inl (by omega))) HR.out
          exact ⟨rfl, HBL.out _⟩
        · rename_i g0 g1 g2 g3
          go_ret
          obtain rfl := server_subjectIsLiteral.ret a0 pos hp (server_subjectIsLiteral.wild_t a0 pos hbt (.inl g0) (.inr (by
            subst g0
            refine ⟨by omega, ?_⟩
            rcases g3 with g | g
            · exact absurd (of_decide_eq_true g) g1
            exact of_decide_eq_true g))) HR.out
          exact ⟨rfl, HBL.out _⟩
        · rename_i g0 g1 g2 g3
          refine ⟨⟨pos + n, by subst g0; simp [hn1], ⟨server_subjectIsLiteral.nxt a0 pos n hn1 HW.out (server_subjectIsLiteral.wild_f2 a0 pos (by omega) (by subst g0; exact of_decide_eq_false g3.2))⟩⟩, by subst g0; simp; omega⟩
        · rename_i g0 g1 g2 g3
          go_ret
          obtain rfl := server_subjectIsLiteral.ret a0 pos hp (server_subjectIsLiteral.wild_t a0 pos hbt (.inr ⟨by omega, by omega, g2⟩) (.inl (by omega))) HR.out
          exact ⟨rfl, HBL.out _⟩
        · rename_i g0 g1 g2 g3 g4 g5
          go_ret
          obtain rfl := server_subjectIsLiteral.ret a0 pos hp (server_subjectIsLiteral.wild_t a0 pos hbt (.inr ⟨by omega, by omega, g2⟩) (.inr (by
            refine ⟨by omega, ?_⟩
            rcases g5 with g | g
            · exact absurd (of_decide_eq_true g) g3
            exact of_decide_eq_true g))) HR.out
          exact ⟨rfl, HBL.out _⟩
        · rename_i g0 g1 g2 g3 g4 g5
          refine ⟨⟨pos + n, by rw [hn1], ⟨server_subjectIsLiteral.nxt a0 pos n hn1 HW.out (server_subjectIsLiteral.wild_f2 a0 pos (by omega) (of_decide_eq_false g5.2))⟩⟩, by simp; omega⟩
        rename_i g0 g1 g2
        refine ⟨⟨pos + n, by rw [hn1], ⟨server_subjectIsLiteral.nxt a0 pos n hn1 HW.out (server_subjectIsLiteral.wild_f1 a0 pos (by omega) (by omega) g2)⟩⟩, by simp; omega⟩
      · have hbt : bt a0 (pos : Int) = 42 ∨ bt a0 (pos : Int) = 62 := by
          rcases hcase with h | h
          · exact .inr h.2.2
          exfalso; omega
        have hn1 : n = 1 := by
          rcases hcase with h | h
          · exact h.2.1
          exfalso; omega
        clear hcase
        go_wp2
        · rename_i g0 g1
          go_ret
          obtain rfl := server_subjectIsLiteral.ret a0 pos hp (server_subjectIsLiteral.wild_t a0 pos hbt (.inl g0) (.inl (by omega))) HR.out
          exact ⟨rfl, HBL.out _⟩
        · rename_i g0 g1 g2 g3
          go_ret
          obtain rfl := server_subjectIsLiteral.ret a0 pos hp (server_subjectIsLiteral.wild_t a0 pos hbt (.inl g0) (.inr (by
            subst g0
            refine ⟨by omega, ?_⟩
            rcases g3 with g | g
            · exact absurd (of_decide_eq_true g) g1
            exact of_decide_eq_true g))) HR.out
          exact ⟨rfl, HBL.out _⟩
        · rename_i g0 g1 g2 g3
          refine ⟨⟨pos + n, by subst g0; simp [hn1], ⟨server_subjectIsLiteral.nxt a0 pos n hn1 HW.out (server_subjectIsLiteral.wild_f2 a0 pos (by omega) (by subst g0; exact of_decide_eq_false g3.2))⟩⟩, by subst g0; simp; omega⟩
        · rename_i g0 g1 g2 g3
          go_ret
          obtain rfl := server_subjectIsLiteral.ret a0 pos hp (server_subjectIsLiteral.wild_t a0 pos hbt (.inr ⟨by omega, by omega, g2⟩) (.inl (by omega))) HR.out
          exact ⟨rfl, HBL.out _⟩
        · rename_i g0 g1 g2 g3 g4 g5
          go_ret
          obtain rfl := server_subjectIsLiteral.ret a0 pos hp (server_subjectIsLiteral.wild_t a0 pos hbt (.inr ⟨by omega, by omega, g2⟩) (.inr (by
            refine ⟨by omega, ?_⟩
            rcases g5 with g | g
            · exact absurd (of_decide_eq_true g) g3
            exact of_decide_eq_true g))) HR.out
          exact ⟨rfl, HBL.out _⟩
        · rename_i g0 g1 g2 g3 g4 g5
          refine ⟨⟨pos + n, by rw [hn1], ⟨server_subjectIsLiteral.nxt a0 pos n hn1 HW.out (server_subjectIsLiteral.wild_f2 a0 pos (by omega) (of_decide_eq_false g5.2))⟩⟩, by simp; omega⟩
        rename_i g0 g1 g2
        refine ⟨⟨pos + n, by rw [hn1], ⟨server_subjectIsLiteral.nxt a0 pos n hn1 HW.out (server_subjectIsLiteral.wild_f1 a0 pos (by omega) (by omega) g2)⟩⟩, by simp; omega⟩
      have e1 : ((c : Int) = 42) = False := eq_false (by omega)
      have e2 : ((c : Int) = 62) = False := eq_false (by omega)
      have e3 : ((c : Int) == 42) = false := beq_eq_false_iff_ne.mpr (by omega)
      have e4 : ((c : Int) == 62) = false := beq_eq_false_iff_ne.mpr (by omega)
      go_wp2
      go_roundw
      case rel =>
        refine ⟨pos + n, rfl, ⟨fun j hj => ?_⟩⟩
        by_cases hjp : j < pos
        · exact HW.out j hjp
        have hb : bt a0 (j : Int) ≠ 42 ∧ bt a0 (j : Int) ≠ 62 := by
          rcases hcase with ⟨h1, h2, h3⟩ | ⟨h1, h2⟩
          · have : j = pos := by omega
            subst this
            rw [h3]; omega
          have := h2 j (by omega) hj
          omega
        simp [server_subjectIsLiteral.wildAt, hb.1, hb.2]
      case measure =>
        simp
        omega
    have hnx : ∀ ty, (Instr.next (.pointer (some ⟨w.heap.size, 0, none⟩)) true ty).run Tryd.prog (w.iter a0 pos) = _ := fun ty => run_next_end w a0 pos ty hp
    go_wp2
    go_ret
    have hr := HR.out
    rw [show ((List.range a0.size).all fun i => !server_subjectIsLiteral.wildAt a0 i) = true from by
      rw [List.all_eq_true]; intro i hi; rw [List.mem_range] at hi; rw [HW.out i (by omega)]; rfl] at hr
    subst hr
    exact ⟨rfl, HBL.out _⟩
/-! ### server_IsValidPublishSubject: function 39 -/
def server_IsValidPublishSubject.f (k : Nat) (a0 : ByteArray) : Option (Bool) := (server_IsValidSubject.f k a0).bind fun t445 => (if t445 = true then ((server_subjectIsLiteral.f a0).bind fun t446 => (some t446)) else (some false))
set_option maxHeartbeats 8000000 in
set_option maxRecDepth 100000 in
theorem server_IsValidPublishSubject.calls (k : Nat) (a0 : ByteArray) (r : Bool) (w : World) (h : server_IsValidPublishSubject.f k a0 = some r) :
    Calls Tryd.prog 39 #[.string a0] w fun e w' => e = .returned (.bool r) ∧ Below w.heap.size w w' := by
  have HB := Aside0.mk (Below.refl w.heap.size w)
  have H : ((server_IsValidSubject.f k a0).bind fun t445 => (if t445 = true then ((server_subjectIsLiteral.f a0).bind fun t446 => (some t446)) else (some false))) = some r := h
  clear h
  replace H := Option.bind_eq_some_iff.mp H
  obtain ⟨t445, A20, H⟩ := H
  replace H : (if t445 = true then ((server_subjectIsLiteral.f a0).bind fun t446 => (some t446)) else (some false)) = some r := H
  have A2 := Aside0.mk A20
  clear A20
  by_cases c3 : t445 = true
  · subst c3
    have H1 : ((server_subjectIsLiteral.f a0).bind fun t446 => (some t446)) = some r := by rw [if_pos rfl] at H; exact H
    clear H
    have H := H1
    clear H1
    replace H := Option.bind_eq_some_iff.mp H
    obtain ⟨t446, A40, H⟩ := H
    replace H : (some t446) = some r := H
    have A4 := Aside0.mk A40
    clear A40
    obtain rfl := Option.some.inj H
    go_enter Tryd.func39, Tryd.ntmps39
    go_wp2_with (first | ((with_reducible refine gate_callee (f := 54) rfl ?_); refine goesL_ (some 4) rfl rfl Tryd.func54 (by kernel_rfl) rfl #[.string a0] rfl (by (try simp only [List.map_toArray, List.map_cons, List.map_nil]); first | done | rfl | (simp only [List.length_drop, List.length_take]; rfl)) ?_; (with_reducible refine (server_IsValidSubject.calls k a0 true _ A2.out).mono ?_); rintro e w5 ⟨rfl, hb⟩; refine ⟨_, rfl, ?_⟩; have n0_ := Aside0.mk (below_step (by repeat (first | (with_reducible first | exact HB.out | apply below_alloc | apply pw_below_drewN | apply below_drew1) | exact HB.out)) hb); clear HB; have HB := n0_; clear n0_; (try clear hb); (try clear hb2); (try clear hk); (try clear hi)) | (go_at_call 55; (with_reducible refine (server_subjectIsLiteral.calls a0 t446 _ A4.out).mono ?_); rintro e w6 ⟨rfl, hb⟩; have n0_ := Aside0.mk (below_step (by repeat (first | (with_reducible first | exact HB.out | apply below_alloc | apply pw_below_drewN | apply below_drew1) | exact HB.out)) hb); clear HB; have HB := n0_; clear n0_; (try clear hb); (try clear hb2); (try clear hk); (try clear hi)))
    go_ret
    exact ⟨by first | rfl | (simp [errW_none, errW_some] <;> rfl) | (simp [*, errW_none, errW_some] <;> rfl), by repeat (first | (with_reducible first | exact HB.out | apply below_alloc | apply pw_below_drewN | apply below_drew1) | exact HB.out)⟩
  replace c3 := Bool.eq_false_iff.mpr c3
  subst c3
  have H1 : (some false) = some r := by rw [if_neg (show ¬ (false = true) by decide)] at H; exact H
  clear H
  have H := H1
  clear H1
  obtain rfl := Option.some.inj H
  go_enter Tryd.func39, Tryd.ntmps39
  go_wp2_with (first | ((with_reducible refine gate_callee (f := 54) rfl ?_); refine goesL_ (some 4) rfl rfl Tryd.func54 (by kernel_rfl) rfl #[.string a0] rfl (by (try simp only [List.map_toArray, List.map_cons, List.map_nil]); first | done | rfl | (simp only [List.length_drop, List.length_take]; rfl)) ?_; (with_reducible refine (server_IsValidSubject.calls k a0 false _ A2.out).mono ?_); rintro e w7 ⟨rfl, hb⟩; refine ⟨_, rfl, ?_⟩; have n0_ := Aside0.mk (below_step (by repeat (first | (with_reducible first | exact HB.out | apply below_alloc | apply pw_below_drewN | apply below_drew1) | exact HB.out)) hb); clear HB; have HB := n0_; clear n0_; (try clear hb); (try clear hb2); (try clear hk); (try clear hi)))
  go_ret
  exact ⟨by first | rfl | (simp [errW_none, errW_some] <;> rfl) | (simp [*, errW_none, errW_some] <;> rfl), by repeat (first | (with_reducible first | exact HB.out | apply below_alloc | apply pw_below_drewN | apply below_drew1) | exact HB.out)⟩
/-! ### impl_Publish: function 16 -/
def impl_Publish.f (k : Nat) (a0 : ByteArray) : Option (Bool) := (server_IsValidPublishSubject.f k a0).bind fun t447 => (some t447)
set_option maxHeartbeats 8000000 in
set_option maxRecDepth 100000 in
theorem impl_Publish.calls (k : Nat) (a0 : ByteArray) (r : Bool) (w : World) (h : impl_Publish.f k a0 = some r) :
    Calls Tryd.prog 16 #[.string a0] w fun e w' => e = .returned (.bool r) ∧ Below w.heap.size w w' := by
  have HB := Aside0.mk (Below.refl w.heap.size w)
  have H : ((server_IsValidPublishSubject.f k a0).bind fun t447 => (some t447)) = some r := h
  clear h
  replace H := Option.bind_eq_some_iff.mp H
  obtain ⟨t447, A20, H⟩ := H
  replace H : (some t447) = some r := H
  have A2 := Aside0.mk A20
  clear A20
  obtain rfl := Option.some.inj H
  go_enter Tryd.func16, Tryd.ntmps16
  go_wp2_with (first | ((with_reducible refine gate_callee (f := 39) rfl ?_); refine goesL_ (some 4) rfl rfl Tryd.func39 (by kernel_rfl) rfl #[.string a0] rfl (by (try simp only [List.map_toArray, List.map_cons, List.map_nil]); first | done | rfl | (simp only [List.length_drop, List.length_take]; rfl)) ?_; (with_reducible refine (server_IsValidPublishSubject.calls k a0 t447 _ A2.out).mono ?_); rintro e w3 ⟨rfl, hb⟩; refine ⟨_, rfl, ?_⟩; have n0_ := Aside0.mk (below_step (by repeat (first | (with_reducible first | exact HB.out | apply below_alloc | apply pw_below_drewN | apply below_drew1) | exact HB.out)) hb); clear HB; have HB := n0_; clear n0_; (try clear hb); (try clear hb2); (try clear hk); (try clear hi)))
  go_ret
  exact ⟨by first | rfl | (simp [errW_none, errW_some] <;> rfl) | (simp [*, errW_none, errW_some] <;> rfl), by repeat (first | (with_reducible first | exact HB.out | apply below_alloc | apply pw_below_drewN | apply below_drew1) | exact HB.out)⟩
/-! ### server_subjectIsSubsetMatch: function 56 (by hand) -/
def server_subjectIsSubsetMatch.f (k : Nat) (a0 a1 : ByteArray) : Option Bool := (server_tokenizeSubjectIntoSlice.f k [] a0).bind fun t => server_isSubsetMatch.f k t a1
set_option maxHeartbeats 8000000 in
set_option maxRecDepth 100000 in
theorem server_subjectIsSubsetMatch.calls (k : Nat) (a0 a1 : ByteArray) (r : Bool) (w : World) (h : server_subjectIsSubsetMatch.f k a0 a1 = some r) :
    Calls Tryd.prog 56 #[.string a0, .string a1] w fun e w' => e = .returned (.bool r) ∧ Below w.heap.size w w' := by
  obtain ⟨t, ht, h2⟩ := Option.bind_eq_some_iff.mp h
  have HT := Aside0.mk ht
  have H2 := Aside0.mk h2
  clear h ht h2
  go_enter Tryd.func56, Tryd.ntmps56
  go_upto_region 1 with (fail)
  refine wp_region_lit ?_
  refine Wk.arrL_ (Array.replicate 32 (.string ⟨#[]⟩)) (T := 81) (N1 := 7) (N2 := 5) rfl rfl rfl rfl rfl rfl (fun _ _ => by kernel_rfl) (fun _ _ => by kernel_rfl) rfl (by kernel_rfl) (by simp [Value.oneCell']) rfl rfl ?_
  intro w2 cur hB hblk hcur hsz
  simp only [Act.put, List.setIfInBounds_toArray, List.set_cons_zero, List.set_cons_succ]
  generalize Value.agg (Array.replicate 32 (.string ⟨#[]⟩)) = v7
  have HO := Aside0.mk (Wk.AR.made (base := w.heap.size) (n := 32) hblk (Nat.le_refl _) (by rw [← Array.length_toList, hcur]; simp) (by simp only [maxLen]; omega))
  have hshape : w2.shape? w.heap.size = some (81, 32) := Wk.shape_of hblk (by rw [← Array.length_toList, hcur]; simp)
  have HB := Aside0.mk hB
  clear hB hcur hsz hblk
  go_wp2_with fail
  clear hshape
  go_wp2_with fail
  refine (server_tokenizeSubjectIntoSlice.onto k [] a0 t w w2 _ HB.out HO.out HT.out).mono ?_
  rintro e w3 ⟨v3, rfl, q1, q2, -⟩
  obtain ⟨A1, c1, rfl, hc1, hC1⟩ := q1.strings
  clear q1
  have HB3 := Aside0.mk q2
  have HC1 := Aside0.mk hC1
  have HL1 := Aside0.mk hc1
  clear q2 hC1 hc1
  go_wp2_with fail
  refine (server_isSubsetMatch.calls k A1 c1 t a1 r w3 HC1.out HL1.out H2.out).mono ?_
  rintro e w4 ⟨rfl, hb⟩
  have HB4 := Aside0.mk (below_step HB3.out hb)
  clear hb
  go_wp2
  go_ret
  exact ⟨rfl, HB4.out⟩
/-! ### server_SubjectMatchesFilter: function 40 -/
def server_SubjectMatchesFilter.f (k : Nat) (a0 : ByteArray) (a1 : ByteArray) : Option (Bool) := (server_subjectIsSubsetMatch.f k a0 a1).bind fun t448 => (some t448)
set_option maxHeartbeats 8000000 in
set_option maxRecDepth 100000 in
theorem server_SubjectMatchesFilter.calls (k : Nat) (a0 : ByteArray) (a1 : ByteArray) (r : Bool) (w : World) (h : server_SubjectMatchesFilter.f k a0 a1 = some r) :
    Calls Tryd.prog 40 #[.string a0, .string a1] w fun e w' => e = .returned (.bool r) ∧ Below w.heap.size w w' := by
  have HB := Aside0.mk (Below.refl w.heap.size w)
  have H : ((server_subjectIsSubsetMatch.f k a0 a1).bind fun t448 => (some t448)) = some r := h
  clear h
  replace H := Option.bind_eq_some_iff.mp H
  obtain ⟨t448, A30, H⟩ := H
  replace H : (some t448) = some r := H
  have A3 := Aside0.mk A30
  clear A30
  obtain rfl := Option.some.inj H
  go_enter Tryd.func40, Tryd.ntmps40
  go_wp2_with (first | ((with_reducible refine gate_callee (f := 56) rfl ?_); refine goesL_ (some 7) rfl rfl Tryd.func56 (by kernel_rfl) rfl #[.string a0, .string a1] rfl (by (try simp only [List.map_toArray, List.map_cons, List.map_nil]); first | done | rfl | (simp only [List.length_drop, List.length_take]; rfl)) ?_; (with_reducible refine (server_subjectIsSubsetMatch.calls k a0 a1 t448 _ A3.out).mono ?_); rintro e w4 ⟨rfl, hb⟩; refine ⟨_, rfl, ?_⟩; have n0_ := Aside0.mk (below_step (by repeat (first | (with_reducible first | exact HB.out | apply below_alloc | apply pw_below_drewN | apply below_drew1) | exact HB.out)) hb); clear HB; have HB := n0_; clear n0_; (try clear hb); (try clear hb2); (try clear hk); (try clear hi)))
  go_ret
  exact ⟨by first | rfl | (simp [errW_none, errW_some] <;> rfl) | (simp [*, errW_none, errW_some] <;> rfl), by repeat (first | (with_reducible first | exact HB.out | apply below_alloc | apply pw_below_drewN | apply below_drew1) | exact HB.out)⟩
/-! ### impl_Matches: function 17 -/
def impl_Matches.f (k : Nat) (a0 : ByteArray) (a1 : ByteArray) : Option (Bool) := (server_SubjectMatchesFilter.f k a0 a1).bind fun t449 => (some t449)
set_option maxHeartbeats 8000000 in
set_option maxRecDepth 100000 in
theorem impl_Matches.calls (k : Nat) (a0 : ByteArray) (a1 : ByteArray) (r : Bool) (w : World) (h : impl_Matches.f k a0 a1 = some r) :
    Calls Tryd.prog 17 #[.string a0, .string a1] w fun e w' => e = .returned (.bool r) ∧ Below w.heap.size w w' := by
  have HB := Aside0.mk (Below.refl w.heap.size w)
  have H : ((server_SubjectMatchesFilter.f k a0 a1).bind fun t449 => (some t449)) = some r := h
  clear h
  replace H := Option.bind_eq_some_iff.mp H
  obtain ⟨t449, A30, H⟩ := H
  replace H : (some t449) = some r := H
  have A3 := Aside0.mk A30
  clear A30
  obtain rfl := Option.some.inj H
  go_enter Tryd.func17, Tryd.ntmps17
  go_wp2_with (first | ((with_reducible refine gate_callee (f := 40) rfl ?_); refine goesL_ (some 7) rfl rfl Tryd.func40 (by kernel_rfl) rfl #[.string a0, .string a1] rfl (by (try simp only [List.map_toArray, List.map_cons, List.map_nil]); first | done | rfl | (simp only [List.length_drop, List.length_take]; rfl)) ?_; (with_reducible refine (server_SubjectMatchesFilter.calls k a0 a1 t449 _ A3.out).mono ?_); rintro e w4 ⟨rfl, hb⟩; refine ⟨_, rfl, ?_⟩; have n0_ := Aside0.mk (below_step (by repeat (first | (with_reducible first | exact HB.out | apply below_alloc | apply pw_below_drewN | apply below_drew1) | exact HB.out)) hb); clear HB; have HB := n0_; clear n0_; (try clear hb); (try clear hb2); (try clear hk); (try clear hi)))
  go_ret
  exact ⟨by first | rfl | (simp [errW_none, errW_some] <;> rfl) | (simp [*, errW_none, errW_some] <;> rfl), by repeat (first | (with_reducible first | exact HB.out | apply below_alloc | apply pw_below_drewN | apply below_drew1) | exact HB.out)⟩
end Go.Proofs.YtoopmpjgmgffoaaDoor.GFnTransformBack
