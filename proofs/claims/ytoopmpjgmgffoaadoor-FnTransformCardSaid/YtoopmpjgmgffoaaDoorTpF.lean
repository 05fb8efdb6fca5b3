/- A walk of Go functions (plain functions of theirs, and that the machine's calls do what these say), written by a program of this session's. -/
import Derived.Test.YtoopmpjgmgffoaaDoorTpD
namespace Go.Proofs.YtoopmpjgmgffoaaDoor.GFnTransformBack
open Go.RowKit Go.Proofs.YtoopmpjgmgffoaaDoorW.PrintWords Go.Proofs.YtoopmpjgmgffoaaDoorW.PrintLast Go.Proofs.YtoopmpjgmgffoaaDoorW.PrintMore
set_option linter.unusedVariables false
set_option linter.unusedSimpArgs false
mutual
def laws_splits.l0 : Nat → List (S42) → List ByteArray → Int → Option (Bool)
 | 0, _, _, _ => none
 | k + 1, x0, x5, x6 => if x6 < (x0.length : Int) then (laws_splits.l1 k x0 x5 x6 0) else (some true)
def laws_splits.l1 : Nat → List (S42) → List ByteArray → Int → Int → Option (Bool)
 | 0, _, _, _, _ => none
 | k + 1, x0, x5, x6, x7 => if x7 < (x5.length : Int) then (if 0 ≤ x6 then (if x6 < (x0.length : Int) then (laws_splits.j2 k x0 x5 x6 x7 (((rd_T42 x0 x6).f0) == 3)) else (none)) else (none)) else (laws_splits.j2 k x0 x5 x6 x7 false)
def laws_splits.j2 : Nat → List (S42) → List ByteArray → Int → Int → Bool → Option (Bool)
 | 0, _, _, _, _, _ => none
 | k + 1, x0, x5, x6, x7, x30 => if x30 = true then (if 0 ≤ x6 then (if x6 < (x0.length : Int) then (if 0 < (((rd_T42 x0 x6).f1).size : Int) then (laws_splits.l2 k x0 x5 x6 x7 (bt ((rd_T42 x0 x6).f1) 0) false 0) else (none)) else (none)) else (none)) else (laws_splits.l0 k x0 x5 (wrap64 (x6 + 1)))
def laws_splits.l2 : Nat → List (S42) → List ByteArray → Int → Int → Int → Bool → Int → Option (Bool)
 | 0, _, _, _, _, _, _, _ => none
 | k + 1, x0, x5, x6, x7, x8, x9, x10 => if 0 ≤ x7 then (if x7 < (x5.length : Int) then (if x10 < ((rdOf ByteArray.empty x5 x7).size : Int) then (if x9 = true then (laws_splits.l2 k x0 x5 x6 x7 x8 true (wrap64 (x10 + 1))) else (if 0 ≤ x10 then (laws_splits.l2 k x0 x5 x6 x7 x8 ((bt (rdOf ByteArray.empty x5 x7) x10) != x8) (wrap64 (x10 + 1))) else (none))) else (if x9 = true then (if ((rdOf ByteArray.empty x5 x7).size : Int) > 1 then (if 0 < ((rdOf ByteArray.empty x5 x7).size : Int) then (if (bt (rdOf ByteArray.empty x5 x7) 0) = x8 then (if 1 < ((rdOf ByteArray.empty x5 x7).size : Int) then (if (bt (rdOf ByteArray.empty x5 x7) 1) = x8 then (some false) else (laws_splits.l1 k x0 x5 x6 (wrap64 (x7 + 1)))) else (none)) else (laws_splits.l1 k x0 x5 x6 (wrap64 (x7 + 1)))) else (none)) else (laws_splits.l1 k x0 x5 x6 (wrap64 (x7 + 1)))) else (some false))) else (none)) else (none)
end
def laws_splits.f (k : Nat) (l0 : List (S42)) (a1 : ByteArray) : Option (Bool) := (spec_Tokens.f k a1).bind fun t161 => (laws_splits.l0 k l0 t161 0)
set_option maxHeartbeats 8000000 in
set_option maxRecDepth 100000 in
theorem laws_splits.calls (k : Nat) (A0 : Option Addr) (c0 : Nat) (l0 : List (S42)) (a1 : ByteArray) (r : Bool) (w : World) (hr0 : Kd.C k42 w A0 l0.length l0) (hc0 : l0.length ≤ c0) (h : laws_splits.f k l0 a1 = some r) :
  Calls Tryd.prog 8 #[.slice A0 l0.length c0, .string a1] w fun e w' => e = .returned (.bool r) ∧ Below w.heap.size w w' := by
 have HR0 := Aside0.mk hr0
 have HC0 := Aside0.mk hc0
 clear hr0 hc0
 have HB := Aside0.mk (Below.refl w.heap.size w)
 have H : ((spec_Tokens.f k a1).bind fun t161 => (laws_splits.l0 k l0 t161 0)) = some r := h
 clear h
 replace H := Option.bind_eq_some_iff.mp H
 obtain ⟨t161, A30, H⟩ := H
 replace H : (laws_splits.l0 k l0 t161 0) = some r := H
 have A3 := Aside0.mk A30
 clear A30
 have H' := Aside0.mk H
 clear H
 go_enter Tryd.func8, Tryd.ntmps8
 go_wp2_with (first | ((with_reducible refine gate_callee (f := 25) rfl ?_); refine goesL_ (some 12) rfl rfl Tryd.func25 (by kernel_rfl) rfl #[.string a1] rfl (by (try simp only [List.map_toArray, List.map_cons, List.map_nil]); first | done | rfl | (simp only [List.length_drop, List.length_take]; rfl)) ?_; (with_reducible refine (spec_Tokens.calls k a1 t161 _ A3.out).mono ?_); rintro e w4 ⟨v162, rfl, ho0, hb⟩; refine ⟨_, rfl, ?_⟩; have n0_ := Aside0.mk (Kd.R_lower ho0 (below_size (by repeat (first | (with_reducible first | exact HB.out | apply below_alloc | apply pw_below_drewN | apply below_drew1) | exact HB.out)))); have n1_ := Aside0.mk (below_step (by repeat (first | (with_reducible first | exact HB.out | apply below_alloc | apply pw_below_drewN | apply below_drew1) | exact HB.out)) hb); clear HB; have HO163 := n0_; have HB := n1_; clear n0_ n1_; (try clear hb); (try clear hb2); (try clear hk); (try clear hi); (try clear ho0)))
 go_loopg [6] k (fun kq v6 w' => ∃ (x6_1 : Int), v6 = .int .i64 x6_1 ∧ Aside0 (laws_splits.l0 kq l0 t161 x6_1 = some r) ∧ Aside0 (kq ≤ k) ∧ Aside0 (Kd.R Kd.string 9 w' w.heap.size (fun _ => True) v162 t161) ∧ Aside0 (Below w.heap.size w w'))
 case atStart => exact ⟨(0), (by first | rfl | (simp; done) | (simp [*]; done)), H', ⟨Nat.le_refl _⟩, ⟨by (with_reducible repeat (first | apply Kd.R_alloc | apply Kd.R_drewN | apply Kd.R_drew)); exact HO163.out⟩, ⟨by repeat (first | (with_reducible first | exact HB.out | apply below_alloc | apply pw_below_drewN | apply below_drew1) | exact HB.out)⟩⟩
 case round =>
  clear H'
  try clear c2
  try clear p2
  obtain ⟨x6_1, rfl, HA, HK1, HO_5, HB⟩ := hrel
  cases gk with
  | zero => exact absurd HA.out (by simp [laws_splits.l0])
  | succ k1 =>
   have H := HA.out
   clear HA
   simp only [laws_splits.l0] at H
   by_cases c5 : x6_1 < (l0.length : Int)
   ·
    rw [if_pos c5] at H
    have c5b0 : decide (x6_1 < (l0.length : Int)) = true := decide_eq_true c5
    clear c5
    have H' := Aside0.mk H
    clear H
    go_wp2
    go_loopg [7] k1 (fun kq v7 w' => ∃ (x7_2 : Int), v7 = .int .i64 x7_2 ∧ Aside0 (laws_splits.l1 kq l0 t161 x6_1 x7_2 = some r) ∧ Aside0 (kq ≤ k1) ∧ Aside0 (Kd.R Kd.string 9 w' w.heap.size (fun _ => True) v162 t161) ∧ Aside0 (Below w.heap.size w w'))
    case atStart => exact ⟨(0), (by first | rfl | (simp; done) | (simp [*]; done)), H', ⟨Nat.le_refl _⟩, ⟨by (with_reducible repeat (first | apply Kd.R_alloc | apply Kd.R_drewN | apply Kd.R_drew)); exact HO_5.out⟩, ⟨by repeat (first | (with_reducible first | exact HB.out | apply below_alloc | apply pw_below_drewN | apply below_drew1) | exact HB.out)⟩⟩
    case round =>
     clear H'
     try clear c2
     try clear p2
     try clear c5
     try clear c5b0
     try clear p2
     obtain ⟨x7_2, rfl, HA, HK2, HO_5, HB⟩ := hrel
     cases gk with
     | zero => exact absurd HA.out (by simp [laws_splits.l1])
     | succ k2 =>
      have H := HA.out
      clear HA
      simp only [laws_splits.l1] at H
      have HC6 := Aside0.mk H
      clear H
      go_upto_region 6 with (fail)
      go_cut [30] (fun v30 wc => ∃ (kq : Nat) (x30_5 : Bool), v30 = .bool x30_5 ∧ Aside0 (laws_splits.j2 kq l0 t161 x6_1 x7_2 x30_5 = some r) ∧ Aside0 (kq ≤ k2) ∧ Aside0 (Kd.R Kd.string 9 wc w.heap.size (fun _ => True) v162 t161) ∧ Aside0 (Below w.heap.size w wc))
      case first =>
       have H := HC6.out
       clear HC6
       by_cases c7 : x7_2 < (t161.length : Int)
       ·
        rw [if_pos c7] at H
        have c7b0 : decide (x7_2 < (t161.length : Int)) = true := decide_eq_true c7
        clear c7
        (first | rw [c7b0] | (simp only [i64_w, i32_w]; rw [c7b0]) | skip)
        by_cases c8 : 0 ≤ x6_1
        ·
         rw [if_pos c8] at H
         have c8b0 : decide (0 ≤ x6_1) = true := decide_eq_true c8
         clear c8
         by_cases c9 : x6_1 < (l0.length : Int)
         ·
          rw [if_pos c9] at H
          have c9b0 : decide (x6_1 < (l0.length : Int)) = true := decide_eq_true c9
          clear c9
          have H' := Aside0.mk H
          clear H
          obtain ⟨Ao10, co10, eo10⟩ := Kd.R_slice HO_5.out
          subst eo10
          have p164 : 0 ≤ (x6_1 : Int) := of_decide_eq_true (by first | (with_reducible assumption) | assumption)
          have q164 : x6_1 < (l0.length : Int) := of_decide_eq_true (by first | (with_reducible assumption) | assumption)
          obtain ⟨ad164, A164_4, c164_4, e164, hx164_0, hx164_1, hx164_2, hx164_3, hx164_4, hl164_4, hi164_4⟩ := at_T42 HR0.out x6_1 p164 q164
          cases e164
          replace hx164_0 := (HB.out.cell (World.block_lt_of_cell? w _ hx164_0)).trans hx164_0
          replace hx164_1 := (HB.out.cell (World.block_lt_of_cell? w _ hx164_1)).trans hx164_1
          replace hx164_2 := (HB.out.cell (World.block_lt_of_cell? w _ hx164_2)).trans hx164_2
          replace hx164_3 := (HB.out.cell (World.block_lt_of_cell? w _ hx164_3)).trans hx164_3
          replace hx164_4 := (HB.out.cell (World.block_lt_of_cell? w _ hx164_4)).trans hx164_4
          have HR164_4 := Aside0.mk hi164_4
          have HC164_4 := Aside0.mk hl164_4
          clear hi164_4 hl164_4
          replace p164 := eq_true p164
          replace q164 := eq_true q164
          go_wp2
          go_meet
          case rel => exact ⟨_, ((((rd_T42 l0 x6_1).f0) == 3)), (by first | rfl | (simp; done) | (simp [*]; done)), H', ⟨by have := HK1.out; have := HK2.out; first | omega | exact Nat.le_refl _⟩, ⟨by (with_reducible repeat (first | apply Kd.R_alloc | apply Kd.R_drewN | apply Kd.R_drew)); exact HO_5.out⟩, ⟨by repeat (first | (with_reducible first | exact HB.out | apply below_alloc | apply pw_below_drewN | apply below_drew1) | exact HB.out)⟩⟩
         rw [if_neg c9] at H
         exact absurd H (by simp)
        rw [if_neg c8] at H
        exact absurd H (by simp)
       rw [if_neg c7] at H
       have c7b0 : decide (x7_2 < (t161.length : Int)) = false := decide_eq_false c7
       clear c7
       (first | rw [c7b0] | (simp only [i64_w, i32_w]; rw [c7b0]) | skip)
       have H' := Aside0.mk H
       clear H
       obtain ⟨Ao11, co11, eo11⟩ := Kd.R_slice HO_5.out
       subst eo11
       go_wp2
       go_meet
       case rel => exact ⟨_, (false), (by first | rfl | (simp; done) | (simp [*]; done)), H', ⟨by have := HK1.out; have := HK2.out; first | omega | exact Nat.le_refl _⟩, ⟨by (with_reducible repeat (first | apply Kd.R_alloc | apply Kd.R_drewN | apply Kd.R_drew)); exact HO_5.out⟩, ⟨by repeat (first | (with_reducible first | exact HB.out | apply below_alloc | apply pw_below_drewN | apply below_drew1) | exact HB.out)⟩⟩
      case rest =>
       clear HC6
       try clear c1
       try clear p1
       try clear q1
       try clear hx1
       try clear c2
       try clear p2
       try clear c5
       try clear c5b0
       try clear c7
       try clear c7b0
       try clear c8
       try clear c8b0
       try clear c9
       try clear c9b0
       try clear hx164_0
       try clear hx164_1
       try clear hx164_2
       try clear hx164_3
       try clear hx164_4
       try clear p164
       try clear p2
       try clear q164
       obtain ⟨kq, x30_5, rfl, HA, HJ5, HO_5, HB⟩ := hcut
       cases kq with
       | zero => exact absurd HA.out (by simp [laws_splits.j2])
       | succ kj5 =>
        have H := HA.out
        clear HA
        simp only [laws_splits.j2] at H
        by_cases c12 : x30_5 = true
        ·
         subst c12
         have H1 : (if 0 ≤ x6_1 then (if x6_1 < (l0.length : Int) then (if 0 < (((rd_T42 l0 x6_1).f1).size : Int) then (laws_splits.l2 kj5 l0 t161 x6_1 x7_2 (bt ((rd_T42 l0 x6_1).f1) 0) false 0) else (none)) else (none)) else (none)) = some r := by rw [if_pos rfl] at H; exact H
         clear H
         have H := H1
         clear H1
         by_cases c13 : 0 ≤ x6_1
         ·
          rw [if_pos c13] at H
          have c13b0 : decide (0 ≤ x6_1) = true := decide_eq_true c13
          clear c13
          by_cases c14 : x6_1 < (l0.length : Int)
          ·
           rw [if_pos c14] at H
           have c14b0 : decide (x6_1 < (l0.length : Int)) = true := decide_eq_true c14
           clear c14
           by_cases c15 : 0 < (((rd_T42 l0 x6_1).f1).size : Int)
           ·
            rw [if_pos c15] at H
            have c15b0 : decide (0 < (((rd_T42 l0 x6_1).f1).size : Int)) = true := decide_eq_true c15
            have c15b1 : decide (0 < ((rd_T42 l0 x6_1).f1).size) = true := decide_eq_true (by omega)
            clear c15
            have H' := Aside0.mk H
            clear H
            have p165 : 0 ≤ (x6_1 : Int) := of_decide_eq_true (by first | (with_reducible assumption) | assumption)
            have q165 : x6_1 < (l0.length : Int) := of_decide_eq_true (by first | (with_reducible assumption) | assumption)
            obtain ⟨ad165, A165_4, c165_4, e165, hx165_0, hx165_1, hx165_2, hx165_3, hx165_4, hl165_4, hi165_4⟩ := at_T42 HR0.out x6_1 p165 q165
            cases e165
            replace hx165_0 := (HB.out.cell (World.block_lt_of_cell? w _ hx165_0)).trans hx165_0
            replace hx165_1 := (HB.out.cell (World.block_lt_of_cell? w _ hx165_1)).trans hx165_1
            replace hx165_2 := (HB.out.cell (World.block_lt_of_cell? w _ hx165_2)).trans hx165_2
            replace hx165_3 := (HB.out.cell (World.block_lt_of_cell? w _ hx165_3)).trans hx165_3
            replace hx165_4 := (HB.out.cell (World.block_lt_of_cell? w _ hx165_4)).trans hx165_4
            have HR165_4 := Aside0.mk hi165_4
            have HC165_4 := Aside0.mk hl165_4
            clear hi165_4 hl165_4
            replace p165 := eq_true p165
            replace q165 := eq_true q165
            have p16 : 0 ≤ (0 : Int) := (by omega)
            have q16 : 0 < ((rd_T42 l0 x6_1).f1).size := (by have : (0 : Int) < (((rd_T42 l0 x6_1).f1).size : Int) := of_decide_eq_true (by first | (with_reducible assumption) | assumption); omega)
            have hx16 : ∀ h : 0 < ((rd_T42 l0 x6_1).f1).size, ((((rd_T42 l0 x6_1).f1)[0]'h).toNat : Int) = bt ((rd_T42 l0 x6_1).f1) 0 := bt_at ((rd_T42 l0 x6_1).f1) 0
            clear p16
            have qi16 : (0 < (((rd_T42 l0 x6_1).f1).size : Int)) = True := eq_true (of_decide_eq_true (by first | (with_reducible assumption) | assumption))
            replace q16 := eq_true q16
            go_wp2
            go_loopg [9, 10] kj5 (fun kq v9 v10 w' => ∃ (x9_4 : Bool) (x10_4 : Int), v9 = .bool x9_4 ∧ v10 = .int .i64 x10_4 ∧ Aside0 (laws_splits.l2 kq l0 t161 x6_1 x7_2 (bt ((rd_T42 l0 x6_1).f1) 0) x9_4 x10_4 = some r) ∧ Aside0 (kq ≤ kj5) ∧ Aside0 (Kd.R Kd.string 9 w' w.heap.size (fun _ => True) v162 t161) ∧ Aside0 (Below w.heap.size w w'))
            case atStart => exact ⟨(false), (0), (by first | rfl | (simp; done) | (simp [*]; done)), (by first | rfl | (simp; done) | (simp [*]; done)), H', ⟨Nat.le_refl _⟩, ⟨by (with_reducible repeat (first | apply Kd.R_alloc | apply Kd.R_drewN | apply Kd.R_drew)); exact HO_5.out⟩, ⟨by repeat (first | (with_reducible first | exact HB.out | apply below_alloc | apply pw_below_drewN | apply below_drew1) | exact HB.out)⟩⟩
            case round =>
             clear H'
             try clear c1
             try clear p1
             try clear q1
             try clear hx1
             try clear qi1
             try clear c2
             try clear p2
             try clear c5
             try clear c5b0
             try clear c7
             try clear c7b0
             try clear c8
             try clear c8b0
             try clear c9
             try clear c9b0
             try clear c12
             try clear c13
             try clear c13b0
             try clear c14
             try clear c14b0
             try clear c15
             try clear c15b0
             try clear c15b1
             try clear c16
             try clear p16
             try clear q16
             try clear hx16
             try clear qi16
             try clear hx164_0
             try clear hx164_1
             try clear hx164_2
             try clear hx164_3
             try clear hx164_4
             try clear hx165_0
             try clear hx165_1
             try clear hx165_2
             try clear hx165_3
             try clear hx165_4
             try clear p1
             try clear p16
             try clear p164
             try clear p165
             try clear p2
             try clear q1
             try clear q16
             try clear q164
             try clear q165
             obtain ⟨x9_4, x10_4, rfl, rfl, HA, HK4, HO_5, HB⟩ := hrel
             cases gk with
             | zero => exact absurd HA.out (by simp [laws_splits.l2])
             | succ k4 =>
              have H := HA.out
              clear HA
              simp only [laws_splits.l2] at H
              by_cases c17 : 0 ≤ x7_2
              ·
               rw [if_pos c17] at H
               have c17b0 : decide (0 ≤ x7_2) = true := decide_eq_true c17
               clear c17
               by_cases c18 : x7_2 < (t161.length : Int)
               ·
                rw [if_pos c18] at H
                have c18b0 : decide (x7_2 < (t161.length : Int)) = true := decide_eq_true c18
                clear c18
                by_cases c19 : x10_4 < ((rdOf ByteArray.empty t161 x7_2).size : Int)
                ·
                 rw [if_pos c19] at H
                 have c19b0 : decide (x10_4 < ((rdOf ByteArray.empty t161 x7_2).size : Int)) = true := decide_eq_true c19
                 clear c19
                 by_cases c20 : x9_4 = true
                 ·
                  subst c20
                  have H1 : (laws_splits.l2 k4 l0 t161 x6_1 x7_2 (bt ((rd_T42 l0 x6_1).f1) 0) true (wrap64 (x10_4 + 1))) = some r := by rw [if_pos rfl] at H; exact H
                  clear H
                  have H := H1
                  clear H1
                  have H' := Aside0.mk H
                  clear H
                  obtain ⟨Ao21, co21, eo21⟩ := Kd.R_slice HO_5.out
                  subst eo21
                  have p166 : 0 ≤ (x7_2 : Int) := of_decide_eq_true (by first | (with_reducible assumption) | assumption)
                  have q166 : x7_2 < (t161.length : Int) := of_decide_eq_true (by first | (with_reducible assumption) | assumption)
                  obtain ⟨ad166, e166, hx166_0⟩ := Kd.at_string (Kd.R_reads' HO_5.out).2.2 x7_2 p166 q166
                  cases e166
                  replace p166 := eq_true p166
                  replace q166 := eq_true q166
                  go_wp2
                  go_roundg k4
                  case measure => have := HK1.out; have := HK2.out; have := HJ5.out; have := HK4.out; omega
                  case rel => exact ⟨(true), (wrap64 (x10_4 + 1)), (by first | rfl | (simp; done) | (simp [*]; done)), (by first | rfl | (simp; done) | (simp [*]; done)), H', ⟨by have := HK1.out; have := HK2.out; have := HJ5.out; have := HK4.out; omega⟩, ⟨by (with_reducible repeat (first | apply Kd.R_alloc | apply Kd.R_drewN | apply Kd.R_drew)); exact HO_5.out⟩, ⟨by repeat (first | (with_reducible first | exact HB.out | apply below_alloc | apply pw_below_drewN | apply below_drew1) | exact HB.out)⟩⟩
                 replace c20 := Bool.eq_false_iff.mpr c20
                 subst c20
                 have H1 : (if 0 ≤ x10_4 then (laws_splits.l2 k4 l0 t161 x6_1 x7_2 (bt ((rd_T42 l0 x6_1).f1) 0) ((bt (rdOf ByteArray.empty t161 x7_2) x10_4) != (bt ((rd_T42 l0 x6_1).f1) 0)) (wrap64 (x10_4 + 1))) else (none)) = some r := by rw [if_neg (show ¬ (false = true) by decide)] at H; exact H
                 clear H
                 have H := H1
                 clear H1
                 by_cases c22 : 0 ≤ x10_4
                 ·
                  rw [if_pos c22] at H
                  have c22b0 : decide (0 ≤ x10_4) = true := decide_eq_true c22
                  clear c22
                  have H' := Aside0.mk H
                  clear H
                  obtain ⟨Ao24, co24, eo24⟩ := Kd.R_slice HO_5.out
                  subst eo24
                  have p166 : 0 ≤ (x7_2 : Int) := of_decide_eq_true (by first | (with_reducible assumption) | assumption)
                  have q166 : x7_2 < (t161.length : Int) := of_decide_eq_true (by first | (with_reducible assumption) | assumption)
                  obtain ⟨ad166, e166, hx166_0⟩ := Kd.at_string (Kd.R_reads' HO_5.out).2.2 x7_2 p166 q166
                  cases e166
                  replace p166 := eq_true p166
                  replace q166 := eq_true q166
                  have p167 : 0 ≤ (x7_2 : Int) := of_decide_eq_true (by first | (with_reducible assumption) | assumption)
                  have q167 : x7_2 < (t161.length : Int) := of_decide_eq_true (by first | (with_reducible assumption) | assumption)
                  obtain ⟨ad167, e167, hx167_0⟩ := Kd.at_string (Kd.R_reads' HO_5.out).2.2 x7_2 p167 q167
                  obtain rfl : ad166 = ad167 := (by injection e167)
                  replace p167 := eq_true p167
                  replace q167 := eq_true q167
                  have p23 : 0 ≤ (x10_4 : Int) := of_decide_eq_true (by first | (with_reducible assumption) | assumption)
                  have q23 : x10_4 < ((rdOf ByteArray.empty t161 x7_2).size : Int) := of_decide_eq_true (by first | (with_reducible assumption) | assumption)
                  have hx23 := bt_at (rdOf ByteArray.empty t161 x7_2) x10_4
                  replace p23 := eq_true p23
                  replace q23 := eq_true q23
                  go_wp2
                  go_roundg k4
                  case measure => have := HK1.out; have := HK2.out; have := HJ5.out; have := HK4.out; omega
                  case rel => exact ⟨(((bt (rdOf ByteArray.empty t161 x7_2) x10_4) != (bt ((rd_T42 l0 x6_1).f1) 0))), (wrap64 (x10_4 + 1)), (by first | rfl | (simp; done) | (simp [*]; done)), (by first | rfl | (simp; done) | (simp [*]; done)), H', ⟨by have := HK1.out; have := HK2.out; have := HJ5.out; have := HK4.out; omega⟩, ⟨by (with_reducible repeat (first | apply Kd.R_alloc | apply Kd.R_drewN | apply Kd.R_drew)); exact HO_5.out⟩, ⟨by repeat (first | (with_reducible first | exact HB.out | apply below_alloc | apply pw_below_drewN | apply below_drew1) | exact HB.out)⟩⟩
                 rw [if_neg c22] at H
                 exact absurd H (by simp)
                rw [if_neg c19] at H
                have c19b0 : decide (x10_4 < ((rdOf ByteArray.empty t161 x7_2).size : Int)) = false := decide_eq_false c19
                clear c19
                by_cases c25 : x9_4 = true
                ·
                 subst c25
                 have H1 : (if ((rdOf ByteArray.empty t161 x7_2).size : Int) > 1 then (if 0 < ((rdOf ByteArray.empty t161 x7_2).size : Int) then (if (bt (rdOf ByteArray.empty t161 x7_2) 0) = (bt ((rd_T42 l0 x6_1).f1) 0) then (if 1 < ((rdOf ByteArray.empty t161 x7_2).size : Int) then (if (bt (rdOf ByteArray.empty t161 x7_2) 1) = (bt ((rd_T42 l0 x6_1).f1) 0) then (some false) else (laws_splits.l1 k4 l0 t161 x6_1 (wrap64 (x7_2 + 1)))) else (none)) else (laws_splits.l1 k4 l0 t161 x6_1 (wrap64 (x7_2 + 1)))) else (none)) else (laws_splits.l1 k4 l0 t161 x6_1 (wrap64 (x7_2 + 1)))) = some r := by rw [if_pos rfl] at H; exact H
                 clear H
                 have H := H1
                 clear H1
                 by_cases c26 : ((rdOf ByteArray.empty t161 x7_2).size : Int) > 1
                 ·
                  rw [if_pos c26] at H
                  have c26b0 : decide (1 < ((rdOf ByteArray.empty t161 x7_2).size : Int)) = true := decide_eq_true c26
                  have c26b1 : decide (1 < (rdOf ByteArray.empty t161 x7_2).size) = true := decide_eq_true (by omega)
                  clear c26
                  by_cases c27 : 0 < ((rdOf ByteArray.empty t161 x7_2).size : Int)
                  ·
                   rw [if_pos c27] at H
                   have c27b0 : decide (0 < ((rdOf ByteArray.empty t161 x7_2).size : Int)) = true := decide_eq_true c27
                   have c27b1 : decide (0 < (rdOf ByteArray.empty t161 x7_2).size) = true := decide_eq_true (by omega)
                   clear c27
                   by_cases c29 : (bt (rdOf ByteArray.empty t161 x7_2) 0) = (bt ((rd_T42 l0 x6_1).f1) 0)
                   ·
                    rw [if_pos c29] at H
                    have c29b0 : ((bt (rdOf ByteArray.empty t161 x7_2) 0) == (bt ((rd_T42 l0 x6_1).f1) 0)) = true := beq_iff_eq.mpr c29
                    have c29b1 : ((bt (rdOf ByteArray.empty t161 x7_2) 0) != (bt ((rd_T42 l0 x6_1).f1) 0)) = false := bne_eq_false_iff_eq.mpr c29
                    clear c29
                    by_cases c30 : 1 < ((rdOf ByteArray.empty t161 x7_2).size : Int)
                    ·
                     rw [if_pos c30] at H
                     have c30b0 : decide (1 < ((rdOf ByteArray.empty t161 x7_2).size : Int)) = true := decide_eq_true c30
                     have c30b1 : decide (1 < (rdOf ByteArray.empty t161 x7_2).size) = true := decide_eq_true (by omega)
                     clear c30
                     by_cases c32 : (bt (rdOf ByteArray.empty t161 x7_2) 1) = (bt ((rd_T42 l0 x6_1).f1) 0)
                     ·
                      rw [if_pos c32] at H
                      have c32b0 : ((bt (rdOf ByteArray.empty t161 x7_2) 1) == (bt ((rd_T42 l0 x6_1).f1) 0)) = true := beq_iff_eq.mpr c32
                      have c32b1 : ((bt (rdOf ByteArray.empty t161 x7_2) 1) != (bt ((rd_T42 l0 x6_1).f1) 0)) = false := bne_eq_false_iff_eq.mpr c32
                      clear c32
                      obtain rfl := Option.some.inj H
                      obtain ⟨Ao33, co33, eo33⟩ := Kd.R_slice HO_5.out
                      subst eo33
                      have p166 : 0 ≤ (x7_2 : Int) := of_decide_eq_true (by first | (with_reducible assumption) | assumption)
                      have q166 : x7_2 < (t161.length : Int) := of_decide_eq_true (by first | (with_reducible assumption) | assumption)
                      obtain ⟨ad166, e166, hx166_0⟩ := Kd.at_string (Kd.R_reads' HO_5.out).2.2 x7_2 p166 q166
                      cases e166
                      replace p166 := eq_true p166
                      replace q166 := eq_true q166
                      have p168 : 0 ≤ (x7_2 : Int) := of_decide_eq_true (by first | (with_reducible assumption) | assumption)
                      have q168 : x7_2 < (t161.length : Int) := of_decide_eq_true (by first | (with_reducible assumption) | assumption)
                      obtain ⟨ad168, e168, hx168_0⟩ := Kd.at_string (Kd.R_reads' HO_5.out).2.2 x7_2 p168 q168
                      obtain rfl : ad166 = ad168 := (by injection e168)
                      replace p168 := eq_true p168
                      replace q168 := eq_true q168
                      have p169 : 0 ≤ (x7_2 : Int) := of_decide_eq_true (by first | (with_reducible assumption) | assumption)
                      have q169 : x7_2 < (t161.length : Int) := of_decide_eq_true (by first | (with_reducible assumption) | assumption)
                      obtain ⟨ad169, e169, hx169_0⟩ := Kd.at_string (Kd.R_reads' HO_5.out).2.2 x7_2 p169 q169
                      obtain rfl : ad166 = ad169 := (by injection e169)
                      replace p169 := eq_true p169
                      replace q169 := eq_true q169
                      have p28 : 0 ≤ (0 : Int) := (by omega)
                      have q28 : 0 < (rdOf ByteArray.empty t161 x7_2).size := (by have : (0 : Int) < ((rdOf ByteArray.empty t161 x7_2).size : Int) := of_decide_eq_true (by first | (with_reducible assumption) | assumption); omega)
                      have hx28 : ∀ h : 0 < (rdOf ByteArray.empty t161 x7_2).size, (((rdOf ByteArray.empty t161 x7_2)[0]'h).toNat : Int) = bt (rdOf ByteArray.empty t161 x7_2) 0 := bt_at (rdOf ByteArray.empty t161 x7_2) 0
                      clear p28
                      have qi28 : (0 < ((rdOf ByteArray.empty t161 x7_2).size : Int)) = True := eq_true (of_decide_eq_true (by first | (with_reducible assumption) | assumption))
                      replace q28 := eq_true q28
                      have p170 : 0 ≤ (x7_2 : Int) := of_decide_eq_true (by first | (with_reducible assumption) | assumption)
                      have q170 : x7_2 < (t161.length : Int) := of_decide_eq_true (by first | (with_reducible assumption) | assumption)
                      obtain ⟨ad170, e170, hx170_0⟩ := Kd.at_string (Kd.R_reads' HO_5.out).2.2 x7_2 p170 q170
                      obtain rfl : ad166 = ad170 := (by injection e170)
                      replace p170 := eq_true p170
                      replace q170 := eq_true q170
                      have p31 : 0 ≤ (1 : Int) := (by omega)
                      have q31 : 1 < (rdOf ByteArray.empty t161 x7_2).size := (by have : (1 : Int) < ((rdOf ByteArray.empty t161 x7_2).size : Int) := of_decide_eq_true (by first | (with_reducible assumption) | assumption); omega)
                      have hx31 : ∀ h : 1 < (rdOf ByteArray.empty t161 x7_2).size, (((rdOf ByteArray.empty t161 x7_2)[1]'h).toNat : Int) = bt (rdOf ByteArray.empty t161 x7_2) 1 := bt_at (rdOf ByteArray.empty t161 x7_2) 1
                      clear p31
                      have qi31 : (1 < ((rdOf ByteArray.empty t161 x7_2).size : Int)) = True := eq_true (of_decide_eq_true (by first | (with_reducible assumption) | assumption))
                      replace q31 := eq_true q31
                      go_wp2
                      go_ret
                      exact ⟨by first | rfl | (simp [errW_none, errW_some] <;> rfl) | (simp [*, errW_none, errW_some] <;> rfl), by repeat (first | (with_reducible first | exact HB.out | apply below_alloc | apply pw_below_drewN | apply below_drew1) | exact HB.out)⟩
                     rw [if_neg c32] at H
                     have c32b0 : ((bt (rdOf ByteArray.empty t161 x7_2) 1) == (bt ((rd_T42 l0 x6_1).f1) 0)) = false := beq_eq_false_iff_ne.mpr c32
                     have c32b1 : ((bt (rdOf ByteArray.empty t161 x7_2) 1) != (bt ((rd_T42 l0 x6_1).f1) 0)) = true := bne_iff_ne.mpr c32
                     have H' := Aside0.mk H
                     clear H
                     obtain ⟨Ao34, co34, eo34⟩ := Kd.R_slice HO_5.out
                     subst eo34
                     have p166 : 0 ≤ (x7_2 : Int) := of_decide_eq_true (by first | (with_reducible assumption) | assumption)
                     have q166 : x7_2 < (t161.length : Int) := of_decide_eq_true (by first | (with_reducible assumption) | assumption)
                     obtain ⟨ad166, e166, hx166_0⟩ := Kd.at_string (Kd.R_reads' HO_5.out).2.2 x7_2 p166 q166
                     cases e166
                     replace p166 := eq_true p166
                     replace q166 := eq_true q166
                     have p168 : 0 ≤ (x7_2 : Int) := of_decide_eq_true (by first | (with_reducible assumption) | assumption)
                     have q168 : x7_2 < (t161.length : Int) := of_decide_eq_true (by first | (with_reducible assumption) | assumption)
                     obtain ⟨ad168, e168, hx168_0⟩ := Kd.at_string (Kd.R_reads' HO_5.out).2.2 x7_2 p168 q168
                     obtain rfl : ad166 = ad168 := (by injection e168)
                     replace p168 := eq_true p168
                     replace q168 := eq_true q168
                     have p169 : 0 ≤ (x7_2 : Int) := of_decide_eq_true (by first | (with_reducible assumption) | assumption)
                     have q169 : x7_2 < (t161.length : Int) := of_decide_eq_true (by first | (with_reducible assumption) | assumption)
                     obtain ⟨ad169, e169, hx169_0⟩ := Kd.at_string (Kd.R_reads' HO_5.out).2.2 x7_2 p169 q169
                     obtain rfl : ad166 = ad169 := (by injection e169)
                     replace p169 := eq_true p169
                     replace q169 := eq_true q169
                     have p28 : 0 ≤ (0 : Int) := (by omega)
                     have q28 : 0 < (rdOf ByteArray.empty t161 x7_2).size := (by have : (0 : Int) < ((rdOf ByteArray.empty t161 x7_2).size : Int) := of_decide_eq_true (by first | (with_reducible assumption) | assumption); omega)
                     have hx28 : ∀ h : 0 < (rdOf ByteArray.empty t161 x7_2).size, (((rdOf ByteArray.empty t161 x7_2)[0]'h).toNat : Int) = bt (rdOf ByteArray.empty t161 x7_2) 0 := bt_at (rdOf ByteArray.empty t161 x7_2) 0
                     clear p28
                     have qi28 : (0 < ((rdOf ByteArray.empty t161 x7_2).size : Int)) = True := eq_true (of_decide_eq_true (by first | (with_reducible assumption) | assumption))
                     replace q28 := eq_true q28
                     have p170 : 0 ≤ (x7_2 : Int) := of_decide_eq_true (by first | (with_reducible assumption) | assumption)
                     have q170 : x7_2 < (t161.length : Int) := of_decide_eq_true (by first | (with_reducible assumption) | assumption)
                     obtain ⟨ad170, e170, hx170_0⟩ := Kd.at_string (Kd.R_reads' HO_5.out).2.2 x7_2 p170 q170
                     obtain rfl : ad166 = ad170 := (by injection e170)
                     replace p170 := eq_true p170
                     replace q170 := eq_true q170
                     have p31 : 0 ≤ (1 : Int) := (by omega)
                     have q31 : 1 < (rdOf ByteArray.empty t161 x7_2).size := (by have : (1 : Int) < ((rdOf ByteArray.empty t161 x7_2).size : Int) := of_decide_eq_true (by first | (with_reducible assumption) | assumption); omega)
                     have hx31 : ∀ h : 1 < (rdOf ByteArray.empty t161 x7_2).size, (((rdOf ByteArray.empty t161 x7_2)[1]'h).toNat : Int) = bt (rdOf ByteArray.empty t161 x7_2) 1 := bt_at (rdOf ByteArray.empty t161 x7_2) 1
                     clear p31
                     have qi31 : (1 < ((rdOf ByteArray.empty t161 x7_2).size : Int)) = True := eq_true (of_decide_eq_true (by first | (with_reducible assumption) | assumption))
                     replace q31 := eq_true q31
                     go_wp2
                     go_roundg k4
                     case measure => have := HK1.out; have := HK2.out; have := HJ5.out; have := HK4.out; omega
                     case rel => exact ⟨(wrap64 (x7_2 + 1)), (by first | rfl | (simp; done) | (simp [*]; done)), H', ⟨by have := HK1.out; have := HK2.out; have := HJ5.out; have := HK4.out; omega⟩, ⟨by (with_reducible repeat (first | apply Kd.R_alloc | apply Kd.R_drewN | apply Kd.R_drew)); exact HO_5.out⟩, ⟨by repeat (first | (with_reducible first | exact HB.out | apply below_alloc | apply pw_below_drewN | apply below_drew1) | exact HB.out)⟩⟩
                    rw [if_neg c30] at H
                    exact absurd H (by simp)
                   rw [if_neg c29] at H
                   have c29b0 : ((bt (rdOf ByteArray.empty t161 x7_2) 0) == (bt ((rd_T42 l0 x6_1).f1) 0)) = false := beq_eq_false_iff_ne.mpr c29
                   have c29b1 : ((bt (rdOf ByteArray.empty t161 x7_2) 0) != (bt ((rd_T42 l0 x6_1).f1) 0)) = true := bne_iff_ne.mpr c29
                   have H' := Aside0.mk H
                   clear H
                   obtain ⟨Ao35, co35, eo35⟩ := Kd.R_slice HO_5.out
                   subst eo35
                   have p166 : 0 ≤ (x7_2 : Int) := of_decide_eq_true (by first | (with_reducible assumption) | assumption)
                   have q166 : x7_2 < (t161.length : Int) := of_decide_eq_true (by first | (with_reducible assumption) | assumption)
                   obtain ⟨ad166, e166, hx166_0⟩ := Kd.at_string (Kd.R_reads' HO_5.out).2.2 x7_2 p166 q166
                   cases e166
                   replace p166 := eq_true p166
                   replace q166 := eq_true q166
                   have p168 : 0 ≤ (x7_2 : Int) := of_decide_eq_true (by first | (with_reducible assumption) | assumption)
                   have q168 : x7_2 < (t161.length : Int) := of_decide_eq_true (by first | (with_reducible assumption) | assumption)
                   obtain ⟨ad168, e168, hx168_0⟩ := Kd.at_string (Kd.R_reads' HO_5.out).2.2 x7_2 p168 q168
                   obtain rfl : ad166 = ad168 := (by injection e168)
                   replace p168 := eq_true p168
                   replace q168 := eq_true q168
                   have p169 : 0 ≤ (x7_2 : Int) := of_decide_eq_true (by first | (with_reducible assumption) | assumption)
                   have q169 : x7_2 < (t161.length : Int) := of_decide_eq_true (by first | (with_reducible assumption) | assumption)
                   obtain ⟨ad169, e169, hx169_0⟩ := Kd.at_string (Kd.R_reads' HO_5.out).2.2 x7_2 p169 q169
                   obtain rfl : ad166 = ad169 := (by injection e169)
                   replace p169 := eq_true p169
                   replace q169 := eq_true q169
                   have p28 : 0 ≤ (0 : Int) := (by omega)
                   have q28 : 0 < (rdOf ByteArray.empty t161 x7_2).size := (by have : (0 : Int) < ((rdOf ByteArray.empty t161 x7_2).size : Int) := of_decide_eq_true (by first | (with_reducible assumption) | assumption); omega)
                   have hx28 : ∀ h : 0 < (rdOf ByteArray.empty t161 x7_2).size, (((rdOf ByteArray.empty t161 x7_2)[0]'h).toNat : Int) = bt (rdOf ByteArray.empty t161 x7_2) 0 := bt_at (rdOf ByteArray.empty t161 x7_2) 0
                   clear p28
                   have qi28 : (0 < ((rdOf ByteArray.empty t161 x7_2).size : Int)) = True := eq_true (of_decide_eq_true (by first | (with_reducible assumption) | assumption))
                   replace q28 := eq_true q28
                   go_wp2
                   go_roundg k4
                   case measure => have := HK1.out; have := HK2.out; have := HJ5.out; have := HK4.out; omega
                   case rel => exact ⟨(wrap64 (x7_2 + 1)), (by first | rfl | (simp; done) | (simp [*]; done)), H', ⟨by have := HK1.out; have := HK2.out; have := HJ5.out; have := HK4.out; omega⟩, ⟨by (with_reducible repeat (first | apply Kd.R_alloc | apply Kd.R_drewN | apply Kd.R_drew)); exact HO_5.out⟩, ⟨by repeat (first | (with_reducible first | exact HB.out | apply below_alloc | apply pw_below_drewN | apply below_drew1) | exact HB.out)⟩⟩
                  rw [if_neg c27] at H
                  exact absurd H (by simp)
                 rw [if_neg c26] at H
                 have c26b0 : decide (1 < ((rdOf ByteArray.empty t161 x7_2).size : Int)) = false := decide_eq_false c26
                 have c26b1 : decide (1 < (rdOf ByteArray.empty t161 x7_2).size) = false := decide_eq_false (by omega)
                 clear c26
                 have H' := Aside0.mk H
                 clear H
                 obtain ⟨Ao36, co36, eo36⟩ := Kd.R_slice HO_5.out
                 subst eo36
                 have p166 : 0 ≤ (x7_2 : Int) := of_decide_eq_true (by first | (with_reducible assumption) | assumption)
                 have q166 : x7_2 < (t161.length : Int) := of_decide_eq_true (by first | (with_reducible assumption) | assumption)
                 obtain ⟨ad166, e166, hx166_0⟩ := Kd.at_string (Kd.R_reads' HO_5.out).2.2 x7_2 p166 q166
                 cases e166
                 replace p166 := eq_true p166
                 replace q166 := eq_true q166
                 have p168 : 0 ≤ (x7_2 : Int) := of_decide_eq_true (by first | (with_reducible assumption) | assumption)
                 have q168 : x7_2 < (t161.length : Int) := of_decide_eq_true (by first | (with_reducible assumption) | assumption)
                 obtain ⟨ad168, e168, hx168_0⟩ := Kd.at_string (Kd.R_reads' HO_5.out).2.2 x7_2 p168 q168
                 obtain rfl : ad166 = ad168 := (by injection e168)
                 replace p168 := eq_true p168
                 replace q168 := eq_true q168
                 go_wp2
                 go_roundg k4
                 case measure => have := HK1.out; have := HK2.out; have := HJ5.out; have := HK4.out; omega
                 case rel => exact ⟨(wrap64 (x7_2 + 1)), (by first | rfl | (simp; done) | (simp [*]; done)), H', ⟨by have := HK1.out; have := HK2.out; have := HJ5.out; have := HK4.out; omega⟩, ⟨by (with_reducible repeat (first | apply Kd.R_alloc | apply Kd.R_drewN | apply Kd.R_drew)); exact HO_5.out⟩, ⟨by repeat (first | (with_reducible first | exact HB.out | apply below_alloc | apply pw_below_drewN | apply below_drew1) | exact HB.out)⟩⟩
                replace c25 := Bool.eq_false_iff.mpr c25
                subst c25
                have H1 : (some false) = some r := by rw [if_neg (show ¬ (false = true) by decide)] at H; exact H
                clear H
                have H := H1
                clear H1
                obtain rfl := Option.some.inj H
                obtain ⟨Ao37, co37, eo37⟩ := Kd.R_slice HO_5.out
                subst eo37
                have p166 : 0 ≤ (x7_2 : Int) := of_decide_eq_true (by first | (with_reducible assumption) | assumption)
                have q166 : x7_2 < (t161.length : Int) := of_decide_eq_true (by first | (with_reducible assumption) | assumption)
                obtain ⟨ad166, e166, hx166_0⟩ := Kd.at_string (Kd.R_reads' HO_5.out).2.2 x7_2 p166 q166
                cases e166
                replace p166 := eq_true p166
                replace q166 := eq_true q166
                go_wp2
                go_ret
                exact ⟨by first | rfl | (simp [errW_none, errW_some] <;> rfl) | (simp [*, errW_none, errW_some] <;> rfl), by repeat (first | (with_reducible first | exact HB.out | apply below_alloc | apply pw_below_drewN | apply below_drew1) | exact HB.out)⟩
               rw [if_neg c18] at H
               exact absurd H (by simp)
              rw [if_neg c17] at H
              exact absurd H (by simp)
           rw [if_neg c15] at H
           exact absurd H (by simp)
          rw [if_neg c14] at H
          exact absurd H (by simp)
         rw [if_neg c13] at H
         exact absurd H (by simp)
        replace c12 := Bool.eq_false_iff.mpr c12
        subst c12
        have H1 : (laws_splits.l0 kj5 l0 t161 (wrap64 (x6_1 + 1))) = some r := by rw [if_neg (show ¬ (false = true) by decide)] at H; exact H
        clear H
        have H := H1
        clear H1
        have H' := Aside0.mk H
        clear H
        go_wp2
        go_roundg kj5
        case measure => have := HK1.out; have := HK2.out; have := HJ5.out; omega
        case rel => exact ⟨(wrap64 (x6_1 + 1)), (by first | rfl | (simp; done) | (simp [*]; done)), H', ⟨by have := HK1.out; have := HK2.out; have := HJ5.out; omega⟩, ⟨by (with_reducible repeat (first | apply Kd.R_alloc | apply Kd.R_drewN | apply Kd.R_drew)); exact HO_5.out⟩, ⟨by repeat (first | (with_reducible first | exact HB.out | apply below_alloc | apply pw_below_drewN | apply below_drew1) | exact HB.out)⟩⟩
   rw [if_neg c5] at H
   have c5b0 : decide (x6_1 < (l0.length : Int)) = false := decide_eq_false c5
   clear c5
   obtain rfl := Option.some.inj H
   go_wp2
   go_ret
   exact ⟨by first | rfl | (simp [errW_none, errW_some] <;> rfl) | (simp [*, errW_none, errW_some] <;> rfl), by repeat (first | (with_reducible first | exact HB.out | apply below_alloc | apply pw_below_drewN | apply below_drew1) | exact HB.out)⟩
mutual
def spec_Taken.l0 : Nat → List ByteArray → List ByteArray → List ByteArray → Int → Option (List ByteArray × List ByteArray)
 | 0, _, _, _, _ => none
 | k + 1, x6, x7, x8, x9 => if x9 < (x6.length : Int) then (spec_Taken.j1 k x6 x7 x8 x9 (decide (x9 < (x7.length : Int)))) else (spec_Taken.j1 k x6 x7 x8 x9 false)
def spec_Taken.j1 : Nat → List ByteArray → List ByteArray → List ByteArray → Int → Bool → Option (List ByteArray × List ByteArray)
 | 0, _, _, _, _, _ => none
 | k + 1, x6, x7, x8, x9, x23 => if x23 = true then (if 0 ≤ x9 then (if x9 < (x6.length : Int) then (if (rdOf ByteArray.empty x6 x9).toList = ([62] : List UInt8) then (if x9 ≤ (x7.length : Int) then (some (x8, (x7.drop (x9 : Int).toNat))) else (none)) else (if (rdOf ByteArray.empty x6 x9).toList = ([42] : List UInt8) then (if x9 < (x7.length : Int) then (if x8.length < 8796093022208 then (spec_Taken.l0 k x6 x7 (x8 ++ [rdOf ByteArray.empty x7 x9]) (wrap64 (x9 + 1))) else (none)) else (none)) else (spec_Taken.l0 k x6 x7 x8 (wrap64 (x9 + 1))))) else (none)) else (none)) else (some (x8, ([] : List ByteArray)))
end
def spec_Taken.f (k : Nat) (a0 : ByteArray) (a1 : ByteArray) : Option (List ByteArray × List ByteArray) := (spec_Tokens.f k a0).bind fun t406 => ((spec_Tokens.f k a1).bind fun t409 => (spec_Taken.l0 k t406 t409 ([] : List ByteArray) 0))
set_option maxHeartbeats 8000000 in
set_option maxRecDepth 100000 in
theorem spec_Taken.calls (k : Nat) (a0 : ByteArray) (a1 : ByteArray) (r1 : List ByteArray) (r2 : List ByteArray) (w : World) (h : spec_Taken.f k a0 a1 = some (r1, r2)) :
  Calls Tryd.prog 33 #[.string a0, .string a1] w fun e w' => ∃ v0_ v1_ : Value, e = .returned (.tuple #[v0_, v1_]) ∧ Kd.R Kd.string 9 w' w.heap.size (fun k_ => some k_ ≠ (v1_ : Value).ownBlock) v0_ r1 ∧ Kd.Q Kd.string 9 w' w.heap.size (fun k_ => some k_ ≠ (v0_ : Value).ownBlock) v1_ r2 ∧ Below w.heap.size w w' := by
 have HB := Aside0.mk (Below.refl w.heap.size w)
 have H : ((spec_Tokens.f k a0).bind fun t406 => ((spec_Tokens.f k a1).bind fun t409 => (spec_Taken.l0 k t406 t409 ([] : List ByteArray) 0))) = some (r1, r2) := h
 clear h
 replace H := Option.bind_eq_some_iff.mp H
 obtain ⟨t406, A30, H⟩ := H
 replace H : ((spec_Tokens.f k a1).bind fun t409 => (spec_Taken.l0 k t406 t409 ([] : List ByteArray) 0)) = some (r1, r2) := H
 have A3 := Aside0.mk A30
 clear A30
 replace H := Option.bind_eq_some_iff.mp H
 obtain ⟨t409, A40, H⟩ := H
 replace H : (spec_Taken.l0 k t406 t409 ([] : List ByteArray) 0) = some (r1, r2) := H
 have A4 := Aside0.mk A40
 clear A40
 have H' := Aside0.mk H
 clear H
 go_enter Tryd.func33, Tryd.ntmps33
 go_wp2_with (first | (go_at_call 25; (with_reducible refine (spec_Tokens.calls k a0 t406 _ A3.out).mono ?_); rintro e w5 ⟨v407, rfl, ho0, hb⟩; have n0_ := Aside0.mk (Kd.R_lower ho0 (below_size (by repeat (first | (with_reducible first | exact HB.out | apply below_alloc | apply pw_below_drewN | apply below_drew1) | exact HB.out)))); have n1_ := Aside0.mk (below_step (by repeat (first | (with_reducible first | exact HB.out | apply below_alloc | apply pw_below_drewN | apply below_drew1) | exact HB.out)) hb); clear HB; have HO408 := n0_; have HB := n1_; clear n0_ n1_; (try clear hb); (try clear hb2); (try clear hk); (try clear hi); (try clear ho0)) | (go_at_call 25; (with_reducible refine (spec_Tokens.calls k a1 t409 _ A4.out).mono ?_); rintro e w6 ⟨v410, rfl, ho0, hb⟩; have n0_ := Aside0.mk (Kd.R_elder' (by (with_reducible repeat (first | apply Kd.R_alloc | apply Kd.R_drewN | apply Kd.R_drew)); exact HO408.out) (Kd.R_base ho0) hb); have n1_ := Aside0.mk (Kd.R_lower (Kd.R_new' ho0 (Kd.R_lt (by (with_reducible repeat (first | apply Kd.R_alloc | apply Kd.R_drewN | apply Kd.R_drew)); exact HO408.out))) (below_size (by repeat (first | (with_reducible first | exact HB.out | apply below_alloc | apply pw_below_drewN | apply below_drew1) | exact HB.out)))); have n2_ := Aside0.mk (below_step (by repeat (first | (with_reducible first | exact HB.out | apply below_alloc | apply pw_below_drewN | apply below_drew1) | exact HB.out)) hb); clear HO408; clear HB; have HO408 := n0_; have HO411 := n1_; have HB := n2_; clear n0_ n1_ n2_; (try clear hb); (try clear hb2); (try clear hk); (try clear hi); (try clear ho0)))
 repeat (go_quiet (first | (go_at_call 25; (with_reducible refine (spec_Tokens.calls k a0 t406 _ A3.out).mono ?_); rintro e w5 ⟨v407, rfl, ho0, hb⟩; have n0_ := Aside0.mk (Kd.R_lower ho0 (below_size (by repeat (first | (with_reducible first | exact HB.out | apply below_alloc | apply pw_below_drewN | apply below_drew1) | exact HB.out)))); have n1_ := Aside0.mk (below_step (by repeat (first | (with_reducible first | exact HB.out | apply below_alloc | apply pw_below_drewN | apply below_drew1) | exact HB.out)) hb); clear HB; have HO408 := n0_; have HB := n1_; clear n0_ n1_; (try clear hb); (try clear hb2); (try clear hk); (try clear hi); (try clear ho0)) | (go_at_call 25; (with_reducible refine (spec_Tokens.calls k a1 t409 _ A4.out).mono ?_); rintro e w6 ⟨v410, rfl, ho0, hb⟩; have n0_ := Aside0.mk (Kd.R_elder' (by (with_reducible repeat (first | apply Kd.R_alloc | apply Kd.R_drewN | apply Kd.R_drew)); exact HO408.out) (Kd.R_base ho0) hb); have n1_ := Aside0.mk (Kd.R_lower (Kd.R_new' ho0 (Kd.R_lt (by (with_reducible repeat (first | apply Kd.R_alloc | apply Kd.R_drewN | apply Kd.R_drew)); exact HO408.out))) (below_size (by repeat (first | (with_reducible first | exact HB.out | apply below_alloc | apply pw_below_drewN | apply below_drew1) | exact HB.out)))); have n2_ := Aside0.mk (below_step (by repeat (first | (with_reducible first | exact HB.out | apply below_alloc | apply pw_below_drewN | apply below_drew1) | exact HB.out)) hb); clear HO408; clear HB; have HO408 := n0_; have HO411 := n1_; have HB := n2_; clear n0_ n1_ n2_; (try clear hb); (try clear hb2); (try clear hk); (try clear hi); (try clear ho0))); try go_wp2_with (first | (go_at_call 25; (with_reducible refine (spec_Tokens.calls k a0 t406 _ A3.out).mono ?_); rintro e w5 ⟨v407, rfl, ho0, hb⟩; have n0_ := Aside0.mk (Kd.R_lower ho0 (below_size (by repeat (first | (with_reducible first | exact HB.out | apply below_alloc | apply pw_below_drewN | apply below_drew1) | exact HB.out)))); have n1_ := Aside0.mk (below_step (by repeat (first | (with_reducible first | exact HB.out | apply below_alloc | apply pw_below_drewN | apply below_drew1) | exact HB.out)) hb); clear HB; have HO408 := n0_; have HB := n1_; clear n0_ n1_; (try clear hb); (try clear hb2); (try clear hk); (try clear hi); (try clear ho0)) | (go_at_call 25; (with_reducible refine (spec_Tokens.calls k a1 t409 _ A4.out).mono ?_); rintro e w6 ⟨v410, rfl, ho0, hb⟩; have n0_ := Aside0.mk (Kd.R_elder' (by (with_reducible repeat (first | apply Kd.R_alloc | apply Kd.R_drewN | apply Kd.R_drew)); exact HO408.out) (Kd.R_base ho0) hb); have n1_ := Aside0.mk (Kd.R_lower (Kd.R_new' ho0 (Kd.R_lt (by (with_reducible repeat (first | apply Kd.R_alloc | apply Kd.R_drewN | apply Kd.R_drew)); exact HO408.out))) (below_size (by repeat (first | (with_reducible first | exact HB.out | apply below_alloc | apply pw_below_drewN | apply below_drew1) | exact HB.out)))); have n2_ := Aside0.mk (below_step (by repeat (first | (with_reducible first | exact HB.out | apply below_alloc | apply pw_below_drewN | apply below_drew1) | exact HB.out)) hb); clear HO408; clear HB; have HO408 := n0_; have HO411 := n1_; have HB := n2_; clear n0_ n1_ n2_; (try clear hb); (try clear hb2); (try clear hk); (try clear hi); (try clear ho0))))
 go_loopg [8, 9] k (fun kq v8 v9 w' => ∃ (x8_1 : List ByteArray) (x9_1 : Int), v9 = .int .i64 x9_1 ∧ Aside0 (spec_Taken.l0 kq t406 t409 x8_1 x9_1 = some (r1, r2)) ∧ Aside0 (kq ≤ k) ∧ Aside0 (Kd.R Kd.string 9 w' w.heap.size (fun k_ => some k_ ≠ (v410 : Value).ownBlock ∧ some k_ ≠ (v8 : Value).ownBlock) v407 t406) ∧ Aside0 (Kd.R Kd.string 9 w' w.heap.size (fun k_ => some k_ ≠ (v407 : Value).ownBlock ∧ some k_ ≠ (v8 : Value).ownBlock) v410 t409) ∧ Aside0 (Kd.R Kd.string 9 w' w.heap.size (fun k_ => some k_ ≠ (v407 : Value).ownBlock ∧ some k_ ≠ (v410 : Value).ownBlock) v8 x8_1) ∧ Aside0 (Below w.heap.size w w'))
 case atStart => exact ⟨(([] : List ByteArray)), (0), (by first | rfl | (simp; done) | (simp [*]; done)), H', ⟨Nat.le_refl _⟩, ⟨by (with_reducible repeat (first | apply Kd.R_alloc | apply Kd.R_drewN | apply Kd.R_drew)); exact Kd.R_mono HO408.out (fun _ hk => ⟨hk.2, (by simp [Value.ownBlock])⟩)⟩, ⟨by (with_reducible repeat (first | apply Kd.R_alloc | apply Kd.R_drewN | apply Kd.R_drew)); exact Kd.R_mono HO411.out (fun _ hk => ⟨hk.2, (by simp [Value.ownBlock])⟩)⟩, ⟨by first | exact Kd.R_nil _ _ _ _ _ | exact Kd.N_nil _ _ _ _ _ | exact Kd.V_nil _ _ _ _ _ | exact Kd.Q_nil _ _ _ _ _ | exact Kd.S_nil _ _ _ _ _⟩, ⟨by repeat (first | (with_reducible first | exact HB.out | apply below_alloc | apply pw_below_drewN | apply below_drew1) | exact HB.out)⟩⟩
 case round =>
  clear H'
  try clear p2
  try clear c3
  obtain ⟨x8_1, x9_1, rfl, HA, HK1, HO_6, HO_7, HO_8, HB⟩ := hrel
  cases gk with
  | zero => exact absurd HA.out (by simp [spec_Taken.l0])
  | succ k1 =>
   have H := HA.out
   clear HA
   simp only [spec_Taken.l0] at H
   have HC7 := Aside0.mk H
   clear H
   go_upto_region 4 with (fail)
   repeat (go_quiet (fail); go_upto_region 4 with (fail))
   go_cut [23] (fun v23 wc => ∃ (kq : Nat) (x23_6 : Bool), v23 = .bool x23_6 ∧ Aside0 (spec_Taken.j1 kq t406 t409 x8_1 x9_1 x23_6 = some (r1, r2)) ∧ Aside0 (kq ≤ k1) ∧ Aside0 (Kd.R Kd.string 9 wc w.heap.size (fun k_ => some k_ ≠ (v410 : Value).ownBlock ∧ some k_ ≠ (u8 : Value).ownBlock) v407 t406) ∧ Aside0 (Kd.R Kd.string 9 wc w.heap.size (fun k_ => some k_ ≠ (v407 : Value).ownBlock ∧ some k_ ≠ (u8 : Value).ownBlock) v410 t409) ∧ Aside0 (Kd.R Kd.string 9 wc w.heap.size (fun k_ => some k_ ≠ (v407 : Value).ownBlock ∧ some k_ ≠ (v410 : Value).ownBlock) u8 x8_1) ∧ Aside0 (Below w.heap.size w wc))
   case first =>
    have H := HC7.out
    clear HC7
    by_cases c8 : x9_1 < (t406.length : Int)
    ·
     rw [if_pos c8] at H
     have c8b0 : decide (x9_1 < (t406.length : Int)) = true := decide_eq_true c8
     clear c8
     (first | rw [c8b0] | (simp only [i64_w, i32_w]; rw [c8b0]) | skip)
     have H' := Aside0.mk H
     clear H
     obtain ⟨Ao9, co9, eo9⟩ := Kd.R_slice HO_6.out
     subst eo9
     obtain ⟨Ao10, co10, eo10⟩ := Kd.R_slice HO_7.out
     subst eo10
     go_wp2
     repeat (go_quiet (fail); try go_wp2)
     go_meet
     case rel => exact ⟨_, (decide (x9_1 < (t409.length : Int))), (by first | rfl | (simp; done) | (simp [*]; done)), H', ⟨by have := HK1.out; first | omega | exact Nat.le_refl _⟩, ⟨by (with_reducible repeat (first | apply Kd.R_alloc | apply Kd.R_drewN | apply Kd.R_drew)); exact HO_6.out⟩, ⟨by (with_reducible repeat (first | apply Kd.R_alloc | apply Kd.R_drewN | apply Kd.R_drew)); exact HO_7.out⟩, ⟨by (with_reducible repeat (first | apply Kd.R_alloc | apply Kd.R_drewN | apply Kd.R_drew)); exact HO_8.out⟩, ⟨by repeat (first | (with_reducible first | exact HB.out | apply below_alloc | apply pw_below_drewN | apply below_drew1) | exact HB.out)⟩⟩
    rw [if_neg c8] at H
    have c8b0 : decide (x9_1 < (t406.length : Int)) = false := decide_eq_false c8
    clear c8
    (first | rw [c8b0] | (simp only [i64_w, i32_w]; rw [c8b0]) | skip)
    have H' := Aside0.mk H
    clear H
    obtain ⟨Ao11, co11, eo11⟩ := Kd.R_slice HO_6.out
    subst eo11
    go_wp2
    repeat (go_quiet (fail); try go_wp2)
    go_meet
    case rel => exact ⟨_, (false), (by first | rfl | (simp; done) | (simp [*]; done)), H', ⟨by have := HK1.out; first | omega | exact Nat.le_refl _⟩, ⟨by (with_reducible repeat (first | apply Kd.R_alloc | apply Kd.R_drewN | apply Kd.R_drew)); exact HO_6.out⟩, ⟨by (with_reducible repeat (first | apply Kd.R_alloc | apply Kd.R_drewN | apply Kd.R_drew)); exact HO_7.out⟩, ⟨by (with_reducible repeat (first | apply Kd.R_alloc | apply Kd.R_drewN | apply Kd.R_drew)); exact HO_8.out⟩, ⟨by repeat (first | (with_reducible first | exact HB.out | apply below_alloc | apply pw_below_drewN | apply below_drew1) | exact HB.out)⟩⟩
   case rest =>
    clear HC7
    try clear p2
    try clear c3
    try clear c8
    try clear c8b0
    try clear p2
    obtain ⟨kq, x23_6, rfl, HA, HJ6, HO_6, HO_7, HO_8, HB⟩ := hcut
    cases kq with
    | zero => exact absurd HA.out (by simp [spec_Taken.j1])
    | succ kj6 =>
     have H := HA.out
     clear HA
     simp only [spec_Taken.j1] at H
     by_cases c12 : x23_6 = true
     ·
      subst c12
      have H1 : (if 0 ≤ x9_1 then (if x9_1 < (t406.length : Int) then (if (rdOf ByteArray.empty t406 x9_1).toList = ([62] : List UInt8) then (if x9_1 ≤ (t409.length : Int) then (some (x8_1, (t409.drop (x9_1 : Int).toNat))) else (none)) else (if (rdOf ByteArray.empty t406 x9_1).toList = ([42] : List UInt8) then (if x9_1 < (t409.length : Int) then (if x8_1.length < 8796093022208 then (spec_Taken.l0 kj6 t406 t409 (x8_1 ++ [rdOf ByteArray.empty t409 x9_1]) (wrap64 (x9_1 + 1))) else (none)) else (none)) else (spec_Taken.l0 kj6 t406 t409 x8_1 (wrap64 (x9_1 + 1))))) else (none)) else (none)) = some (r1, r2) := by rw [if_pos rfl] at H; exact H
      clear H
      have H := H1
      clear H1
      by_cases c13 : 0 ≤ x9_1
      ·
       rw [if_pos c13] at H
       have c13b0 : decide (0 ≤ x9_1) = true := decide_eq_true c13
       clear c13
       by_cases c14 : x9_1 < (t406.length : Int)
       ·
        rw [if_pos c14] at H
        have c14b0 : decide (x9_1 < (t406.length : Int)) = true := decide_eq_true c14
        clear c14
        by_cases c15 : (rdOf ByteArray.empty t406 x9_1).toList = ([62] : List UInt8)
        ·
         rw [if_pos c15] at H
         have c15b0 : ((rdOf ByteArray.empty t406 x9_1).toList == ([62] : List UInt8)) = true := beq_iff_eq.mpr c15
         have c15b1 : ((rdOf ByteArray.empty t406 x9_1).toList != ([62] : List UInt8)) = false := bne_eq_false_iff_eq.mpr c15
         clear c15
         by_cases c16 : x9_1 ≤ (t409.length : Int)
         ·
          rw [if_pos c16] at H
          have c16b0 := eq_true c16
          have c16b1 : decide (x9_1 ≤ (t409.length : Int)) = true := decide_eq_true c16
          clear c16
          obtain ⟨y413, hy413⟩ : ∃ y_ : List ByteArray, y_ = (t409.drop (x9_1 : Int).toNat) := ⟨_, rfl⟩
          replace H : (some (x8_1, y413)) = some (r1, r2) := by first | (rw [hy413]; with_reducible exact H) | (have H2_ := (Option.bind_some _ _).symm.trans H; rw [hy413]; with_reducible exact H2_) | (have H2_ := (Option.bind_some _ _).symm.trans H; with_reducible exact H2_) | with_reducible exact H | (rw [hy413]; exact H) | exact H
          have Ny413 := Aside0.mk hy413
          clear hy413
          simp only [Option.some.injEq, Prod.mk.injEq] at H
          obtain ⟨rfl, rfl⟩ := H
          obtain ⟨Ao17, co17, eo17⟩ := Kd.R_slice HO_6.out
          subst eo17
          have p412 : 0 ≤ (x9_1 : Int) := of_decide_eq_true (by first | (with_reducible assumption) | assumption)
          have q412 : x9_1 < (t406.length : Int) := of_decide_eq_true (by first | (with_reducible assumption) | assumption)
          obtain ⟨ad412, e412, hx412_0⟩ := Kd.at_string (Kd.R_reads' HO_6.out).2.2 x9_1 p412 q412
          cases e412
          replace p412 := eq_true p412
          replace q412 := eq_true q412
          obtain ⟨Ao18, co18, eo18⟩ := Kd.R_slice HO_7.out
          subst eo18
          have q19 : (x9_1 : Int) ≤ ((t409.length : Int) : Int) := of_decide_eq_true (by first | (with_reducible assumption) | assumption)
          obtain ⟨i019, hi019, _, hsz19, _⟩ := info_parts info9
          have hcut19 := cut_from (P := Tryd.prog) 30 9 .i64 Tryd.underlying30 hi019 1 hsz19 Ao18 t409.length co18 x9_1 (of_decide_eq_true (by first | (with_reducible assumption) | assumption)) q19
          have hr19 := Kd.Q_drop (k := (x9_1 : Int).toNat) (Kd.Q_of_R HO_7.out) (by omega)
          obtain ⟨A19, hA19⟩ : ∃ A1, A1 = (if co18 = (x9_1 : Int).toNat then Ao18 else (Ao18 : Option Addr).map (·.add ((x9_1 : Int).toNat * 1))) := ⟨_, rfl⟩
          obtain ⟨c19, hc19⟩ : ∃ c1, c1 = co18 - (x9_1 : Int).toNat := ⟨_, rfl⟩
          have hy19 : y413.length = t409.length - (x9_1 : Int).toNat := (by rw [Ny413.out, List.length_drop])
          rw [← Ny413.out] at hr19
          rw [← hy19, ← hA19, ← hc19] at hcut19
          replace hr19 : Kd.Q Kd.string 9 wc w.heap.size (fun k_ => some k_ ≠ (.slice (some ad412) t406.length co17 : Value).ownBlock ∧ some k_ ≠ (u8 : Value).ownBlock) (.slice A19 y413.length c19) y413 := (by rw [hA19, hc19, hy19]; exact hr19)
          have HE19 : Aside0 ((Value.slice A19 y413.length c19).ownBlock = (.slice Ao18 t409.length co18 : Value).ownBlock) := ⟨by rw [hA19]; split <;> (rcases (Ao18 : Option Addr) with _ | p_ <;> first | rfl | exact congrArg some (by show (p_.add _).block = p_.block; unfold Addr.add; split <;> rfl))⟩
          clear hy19 hi019 hsz19 HO_7 hA19 hc19
          have HO415 := Aside0.mk hr19
          clear hr19
          replace q19 := eq_true q19
          have n_ := Aside0.mk (Kd.R_mono (ok' := fun k_ => (some k_ ≠ (.slice A19 y413.length c19 : Value).ownBlock ∧ some k_ ≠ (u8 : Value).ownBlock)) HO_6.out (fun k_ hk => ⟨(by rw [HE19.out]; exact hk.1), hk.2⟩))
          clear HO_6
          have HO_6 := n_
          clear n_
          have n_ := Aside0.mk (Kd.R_mono (ok' := fun k_ => (some k_ ≠ (.slice (some ad412) t406.length co17 : Value).ownBlock ∧ some k_ ≠ (.slice A19 y413.length c19 : Value).ownBlock)) HO_8.out (fun k_ hk => ⟨hk.1, (by rw [HE19.out]; exact hk.2)⟩))
          clear HO_8
          have HO_8 := n_
          clear n_
          go_wp2
          repeat (go_quiet (fail); try go_wp2)
          go_ret2
          exact ⟨_, _, by first | rfl | (simp [errW_none, errW_some] <;> rfl) | (simp [*, errW_none, errW_some] <;> rfl), by (with_reducible repeat (first | apply Kd.R_alloc | apply Kd.R_drewN | apply Kd.R_drew)); exact Kd.R_mono HO_8.out (fun _ hk => hk.2), by (with_reducible repeat (first | apply Kd.Q_alloc | apply Kd.Q_drewN | apply Kd.Q_drew)); exact Kd.Q_mono HO415.out (fun _ hk => hk.2), by repeat (first | (with_reducible first | exact HB.out | apply below_alloc | apply pw_below_drewN | apply below_drew1) | exact HB.out)⟩
         rw [if_neg c16] at H
         exact absurd H (by simp)
        rw [if_neg c15] at H
        have c15b0 : ((rdOf ByteArray.empty t406 x9_1).toList == ([62] : List UInt8)) = false := beq_eq_false_iff_ne.mpr c15
        have c15b1 : ((rdOf ByteArray.empty t406 x9_1).toList != ([62] : List UInt8)) = true := bne_iff_ne.mpr c15
        by_cases c20 : (rdOf ByteArray.empty t406 x9_1).toList = ([42] : List UInt8)
        ·
         rw [if_pos c20] at H
         have c20b0 : ((rdOf ByteArray.empty t406 x9_1).toList == ([42] : List UInt8)) = true := beq_iff_eq.mpr c20
         have c20b1 : ((rdOf ByteArray.empty t406 x9_1).toList != ([42] : List UInt8)) = false := bne_eq_false_iff_eq.mpr c20
         clear c20
         by_cases c21 : x9_1 < (t409.length : Int)
         ·
          rw [if_pos c21] at H
          have c21b0 : decide (x9_1 < (t409.length : Int)) = true := decide_eq_true c21
          clear c21
          by_cases c22 : x8_1.length < 8796093022208
          ·
           rw [if_pos c22] at H
           have LMc22 := Aside0.mk c22
           clear c22
           obtain ⟨y418, hy418⟩ : ∃ y_ : List ByteArray, y_ = (x8_1 ++ [rdOf ByteArray.empty t409 x9_1]) := ⟨_, rfl⟩
           replace H : (spec_Taken.l0 kj6 t406 t409 y418 (wrap64 (x9_1 + 1))) = some (r1, r2) := by first | (rw [hy418]; with_reducible exact H) | (have H2_ := (Option.bind_some _ _).symm.trans H; rw [hy418]; with_reducible exact H2_) | (have H2_ := (Option.bind_some _ _).symm.trans H; with_reducible exact H2_) | with_reducible exact H | (rw [hy418]; exact H) | exact H
           have Ny418 := Aside0.mk hy418
           clear hy418
           have H' := Aside0.mk H
           clear H
           obtain ⟨Ao23, co23, eo23⟩ := Kd.R_slice HO_6.out
           subst eo23
           have p412 : 0 ≤ (x9_1 : Int) := of_decide_eq_true (by first | (with_reducible assumption) | assumption)
           have q412 : x9_1 < (t406.length : Int) := of_decide_eq_true (by first | (with_reducible assumption) | assumption)
           obtain ⟨ad412, e412, hx412_0⟩ := Kd.at_string (Kd.R_reads' HO_6.out).2.2 x9_1 p412 q412
           cases e412
           replace p412 := eq_true p412
           replace q412 := eq_true q412
           have p416 : 0 ≤ (x9_1 : Int) := of_decide_eq_true (by first | (with_reducible assumption) | assumption)
           have q416 : x9_1 < (t406.length : Int) := of_decide_eq_true (by first | (with_reducible assumption) | assumption)
           obtain ⟨ad416, e416, hx416_0⟩ := Kd.at_string (Kd.R_reads' HO_6.out).2.2 x9_1 p416 q416
           obtain rfl : ad412 = ad416 := (by injection e416)
           replace p416 := eq_true p416
           replace q416 := eq_true q416
           obtain ⟨Ao24, co24, eo24⟩ := Kd.R_slice HO_7.out
           subst eo24
           have p417 : 0 ≤ (x9_1 : Int) := of_decide_eq_true (by first | (with_reducible assumption) | assumption)
           have q417 : x9_1 < (t409.length : Int) := of_decide_eq_true (by first | (with_reducible assumption) | assumption)
           obtain ⟨ad417, e417, hx417_0⟩ := Kd.at_string (Kd.R_reads' HO_7.out).2.2 x9_1 p417 q417
           cases e417
           replace p417 := eq_true p417
           replace q417 := eq_true q417
           go_wp2_with (first | ((with_reducible refine gate_builtin (b := .append) (xs := #[.tmp 40, .tmp 45]) rfl ?_); (try (refine gate_guard (by rfl) ?_; dsimp only)); at_builtin; refine Kd.R_append Kd.string (w0 := w) w.heap.size rfl (.tmp 40) (.tmp 45) 30 9 (.string ⟨#[]⟩) 16 rfl Tryd.underlying30 info9 rfl (by decide) (by omega) u8 x8_1 (rdOf ByteArray.empty t409 x9_1) [.string (rdOf ByteArray.empty t409 x9_1)] (fun k_ => some k_ ≠ (.slice (some ad412) t406.length co23 : Value).ownBlock ∧ some k_ ≠ (.slice (some ad417) t409.length co24 : Value).ownBlock) (fun _ => False) rfl rfl ?aP (fun _ hk => hk.elim) ?aF ?aO ?aB ?aS ?aL ?_; (case aP => exact rfl); (case aB => exact (by repeat (first | (with_reducible first | exact HB.out | apply below_alloc | apply pw_below_drewN | apply below_drew1) | exact HB.out))); (case aF => exact (fun k_ hk => ⟨Kd.fresh' (Kd.R_lt (by (with_reducible repeat (first | apply Kd.R_alloc | apply Kd.R_drewN | apply Kd.R_drew)); exact HO_6.out)) k_ hk, Kd.fresh' (Kd.R_lt (by (with_reducible repeat (first | apply Kd.R_alloc | apply Kd.R_drewN | apply Kd.R_drew)); exact HO_7.out)) k_ hk⟩)); (case aO => exact (by (with_reducible repeat (first | apply Kd.R_alloc | apply Kd.R_drewN | apply Kd.R_drew)); exact HO_8.out)); (case aS => exact (below_size (by repeat (first | (with_reducible first | exact HB.out | apply below_alloc | apply pw_below_drewN | apply below_drew1) | exact HB.out)))); (case aL => have := LMc22.out; omega); intro v419 w25 ho hb hg hat; rw [← Ny418.out] at ho; have n0_ := Aside0.mk (Kd.R_after (ok := (fun k_ => some k_ ≠ (.slice (some ad417) t409.length co24 : Value).ownBlock)) (by (with_reducible repeat (first | apply Kd.R_alloc | apply Kd.R_drewN | apply Kd.R_drew)); exact HO_6.out) hg hat); have n1_ := Aside0.mk (Kd.R_after (ok := (fun k_ => some k_ ≠ (.slice (some ad412) t406.length co23 : Value).ownBlock)) (by (with_reducible repeat (first | apply Kd.R_alloc | apply Kd.R_drewN | apply Kd.R_drew)); exact HO_7.out) hg hat); have n2_ := Aside0.mk (hb); have n3_ := Aside0.mk (ho); clear HO_6; clear HO_7; clear HB; clear HO_8; have HO_6 := n0_; have HO_7 := n1_; have HB := n2_; have HO420 := n3_; clear n0_ n1_ n2_ n3_; clear ho hb hg hat))
           repeat (go_quiet (first | ((with_reducible refine gate_builtin (b := .append) (xs := #[.tmp 40, .tmp 45]) rfl ?_); (try (refine gate_guard (by rfl) ?_; dsimp only)); at_builtin; refine Kd.R_append Kd.string (w0 := w) w.heap.size rfl (.tmp 40) (.tmp 45) 30 9 (.string ⟨#[]⟩) 16 rfl Tryd.underlying30 info9 rfl (by decide) (by omega) u8 x8_1 (rdOf ByteArray.empty t409 x9_1) [.string (rdOf ByteArray.empty t409 x9_1)] (fun k_ => some k_ ≠ (.slice (some ad412) t406.length co23 : Value).ownBlock ∧ some k_ ≠ (.slice (some ad417) t409.length co24 : Value).ownBlock) (fun _ => False) rfl rfl ?aP (fun _ hk => hk.elim) ?aF ?aO ?aB ?aS ?aL ?_; (case aP => exact rfl); (case aB => exact (by repeat (first | (with_reducible first | exact HB.out | apply below_alloc | apply pw_below_drewN | apply below_drew1) | exact HB.out))); (case aF => exact (fun k_ hk => ⟨Kd.fresh' (Kd.R_lt (by (with_reducible repeat (first | apply Kd.R_alloc | apply Kd.R_drewN | apply Kd.R_drew)); exact HO_6.out)) k_ hk, Kd.fresh' (Kd.R_lt (by (with_reducible repeat (first | apply Kd.R_alloc | apply Kd.R_drewN | apply Kd.R_drew)); exact HO_7.out)) k_ hk⟩)); (case aO => exact (by (with_reducible repeat (first | apply Kd.R_alloc | apply Kd.R_drewN | apply Kd.R_drew)); exact HO_8.out)); (case aS => exact (below_size (by repeat (first | (with_reducible first | exact HB.out | apply below_alloc | apply pw_below_drewN | apply below_drew1) | exact HB.out)))); (case aL => have := LMc22.out; omega); intro v419 w25 ho hb hg hat; rw [← Ny418.out] at ho; have n0_ := Aside0.mk (Kd.R_after (ok := (fun k_ => some k_ ≠ (.slice (some ad417) t409.length co24 : Value).ownBlock)) (by (with_reducible repeat (first | apply Kd.R_alloc | apply Kd.R_drewN | apply Kd.R_drew)); exact HO_6.out) hg hat); have n1_ := Aside0.mk (Kd.R_after (ok := (fun k_ => some k_ ≠ (.slice (some ad412) t406.length co23 : Value).ownBlock)) (by (with_reducible repeat (first | apply Kd.R_alloc | apply Kd.R_drewN | apply Kd.R_drew)); exact HO_7.out) hg hat); have n2_ := Aside0.mk (hb); have n3_ := Aside0.mk (ho); clear HO_6; clear HO_7; clear HB; clear HO_8; have HO_6 := n0_; have HO_7 := n1_; have HB := n2_; have HO420 := n3_; clear n0_ n1_ n2_ n3_; clear ho hb hg hat)); try go_wp2_with (first | ((with_reducible refine gate_builtin (b := .append) (xs := #[.tmp 40, .tmp 45]) rfl ?_); (try (refine gate_guard (by rfl) ?_; dsimp only)); at_builtin; refine Kd.R_append Kd.string (w0 := w) w.heap.size rfl (.tmp 40) (.tmp 45) 30 9 (.string ⟨#[]⟩) 16 rfl Tryd.underlying30 info9 rfl (by decide) (by omega) u8 x8_1 (rdOf ByteArray.empty t409 x9_1) [.string (rdOf ByteArray.empty t409 x9_1)] (fun k_ => some k_ ≠ (.slice (some ad412) t406.length co23 : Value).ownBlock ∧ some k_ ≠ (.slice (some ad417) t409.length co24 : Value).ownBlock) (fun _ => False) rfl rfl ?aP (fun _ hk => hk.elim) ?aF ?aO ?aB ?aS ?aL ?_; (case aP => exact rfl); (case aB => exact (by repeat (first | (with_reducible first | exact HB.out | apply below_alloc | apply pw_below_drewN | apply below_drew1) | exact HB.out))); (case aF => exact (fun k_ hk => ⟨Kd.fresh' (Kd.R_lt (by (with_reducible repeat (first | apply Kd.R_alloc | apply Kd.R_drewN | apply Kd.R_drew)); exact HO_6.out)) k_ hk, Kd.fresh' (Kd.R_lt (by (with_reducible repeat (first | apply Kd.R_alloc | apply Kd.R_drewN | apply Kd.R_drew)); exact HO_7.out)) k_ hk⟩)); (case aO => exact (by (with_reducible repeat (first | apply Kd.R_alloc | apply Kd.R_drewN | apply Kd.R_drew)); exact HO_8.out)); (case aS => exact (below_size (by repeat (first | (with_reducible first | exact HB.out | apply below_alloc | apply pw_below_drewN | apply below_drew1) | exact HB.out)))); (case aL => have := LMc22.out; omega); intro v419 w25 ho hb hg hat; rw [← Ny418.out] at ho; have n0_ := Aside0.mk (Kd.R_after (ok := (fun k_ => some k_ ≠ (.slice (some ad417) t409.length co24 : Value).ownBlock)) (by (with_reducible repeat (first | apply Kd.R_alloc | apply Kd.R_drewN | apply Kd.R_drew)); exact HO_6.out) hg hat); have n1_ := Aside0.mk (Kd.R_after (ok := (fun k_ => some k_ ≠ (.slice (some ad412) t406.length co23 : Value).ownBlock)) (by (with_reducible repeat (first | apply Kd.R_alloc | apply Kd.R_drewN | apply Kd.R_drew)); exact HO_7.out) hg hat); have n2_ := Aside0.mk (hb); have n3_ := Aside0.mk (ho); clear HO_6; clear HO_7; clear HB; clear HO_8; have HO_6 := n0_; have HO_7 := n1_; have HB := n2_; have HO420 := n3_; clear n0_ n1_ n2_ n3_; clear ho hb hg hat)))
           go_roundg kj6
           case measure => have := HK1.out; have := HJ6.out; omega
           case rel => exact ⟨(y418), (wrap64 (x9_1 + 1)), (by first | rfl | (simp; done) | (simp [*]; done)), H', ⟨by have := HK1.out; have := HJ6.out; omega⟩, ⟨by (with_reducible repeat (first | apply Kd.R_alloc | apply Kd.R_drewN | apply Kd.R_drew)); exact HO_6.out⟩, ⟨by (with_reducible repeat (first | apply Kd.R_alloc | apply Kd.R_drewN | apply Kd.R_drew)); exact HO_7.out⟩, ⟨by (with_reducible repeat (first | apply Kd.R_alloc | apply Kd.R_drewN | apply Kd.R_drew)); exact HO420.out⟩, ⟨by repeat (first | (with_reducible first | exact HB.out | apply below_alloc | apply pw_below_drewN | apply below_drew1) | exact HB.out)⟩⟩
          rw [if_neg c22] at H
          exact absurd H (by simp)
         rw [if_neg c21] at H
         exact absurd H (by simp)
        rw [if_neg c20] at H
        have c20b0 : ((rdOf ByteArray.empty t406 x9_1).toList == ([42] : List UInt8)) = false := beq_eq_false_iff_ne.mpr c20
        have c20b1 : ((rdOf ByteArray.empty t406 x9_1).toList != ([42] : List UInt8)) = true := bne_iff_ne.mpr c20
        have H' := Aside0.mk H
        clear H
        obtain ⟨Ao26, co26, eo26⟩ := Kd.R_slice HO_6.out
        subst eo26
        have p412 : 0 ≤ (x9_1 : Int) := of_decide_eq_true (by first | (with_reducible assumption) | assumption)
        have q412 : x9_1 < (t406.length : Int) := of_decide_eq_true (by first | (with_reducible assumption) | assumption)
        obtain ⟨ad412, e412, hx412_0⟩ := Kd.at_string (Kd.R_reads' HO_6.out).2.2 x9_1 p412 q412
        cases e412
        replace p412 := eq_true p412
        replace q412 := eq_true q412
        have p416 : 0 ≤ (x9_1 : Int) := of_decide_eq_true (by first | (with_reducible assumption) | assumption)
        have q416 : x9_1 < (t406.length : Int) := of_decide_eq_true (by first | (with_reducible assumption) | assumption)
        obtain ⟨ad416, e416, hx416_0⟩ := Kd.at_string (Kd.R_reads' HO_6.out).2.2 x9_1 p416 q416
        obtain rfl : ad412 = ad416 := (by injection e416)
        replace p416 := eq_true p416
        replace q416 := eq_true q416
        go_wp2
        repeat (go_quiet (fail); try go_wp2)
        go_roundg kj6
        case measure => have := HK1.out; have := HJ6.out; omega
        case rel => exact ⟨(x8_1), (wrap64 (x9_1 + 1)), (by first | rfl | (simp; done) | (simp [*]; done)), H', ⟨by have := HK1.out; have := HJ6.out; omega⟩, ⟨by (with_reducible repeat (first | apply Kd.R_alloc | apply Kd.R_drewN | apply Kd.R_drew)); exact HO_6.out⟩, ⟨by (with_reducible repeat (first | apply Kd.R_alloc | apply Kd.R_drewN | apply Kd.R_drew)); exact HO_7.out⟩, ⟨by (with_reducible repeat (first | apply Kd.R_alloc | apply Kd.R_drewN | apply Kd.R_drew)); exact HO_8.out⟩, ⟨by repeat (first | (with_reducible first | exact HB.out | apply below_alloc | apply pw_below_drewN | apply below_drew1) | exact HB.out)⟩⟩
       rw [if_neg c14] at H
       exact absurd H (by simp)
      rw [if_neg c13] at H
      exact absurd H (by simp)
     replace c12 := Bool.eq_false_iff.mpr c12
     subst c12
     have H1 : (some (x8_1, ([] : List ByteArray))) = some (r1, r2) := by rw [if_neg (show ¬ (false = true) by decide)] at H; exact H
     clear H
     have H := H1
     clear H1
     simp only [Option.some.injEq, Prod.mk.injEq] at H
     obtain ⟨rfl, rfl⟩ := H
     go_wp2
     repeat (go_quiet (fail); try go_wp2)
     go_ret2
     exact ⟨_, _, by first | rfl | (simp [errW_none, errW_some] <;> rfl) | (simp [*, errW_none, errW_some] <;> rfl), by (with_reducible repeat (first | apply Kd.R_alloc | apply Kd.R_drewN | apply Kd.R_drew)); exact Kd.R_mono HO_8.out (fun _ hk => (by simp [Value.ownBlock])), Kd.Q_of_R (by first | exact Kd.R_nil _ _ _ _ _ | exact Kd.N_nil _ _ _ _ _ | exact Kd.V_nil _ _ _ _ _ | exact Kd.Q_nil _ _ _ _ _ | exact Kd.S_nil _ _ _ _ _), by repeat (first | (with_reducible first | exact HB.out | apply below_alloc | apply pw_below_drewN | apply below_drew1) | exact HB.out)⟩
def spec_Fnv.l0 : Nat → ByteArray → Int → Int → Option (Int)
 | 0, _, _, _ => none
 | k + 1, x0, x3, x4 => if x4 < (x0.size : Int) then (if 0 ≤ x4 then (spec_Fnv.l0 k x0 (((Go.bits .xor .u32 x3 ((bt x0 x4) % 4294967296)) * 16777619) % 4294967296) (wrap64 (x4 + 1))) else (none)) else (some x3)
def spec_Fnv.f (k : Nat) (a0 : ByteArray) : Option (Int) := spec_Fnv.l0 k a0 2166136261 0
set_option maxHeartbeats 8000000 in
set_option maxRecDepth 100000 in
theorem spec_Fnv.calls (k : Nat) (a0 : ByteArray) (r : Int) (w : World) (h : spec_Fnv.f k a0 = some r) :
  Calls Tryd.prog 35 #[.string a0] w fun e w' => e = .returned (.int .u32 r) ∧ Drawn0 w w' := by
 have H : (spec_Fnv.l0 k a0 2166136261 0) = some r := h
 clear h
 have H' := Aside0.mk H
 clear H
 go_enter Tryd.func35, Tryd.ntmps35
 go_wp2
 go_loopg [3, 4] k (fun kq v3 v4 w' => ∃ (x3_1 : Int) (x4_1 : Int), v3 = .int .u32 x3_1 ∧ v4 = .int .i64 x4_1 ∧ Aside0 (spec_Fnv.l0 kq a0 x3_1 x4_1 = some r) ∧ Aside0 (kq ≤ k) ∧ Drawn0 w w')
 case atStart => exact ⟨(2166136261), (0), (by first | rfl | (simp; done) | (simp [*]; done)), (by first | rfl | (simp; done) | (simp [*]; done)), H', ⟨Nat.le_refl _⟩, by repeat (first | exact Drawn0.refl _ | apply Drawn0.step)⟩
 case round =>
  clear H'
  obtain ⟨x3_1, x4_1, rfl, rfl, HA, HK1, ⟨m1, rfl⟩⟩ := hrel
  cases gk with
  | zero => exact absurd HA.out (by simp [spec_Fnv.l0])
  | succ k1 =>
   have H := HA.out
   clear HA
   simp only [spec_Fnv.l0] at H
   by_cases c2 : x4_1 < (a0.size : Int)
   ·
    rw [if_pos c2] at H
    have c2b0 : decide (x4_1 < (a0.size : Int)) = true := decide_eq_true c2
    clear c2
    by_cases c3 : 0 ≤ x4_1
    ·
     rw [if_pos c3] at H
     have c3b0 : decide (0 ≤ x4_1) = true := decide_eq_true c3
     clear c3
     have H' := Aside0.mk H
     clear H
     have p4 : 0 ≤ (x4_1 : Int) := of_decide_eq_true (by first | (with_reducible assumption) | assumption)
     have q4 : x4_1 < (a0.size : Int) := of_decide_eq_true (by first | (with_reducible assumption) | assumption)
     have hx4 := bt_at a0 x4_1
     replace p4 := eq_true p4
     replace q4 := eq_true q4
     go_wp2
     go_roundg k1
     case measure => have := HK1.out; omega
     case rel => exact ⟨(((Go.bits .xor .u32 x3_1 ((bt a0 x4_1) % 4294967296)) * 16777619) % 4294967296), (wrap64 (x4_1 + 1)), (by first | rfl | (simp; done) | (simp [*]; done)), (by first | rfl | (simp; done) | (simp [*]; done)), H', ⟨by have := HK1.out; omega⟩, by repeat (first | exact Drawn0.refl _ | apply Drawn0.step)⟩
    rw [if_neg c3] at H
    exact absurd H (by simp)
   rw [if_neg c2] at H
   have c2b0 : decide (x4_1 < (a0.size : Int)) = false := decide_eq_false c2
   clear c2
   obtain rfl := Option.some.inj H
   go_wp2
   go_ret
   exact ⟨by first | rfl | (simp; done) | (simp [*]; done), by repeat (first | exact Drawn0.refl _ | apply Drawn0.step)⟩
mutual
def spec_split.l0 : Nat → ByteArray → Int → ByteArray → ByteArray → Int → Option (ByteArray)
 | 0, _, _, _, _, _ => none
 | k + 1, x0, x1, x5, x6, x7 => if x7 ≤ (x0.size : Int) then (if x7 < (x0.size : Int) then (if 0 ≤ x7 then (spec_split.j1 k x0 x1 x5 x6 x7 ((bt x0 x7) != x1)) else (none)) else (spec_split.j1 k x0 x1 x5 x6 x7 false)) else (some x5)
def spec_split.j1 : Nat → ByteArray → Int → ByteArray → ByteArray → Int → Bool → Option (ByteArray)
 | 0, _, _, _, _, _, _ => none
 | k + 1, x0, x1, x5, x6, x7, x24 => if x24 = true then (if 0 ≤ x7 then (if x7 ≤ (wrap64 (x7 + 1)) then (if (wrap64 (x7 + 1)) ≤ (x0.size : Int) then (if x6.size + (x0.extract (x7 : Int).toNat ((wrap64 (x7 + 1)) : Int).toNat).size ≤ 9223372036854775807 then (spec_split.l0 k x0 x1 x5 (x6 ++ (x0.extract (x7 : Int).toNat ((wrap64 (x7 + 1)) : Int).toNat)) (wrap64 (x7 + 1))) else (none)) else (none)) else (none)) else (none)) else (if x6.toList = ([] : List UInt8) then (if x5.size + x6.size ≤ 9223372036854775807 then (spec_split.l0 k x0 x1 (x5 ++ x6) (⟨#[]⟩ : ByteArray) (wrap64 (x7 + 1))) else (none)) else (if x5.toList = ([] : List UInt8) then (if x5.size + x6.size ≤ 9223372036854775807 then (spec_split.l0 k x0 x1 (x5 ++ x6) (⟨#[]⟩ : ByteArray) (wrap64 (x7 + 1))) else (none)) else (if x5.size + 1 ≤ 9223372036854775807 then (if (x5 ++ (⟨#[46]⟩ : ByteArray)).size + x6.size ≤ 9223372036854775807 then (spec_split.l0 k x0 x1 ((x5 ++ (⟨#[46]⟩ : ByteArray)) ++ x6) (⟨#[]⟩ : ByteArray) (wrap64 (x7 + 1))) else (none)) else (none))))
end
def spec_split.f (k : Nat) (a0 : ByteArray) (a1 : Int) : Option (ByteArray) := spec_split.l0 k a0 a1 (⟨#[]⟩ : ByteArray) (⟨#[]⟩ : ByteArray) 0
set_option maxHeartbeats 8000000 in
set_option maxRecDepth 100000 in
theorem spec_split.calls (k : Nat) (a0 : ByteArray) (a1 : Int) (r : ByteArray) (w : World) (h : spec_split.f k a0 a1 = some r) :
  Calls Tryd.prog 52 #[.string a0, .int .u8 a1] w fun e w' => e = .returned (.string r) ∧ Drawn0 w w' := by
 have H : (spec_split.l0 k a0 a1 (⟨#[]⟩ : ByteArray) (⟨#[]⟩ : ByteArray) 0) = some r := h
 clear h
 have H' := Aside0.mk H
 clear H
 go_enter Tryd.func52, Tryd.ntmps52
 go_wp2
 go_loopg [5, 6, 7] k (fun kq v5 v6 v7 w' => ∃ (x5_1 : ByteArray) (x6_1 : ByteArray) (x7_1 : Int), v5 = .string x5_1 ∧ v6 = .string x6_1 ∧ v7 = .int .i64 x7_1 ∧ Aside0 (spec_split.l0 kq a0 a1 x5_1 x6_1 x7_1 = some r) ∧ Aside0 (kq ≤ k) ∧ Drawn0 w w')
 case atStart => exact ⟨((⟨#[]⟩ : ByteArray)), ((⟨#[]⟩ : ByteArray)), (0), (by first | rfl | (simp; done) | (simp [*]; done)), (by first | rfl | (simp; done) | (simp [*]; done)), (by first | rfl | (simp; done) | (simp [*]; done)), H', ⟨Nat.le_refl _⟩, by repeat (first | exact Drawn0.refl _ | apply Drawn0.step)⟩
 case round =>
  clear H'
  try clear p2
  obtain ⟨x5_1, x6_1, x7_1, rfl, rfl, rfl, HA, HK1, ⟨m1, rfl⟩⟩ := hrel
  cases gk with
  | zero => exact absurd HA.out (by simp [spec_split.l0])
  | succ k1 =>
   have H := HA.out
   clear HA
   simp only [spec_split.l0] at H
   by_cases c3 : x7_1 ≤ (a0.size : Int)
   ·
    rw [if_pos c3] at H
    have c3b0 : decide (x7_1 ≤ (a0.size : Int)) = true := decide_eq_true c3
    clear c3
    have HC4 := Aside0.mk H
    clear H
    go_upto_region 5 with (fail)
    go_cut [24] (fun v24 wc => ∃ (kq : Nat) (x24_3 : Bool), v24 = .bool x24_3 ∧ Aside0 (spec_split.j1 kq a0 a1 x5_1 x6_1 x7_1 x24_3 = some r) ∧ Aside0 (kq ≤ k1) ∧ Drawn0 w wc)
    case first =>
     have H := HC4.out
     clear HC4
     by_cases c5 : x7_1 < (a0.size : Int)
     ·
      rw [if_pos c5] at H
      have c5b0 : decide (x7_1 < (a0.size : Int)) = true := decide_eq_true c5
      clear c5
      (first | rw [c5b0] | (simp only [i64_w, i32_w]; rw [c5b0]) | skip)
      by_cases c6 : 0 ≤ x7_1
      ·
       rw [if_pos c6] at H
       have c6b0 : decide (0 ≤ x7_1) = true := decide_eq_true c6
       clear c6
       have H' := Aside0.mk H
       clear H
       have p7 : 0 ≤ (x7_1 : Int) := of_decide_eq_true (by first | (with_reducible assumption) | assumption)
       have q7 : x7_1 < (a0.size : Int) := of_decide_eq_true (by first | (with_reducible assumption) | assumption)
       have hx7 := bt_at a0 x7_1
       replace p7 := eq_true p7
       replace q7 := eq_true q7
       go_wp2
       go_meet
       case rel => exact ⟨_, (((bt a0 x7_1) != a1)), (by first | rfl | (simp; done) | (simp [*]; done)), H', ⟨by have := HK1.out; first | omega | exact Nat.le_refl _⟩, by repeat (first | exact Drawn0.refl _ | apply Drawn0.step)⟩
      rw [if_neg c6] at H
      exact absurd H (by simp)
     rw [if_neg c5] at H
     have c5b0 : decide (x7_1 < (a0.size : Int)) = false := decide_eq_false c5
     clear c5
     (first | rw [c5b0] | (simp only [i64_w, i32_w]; rw [c5b0]) | skip)
     have H' := Aside0.mk H
     clear H
     go_wp2
     go_meet
     case rel => exact ⟨_, (false), (by first | rfl | (simp; done) | (simp [*]; done)), H', ⟨by have := HK1.out; first | omega | exact Nat.le_refl _⟩, by repeat (first | exact Drawn0.refl _ | apply Drawn0.step)⟩
    case rest =>
     clear HC4
     try clear p2
     try clear c3
     try clear c3b0
     try clear c5
     try clear c5b0
     try clear c6
     try clear c6b0
     try clear p7
     try clear q7
     try clear hx7
     try clear p2
     try clear p7
     try clear q7
     obtain ⟨kq, x24_3, rfl, HA, HJ3, ⟨mc3, rfl⟩⟩ := hcut
     cases kq with
     | zero => exact absurd HA.out (by simp [spec_split.j1])
     | succ kj3 =>
      have H := HA.out
      clear HA
      simp only [spec_split.j1] at H
      by_cases c8 : x24_3 = true
      ·
       subst c8
       have H1 : (if 0 ≤ x7_1 then (if x7_1 ≤ (wrap64 (x7_1 + 1)) then (if (wrap64 (x7_1 + 1)) ≤ (a0.size : Int) then (if x6_1.size + (a0.extract (x7_1 : Int).toNat ((wrap64 (x7_1 + 1)) : Int).toNat).size ≤ 9223372036854775807 then (spec_split.l0 kj3 a0 a1 x5_1 (x6_1 ++ (a0.extract (x7_1 : Int).toNat ((wrap64 (x7_1 + 1)) : Int).toNat)) (wrap64 (x7_1 + 1))) else (none)) else (none)) else (none)) else (none)) = some r := by rw [if_pos rfl] at H; exact H
       clear H
       have H := H1
       clear H1
       by_cases c9 : 0 ≤ x7_1
       ·
        rw [if_pos c9] at H
        have c9b0 := eq_true c9
        have c9b1 : decide (0 ≤ x7_1) = true := decide_eq_true c9
        clear c9
        by_cases c10 : x7_1 ≤ (wrap64 (x7_1 + 1))
        ·
         rw [if_pos c10] at H
         have c10b0 := eq_true c10
         have c10b1 : decide (x7_1 ≤ (wrap64 (x7_1 + 1))) = true := decide_eq_true c10
         by_cases c11 : (wrap64 (x7_1 + 1)) ≤ (a0.size : Int)
         ·
          rw [if_pos c11] at H
          have c11b0 := eq_true c11
          have c11b1 : decide ((wrap64 (x7_1 + 1)) ≤ (a0.size : Int)) = true := decide_eq_true c11
          by_cases c12 : x6_1.size + (a0.extract (x7_1 : Int).toNat ((wrap64 (x7_1 + 1)) : Int).toNat).size ≤ 9223372036854775807
          ·
           rw [if_pos c12] at H
           have c12b0 := eq_true c12
           have c12b1 : decide (x6_1.size + (a0.extract (x7_1 : Int).toNat ((wrap64 (x7_1 + 1)) : Int).toNat).size ≤ 9223372036854775807) = true := decide_eq_true c12
           try have c12b2 : (9223372036854775807 < x6_1.size + (a0.extract (x7_1 : Int).toNat ((wrap64 (x7_1 + 1)) : Int).toNat).size) = False := eq_false (Nat.not_lt.2 c12)
           have H' := Aside0.mk H
           clear H
           go_wp2
           go_roundg kj3
           case measure => have := HK1.out; have := HJ3.out; omega
           case rel => exact ⟨(x5_1), (x6_1 ++ (a0.extract (x7_1 : Int).toNat ((wrap64 (x7_1 + 1)) : Int).toNat)), (wrap64 (x7_1 + 1)), (by first | rfl | (simp; done) | (simp [*]; done)), (by first | rfl | (simp; done) | (simp [*]; done)), (by first | rfl | (simp; done) | (simp [*]; done)), H', ⟨by have := HK1.out; have := HJ3.out; omega⟩, by repeat (first | exact Drawn0.refl _ | apply Drawn0.step)⟩
          rw [if_neg c12] at H
          exact absurd H (by simp)
         rw [if_neg c11] at H
         exact absurd H (by simp)
        rw [if_neg c10] at H
        exact absurd H (by simp)
       rw [if_neg c9] at H
       exact absurd H (by simp)
      replace c8 := Bool.eq_false_iff.mpr c8
      subst c8
      have H1 : (if x6_1.toList = ([] : List UInt8) then (if x5_1.size + x6_1.size ≤ 9223372036854775807 then (spec_split.l0 kj3 a0 a1 (x5_1 ++ x6_1) (⟨#[]⟩ : ByteArray) (wrap64 (x7_1 + 1))) else (none)) else (if x5_1.toList = ([] : List UInt8) then (if x5_1.size + x6_1.size ≤ 9223372036854775807 then (spec_split.l0 kj3 a0 a1 (x5_1 ++ x6_1) (⟨#[]⟩ : ByteArray) (wrap64 (x7_1 + 1))) else (none)) else (if x5_1.size + 1 ≤ 9223372036854775807 then (if (x5_1 ++ (⟨#[46]⟩ : ByteArray)).size + x6_1.size ≤ 9223372036854775807 then (spec_split.l0 kj3 a0 a1 ((x5_1 ++ (⟨#[46]⟩ : ByteArray)) ++ x6_1) (⟨#[]⟩ : ByteArray) (wrap64 (x7_1 + 1))) else (none)) else (none)))) = some r := by rw [if_neg (show ¬ (false = true) by decide)] at H; exact H
      clear H
      have H := H1
      clear H1
      by_cases c13 : x6_1.toList = ([] : List UInt8)
      ·
       rw [if_pos c13] at H
       have c13b0 : (x6_1.toList == ([] : List UInt8)) = true := beq_iff_eq.mpr c13
       have c13b1 : (x6_1.toList != ([] : List UInt8)) = false := bne_eq_false_iff_eq.mpr c13
       clear c13
       by_cases c14 : x5_1.size + x6_1.size ≤ 9223372036854775807
       ·
        rw [if_pos c14] at H
        have c14b0 := eq_true c14
        have c14b1 : decide (x5_1.size + x6_1.size ≤ 9223372036854775807) = true := decide_eq_true c14
        try have c14b2 : (9223372036854775807 < x5_1.size + x6_1.size) = False := eq_false (Nat.not_lt.2 c14)
        have H' := Aside0.mk H
        clear H
        go_wp2
        go_roundg kj3
        case measure => have := HK1.out; have := HJ3.out; omega
        case rel => exact ⟨(x5_1 ++ x6_1), ((⟨#[]⟩ : ByteArray)), (wrap64 (x7_1 + 1)), (by first | rfl | (simp; done) | (simp [*]; done)), (by first | rfl | (simp; done) | (simp [*]; done)), (by first | rfl | (simp; done) | (simp [*]; done)), H', ⟨by have := HK1.out; have := HJ3.out; omega⟩, by repeat (first | exact Drawn0.refl _ | apply Drawn0.step)⟩
       rw [if_neg c14] at H
       exact absurd H (by simp)
      rw [if_neg c13] at H
      have c13b0 : (x6_1.toList == ([] : List UInt8)) = false := beq_eq_false_iff_ne.mpr c13
      have c13b1 : (x6_1.toList != ([] : List UInt8)) = true := bne_iff_ne.mpr c13
      by_cases c15 : x5_1.toList = ([] : List UInt8)
      ·
       rw [if_pos c15] at H
       have c15b0 : (x5_1.toList == ([] : List UInt8)) = true := beq_iff_eq.mpr c15
       have c15b1 : (x5_1.toList != ([] : List UInt8)) = false := bne_eq_false_iff_eq.mpr c15
       clear c15
       by_cases c16 : x5_1.size + x6_1.size ≤ 9223372036854775807
       ·
        rw [if_pos c16] at H
        have c16b0 := eq_true c16
        have c16b1 : decide (x5_1.size + x6_1.size ≤ 9223372036854775807) = true := decide_eq_true c16
        try have c16b2 : (9223372036854775807 < x5_1.size + x6_1.size) = False := eq_false (Nat.not_lt.2 c16)
        have H' := Aside0.mk H
        clear H
        go_wp2
        go_roundg kj3
        case measure => have := HK1.out; have := HJ3.out; omega
        case rel => exact ⟨(x5_1 ++ x6_1), ((⟨#[]⟩ : ByteArray)), (wrap64 (x7_1 + 1)), (by first | rfl | (simp; done) | (simp [*]; done)), (by first | rfl | (simp; done) | (simp [*]; done)), (by first | rfl | (simp; done) | (simp [*]; done)), H', ⟨by have := HK1.out; have := HJ3.out; omega⟩, by repeat (first | exact Drawn0.refl _ | apply Drawn0.step)⟩
       rw [if_neg c16] at H
       exact absurd H (by simp)
      rw [if_neg c15] at H
      have c15b0 : (x5_1.toList == ([] : List UInt8)) = false := beq_eq_false_iff_ne.mpr c15
      have c15b1 : (x5_1.toList != ([] : List UInt8)) = true := bne_iff_ne.mpr c15
      by_cases c17 : x5_1.size + 1 ≤ 9223372036854775807
      ·
       rw [if_pos c17] at H
       have c17b0 := eq_true c17
       have c17b1 : decide (x5_1.size + 1 ≤ 9223372036854775807) = true := decide_eq_true c17
       try have c17b2 : (9223372036854775807 < x5_1.size + 1) = False := eq_false (Nat.not_lt.2 c17)
       by_cases c18 : (x5_1 ++ (⟨#[46]⟩ : ByteArray)).size + x6_1.size ≤ 9223372036854775807
       ·
        rw [if_pos c18] at H
        have c18b0 := eq_true c18
        have c18b1 : decide ((x5_1 ++ (⟨#[46]⟩ : ByteArray)).size + x6_1.size ≤ 9223372036854775807) = true := decide_eq_true c18
        try have c18b2 : (9223372036854775807 < (x5_1 ++ (⟨#[46]⟩ : ByteArray)).size + x6_1.size) = False := eq_false (Nat.not_lt.2 c18)
        have c18z : (9223372036854775807 < (x5_1).size + 1 + (x6_1).size) = False := eq_false (Nat.not_lt.2 (by have h_ := c18; simp only [ByteArray.size_append] at h_; exact h_))
        have H' := Aside0.mk H
        clear H
        go_wp2
        go_roundg kj3
        case measure => have := HK1.out; have := HJ3.out; omega
        case rel => exact ⟨((x5_1 ++ (⟨#[46]⟩ : ByteArray)) ++ x6_1), ((⟨#[]⟩ : ByteArray)), (wrap64 (x7_1 + 1)), (by first | rfl | (simp; done) | (simp [*]; done)), (by first | rfl | (simp; done) | (simp [*]; done)), (by first | rfl | (simp; done) | (simp [*]; done)), H', ⟨by have := HK1.out; have := HJ3.out; omega⟩, by repeat (first | exact Drawn0.refl _ | apply Drawn0.step)⟩
       rw [if_neg c18] at H
       exact absurd H (by simp)
      rw [if_neg c17] at H
      exact absurd H (by simp)
   rw [if_neg c3] at H
   have c3b0 : decide (x7_1 ≤ (a0.size : Int)) = false := decide_eq_false c3
   clear c3
   obtain rfl := Option.some.inj H
   go_wp2
   go_ret
   exact ⟨by first | rfl | (simp; done) | (simp [*]; done) | (simp; cases a0.toList <;> rfl) , by repeat (first | exact Drawn0.refl _ | apply Drawn0.step)⟩
def spec_slices.l0 : Nat → ByteArray → Int → Bool → ByteArray → Int → Option (ByteArray)
 | 0, _, _, _, _, _ => none
 | k + 1, x0, x1, x2, x7, x8 => if x8 < (x0.size : Int) then (if x8 > 0 then (if x2 = true then (if x1 = 0 then (none) else (if (Int.tmod (wrap64 ((x0.size : Int) - x8)) x1) = 0 then (if x7.size + 1 ≤ 9223372036854775807 then (if 0 ≤ x8 then (if x8 ≤ (wrap64 (x8 + 1)) then (if (wrap64 (x8 + 1)) ≤ (x0.size : Int) then (if (x7 ++ (⟨#[46]⟩ : ByteArray)).size + (x0.extract (x8 : Int).toNat ((wrap64 (x8 + 1)) : Int).toNat).size ≤ 9223372036854775807 then (spec_slices.l0 k x0 x1 x2 ((x7 ++ (⟨#[46]⟩ : ByteArray)) ++ (x0.extract (x8 : Int).toNat ((wrap64 (x8 + 1)) : Int).toNat)) (wrap64 (x8 + 1))) else (none)) else (none)) else (none)) else (none)) else (none)) else (if 0 ≤ x8 then (if x8 ≤ (wrap64 (x8 + 1)) then (if (wrap64 (x8 + 1)) ≤ (x0.size : Int) then (if x7.size + (x0.extract (x8 : Int).toNat ((wrap64 (x8 + 1)) : Int).toNat).size ≤ 9223372036854775807 then (spec_slices.l0 k x0 x1 x2 (x7 ++ (x0.extract (x8 : Int).toNat ((wrap64 (x8 + 1)) : Int).toNat)) (wrap64 (x8 + 1))) else (none)) else (none)) else (none)) else (none)))) else (if x1 = 0 then (none) else (if (Int.tmod x8 x1) = 0 then (if x7.size + 1 ≤ 9223372036854775807 then (if 0 ≤ x8 then (if x8 ≤ (wrap64 (x8 + 1)) then (if (wrap64 (x8 + 1)) ≤ (x0.size : Int) then (if (x7 ++ (⟨#[46]⟩ : ByteArray)).size + (x0.extract (x8 : Int).toNat ((wrap64 (x8 + 1)) : Int).toNat).size ≤ 9223372036854775807 then (spec_slices.l0 k x0 x1 x2 ((x7 ++ (⟨#[46]⟩ : ByteArray)) ++ (x0.extract (x8 : Int).toNat ((wrap64 (x8 + 1)) : Int).toNat)) (wrap64 (x8 + 1))) else (none)) else (none)) else (none)) else (none)) else (none)) else (if 0 ≤ x8 then (if x8 ≤ (wrap64 (x8 + 1)) then (if (wrap64 (x8 + 1)) ≤ (x0.size : Int) then (if x7.size + (x0.extract (x8 : Int).toNat ((wrap64 (x8 + 1)) : Int).toNat).size ≤ 9223372036854775807 then (spec_slices.l0 k x0 x1 x2 (x7 ++ (x0.extract (x8 : Int).toNat ((wrap64 (x8 + 1)) : Int).toNat)) (wrap64 (x8 + 1))) else (none)) else (none)) else (none)) else (none))))) else (if 0 ≤ x8 then (if x8 ≤ (wrap64 (x8 + 1)) then (if (wrap64 (x8 + 1)) ≤ (x0.size : Int) then (if x7.size + (x0.extract (x8 : Int).toNat ((wrap64 (x8 + 1)) : Int).toNat).size ≤ 9223372036854775807 then (spec_slices.l0 k x0 x1 x2 (x7 ++ (x0.extract (x8 : Int).toNat ((wrap64 (x8 + 1)) : Int).toNat)) (wrap64 (x8 + 1))) else (none)) else (none)) else (none)) else (none))) else (some x7)
def spec_slices.f (k : Nat) (a0 : ByteArray) (a1 : Int) (a2 : Bool) : Option (ByteArray) := spec_slices.l0 k a0 a1 a2 (⟨#[]⟩ : ByteArray) 0
set_option maxHeartbeats 8000000 in
set_option maxRecDepth 100000 in
theorem spec_slices.calls (k : Nat) (a0 : ByteArray) (a1 : Int) (a2 : Bool) (r : ByteArray) (w : World) (h : spec_slices.f k a0 a1 a2 = some r) :
  Calls Tryd.prog 53 #[.string a0, .int .i64 a1, .bool a2] w fun e w' => e = .returned (.string r) ∧ Drawn0 w w' := by
 have H : (spec_slices.l0 k a0 a1 a2 (⟨#[]⟩ : ByteArray) 0) = some r := h
 clear h
 have H' := Aside0.mk H
 clear H
 go_enter Tryd.func53, Tryd.ntmps53
 go_wp2
 go_loopg [7, 8] k (fun kq v7 v8 w' => ∃ (x7_1 : ByteArray) (x8_1 : Int), v7 = .string x7_1 ∧ v8 = .int .i64 x8_1 ∧ Aside0 (spec_slices.l0 kq a0 a1 a2 x7_1 x8_1 = some r) ∧ Aside0 (kq ≤ k) ∧ Drawn0 w w')
 case atStart => exact ⟨((⟨#[]⟩ : ByteArray)), (0), (by first | rfl | (simp; done) | (simp [*]; done)), (by first | rfl | (simp; done) | (simp [*]; done)), H', ⟨Nat.le_refl _⟩, by repeat (first | exact Drawn0.refl _ | apply Drawn0.step)⟩
 case round =>
  clear H'
  try clear p2
  obtain ⟨x7_1, x8_1, rfl, rfl, HA, HK1, ⟨m1, rfl⟩⟩ := hrel
  cases gk with
  | zero => exact absurd HA.out (by simp [spec_slices.l0])
  | succ k1 =>
   have H := HA.out
   clear HA
   simp only [spec_slices.l0] at H
   by_cases c4 : x8_1 < (a0.size : Int)
   ·
    rw [if_pos c4] at H
    have c4b0 : decide (x8_1 < (a0.size : Int)) = true := decide_eq_true c4
    clear c4
    by_cases c5 : x8_1 > 0
    ·
     rw [if_pos c5] at H
     have c5b0 : decide (0 < x8_1) = true := decide_eq_true c5
     clear c5
     by_cases c6 : a2 = true
     ·
      subst c6
      have H1 : (if a1 = 0 then (none) else (if (Int.tmod (wrap64 ((a0.size : Int) - x8_1)) a1) = 0 then (if x7_1.size + 1 ≤ 9223372036854775807 then (if 0 ≤ x8_1 then (if x8_1 ≤ (wrap64 (x8_1 + 1)) then (if (wrap64 (x8_1 + 1)) ≤ (a0.size : Int) then (if (x7_1 ++ (⟨#[46]⟩ : ByteArray)).size + (a0.extract (x8_1 : Int).toNat ((wrap64 (x8_1 + 1)) : Int).toNat).size ≤ 9223372036854775807 then (spec_slices.l0 k1 a0 a1 true ((x7_1 ++ (⟨#[46]⟩ : ByteArray)) ++ (a0.extract (x8_1 : Int).toNat ((wrap64 (x8_1 + 1)) : Int).toNat)) (wrap64 (x8_1 + 1))) else (none)) else (none)) else (none)) else (none)) else (none)) else (if 0 ≤ x8_1 then (if x8_1 ≤ (wrap64 (x8_1 + 1)) then (if (wrap64 (x8_1 + 1)) ≤ (a0.size : Int) then (if x7_1.size + (a0.extract (x8_1 : Int).toNat ((wrap64 (x8_1 + 1)) : Int).toNat).size ≤ 9223372036854775807 then (spec_slices.l0 k1 a0 a1 true (x7_1 ++ (a0.extract (x8_1 : Int).toNat ((wrap64 (x8_1 + 1)) : Int).toNat)) (wrap64 (x8_1 + 1))) else (none)) else (none)) else (none)) else (none)))) = some r := by rw [if_pos rfl] at H; exact H
      clear H
      have H := H1
      clear H1
      by_cases c7 : a1 = 0
      ·
       rw [if_pos c7] at H
       exact absurd H (by simp)
      rw [if_neg c7] at H
      have c7b0 : (a1 == 0) = false := beq_eq_false_iff_ne.mpr c7
      have c7b1 : (a1 != 0) = true := bne_iff_ne.mpr c7
      by_cases c8 : (Int.tmod (wrap64 ((a0.size : Int) - x8_1)) a1) = 0
      ·
       rw [if_pos c8] at H
       have c8b0 : ((Int.tmod (wrap64 ((a0.size : Int) - x8_1)) a1) == 0) = true := beq_iff_eq.mpr c8
       have c8b1 : ((Int.tmod (wrap64 ((a0.size : Int) - x8_1)) a1) != 0) = false := bne_eq_false_iff_eq.mpr c8
       clear c8
       by_cases c9 : x7_1.size + 1 ≤ 9223372036854775807
       ·
        rw [if_pos c9] at H
        have c9b0 := eq_true c9
        have c9b1 : decide (x7_1.size + 1 ≤ 9223372036854775807) = true := decide_eq_true c9
        try have c9b2 : (9223372036854775807 < x7_1.size + 1) = False := eq_false (Nat.not_lt.2 c9)
        by_cases c10 : 0 ≤ x8_1
        ·
         rw [if_pos c10] at H
         have c10b0 := eq_true c10
         have c10b1 : decide (0 ≤ x8_1) = true := decide_eq_true c10
         clear c10
         by_cases c11 : x8_1 ≤ (wrap64 (x8_1 + 1))
         ·
          rw [if_pos c11] at H
          have c11b0 := eq_true c11
          have c11b1 : decide (x8_1 ≤ (wrap64 (x8_1 + 1))) = true := decide_eq_true c11
          by_cases c12 : (wrap64 (x8_1 + 1)) ≤ (a0.size : Int)
          ·
           rw [if_pos c12] at H
           have c12b0 := eq_true c12
           have c12b1 : decide ((wrap64 (x8_1 + 1)) ≤ (a0.size : Int)) = true := decide_eq_true c12
           by_cases c13 : (x7_1 ++ (⟨#[46]⟩ : ByteArray)).size + (a0.extract (x8_1 : Int).toNat ((wrap64 (x8_1 + 1)) : Int).toNat).size ≤ 9223372036854775807
           ·
            rw [if_pos c13] at H
            have c13b0 := eq_true c13
            have c13b1 : decide ((x7_1 ++ (⟨#[46]⟩ : ByteArray)).size + (a0.extract (x8_1 : Int).toNat ((wrap64 (x8_1 + 1)) : Int).toNat).size ≤ 9223372036854775807) = true := decide_eq_true c13
            try have c13b2 : (9223372036854775807 < (x7_1 ++ (⟨#[46]⟩ : ByteArray)).size + (a0.extract (x8_1 : Int).toNat ((wrap64 (x8_1 + 1)) : Int).toNat).size) = False := eq_false (Nat.not_lt.2 c13)
            have c13z : (9223372036854775807 < (x7_1).size + 1 + ((a0.extract (x8_1 : Int).toNat ((wrap64 (x8_1 + 1)) : Int).toNat).size)) = False := eq_false (Nat.not_lt.2 (by have h_ := c13; simp only [ByteArray.size_append] at h_; exact h_))
            have H' := Aside0.mk H
            clear H
            go_wp2
            go_roundg k1
            case measure => have := HK1.out; omega
            case rel => exact ⟨((x7_1 ++ (⟨#[46]⟩ : ByteArray)) ++ (a0.extract (x8_1 : Int).toNat ((wrap64 (x8_1 + 1)) : Int).toNat)), (wrap64 (x8_1 + 1)), (by first | rfl | (simp; done) | (simp [*]; done)), (by first | rfl | (simp; done) | (simp [*]; done)), H', ⟨by have := HK1.out; omega⟩, by repeat (first | exact Drawn0.refl _ | apply Drawn0.step)⟩
           rw [if_neg c13] at H
           exact absurd H (by simp)
          rw [if_neg c12] at H
          exact absurd H (by simp)
         rw [if_neg c11] at H
         exact absurd H (by simp)
        rw [if_neg c10] at H
        exact absurd H (by simp)
       rw [if_neg c9] at H
       exact absurd H (by simp)
      rw [if_neg c8] at H
      have c8b0 : ((Int.tmod (wrap64 ((a0.size : Int) - x8_1)) a1) == 0) = false := beq_eq_false_iff_ne.mpr c8
      have c8b1 : ((Int.tmod (wrap64 ((a0.size : Int) - x8_1)) a1) != 0) = true := bne_iff_ne.mpr c8
      by_cases c14 : 0 ≤ x8_1
      ·
       rw [if_pos c14] at H
       have c14b0 := eq_true c14
       have c14b1 : decide (0 ≤ x8_1) = true := decide_eq_true c14
       clear c14
       by_cases c15 : x8_1 ≤ (wrap64 (x8_1 + 1))
       ·
        rw [if_pos c15] at H
        have c15b0 := eq_true c15
        have c15b1 : decide (x8_1 ≤ (wrap64 (x8_1 + 1))) = true := decide_eq_true c15
        by_cases c16 : (wrap64 (x8_1 + 1)) ≤ (a0.size : Int)
        ·
         rw [if_pos c16] at H
         have c16b0 := eq_true c16
         have c16b1 : decide ((wrap64 (x8_1 + 1)) ≤ (a0.size : Int)) = true := decide_eq_true c16
         by_cases c17 : x7_1.size + (a0.extract (x8_1 : Int).toNat ((wrap64 (x8_1 + 1)) : Int).toNat).size ≤ 9223372036854775807
         ·
          rw [if_pos c17] at H
          have c17b0 := eq_true c17
          have c17b1 : decide (x7_1.size + (a0.extract (x8_1 : Int).toNat ((wrap64 (x8_1 + 1)) : Int).toNat).size ≤ 9223372036854775807) = true := decide_eq_true c17
          try have c17b2 : (9223372036854775807 < x7_1.size + (a0.extract (x8_1 : Int).toNat ((wrap64 (x8_1 + 1)) : Int).toNat).size) = False := eq_false (Nat.not_lt.2 c17)
          have H' := Aside0.mk H
          clear H
          go_wp2
          go_roundg k1
          case measure => have := HK1.out; omega
          case rel => exact ⟨(x7_1 ++ (a0.extract (x8_1 : Int).toNat ((wrap64 (x8_1 + 1)) : Int).toNat)), (wrap64 (x8_1 + 1)), (by first | rfl | (simp; done) | (simp [*]; done)), (by first | rfl | (simp; done) | (simp [*]; done)), H', ⟨by have := HK1.out; omega⟩, by repeat (first | exact Drawn0.refl _ | apply Drawn0.step)⟩
         rw [if_neg c17] at H
         exact absurd H (by simp)
        rw [if_neg c16] at H
        exact absurd H (by simp)
       rw [if_neg c15] at H
       exact absurd H (by simp)
      rw [if_neg c14] at H
      exact absurd H (by simp)
     replace c6 := Bool.eq_false_iff.mpr c6
     subst c6
     have H1 : (if a1 = 0 then (none) else (if (Int.tmod x8_1 a1) = 0 then (if x7_1.size + 1 ≤ 9223372036854775807 then (if 0 ≤ x8_1 then (if x8_1 ≤ (wrap64 (x8_1 + 1)) then (if (wrap64 (x8_1 + 1)) ≤ (a0.size : Int) then (if (x7_1 ++ (⟨#[46]⟩ : ByteArray)).size + (a0.extract (x8_1 : Int).toNat ((wrap64 (x8_1 + 1)) : Int).toNat).size ≤ 9223372036854775807 then (spec_slices.l0 k1 a0 a1 false ((x7_1 ++ (⟨#[46]⟩ : ByteArray)) ++ (a0.extract (x8_1 : Int).toNat ((wrap64 (x8_1 + 1)) : Int).toNat)) (wrap64 (x8_1 + 1))) else (none)) else (none)) else (none)) else (none)) else (none)) else (if 0 ≤ x8_1 then (if x8_1 ≤ (wrap64 (x8_1 + 1)) then (if (wrap64 (x8_1 + 1)) ≤ (a0.size : Int) then (if x7_1.size + (a0.extract (x8_1 : Int).toNat ((wrap64 (x8_1 + 1)) : Int).toNat).size ≤ 9223372036854775807 then (spec_slices.l0 k1 a0 a1 false (x7_1 ++ (a0.extract (x8_1 : Int).toNat ((wrap64 (x8_1 + 1)) : Int).toNat)) (wrap64 (x8_1 + 1))) else (none)) else (none)) else (none)) else (none)))) = some r := by rw [if_neg (show ¬ (false = true) by decide)] at H; exact H
     clear H
     have H := H1
     clear H1
     by_cases c18 : a1 = 0
     ·
      rw [if_pos c18] at H
      exact absurd H (by simp)
     rw [if_neg c18] at H
     have c18b0 : (a1 == 0) = false := beq_eq_false_iff_ne.mpr c18
     have c18b1 : (a1 != 0) = true := bne_iff_ne.mpr c18
     by_cases c19 : (Int.tmod x8_1 a1) = 0
     ·
      rw [if_pos c19] at H
      have c19b0 : ((Int.tmod x8_1 a1) == 0) = true := beq_iff_eq.mpr c19
      have c19b1 : ((Int.tmod x8_1 a1) != 0) = false := bne_eq_false_iff_eq.mpr c19
      clear c19
      by_cases c20 : x7_1.size + 1 ≤ 9223372036854775807
      ·
       rw [if_pos c20] at H
       have c20b0 := eq_true c20
       have c20b1 : decide (x7_1.size + 1 ≤ 9223372036854775807) = true := decide_eq_true c20
       try have c20b2 : (9223372036854775807 < x7_1.size + 1) = False := eq_false (Nat.not_lt.2 c20)
       by_cases c21 : 0 ≤ x8_1
       ·
        rw [if_pos c21] at H
        have c21b0 := eq_true c21
        have c21b1 : decide (0 ≤ x8_1) = true := decide_eq_true c21
        clear c21
        by_cases c22 : x8_1 ≤ (wrap64 (x8_1 + 1))
        ·
         rw [if_pos c22] at H
         have c22b0 := eq_true c22
         have c22b1 : decide (x8_1 ≤ (wrap64 (x8_1 + 1))) = true := decide_eq_true c22
         by_cases c23 : (wrap64 (x8_1 + 1)) ≤ (a0.size : Int)
         ·
          rw [if_pos c23] at H
          have c23b0 := eq_true c23
          have c23b1 : decide ((wrap64 (x8_1 + 1)) ≤ (a0.size : Int)) = true := decide_eq_true c23
          by_cases c24 : (x7_1 ++ (⟨#[46]⟩ : ByteArray)).size + (a0.extract (x8_1 : Int).toNat ((wrap64 (x8_1 + 1)) : Int).toNat).size ≤ 9223372036854775807
          ·
           rw [if_pos c24] at H
           have c24b0 := eq_true c24
           have c24b1 : decide ((x7_1 ++ (⟨#[46]⟩ : ByteArray)).size + (a0.extract (x8_1 : Int).toNat ((wrap64 (x8_1 + 1)) : Int).toNat).size ≤ 9223372036854775807) = true := decide_eq_true c24
           try have c24b2 : (9223372036854775807 < (x7_1 ++ (⟨#[46]⟩ : ByteArray)).size + (a0.extract (x8_1 : Int).toNat ((wrap64 (x8_1 + 1)) : Int).toNat).size) = False := eq_false (Nat.not_lt.2 c24)
           have c24z : (9223372036854775807 < (x7_1).size + 1 + ((a0.extract (x8_1 : Int).toNat ((wrap64 (x8_1 + 1)) : Int).toNat).size)) = False := eq_false (Nat.not_lt.2 (by have h_ := c24; simp only [ByteArray.size_append] at h_; exact h_))
           have H' := Aside0.mk H
           clear H
           go_wp2
           go_roundg k1
           case measure => have := HK1.out; omega
           case rel => exact ⟨((x7_1 ++ (⟨#[46]⟩ : ByteArray)) ++ (a0.extract (x8_1 : Int).toNat ((wrap64 (x8_1 + 1)) : Int).toNat)), (wrap64 (x8_1 + 1)), (by first | rfl | (simp; done) | (simp [*]; done)), (by first | rfl | (simp; done) | (simp [*]; done)), H', ⟨by have := HK1.out; omega⟩, by repeat (first | exact Drawn0.refl _ | apply Drawn0.step)⟩
          rw [if_neg c24] at H
          exact absurd H (by simp)
         rw [if_neg c23] at H
         exact absurd H (by simp)
        rw [if_neg c22] at H
        exact absurd H (by simp)
       rw [if_neg c21] at H
       exact absurd H (by simp)
      rw [if_neg c20] at H
      exact absurd H (by simp)
     rw [if_neg c19] at H
     have c19b0 : ((Int.tmod x8_1 a1) == 0) = false := beq_eq_false_iff_ne.mpr c19
     have c19b1 : ((Int.tmod x8_1 a1) != 0) = true := bne_iff_ne.mpr c19
     by_cases c25 : 0 ≤ x8_1
     ·
      rw [if_pos c25] at H
      have c25b0 := eq_true c25
      have c25b1 : decide (0 ≤ x8_1) = true := decide_eq_true c25
      clear c25
      by_cases c26 : x8_1 ≤ (wrap64 (x8_1 + 1))
      ·
       rw [if_pos c26] at H
       have c26b0 := eq_true c26
       have c26b1 : decide (x8_1 ≤ (wrap64 (x8_1 + 1))) = true := decide_eq_true c26
       by_cases c27 : (wrap64 (x8_1 + 1)) ≤ (a0.size : Int)
       ·
        rw [if_pos c27] at H
        have c27b0 := eq_true c27
        have c27b1 : decide ((wrap64 (x8_1 + 1)) ≤ (a0.size : Int)) = true := decide_eq_true c27
        by_cases c28 : x7_1.size + (a0.extract (x8_1 : Int).toNat ((wrap64 (x8_1 + 1)) : Int).toNat).size ≤ 9223372036854775807
        ·
         rw [if_pos c28] at H
         have c28b0 := eq_true c28
         have c28b1 : decide (x7_1.size + (a0.extract (x8_1 : Int).toNat ((wrap64 (x8_1 + 1)) : Int).toNat).size ≤ 9223372036854775807) = true := decide_eq_true c28
         try have c28b2 : (9223372036854775807 < x7_1.size + (a0.extract (x8_1 : Int).toNat ((wrap64 (x8_1 + 1)) : Int).toNat).size) = False := eq_false (Nat.not_lt.2 c28)
         have H' := Aside0.mk H
         clear H
         go_wp2
         go_roundg k1
         case measure => have := HK1.out; omega
         case rel => exact ⟨(x7_1 ++ (a0.extract (x8_1 : Int).toNat ((wrap64 (x8_1 + 1)) : Int).toNat)), (wrap64 (x8_1 + 1)), (by first | rfl | (simp; done) | (simp [*]; done)), (by first | rfl | (simp; done) | (simp [*]; done)), H', ⟨by have := HK1.out; omega⟩, by repeat (first | exact Drawn0.refl _ | apply Drawn0.step)⟩
        rw [if_neg c28] at H
        exact absurd H (by simp)
       rw [if_neg c27] at H
       exact absurd H (by simp)
      rw [if_neg c26] at H
      exact absurd H (by simp)
     rw [if_neg c25] at H
     exact absurd H (by simp)
    rw [if_neg c5] at H
    have c5b0 : decide (0 < x8_1) = false := decide_eq_false c5
    clear c5
    by_cases c29 : 0 ≤ x8_1
    ·
     rw [if_pos c29] at H
     have c29b0 := eq_true c29
     have c29b1 : decide (0 ≤ x8_1) = true := decide_eq_true c29
     clear c29
     by_cases c30 : x8_1 ≤ (wrap64 (x8_1 + 1))
     ·
      rw [if_pos c30] at H
      have c30b0 := eq_true c30
      have c30b1 : decide (x8_1 ≤ (wrap64 (x8_1 + 1))) = true := decide_eq_true c30
      by_cases c31 : (wrap64 (x8_1 + 1)) ≤ (a0.size : Int)
      ·
       rw [if_pos c31] at H
       have c31b0 := eq_true c31
       have c31b1 : decide ((wrap64 (x8_1 + 1)) ≤ (a0.size : Int)) = true := decide_eq_true c31
       by_cases c32 : x7_1.size + (a0.extract (x8_1 : Int).toNat ((wrap64 (x8_1 + 1)) : Int).toNat).size ≤ 9223372036854775807
       ·
        rw [if_pos c32] at H
        have c32b0 := eq_true c32
        have c32b1 : decide (x7_1.size + (a0.extract (x8_1 : Int).toNat ((wrap64 (x8_1 + 1)) : Int).toNat).size ≤ 9223372036854775807) = true := decide_eq_true c32
        try have c32b2 : (9223372036854775807 < x7_1.size + (a0.extract (x8_1 : Int).toNat ((wrap64 (x8_1 + 1)) : Int).toNat).size) = False := eq_false (Nat.not_lt.2 c32)
        have H' := Aside0.mk H
        clear H
        go_wp2
        go_roundg k1
        case measure => have := HK1.out; omega
        case rel => exact ⟨(x7_1 ++ (a0.extract (x8_1 : Int).toNat ((wrap64 (x8_1 + 1)) : Int).toNat)), (wrap64 (x8_1 + 1)), (by first | rfl | (simp; done) | (simp [*]; done)), (by first | rfl | (simp; done) | (simp [*]; done)), H', ⟨by have := HK1.out; omega⟩, by repeat (first | exact Drawn0.refl _ | apply Drawn0.step)⟩
       rw [if_neg c32] at H
       exact absurd H (by simp)
      rw [if_neg c31] at H
      exact absurd H (by simp)
     rw [if_neg c30] at H
     exact absurd H (by simp)
    rw [if_neg c29] at H
    exact absurd H (by simp)
   rw [if_neg c4] at H
   have c4b0 : decide (x8_1 < (a0.size : Int)) = false := decide_eq_false c4
   clear c4
   obtain rfl := Option.some.inj H
   go_wp2
   go_ret
   exact ⟨by first | rfl | (simp; done) | (simp [*]; done) | (simp; cases a0.toList <;> rfl) , by repeat (first | exact Drawn0.refl _ | apply Drawn0.step)⟩
end Go.Proofs.YtoopmpjgmgffoaaDoor.GFnTransformBack
