/- A walk of Go functions (plain functions of theirs, and that the machine's calls do what these say), written by a program of this session's. -/
import Derived.Test.YtgbdjinanflhaaaGFnSubsetMeansx0
import Derived.Test.YtgbdjinanflhaaaGFnSubsetMeansx1
namespace Go.Proofs.Ytgbdjinanflhaaa.GFnSubsetMeans
open Go.RowKit Go.Proofs.YtgbdjinanflhaaaW.PrintWords Go.Proofs.YtgbdjinanflhaaaW.PrintLast Go.Proofs.YtgbdjinanflhaaaW.PrintMore
attribute [local go_sem] max2_int min2_int max_two min_two max_three min_three max_four min_four   -- for this text's walks alone
set_option linter.unusedVariables false
set_option linter.unusedSimpArgs false

/-! ### laws_tame: function 23 -/
mutual
def laws_tame.l0 : Nat → List ByteArray → Int → Option (Bool)
  | 0, _, _ => none
  | k + 1, x3, x4 => if x4 < (x3.length : Int) then (laws_tame.l1 k x3 x4 0) else (some true)
def laws_tame.l1 : Nat → List ByteArray → Int → Int → Option (Bool)
  | 0, _, _, _ => none
  | k + 1, x3, x4, x5 => if 0 ≤ x4 then (if x4 < (x3.length : Int) then (if x5 < ((rdOf ByteArray.empty x3 x4).size : Int) then (laws_tame.j2 k x3 x4 x5 (decide (((rdOf ByteArray.empty x3 x4).size : Int) > 1))) else (laws_tame.j2 k x3 x4 x5 false)) else (none)) else (none)
def laws_tame.j2 : Nat → List ByteArray → Int → Int → Bool → Option (Bool)
  | 0, _, _, _, _ => none
  | k + 1, x3, x4, x5, x28 => if x28 = true then (if 0 ≤ x4 then (if x4 < (x3.length : Int) then (if 0 ≤ x5 then (if x5 < ((rdOf ByteArray.empty x3 x4).size : Int) then (if (bt (rdOf ByteArray.empty x3 x4) x5) = 42 then (some false) else (if (bt (rdOf ByteArray.empty x3 x4) x5) = 62 then (some false) else (laws_tame.l1 k x3 x4 (wrap64 (x5 + 1))))) else (none)) else (none)) else (none)) else (none)) else (laws_tame.l0 k x3 (wrap64 (x4 + 1)))
end
def laws_tame.f (k : Nat) (a0 : ByteArray) : Option (Bool) := (spec_Tokens.f k a0).bind fun t115 => (laws_tame.l0 k t115 0)
theorem laws_tame.mono_l : ∀ k, (∀ y0 y1, LeO (laws_tame.l0 k y0 y1) (laws_tame.l0 (k + 1) y0 y1)) ∧ (∀ y0 y1 y2, LeO (laws_tame.l1 k y0 y1 y2) (laws_tame.l1 (k + 1) y0 y1 y2)) ∧ (∀ y0 y1 y2 y3, LeO (laws_tame.j2 k y0 y1 y2 y3) (laws_tame.j2 (k + 1) y0 y1 y2 y3))
  | 0 => ⟨fun _ _ r h => by simp [laws_tame.l0] at h, fun _ _ _ r h => by simp [laws_tame.l1] at h, fun _ _ _ _ r h => by simp [laws_tame.j2] at h⟩
  | k + 1 => by
    obtain ⟨ih0, ih1, ih2⟩ := laws_tame.mono_l k
    refine ⟨?_, ?_, ?_⟩
    · intro y0 y1
      unfold laws_tame.l0
      repeat' first
      | (with_reducible exact ih0 _ _)
      | (with_reducible exact ih1 _ _ _)
      | (with_reducible exact ih2 _ _ _ _)
      | (with_reducible exact spec_Tokens.mono _ _)
      | (with_reducible exact LeO.refl _)
      | (with_reducible exact LeO.none _)
      | (with_reducible refine LeO.ite ?_ ?_)
      | (with_reducible refine LeO.bind ?_ (fun _ => ?_))
      | exact ih0 _ _
      | exact ih1 _ _ _
      | exact ih2 _ _ _ _
      | exact spec_Tokens.mono _ _
      | exact LeO.none _
      | refine LeO.ite ?_ ?_
      | refine LeO.bind ?_ (fun _ => ?_)
    · intro y0 y1 y2
      unfold laws_tame.l1
      repeat' first
      | (with_reducible exact ih0 _ _)
      | (with_reducible exact ih1 _ _ _)
      | (with_reducible exact ih2 _ _ _ _)
      | (with_reducible exact spec_Tokens.mono _ _)
      | (with_reducible exact LeO.refl _)
      | (with_reducible exact LeO.none _)
      | (with_reducible refine LeO.ite ?_ ?_)
      | (with_reducible refine LeO.bind ?_ (fun _ => ?_))
      | exact ih0 _ _
      | exact ih1 _ _ _
      | exact ih2 _ _ _ _
      | exact spec_Tokens.mono _ _
      | exact LeO.none _
      | refine LeO.ite ?_ ?_
      | refine LeO.bind ?_ (fun _ => ?_)
    · intro y0 y1 y2 y3
      unfold laws_tame.j2
      repeat' first
      | (with_reducible exact ih0 _ _)
      | (with_reducible exact ih1 _ _ _)
      | (with_reducible exact ih2 _ _ _ _)
      | (with_reducible exact spec_Tokens.mono _ _)
      | (with_reducible exact LeO.refl _)
      | (with_reducible exact LeO.none _)
      | (with_reducible refine LeO.ite ?_ ?_)
      | (with_reducible refine LeO.bind ?_ (fun _ => ?_))
      | exact ih0 _ _
      | exact ih1 _ _ _
      | exact ih2 _ _ _ _
      | exact spec_Tokens.mono _ _
      | exact LeO.none _
      | refine LeO.ite ?_ ?_
      | refine LeO.bind ?_ (fun _ => ?_)
theorem laws_tame.mono : ∀ a0 k, LeO (laws_tame.f k a0) (laws_tame.f (k + 1) a0) := by
  intro a0 k
  obtain ⟨ih0, ih1, ih2⟩ := laws_tame.mono_l k
  unfold laws_tame.f
  repeat' first
      | (with_reducible exact ih0 _ _)
      | (with_reducible exact ih1 _ _ _)
      | (with_reducible exact ih2 _ _ _ _)
      | (with_reducible exact spec_Tokens.mono _ _)
      | (with_reducible exact LeO.refl _)
      | (with_reducible exact LeO.none _)
      | (with_reducible refine LeO.ite ?_ ?_)
      | (with_reducible refine LeO.bind ?_ (fun _ => ?_))
      | exact ih0 _ _
      | exact ih1 _ _ _
      | exact ih2 _ _ _ _
      | exact spec_Tokens.mono _ _
      | exact LeO.none _
      | refine LeO.ite ?_ ?_
      | refine LeO.bind ?_ (fun _ => ?_)
set_option maxHeartbeats 8000000 in
set_option maxRecDepth 100000 in
theorem laws_tame.calls (k : Nat) (a0 : ByteArray) (r : Bool) (w : World) (h : laws_tame.f k a0 = some r) :
    Calls Try.prog 23 #[.string a0] w fun e w' => e = .returned (.bool r) ∧ Below w.heap.size w w' := by
  have HB := Aside0.mk (Below.refl w.heap.size w)
  have H : ((spec_Tokens.f k a0).bind fun t115 => (laws_tame.l0 k t115 0)) = some r := h
  clear h
  replace H := Option.bind_eq_some_iff.mp H
  obtain ⟨t115, A20, H⟩ := H
  replace H : (laws_tame.l0 k t115 0) = some r := H
  have A2 := Aside0.mk A20
  clear A20
  have H' := Aside0.mk H
  clear H
  go_enter Try.func23, Try.ntmps23
  go_wp2_with (first | ((with_reducible refine gate_callee (f := 26) rfl ?_); refine goesL_ (some 7) rfl rfl Try.func26 (by kernel_rfl) rfl #[.string a0] rfl (by (try simp only [List.map_toArray, List.map_cons, List.map_nil]); first | done | rfl | (simp only [List.length_drop, List.length_take]; rfl)) ?_; (with_reducible refine (spec_Tokens.calls k a0 t115 _ A2.out).mono ?_); rintro e w3 ⟨v116, rfl, ho0, hb⟩; refine ⟨_, rfl, ?_⟩; have n0_ := Aside0.mk (Kd.R_lower ho0 (below_size (by repeat (first | (with_reducible first | exact HB.out | apply below_alloc | apply pw_below_drewN | apply below_drew1) | exact HB.out)))); have n1_ := Aside0.mk (below_step (by repeat (first | (with_reducible first | exact HB.out | apply below_alloc | apply pw_below_drewN | apply below_drew1) | exact HB.out)) hb); clear HB; have HO117 := n0_; have HB := n1_; clear n0_ n1_; (try clear hb); (try clear hb2); (try clear hk); (try clear hi); (try clear ho0)))
  go_loopg [4] k (fun kq v4 w' => ∃ (x4_1 : Int), v4 = .int .i64 x4_1 ∧ Aside0 (laws_tame.l0 kq t115 x4_1 = some r) ∧ Aside0 (kq ≤ k) ∧ Aside0 (Kd.R Kd.string 9 w' w.heap.size (fun _ => True) v116 t115) ∧ Aside0 (Below w.heap.size w w'))
  case atStart => exact ⟨(0), (by first | rfl | (simp; done) | (simp [*]; done)), H', ⟨Nat.le_refl _⟩, ⟨by (with_reducible repeat (first | apply Kd.R_alloc | apply Kd.R_drewN | apply Kd.R_drew)); exact HO117.out⟩, ⟨by repeat (first | (with_reducible first | exact HB.out | apply below_alloc | apply pw_below_drewN | apply below_drew1) | exact HB.out)⟩⟩
  case round =>
    clear H'
    try clear c2
    try clear p2
    obtain ⟨x4_1, rfl, HA, HK1, HO_3, HB⟩ := hrel
    cases gk with
    | zero => exact absurd HA.out (by simp [laws_tame.l0])
    | succ k1 =>
      have H := HA.out
      clear HA
      simp only [laws_tame.l0] at H
      by_cases c4 : x4_1 < (t115.length : Int)
      · rw [if_pos c4] at H
        have c4b0 : decide (x4_1 < (t115.length : Int)) = true := decide_eq_true c4
        clear c4
        have H' := Aside0.mk H
        clear H
        obtain ⟨Ao5, co5, eo5⟩ := Kd.R_slice HO_3.out
        subst eo5
        go_wp2
        go_loopg [5] k1 (fun kq v5 w' => ∃ (x5_2 : Int), v5 = .int .i64 x5_2 ∧ Aside0 (laws_tame.l1 kq t115 x4_1 x5_2 = some r) ∧ Aside0 (kq ≤ k1) ∧ Aside0 (Kd.R Kd.string 9 w' w.heap.size (fun _ => True) (.slice Ao5 t115.length co5) t115) ∧ Aside0 (Below w.heap.size w w'))
        case atStart => exact ⟨(0), (by first | rfl | (simp; done) | (simp [*]; done)), H', ⟨Nat.le_refl _⟩, ⟨by (with_reducible repeat (first | apply Kd.R_alloc | apply Kd.R_drewN | apply Kd.R_drew)); exact HO_3.out⟩, ⟨by repeat (first | (with_reducible first | exact HB.out | apply below_alloc | apply pw_below_drewN | apply below_drew1) | exact HB.out)⟩⟩
        case round =>
          clear H'
          try clear c2
          try clear p2
          try clear c4
          try clear c4b0
          try clear p2
          obtain ⟨x5_2, rfl, HA, HK2, HO_3, HB⟩ := hrel
          cases gk with
          | zero => exact absurd HA.out (by simp [laws_tame.l1])
          | succ k2 =>
            have H := HA.out
            clear HA
            simp only [laws_tame.l1] at H
            have HC6 := Aside0.mk H
            clear H
            go_upto_region 6 with (fail)
            go_cut [28] (fun v28 wc => ∃ (kq : Nat) (x28_5 : Bool), v28 = .bool x28_5 ∧ Aside0 (laws_tame.j2 kq t115 x4_1 x5_2 x28_5 = some r) ∧ Aside0 (kq ≤ k2) ∧ Aside0 (Kd.R Kd.string 9 wc w.heap.size (fun _ => True) (.slice Ao5 t115.length co5) t115) ∧ Aside0 (Below w.heap.size w wc))
            case first =>
              have H := HC6.out
              clear HC6
              by_cases c7 : 0 ≤ x4_1
              · rw [if_pos c7] at H
                have c7b0 : decide (0 ≤ x4_1) = true := decide_eq_true c7
                clear c7
                (first | rw [c7b0] | (simp only [i64_w, i32_w]; rw [c7b0]) | skip)
                by_cases c8 : x4_1 < (t115.length : Int)
                · rw [if_pos c8] at H
                  have c8b0 : decide (x4_1 < (t115.length : Int)) = true := decide_eq_true c8
                  clear c8
                  by_cases c9 : x5_2 < ((rdOf ByteArray.empty t115 x4_1).size : Int)
                  · rw [if_pos c9] at H
                    have c9b0 : decide (x5_2 < ((rdOf ByteArray.empty t115 x4_1).size : Int)) = true := decide_eq_true c9
                    clear c9
                    have H' := Aside0.mk H
                    clear H
                    have p118 : 0 ≤ (x4_1 : Int) := of_decide_eq_true (by first | (with_reducible assumption) | assumption)
                    have q118 : x4_1 < (t115.length : Int) := of_decide_eq_true (by first | (with_reducible assumption) | assumption)
                    obtain ⟨ad118, e118, hx118_0⟩ := Kd.at_string (Kd.R_reads' HO_3.out).2.2 x4_1 p118 q118
                    cases e118
                    replace p118 := eq_true p118
                    replace q118 := eq_true q118
                    have p119 : 0 ≤ (x4_1 : Int) := of_decide_eq_true (by first | (with_reducible assumption) | assumption)
                    have q119 : x4_1 < (t115.length : Int) := of_decide_eq_true (by first | (with_reducible assumption) | assumption)
                    obtain ⟨ad119, e119, hx119_0⟩ := Kd.at_string (Kd.R_reads' HO_3.out).2.2 x4_1 p119 q119
                    obtain rfl : ad118 = ad119 := (by injection e119)
                    replace p119 := eq_true p119
                    replace q119 := eq_true q119
                    go_wp2
                    go_meet
                    case rel => exact ⟨_, (decide (((rdOf ByteArray.empty t115 x4_1).size : Int) > 1)), (by first | rfl | (simp; done) | (simp [*]; done)), H', ⟨by have := HK1.out; have := HK2.out; first | omega | exact Nat.le_refl _⟩, ⟨by (with_reducible repeat (first | apply Kd.R_alloc | apply Kd.R_drewN | apply Kd.R_drew)); exact HO_3.out⟩, ⟨by repeat (first | (with_reducible first | exact HB.out | apply below_alloc | apply pw_below_drewN | apply below_drew1) | exact HB.out)⟩⟩
                  · rw [if_neg c9] at H
                    have c9b0 : decide (x5_2 < ((rdOf ByteArray.empty t115 x4_1).size : Int)) = false := decide_eq_false c9
                    clear c9
                    have H' := Aside0.mk H
                    clear H
                    have p118 : 0 ≤ (x4_1 : Int) := of_decide_eq_true (by first | (with_reducible assumption) | assumption)
                    have q118 : x4_1 < (t115.length : Int) := of_decide_eq_true (by first | (with_reducible assumption) | assumption)
                    obtain ⟨ad118, e118, hx118_0⟩ := Kd.at_string (Kd.R_reads' HO_3.out).2.2 x4_1 p118 q118
                    cases e118
                    replace p118 := eq_true p118
                    replace q118 := eq_true q118
                    go_wp2
                    go_meet
                    case rel => exact ⟨_, (false), (by first | rfl | (simp; done) | (simp [*]; done)), H', ⟨by have := HK1.out; have := HK2.out; first | omega | exact Nat.le_refl _⟩, ⟨by (with_reducible repeat (first | apply Kd.R_alloc | apply Kd.R_drewN | apply Kd.R_drew)); exact HO_3.out⟩, ⟨by repeat (first | (with_reducible first | exact HB.out | apply below_alloc | apply pw_below_drewN | apply below_drew1) | exact HB.out)⟩⟩
                · rw [if_neg c8] at H
                  exact absurd H (by simp)
              · rw [if_neg c7] at H
                exact absurd H (by simp)
            case rest =>
              clear HC6
              try clear p1
              try clear q1
              try clear hx1
              try clear c2
              try clear p2
              try clear c4
              try clear c4b0
              try clear c7
              try clear c7b0
              try clear c8
              try clear c8b0
              try clear c9
              try clear c9b0
              try clear hx118_0
              try clear hx119_0
              try clear p118
              try clear p119
              try clear p2
              try clear q118
              try clear q119
              obtain ⟨kq, x28_5, rfl, HA, HJ5, HO_3, HB⟩ := hcut
              cases kq with
              | zero => exact absurd HA.out (by simp [laws_tame.j2])
              | succ kj5 =>
                have H := HA.out
                clear HA
                simp only [laws_tame.j2] at H
                by_cases c10 : x28_5 = true
                · subst c10
                  have H1 : (if 0 ≤ x4_1 then (if x4_1 < (t115.length : Int) then (if 0 ≤ x5_2 then (if x5_2 < ((rdOf ByteArray.empty t115 x4_1).size : Int) then (if (bt (rdOf ByteArray.empty t115 x4_1) x5_2) = 42 then (some false) else (if (bt (rdOf ByteArray.empty t115 x4_1) x5_2) = 62 then (some false) else (laws_tame.l1 kj5 t115 x4_1 (wrap64 (x5_2 + 1))))) else (none)) else (none)) else (none)) else (none)) = some r := by rw [if_pos rfl] at H; exact H
                  clear H
                  have H := H1
                  clear H1
                  by_cases c11 : 0 ≤ x4_1
                  · rw [if_pos c11] at H
                    have c11b0 : decide (0 ≤ x4_1) = true := decide_eq_true c11
                    clear c11
                    by_cases c12 : x4_1 < (t115.length : Int)
                    · rw [if_pos c12] at H
                      have c12b0 : decide (x4_1 < (t115.length : Int)) = true := decide_eq_true c12
                      clear c12
                      by_cases c13 : 0 ≤ x5_2
                      · rw [if_pos c13] at H
                        have c13b0 : decide (0 ≤ x5_2) = true := decide_eq_true c13
                        clear c13
                        by_cases c14 : x5_2 < ((rdOf ByteArray.empty t115 x4_1).size : Int)
                        · rw [if_pos c14] at H
                          have c14b0 : decide (x5_2 < ((rdOf ByteArray.empty t115 x4_1).size : Int)) = true := decide_eq_true c14
                          clear c14
                          by_cases c16 : (bt (rdOf ByteArray.empty t115 x4_1) x5_2) = 42
                          · rw [if_pos c16] at H
                            have c16b0 : ((bt (rdOf ByteArray.empty t115 x4_1) x5_2) == 42) = true := beq_iff_eq.mpr c16
                            have c16b1 : ((bt (rdOf ByteArray.empty t115 x4_1) x5_2) != 42) = false := bne_eq_false_iff_eq.mpr c16
                            clear c16
                            obtain rfl := Option.some.inj H
                            have p120 : 0 ≤ (x4_1 : Int) := of_decide_eq_true (by first | (with_reducible assumption) | assumption)
                            have q120 : x4_1 < (t115.length : Int) := of_decide_eq_true (by first | (with_reducible assumption) | assumption)
                            obtain ⟨ad120, e120, hx120_0⟩ := Kd.at_string (Kd.R_reads' HO_3.out).2.2 x4_1 p120 q120
                            cases e120
                            replace p120 := eq_true p120
                            replace q120 := eq_true q120
                            have p15 : 0 ≤ (x5_2 : Int) := of_decide_eq_true (by first | (with_reducible assumption) | assumption)
                            have q15 : x5_2 < ((rdOf ByteArray.empty t115 x4_1).size : Int) := of_decide_eq_true (by first | (with_reducible assumption) | assumption)
                            have hx15 := bt_at (rdOf ByteArray.empty t115 x4_1) x5_2
                            replace p15 := eq_true p15
                            replace q15 := eq_true q15
                            go_wp2
                            go_ret
                            exact ⟨by first | rfl | (simp [errW_none, errW_some] <;> rfl) | (simp [*, errW_none, errW_some] <;> rfl), by repeat (first | (with_reducible first | exact HB.out | apply below_alloc | apply pw_below_drewN | apply below_drew1) | exact HB.out)⟩
                          · rw [if_neg c16] at H
                            have c16b0 : ((bt (rdOf ByteArray.empty t115 x4_1) x5_2) == 42) = false := beq_eq_false_iff_ne.mpr c16
                            have c16b1 : ((bt (rdOf ByteArray.empty t115 x4_1) x5_2) != 42) = true := bne_iff_ne.mpr c16
                            by_cases c18 : (bt (rdOf ByteArray.empty t115 x4_1) x5_2) = 62
                            · rw [if_pos c18] at H
                              have c18b0 : ((bt (rdOf ByteArray.empty t115 x4_1) x5_2) == 62) = true := beq_iff_eq.mpr c18
                              have c18b1 : ((bt (rdOf ByteArray.empty t115 x4_1) x5_2) != 62) = false := bne_eq_false_iff_eq.mpr c18
                              clear c18
                              obtain rfl := Option.some.inj H
                              have p120 : 0 ≤ (x4_1 : Int) := of_decide_eq_true (by first | (with_reducible assumption) | assumption)
                              have q120 : x4_1 < (t115.length : Int) := of_decide_eq_true (by first | (with_reducible assumption) | assumption)
                              obtain ⟨ad120, e120, hx120_0⟩ := Kd.at_string (Kd.R_reads' HO_3.out).2.2 x4_1 p120 q120
                              cases e120
                              replace p120 := eq_true p120
                              replace q120 := eq_true q120
                              have p15 : 0 ≤ (x5_2 : Int) := of_decide_eq_true (by first | (with_reducible assumption) | assumption)
                              have q15 : x5_2 < ((rdOf ByteArray.empty t115 x4_1).size : Int) := of_decide_eq_true (by first | (with_reducible assumption) | assumption)
                              have hx15 := bt_at (rdOf ByteArray.empty t115 x4_1) x5_2
                              replace p15 := eq_true p15
                              replace q15 := eq_true q15
                              have p121 : 0 ≤ (x4_1 : Int) := of_decide_eq_true (by first | (with_reducible assumption) | assumption)
                              have q121 : x4_1 < (t115.length : Int) := of_decide_eq_true (by first | (with_reducible assumption) | assumption)
                              obtain ⟨ad121, e121, hx121_0⟩ := Kd.at_string (Kd.R_reads' HO_3.out).2.2 x4_1 p121 q121
                              obtain rfl : ad120 = ad121 := (by injection e121)
                              replace p121 := eq_true p121
                              replace q121 := eq_true q121
                              have p17 : 0 ≤ (x5_2 : Int) := of_decide_eq_true (by first | (with_reducible assumption) | assumption)
                              have q17 : x5_2 < ((rdOf ByteArray.empty t115 x4_1).size : Int) := of_decide_eq_true (by first | (with_reducible assumption) | assumption)
                              have hx17 := bt_at (rdOf ByteArray.empty t115 x4_1) x5_2
                              replace p17 := eq_true p17
                              replace q17 := eq_true q17
                              go_wp2
                              go_ret
                              exact ⟨by first | rfl | (simp [errW_none, errW_some] <;> rfl) | (simp [*, errW_none, errW_some] <;> rfl), by repeat (first | (with_reducible first | exact HB.out | apply below_alloc | apply pw_below_drewN | apply below_drew1) | exact HB.out)⟩
                            · rw [if_neg c18] at H
                              have c18b0 : ((bt (rdOf ByteArray.empty t115 x4_1) x5_2) == 62) = false := beq_eq_false_iff_ne.mpr c18
                              have c18b1 : ((bt (rdOf ByteArray.empty t115 x4_1) x5_2) != 62) = true := bne_iff_ne.mpr c18
                              have H' := Aside0.mk H
                              clear H
                              have p120 : 0 ≤ (x4_1 : Int) := of_decide_eq_true (by first | (with_reducible assumption) | assumption)
                              have q120 : x4_1 < (t115.length : Int) := of_decide_eq_true (by first | (with_reducible assumption) | assumption)
                              obtain ⟨ad120, e120, hx120_0⟩ := Kd.at_string (Kd.R_reads' HO_3.out).2.2 x4_1 p120 q120
                              cases e120
                              replace p120 := eq_true p120
                              replace q120 := eq_true q120
                              have p15 : 0 ≤ (x5_2 : Int) := of_decide_eq_true (by first | (with_reducible assumption) | assumption)
                              have q15 : x5_2 < ((rdOf ByteArray.empty t115 x4_1).size : Int) := of_decide_eq_true (by first | (with_reducible assumption) | assumption)
                              have hx15 := bt_at (rdOf ByteArray.empty t115 x4_1) x5_2
                              replace p15 := eq_true p15
                              replace q15 := eq_true q15
                              have p121 : 0 ≤ (x4_1 : Int) := of_decide_eq_true (by first | (with_reducible assumption) | assumption)
                              have q121 : x4_1 < (t115.length : Int) := of_decide_eq_true (by first | (with_reducible assumption) | assumption)
                              obtain ⟨ad121, e121, hx121_0⟩ := Kd.at_string (Kd.R_reads' HO_3.out).2.2 x4_1 p121 q121
                              obtain rfl : ad120 = ad121 := (by injection e121)
                              replace p121 := eq_true p121
                              replace q121 := eq_true q121
                              have p17 : 0 ≤ (x5_2 : Int) := of_decide_eq_true (by first | (with_reducible assumption) | assumption)
                              have q17 : x5_2 < ((rdOf ByteArray.empty t115 x4_1).size : Int) := of_decide_eq_true (by first | (with_reducible assumption) | assumption)
                              have hx17 := bt_at (rdOf ByteArray.empty t115 x4_1) x5_2
                              replace p17 := eq_true p17
                              replace q17 := eq_true q17
                              go_wp2
                              go_roundg kj5
                              case measure => have := HK1.out; have := HK2.out; have := HJ5.out; omega
                              case rel => exact ⟨(wrap64 (x5_2 + 1)), (by first | rfl | (simp; done) | (simp [*]; done)), H', ⟨by have := HK1.out; have := HK2.out; have := HJ5.out; omega⟩, ⟨by (with_reducible repeat (first | apply Kd.R_alloc | apply Kd.R_drewN | apply Kd.R_drew)); exact HO_3.out⟩, ⟨by repeat (first | (with_reducible first | exact HB.out | apply below_alloc | apply pw_below_drewN | apply below_drew1) | exact HB.out)⟩⟩
                        · rw [if_neg c14] at H
                          exact absurd H (by simp)
                      · rw [if_neg c13] at H
                        exact absurd H (by simp)
                    · rw [if_neg c12] at H
                      exact absurd H (by simp)
                  · rw [if_neg c11] at H
                    exact absurd H (by simp)
                · replace c10 := Bool.eq_false_iff.mpr c10
                  subst c10
                  have H1 : (laws_tame.l0 kj5 t115 (wrap64 (x4_1 + 1))) = some r := by rw [if_neg (show ¬ (false = true) by decide)] at H; exact H
                  clear H
                  have H := H1
                  clear H1
                  have H' := Aside0.mk H
                  clear H
                  go_wp2
                  go_roundg kj5
                  case measure => have := HK1.out; have := HK2.out; have := HJ5.out; omega
                  case rel => exact ⟨(wrap64 (x4_1 + 1)), (by first | rfl | (simp; done) | (simp [*]; done)), H', ⟨by have := HK1.out; have := HK2.out; have := HJ5.out; omega⟩, ⟨by (with_reducible repeat (first | apply Kd.R_alloc | apply Kd.R_drewN | apply Kd.R_drew)); exact HO_3.out⟩, ⟨by repeat (first | (with_reducible first | exact HB.out | apply below_alloc | apply pw_below_drewN | apply below_drew1) | exact HB.out)⟩⟩
      · rw [if_neg c4] at H
        have c4b0 : decide (x4_1 < (t115.length : Int)) = false := decide_eq_false c4
        clear c4
        obtain rfl := Option.some.inj H
        obtain ⟨Ao19, co19, eo19⟩ := Kd.R_slice HO_3.out
        subst eo19
        go_wp2
        go_ret
        exact ⟨by first | rfl | (simp [errW_none, errW_some] <;> rfl) | (simp [*, errW_none, errW_some] <;> rfl), by repeat (first | (with_reducible first | exact HB.out | apply below_alloc | apply pw_below_drewN | apply below_drew1) | exact HB.out)⟩

/-! ### laws_valid: function 7 -/
def laws_valid.f (k : Nat) (a0 : ByteArray) : Option (Bool) := (laws_clean.f k a0).bind fun t122 => (if t122 = true then ((spec_Valid.f k a0).bind fun t123 => (if t123 = true then ((laws_tame.f k a0).bind fun t124 => (some t124)) else (some false))) else (some false))
theorem laws_valid.mono : ∀ a0 k, LeO (laws_valid.f k a0) (laws_valid.f (k + 1) a0) := by
  intro a0 k
  unfold laws_valid.f
  repeat' first
      | (with_reducible exact laws_clean.mono _ _)
      | (with_reducible exact laws_tame.mono _ _)
      | (with_reducible exact spec_Valid.mono _ _)
      | (with_reducible exact LeO.refl _)
      | (with_reducible exact LeO.none _)
      | (with_reducible refine LeO.ite ?_ ?_)
      | (with_reducible refine LeO.bind ?_ (fun _ => ?_))
      | exact laws_clean.mono _ _
      | exact laws_tame.mono _ _
      | exact spec_Valid.mono _ _
      | exact LeO.none _
      | refine LeO.ite ?_ ?_
      | refine LeO.bind ?_ (fun _ => ?_)
set_option maxHeartbeats 8000000 in
set_option maxRecDepth 100000 in
theorem laws_valid.calls (k : Nat) (a0 : ByteArray) (r : Bool) (w : World) (h : laws_valid.f k a0 = some r) :
    Calls Try.prog 7 #[.string a0] w fun e w' => e = .returned (.bool r) ∧ Below w.heap.size w w' := by
  have HB := Aside0.mk (Below.refl w.heap.size w)
  have H : ((laws_clean.f k a0).bind fun t122 => (if t122 = true then ((spec_Valid.f k a0).bind fun t123 => (if t123 = true then ((laws_tame.f k a0).bind fun t124 => (some t124)) else (some false))) else (some false))) = some r := h
  clear h
  replace H := Option.bind_eq_some_iff.mp H
  obtain ⟨t122, A20, H⟩ := H
  replace H : (if t122 = true then ((spec_Valid.f k a0).bind fun t123 => (if t123 = true then ((laws_tame.f k a0).bind fun t124 => (some t124)) else (some false))) else (some false)) = some r := H
  have A2 := Aside0.mk A20
  clear A20
  by_cases c3 : t122 = true
  · subst c3
    have H1 : ((spec_Valid.f k a0).bind fun t123 => (if t123 = true then ((laws_tame.f k a0).bind fun t124 => (some t124)) else (some false))) = some r := by rw [if_pos rfl] at H; exact H
    clear H
    have H := H1
    clear H1
    replace H := Option.bind_eq_some_iff.mp H
    obtain ⟨t123, A40, H⟩ := H
    replace H : (if t123 = true then ((laws_tame.f k a0).bind fun t124 => (some t124)) else (some false)) = some r := H
    have A4 := Aside0.mk A40
    clear A40
    by_cases c5 : t123 = true
    · subst c5
      have H1 : ((laws_tame.f k a0).bind fun t124 => (some t124)) = some r := by rw [if_pos rfl] at H; exact H
      clear H
      have H := H1
      clear H1
      replace H := Option.bind_eq_some_iff.mp H
      obtain ⟨t124, A60, H⟩ := H
      replace H : (some t124) = some r := H
      have A6 := Aside0.mk A60
      clear A60
      obtain rfl := Option.some.inj H
      go_enter Try.func7, Try.ntmps7
      go_wp2_with (first | ((with_reducible refine gate_callee (f := 21) rfl ?_); refine goesL_ (some 4) rfl rfl Try.func21 (by kernel_rfl) rfl #[.string a0] rfl (by (try simp only [List.map_toArray, List.map_cons, List.map_nil]); first | done | rfl | (simp only [List.length_drop, List.length_take]; rfl)) ?_; (with_reducible refine (laws_clean.calls k a0 true _ A2.out).mono ?_); rintro e w' ⟨rfl, ⟨nd, rfl⟩⟩; refine ⟨_, rfl, ?_⟩) | (go_at_call 22; (with_reducible refine (spec_Valid.calls k a0 true _ A4.out).mono ?_); rintro e w7 ⟨rfl, hb⟩; have n0_ := Aside0.mk (below_step (by repeat (first | (with_reducible first | exact HB.out | apply below_alloc | apply pw_below_drewN | apply below_drew1) | exact HB.out)) hb); clear HB; have HB := n0_; clear n0_; (try clear hb); (try clear hb2); (try clear hk); (try clear hi)) | (go_at_call 23; (with_reducible refine (laws_tame.calls k a0 t124 _ A6.out).mono ?_); rintro e w8 ⟨rfl, hb⟩; have n0_ := Aside0.mk (below_step (by repeat (first | (with_reducible first | exact HB.out | apply below_alloc | apply pw_below_drewN | apply below_drew1) | exact HB.out)) hb); clear HB; have HB := n0_; clear n0_; (try clear hb); (try clear hb2); (try clear hk); (try clear hi)))
      go_ret
      exact ⟨by first | rfl | (simp [errW_none, errW_some] <;> rfl) | (simp [*, errW_none, errW_some] <;> rfl), by repeat (first | (with_reducible first | exact HB.out | apply below_alloc | apply pw_below_drewN | apply below_drew1) | exact HB.out)⟩
    · replace c5 := Bool.eq_false_iff.mpr c5
      subst c5
      have H1 : (some false) = some r := by rw [if_neg (show ¬ (false = true) by decide)] at H; exact H
      clear H
      have H := H1
      clear H1
      obtain rfl := Option.some.inj H
      go_enter Try.func7, Try.ntmps7
      go_wp2_with (first | ((with_reducible refine gate_callee (f := 21) rfl ?_); refine goesL_ (some 4) rfl rfl Try.func21 (by kernel_rfl) rfl #[.string a0] rfl (by (try simp only [List.map_toArray, List.map_cons, List.map_nil]); first | done | rfl | (simp only [List.length_drop, List.length_take]; rfl)) ?_; (with_reducible refine (laws_clean.calls k a0 true _ A2.out).mono ?_); rintro e w' ⟨rfl, ⟨nd, rfl⟩⟩; refine ⟨_, rfl, ?_⟩) | (go_at_call 22; (with_reducible refine (spec_Valid.calls k a0 false _ A4.out).mono ?_); rintro e w9 ⟨rfl, hb⟩; have n0_ := Aside0.mk (below_step (by repeat (first | (with_reducible first | exact HB.out | apply below_alloc | apply pw_below_drewN | apply below_drew1) | exact HB.out)) hb); clear HB; have HB := n0_; clear n0_; (try clear hb); (try clear hb2); (try clear hk); (try clear hi)))
      go_ret
      exact ⟨by first | rfl | (simp [errW_none, errW_some] <;> rfl) | (simp [*, errW_none, errW_some] <;> rfl), by repeat (first | (with_reducible first | exact HB.out | apply below_alloc | apply pw_below_drewN | apply below_drew1) | exact HB.out)⟩
  · replace c3 := Bool.eq_false_iff.mpr c3
    subst c3
    have H1 : (some false) = some r := by rw [if_neg (show ¬ (false = true) by decide)] at H; exact H
    clear H
    have H := H1
    clear H1
    obtain rfl := Option.some.inj H
    go_enter Try.func7, Try.ntmps7
    go_wp2_with (first | ((with_reducible refine gate_callee (f := 21) rfl ?_); refine goesL_ (some 4) rfl rfl Try.func21 (by kernel_rfl) rfl #[.string a0] rfl (by (try simp only [List.map_toArray, List.map_cons, List.map_nil]); first | done | rfl | (simp only [List.length_drop, List.length_take]; rfl)) ?_; (with_reducible refine (laws_clean.calls k a0 false _ A2.out).mono ?_); rintro e w' ⟨rfl, ⟨nd, rfl⟩⟩; refine ⟨_, rfl, ?_⟩))
    go_ret
    exact ⟨by first | rfl | (simp [errW_none, errW_some] <;> rfl) | (simp [*, errW_none, errW_some] <;> rfl), by repeat (first | (with_reducible first | exact HB.out | apply below_alloc | apply pw_below_drewN | apply below_drew1) | exact HB.out)⟩

/-! ### server_tokenizeSubjectIntoSlice: function 38 -/
def server_tokenizeSubjectIntoSlice.l0 : Nat → List ByteArray → ByteArray → Int → Int → Option (List ByteArray)
  | 0, _, _, _, _ => none
  | k + 1, x0, x1, x5, x6 => if x6 < (x1.size : Int) then (if 0 ≤ x6 then (if (bt x1 x6) = 46 then (if 0 ≤ x5 then (if x5 ≤ x6 then (if x6 ≤ (x1.size : Int) then (if x0.length < 8796093022208 then (server_tokenizeSubjectIntoSlice.l0 k (x0 ++ [x1.extract (x5 : Int).toNat (x6 : Int).toNat]) x1 (wrap64 (x6 + 1)) (wrap64 (x6 + 1))) else (none)) else (none)) else (none)) else (none)) else (server_tokenizeSubjectIntoSlice.l0 k x0 x1 x5 (wrap64 (x6 + 1)))) else (none)) else (if 0 ≤ x5 then (if x5 ≤ (x1.size : Int) then (if x0.length < 8796093022208 then (some (x0 ++ [x1.extract (x5 : Int).toNat x1.size])) else (none)) else (none)) else (none))
def server_tokenizeSubjectIntoSlice.f (k : Nat) (l0 : List ByteArray) (a1 : ByteArray) : Option (List ByteArray) := server_tokenizeSubjectIntoSlice.l0 k l0 a1 0 0
theorem server_tokenizeSubjectIntoSlice.mono_l : ∀ k, (∀ y0 y1 y2 y3, LeO (server_tokenizeSubjectIntoSlice.l0 k y0 y1 y2 y3) (server_tokenizeSubjectIntoSlice.l0 (k + 1) y0 y1 y2 y3))
  | 0 => fun _ _ _ _ r h => by simp [server_tokenizeSubjectIntoSlice.l0] at h
  | k + 1 => by
    have ih0 := server_tokenizeSubjectIntoSlice.mono_l k
    · intro y0 y1 y2 y3
      unfold server_tokenizeSubjectIntoSlice.l0
      repeat' first
      | (with_reducible exact ih0 _ _ _ _)
      | (with_reducible exact LeO.refl _)
      | (with_reducible exact LeO.none _)
      | (with_reducible refine LeO.ite ?_ ?_)
      | (with_reducible refine LeO.bind ?_ (fun _ => ?_))
      | exact ih0 _ _ _ _
      | exact LeO.none _
      | refine LeO.ite ?_ ?_
      | refine LeO.bind ?_ (fun _ => ?_)
theorem server_tokenizeSubjectIntoSlice.mono : ∀ a0 a1 k, LeO (server_tokenizeSubjectIntoSlice.f k a0 a1) (server_tokenizeSubjectIntoSlice.f (k + 1) a0 a1) := by
  intro a0 a1 k
  have ih0 := server_tokenizeSubjectIntoSlice.mono_l k
  unfold server_tokenizeSubjectIntoSlice.f
  repeat' first
      | (with_reducible exact ih0 _ _ _ _)
      | (with_reducible exact LeO.refl _)
      | (with_reducible exact LeO.none _)
      | (with_reducible refine LeO.ite ?_ ?_)
      | (with_reducible refine LeO.bind ?_ (fun _ => ?_))
      | exact ih0 _ _ _ _
      | exact LeO.none _
      | refine LeO.ite ?_ ?_
      | refine LeO.bind ?_ (fun _ => ?_)
set_option maxHeartbeats 8000000 in
set_option maxRecDepth 100000 in
theorem server_tokenizeSubjectIntoSlice.calls (k : Nat) (P0_ : Nat → Prop) (u9000_ : Value) (l0 : List ByteArray) (a1 : ByteArray) (r : List ByteArray) (w0 w : World) (hB : Below w0.heap.size w0 w) (ho0 : Kd.R Kd.string 9 w w0.heap.size P0_ u9000_ l0) (h : server_tokenizeSubjectIntoSlice.f k l0 a1 = some r) :
    Calls Try.prog 38 #[u9000_, .string a1] w fun e w' => ∃ v0_ : Value, e = .returned (v0_) ∧ Kd.R Kd.string 9 w' w0.heap.size (fun k_ => (P0_ k_ ∨ w.heap.size ≤ k_)) v0_ r ∧ Below w0.heap.size w0 w' ∧ Kept w w' (fun k_ => P0_ k_) := by
  have HO0 := Aside0.mk (show Kd.R Kd.string 9 w w0.heap.size (fun k_ => (P0_ k_ ∨ w.heap.size ≤ k_)) u9000_ l0 from Kd.R_mono ho0 (fun k_ hk => (.inl hk)))
  have HK := Aside0.mk (Kept.refl w (fun k_ => P0_ k_))
  have HW0 := Aside0.mk hB.size
  have HB := Aside0.mk hB
  clear hB
  have H : (server_tokenizeSubjectIntoSlice.l0 k l0 a1 0 0) = some r := h
  clear h
  have H' := Aside0.mk H
  clear H
  go_enter Try.func38, Try.ntmps38
  go_wp2
  go_loopg [0, 5, 6] k (fun kq v0 v5 v6 w' => ∃ (x0_1 : List ByteArray) (x5_1 : Int) (x6_1 : Int), v5 = .int .i64 x5_1 ∧ v6 = .int .i64 x6_1 ∧ Aside0 (server_tokenizeSubjectIntoSlice.l0 kq x0_1 a1 x5_1 x6_1 = some r) ∧ Aside0 (kq ≤ k) ∧ Aside0 (Kd.R Kd.string 9 w' w0.heap.size (fun k_ => (P0_ k_ ∨ w.heap.size ≤ k_)) v0 x0_1) ∧ Aside0 (Kept w w' (fun k_ => P0_ k_)) ∧ Aside0 (Below w0.heap.size w0 w'))
  case atStart => exact ⟨(l0), (0), (0), (by first | rfl | (simp; done) | (simp [*]; done)), (by first | rfl | (simp; done) | (simp [*]; done)), H', ⟨Nat.le_refl _⟩, ⟨by (with_reducible repeat (first | apply Kd.R_alloc | apply Kd.R_drewN | apply Kd.R_drew)); exact HO0.out⟩, ⟨by repeat (first | (with_reducible first | exact HK.out | apply Kept.alloc | apply Kept.drewN | apply Kept.drew) | exact HK.out)⟩, ⟨by repeat (first | (with_reducible first | exact HB.out | apply below_alloc | apply pw_below_drewN | apply below_drew1) | exact HB.out)⟩⟩
  case round =>
    clear H'
    try clear p2
    obtain ⟨x0_1, x5_1, x6_1, rfl, rfl, HA, HK1, HO_0, HK, HB⟩ := hrel
    cases gk with
    | zero => exact absurd HA.out (by simp [server_tokenizeSubjectIntoSlice.l0])
    | succ k1 =>
      have H := HA.out
      clear HA
      simp only [server_tokenizeSubjectIntoSlice.l0] at H
      by_cases c3 : x6_1 < (a1.size : Int)
      · rw [if_pos c3] at H
        have c3b0 : decide (x6_1 < (a1.size : Int)) = true := decide_eq_true c3
        clear c3
        by_cases c4 : 0 ≤ x6_1
        · rw [if_pos c4] at H
          have c4b0 : decide (0 ≤ x6_1) = true := decide_eq_true c4
          clear c4
          by_cases c6 : (bt a1 x6_1) = 46
          · rw [if_pos c6] at H
            have c6b0 : ((bt a1 x6_1) == 46) = true := beq_iff_eq.mpr c6
            have c6b1 : ((bt a1 x6_1) != 46) = false := bne_eq_false_iff_eq.mpr c6
            clear c6
            by_cases c7 : 0 ≤ x5_1
            · rw [if_pos c7] at H
              have c7b0 := eq_true c7
              have c7b1 : decide (0 ≤ x5_1) = true := decide_eq_true c7
              clear c7
              by_cases c8 : x5_1 ≤ x6_1
              · rw [if_pos c8] at H
                have c8b0 := eq_true c8
                have c8b1 : decide (x5_1 ≤ x6_1) = true := decide_eq_true c8
                clear c8
                by_cases c9 : x6_1 ≤ (a1.size : Int)
                · rw [if_pos c9] at H
                  have c9b0 := eq_true c9
                  have c9b1 : decide (x6_1 ≤ (a1.size : Int)) = true := decide_eq_true c9
                  clear c9
                  by_cases c10 : x0_1.length < 8796093022208
                  · rw [if_pos c10] at H
                    have LMc10 := Aside0.mk c10
                    clear c10
                    obtain ⟨y125, hy125⟩ : ∃ y_ : List ByteArray, y_ = (x0_1 ++ [a1.extract (x5_1 : Int).toNat (x6_1 : Int).toNat]) := ⟨_, rfl⟩
                    replace H : (server_tokenizeSubjectIntoSlice.l0 k1 y125 a1 (wrap64 (x6_1 + 1)) (wrap64 (x6_1 + 1))) = some r := by first | (rw [hy125]; with_reducible exact H) | (have H2_ := (Option.bind_some _ _).symm.trans H; rw [hy125]; with_reducible exact H2_) | (have H2_ := (Option.bind_some _ _).symm.trans H; with_reducible exact H2_) | with_reducible exact H | (rw [hy125]; exact H) | exact H
                    have Ny125 := Aside0.mk hy125
                    clear hy125
                    have H' := Aside0.mk H
                    clear H
                    have p5 : 0 ≤ (x6_1 : Int) := of_decide_eq_true (by first | (with_reducible assumption) | assumption)
                    have q5 : x6_1 < (a1.size : Int) := of_decide_eq_true (by first | (with_reducible assumption) | assumption)
                    have hx5 := bt_at a1 x6_1
                    replace p5 := eq_true p5
                    replace q5 := eq_true q5
                    go_wp2_with (first | ((with_reducible refine gate_builtin (b := .append) (xs := #[.tmp 17, .tmp 22]) rfl ?_); at_builtin; refine Kd.R_append Kd.string (w0 := w0) w0.heap.size rfl (.tmp 17) (.tmp 22) 31 9 (.string ⟨#[]⟩) 16 rfl Try.underlying31 info9 rfl (by decide) (by omega) u0 x0_1 (a1.extract (x5_1 : Int).toNat (x6_1 : Int).toNat) [.string (a1.extract (x5_1 : Int).toNat (x6_1 : Int).toNat)] (fun k_ => (P0_ k_ ∨ w.heap.size ≤ k_)) (fun _ => False) rfl rfl ?aP (fun _ hk => hk.elim) ?aF ?aO ?aB ?aS ?aL ?_; (case aP => exact rfl); (case aB => exact (by repeat (first | (with_reducible first | exact HB.out | apply below_alloc | apply pw_below_drewN | apply below_drew1) | exact HB.out))); (case aF => exact (fun k_ hk => (.inr (Nat.le_trans (by first | exact HK.out.1 | exact (show Kept w _ (fun k_ => P0_ k_) from by repeat (first | (with_reducible first | exact HK.out | apply Kept.alloc | apply Kept.drewN | apply Kept.drew) | exact HK.out)).1) hk)))); (case aO => exact (by (with_reducible repeat (first | apply Kd.R_alloc | apply Kd.R_drewN | apply Kd.R_drew)); exact HO_0.out)); (case aS => exact (below_size (by repeat (first | (with_reducible first | exact HB.out | apply below_alloc | apply pw_below_drewN | apply below_drew1) | exact HB.out)))); (case aL => have := LMc10.out; omega); intro v126 w11 ho hb hg hat; rw [← Ny125.out] at ho; have n0_ := Aside0.mk (hb); have n1_ := Aside0.mk (Kept.of_grown (S := (fun k_ => P0_ k_)) hg (by repeat (first | (with_reducible first | exact HK.out | apply Kept.alloc | apply Kept.drewN | apply Kept.drew) | exact HK.out)) (fun k_ e_ => (HO_0.out.1 k_ e_))); have n2_ := Aside0.mk (ho); clear HB; clear HK; clear HO_0; have HB := n0_; have HK := n1_; have HO127 := n2_; clear n0_ n1_ n2_; clear ho hb hg hat))
                    go_roundg k1
                    case measure => have := HK1.out; omega
                    case rel => exact ⟨(y125), (wrap64 (x6_1 + 1)), (wrap64 (x6_1 + 1)), (by first | rfl | (simp; done) | (simp [*]; done)), (by first | rfl | (simp; done) | (simp [*]; done)), H', ⟨by have := HK1.out; omega⟩, ⟨by (with_reducible repeat (first | apply Kd.R_alloc | apply Kd.R_drewN | apply Kd.R_drew)); exact HO127.out⟩, ⟨by repeat (first | (with_reducible first | exact HK.out | apply Kept.alloc | apply Kept.drewN | apply Kept.drew) | exact HK.out)⟩, ⟨by repeat (first | (with_reducible first | exact HB.out | apply below_alloc | apply pw_below_drewN | apply below_drew1) | exact HB.out)⟩⟩
                  · rw [if_neg c10] at H
                    exact absurd H (by simp)
                · rw [if_neg c9] at H
                  exact absurd H (by simp)
              · rw [if_neg c8] at H
                exact absurd H (by simp)
            · rw [if_neg c7] at H
              exact absurd H (by simp)
          · rw [if_neg c6] at H
            have c6b0 : ((bt a1 x6_1) == 46) = false := beq_eq_false_iff_ne.mpr c6
            have c6b1 : ((bt a1 x6_1) != 46) = true := bne_iff_ne.mpr c6
            have H' := Aside0.mk H
            clear H
            have p5 : 0 ≤ (x6_1 : Int) := of_decide_eq_true (by first | (with_reducible assumption) | assumption)
            have q5 : x6_1 < (a1.size : Int) := of_decide_eq_true (by first | (with_reducible assumption) | assumption)
            have hx5 := bt_at a1 x6_1
            replace p5 := eq_true p5
            replace q5 := eq_true q5
            go_wp2
            go_roundg k1
            case measure => have := HK1.out; omega
            case rel => exact ⟨(x0_1), (x5_1), (wrap64 (x6_1 + 1)), (by first | rfl | (simp; done) | (simp [*]; done)), (by first | rfl | (simp; done) | (simp [*]; done)), H', ⟨by have := HK1.out; omega⟩, ⟨by (with_reducible repeat (first | apply Kd.R_alloc | apply Kd.R_drewN | apply Kd.R_drew)); exact HO_0.out⟩, ⟨by repeat (first | (with_reducible first | exact HK.out | apply Kept.alloc | apply Kept.drewN | apply Kept.drew) | exact HK.out)⟩, ⟨by repeat (first | (with_reducible first | exact HB.out | apply below_alloc | apply pw_below_drewN | apply below_drew1) | exact HB.out)⟩⟩
        · rw [if_neg c4] at H
          exact absurd H (by simp)
      · rw [if_neg c3] at H
        have c3b0 : decide (x6_1 < (a1.size : Int)) = false := decide_eq_false c3
        clear c3
        by_cases c12 : 0 ≤ x5_1
        · rw [if_pos c12] at H
          have c12b0 := eq_true c12
          have c12b1 : decide (0 ≤ x5_1) = true := decide_eq_true c12
          clear c12
          by_cases c13 : x5_1 ≤ (a1.size : Int)
          · rw [if_pos c13] at H
            have c13b0 := eq_true c13
            have c13b1 : decide (x5_1 ≤ (a1.size : Int)) = true := decide_eq_true c13
            clear c13
            by_cases c14 : x0_1.length < 8796093022208
            · rw [if_pos c14] at H
              have LMc14 := Aside0.mk c14
              clear c14
              obtain ⟨y128, hy128⟩ : ∃ y_ : List ByteArray, y_ = (x0_1 ++ [a1.extract (x5_1 : Int).toNat a1.size]) := ⟨_, rfl⟩
              replace H : (some y128) = some r := by first | (rw [hy128]; with_reducible exact H) | (have H2_ := (Option.bind_some _ _).symm.trans H; rw [hy128]; with_reducible exact H2_) | (have H2_ := (Option.bind_some _ _).symm.trans H; with_reducible exact H2_) | with_reducible exact H | (rw [hy128]; exact H) | exact H
              have Ny128 := Aside0.mk hy128
              clear hy128
              obtain rfl := Option.some.inj H
              go_wp2_with (first | ((with_reducible refine gate_builtin (b := .append) (xs := #[.tmp 26, .tmp 30]) rfl ?_); at_builtin; refine Kd.R_append Kd.string (w0 := w0) w0.heap.size rfl (.tmp 26) (.tmp 30) 31 9 (.string ⟨#[]⟩) 16 rfl Try.underlying31 info9 rfl (by decide) (by omega) u0 x0_1 (a1.extract (x5_1 : Int).toNat a1.size) [.string (a1.extract (x5_1 : Int).toNat a1.size)] (fun k_ => (P0_ k_ ∨ w.heap.size ≤ k_)) (fun _ => False) rfl rfl ?aP (fun _ hk => hk.elim) ?aF ?aO ?aB ?aS ?aL ?_; (case aP => exact rfl); (case aB => exact (by repeat (first | (with_reducible first | exact HB.out | apply below_alloc | apply pw_below_drewN | apply below_drew1) | exact HB.out))); (case aF => exact (fun k_ hk => (.inr (Nat.le_trans (by first | exact HK.out.1 | exact (show Kept w _ (fun k_ => P0_ k_) from by repeat (first | (with_reducible first | exact HK.out | apply Kept.alloc | apply Kept.drewN | apply Kept.drew) | exact HK.out)).1) hk)))); (case aO => exact (by (with_reducible repeat (first | apply Kd.R_alloc | apply Kd.R_drewN | apply Kd.R_drew)); exact HO_0.out)); (case aS => exact (below_size (by repeat (first | (with_reducible first | exact HB.out | apply below_alloc | apply pw_below_drewN | apply below_drew1) | exact HB.out)))); (case aL => have := LMc14.out; omega); intro v129 w15 ho hb hg hat; rw [← Ny128.out] at ho; have n0_ := Aside0.mk (hb); have n1_ := Aside0.mk (Kept.of_grown (S := (fun k_ => P0_ k_)) hg (by repeat (first | (with_reducible first | exact HK.out | apply Kept.alloc | apply Kept.drewN | apply Kept.drew) | exact HK.out)) (fun k_ e_ => (HO_0.out.1 k_ e_))); have n2_ := Aside0.mk (ho); clear HB; clear HK; clear HO_0; have HB := n0_; have HK := n1_; have HO130 := n2_; clear n0_ n1_ n2_; clear ho hb hg hat))
              go_ret
              exact ⟨_, by first | rfl | (simp [errW_none, errW_some] <;> rfl) | (simp [*, errW_none, errW_some] <;> rfl), by (with_reducible repeat (first | apply Kd.R_alloc | apply Kd.R_drewN | apply Kd.R_drew)); exact HO130.out, by repeat (first | (with_reducible first | exact HB.out | apply below_alloc | apply pw_below_drewN | apply below_drew1) | exact HB.out), by repeat (first | (with_reducible first | exact HK.out | apply Kept.alloc | apply Kept.drewN | apply Kept.drew) | exact HK.out)⟩
            · rw [if_neg c14] at H
              exact absurd H (by simp)
          · rw [if_neg c13] at H
            exact absurd H (by simp)
        · rw [if_neg c12] at H
          exact absurd H (by simp)

-- NOT PRINTED: function 53 (bytealg_abigen_runtime_cmpstring)

/-! ### bytealg_CompareString: function 48 -/
def bytealg_CompareString.f (a0 : ByteArray) (a1 : ByteArray) : Option (Int) := none
set_option maxHeartbeats 8000000 in
set_option maxRecDepth 100000 in
theorem bytealg_CompareString.calls (a0 : ByteArray) (a1 : ByteArray) (r : Int) (w : World) (h : bytealg_CompareString.f a0 a1 = some r) :
    Calls Try.prog 48 #[.string a0, .string a1] w fun e w' => e = .returned (.int .i64 r) ∧ Drawn0 w w' := by
  have H : (none) = some r := h
  clear h
  exact absurd H (by simp)

/-! ### strings_Compare: function 46 (by hand) -/
def strings_Compare.f (a0 a1 : ByteArray) : Option Int := some (Lib.compareBytes a0.data.toList a1.data.toList)
theorem strings_Compare.calls (a0 a1 : ByteArray) (r : Int) (w : World) (h : strings_Compare.f a0 a1 = some r) :
    Calls Try.prog 46 #[.string a0, .string a1] w fun e w' => e = .returned (.int .i64 r) ∧ Drawn0 w w' := by
  obtain rfl := Option.some.inj h
  refine (Try.strings_Compare a0 a1 w).mono ?_
  rintro e w' ⟨rfl, rfl⟩
  exact ⟨rfl, Drawn0.refl _⟩

end Go.Proofs.Ytgbdjinanflhaaa.GFnSubsetMeans
