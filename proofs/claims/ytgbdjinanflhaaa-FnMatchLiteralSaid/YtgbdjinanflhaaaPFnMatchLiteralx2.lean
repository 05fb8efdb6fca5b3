-- PRINTED BY print.sh 35421559b90ae4d0a3588c463048766b98c2df88dd9212a6774a882060cdf62d: not written by this session
import Derived.Test.YtgbdjinanflhaaaPFnMatchLiteralx0
import Derived.Test.YtgbdjinanflhaaaPFnMatchLiteralx1
namespace Go.Proofs.Ytgbdjinanflhaaa.PFnMatchLiteral
open Go.RowKit Go.Proofs.YtgbdjinanflhaaaW.PrintWords Go.Proofs.YtgbdjinanflhaaaW.PrintLast Go.Proofs.YtgbdjinanflhaaaW.PrintMore
attribute [local go_sem] max2_int min2_int max_two min_two max_three min_three max_four min_four   -- for this text's walks alone
set_option linter.unusedVariables false
set_option linter.unusedSimpArgs false

/-! ### laws_tame: function 23 -/
mutual
def laws_tame.l0 : Nat → List ByteArray → Int → Option (Bool)
  | 0, _, _ => none
  | k + 1, x3, x4 => if x4 < (x3.length : Int) then (laws_tame.l1 k x3 x4 0) else (some true)
def laws_tame.l1 : Nat → List ByteArray → Int → Int → Option (Bool)
  | 0, _, _, _ => none
  | k + 1, x3, x4, x5 => if 0 ≤ x4 then (if x4 < (x3.length : Int) then (if x5 < ((rdOf ByteArray.empty x3 x4).size : Int) then (laws_tame.j2 k x3 x4 x5 (decide (((rdOf ByteArray.empty x3 x4).size : Int) > 1))) else (laws_tame.j2 k x3 x4 x5 false)) else (none)) else (none)
def laws_tame.j2 : Nat → List ByteArray → Int → Int → Bool → Option (Bool)
  | 0, _, _, _, _ => none
  | k + 1, x3, x4, x5, x28 => if x28 = true then (if 0 ≤ x4 then (if x4 < (x3.length : Int) then (if 0 ≤ x5 then (if x5 < ((rdOf ByteArray.empty x3 x4).size : Int) then (if (bt (rdOf ByteArray.empty x3 x4) x5) = 42 then (some false) else (if (bt (rdOf ByteArray.empty x3 x4) x5) = 62 then (some false) else (laws_tame.l1 k x3 x4 (wrap64 (x5 + 1))))) else (none)) else (none)) else (none)) else (none)) else (laws_tame.l0 k x3 (wrap64 (x4 + 1)))
end
def laws_tame.f (k : Nat) (a0 : ByteArray) : Option (Bool) := (spec_Tokens.f k a0).bind fun t115 => (laws_tame.l0 k t115 0)
theorem laws_tame.mono_l : ∀ k, (∀ y0 y1, LeO (laws_tame.l0 k y0 y1) (laws_tame.l0 (k + 1) y0 y1)) ∧ (∀ y0 y1 y2, LeO (laws_tame.l1 k y0 y1 y2) (laws_tame.l1 (k + 1) y0 y1 y2)) ∧ (∀ y0 y1 y2 y3, LeO (laws_tame.j2 k y0 y1 y2 y3) (laws_tame.j2 (k + 1) y0 y1 y2 y3))
  | 0 => ⟨fun _ _ r h => by simp [laws_tame.l0] at h, fun _ _ _ r h => by simp [laws_tame.l1] at h, fun _ _ _ _ r h => by simp [laws_tame.j2] at h⟩
  | k + 1 => by
    obtain ⟨ih0, ih1, ih2⟩ := laws_tame.mono_l k
    refine ⟨?_, ?_, ?_⟩
    · intro y0 y1
      unfold laws_tame.l0
      repeat' first
      | (with_reducible exact ih0 _ _)
      | (with_reducible exact ih1 _ _ _)
      | (with_reducible exact ih2 _ _ _ _)
      | (with_reducible exact spec_Tokens.mono _ _)
      | (with_reducible exact LeO.refl _)
      | (with_reducible exact LeO.none _)
      | (with_reducible refine LeO.ite ?_ ?_)
      | (with_reducible refine LeO.bind ?_ (fun _ => ?_))
      | exact ih0 _ _
      | exact ih1 _ _ _
      | exact ih2 _ _ _ _
      | exact spec_Tokens.mono _ _
      | exact LeO.none _
      | refine LeO.ite ?_ ?_
      | refine LeO.bind ?_ (fun _ => ?_)
    · intro y0 y1 y2
      unfold laws_tame.l1
      repeat' first
      | (with_reducible exact ih0 _ _)
      | (with_reducible exact ih1 _ _ _)
      | (with_reducible exact ih2 _ _ _ _)
      | (with_reducible exact spec_Tokens.mono _ _)
      | (with_reducible exact LeO.refl _)
      | (with_reducible exact LeO.none _)
      | (with_reducible refine LeO.ite ?_ ?_)
      | (with_reducible refine LeO.bind ?_ (fun _ => ?_))
      | exact ih0 _ _
      | exact ih1 _ _ _
      | exact ih2 _ _ _ _
      | exact spec_Tokens.mono _ _
      | exact LeO.none _
      | refine LeO.ite ?_ ?_
      | refine LeO.bind ?_ (fun _ => ?_)
    · intro y0 y1 y2 y3
      unfold laws_tame.j2
      repeat' first
      | (with_reducible exact ih0 _ _)
      | (with_reducible exact ih1 _ _ _)
      | (with_reducible exact ih2 _ _ _ _)
      | (with_reducible exact spec_Tokens.mono _ _)
      | (with_reducible exact LeO.refl _)
      | (with_reducible exact LeO.none _)
      | (with_reducible refine LeO.ite ?_ ?_)
      | (with_reducible refine LeO.bind ?_ (fun _ => ?_))
      | exact ih0 _ _
      | exact ih1 _ _ _
      | exact ih2 _ _ _ _
      | exact spec_Tokens.mono _ _
      | exact LeO.none _
      | refine LeO.ite ?_ ?_
      | refine LeO.bind ?_ (fun _ => ?_)
theorem laws_tame.mono : ∀ a0 k, LeO (laws_tame.f k a0) (laws_tame.f (k + 1) a0) := by
  intro a0 k
  obtain ⟨ih0, ih1, ih2⟩ := laws_tame.mono_l k
  unfold laws_tame.f
  repeat' first
      | (with_reducible exact ih0 _ _)
      | (with_reducible exact ih1 _ _ _)
      | (with_reducible exact ih2 _ _ _ _)
      | (with_reducible exact spec_Tokens.mono _ _)
      | (with_reducible exact LeO.refl _)
      | (with_reducible exact LeO.none _)
      | (with_reducible refine LeO.ite ?_ ?_)
      | (with_reducible refine LeO.bind ?_ (fun _ => ?_))
      | exact ih0 _ _
      | exact ih1 _ _ _
      | exact ih2 _ _ _ _
      | exact spec_Tokens.mono _ _
      | exact LeO.none _
      | refine LeO.ite ?_ ?_
      | refine LeO.bind ?_ (fun _ => ?_)
set_option maxHeartbeats 8000000 in
set_option maxRecDepth 100000 in
theorem laws_tame.calls (k : Nat) (a0 : ByteArray) (r : Bool) (w : World) (h : laws_tame.f k a0 = some r) :
    Calls Try.prog 23 #[.string a0] w fun e w' => e = .returned (.bool r) ∧ Below w.heap.size w w' := by
  have HB := Aside0.mk (Below.refl w.heap.size w)
  have H : ((spec_Tokens.f k a0).bind fun t115 => (laws_tame.l0 k t115 0)) = some r := h
  clear h
  replace H := Option.bind_eq_some_iff.mp H
  obtain ⟨t115, A20, H⟩ := H
  replace H : (laws_tame.l0 k t115 0) = some r := H
  have A2 := Aside0.mk A20
  clear A20
  have H' := Aside0.mk H
  clear H
  go_enter Try.func23, Try.ntmps23
  go_wp2_with (first | ((with_reducible refine gate_callee (f := 26) rfl ?_); refine goesL_ (some 7) rfl rfl Try.func26 (by kernel_rfl) rfl #[.string a0] rfl (by (try simp only [List.map_toArray, List.map_cons, List.map_nil]); first | done | rfl | (simp only [List.length_drop, List.length_take]; rfl)) ?_; (with_reducible refine (spec_Tokens.calls k a0 t115 _ A2.out).mono ?_); rintro e w3 ⟨v116, rfl, ho0, hb⟩; refine ⟨_, rfl, ?_⟩; have n0_ := Aside0.mk (Kd.R_lower ho0 (below_size (by repeat (first | (with_reducible first | exact HB.out | apply below_alloc | apply pw_below_drewN | apply below_drew1) | exact HB.out)))); have n1_ := Aside0.mk (below_step (by repeat (first | (with_reducible first | exact HB.out | apply below_alloc | apply pw_below_drewN | apply below_drew1) | exact HB.out)) hb); clear HB; have HO117 := n0_; have HB := n1_; clear n0_ n1_; (try clear hb); (try clear hb2); (try clear hk); (try clear hi); (try clear ho0)))
  go_loopg [4] k (fun kq v4 w' => ∃ (x4_1 : Int), v4 = .int .i64 x4_1 ∧ Aside0 (laws_tame.l0 kq t115 x4_1 = some r) ∧ Aside0 (kq ≤ k) ∧ Aside0 (Kd.R Kd.string 9 w' w.heap.size (fun _ => True) v116 t115) ∧ Aside0 (Below w.heap.size w w'))
  case atStart => exact ⟨(0), (by first | rfl | (simp; done) | (simp [*]; done)), H', ⟨Nat.le_refl _⟩, ⟨by (with_reducible repeat (first | apply Kd.R_alloc | apply Kd.R_drewN | apply Kd.R_drew)); exact HO117.out⟩, ⟨by repeat (first | (with_reducible first | exact HB.out | apply below_alloc | apply pw_below_drewN | apply below_drew1) | exact HB.out)⟩⟩
  case round =>
    clear H'
    try clear c2
    try clear p2
    obtain ⟨x4_1, rfl, HA, HK1, HO_3, HB⟩ := hrel
    cases gk with
    | zero => exact absurd HA.out (by simp [laws_tame.l0])
    | succ k1 =>
      have H := HA.out
      clear HA
      simp only [laws_tame.l0] at H
      by_cases c4 : x4_1 < (t115.length : Int)
      · rw [if_pos c4] at H
        have c4b0 : decide (x4_1 < (t115.length : Int)) = true := decide_eq_true c4
        clear c4
        have H' := Aside0.mk H
        clear H
        obtain ⟨Ao5, co5, eo5⟩ := Kd.R_slice HO_3.out
        subst eo5
        go_wp2
        go_loopg [5] k1 (fun kq v5 w' => ∃ (x5_2 : Int), v5 = .int .i64 x5_2 ∧ Aside0 (laws_tame.l1 kq t115 x4_1 x5_2 = some r) ∧ Aside0 (kq ≤ k1) ∧ Aside0 (Kd.R Kd.string 9 w' w.heap.size (fun _ => True) (.slice Ao5 t115.length co5) t115) ∧ Aside0 (Below w.heap.size w w'))
        case atStart => exact ⟨(0), (by first | rfl | (simp; done) | (simp [*]; done)), H', ⟨Nat.le_refl _⟩, ⟨by (with_reducible repeat (first | apply Kd.R_alloc | apply Kd.R_drewN | apply Kd.R_drew)); exact HO_3.out⟩, ⟨by repeat (first | (with_reducible first | exact HB.out | apply below_alloc | apply pw_below_drewN | apply below_drew1) | exact HB.out)⟩⟩
        case round =>
          clear H'
          try clear c2
          try clear p2
          try clear c4
          try clear c4b0
          try clear p2
          obtain ⟨x5_2, rfl, HA, HK2, HO_3, HB⟩ := hrel
          cases gk with
          | zero => exact absurd HA.out (by simp [laws_tame.l1])
          | succ k2 =>
            have H := HA.out
            clear HA
            simp only [laws_tame.l1] at H
            have HC6 := Aside0.mk H
            clear H
            go_upto_region 6 with (fail)
            go_cut [28] (fun v28 wc => ∃ (kq : Nat) (x28_5 : Bool), v28 = .bool x28_5 ∧ Aside0 (laws_tame.j2 kq t115 x4_1 x5_2 x28_5 = some r) ∧ Aside0 (kq ≤ k2) ∧ Aside0 (Kd.R Kd.string 9 wc w.heap.size (fun _ => True) (.slice Ao5 t115.length co5) t115) ∧ Aside0 (Below w.heap.size w wc))
            case first =>
              have H := HC6.out
              clear HC6
              by_cases c7 : 0 ≤ x4_1
              · rw [if_pos c7] at H
                have c7b0 : decide (0 ≤ x4_1) = true := decide_eq_true c7
                clear c7
                (first | rw [c7b0] | (simp only [i64_w, i32_w]; rw [c7b0]) | skip)
                by_cases c8 : x4_1 < (t115.length : Int)
                · rw [if_pos c8] at H
                  have c8b0 : decide (x4_1 < (t115.length : Int)) = true := decide_eq_true c8
                  clear c8
                  by_cases c9 : x5_2 < ((rdOf ByteArray.empty t115 x4_1).size : Int)
                  · rw [if_pos c9] at H
                    have c9b0 : decide (x5_2 < ((rdOf ByteArray.empty t115 x4_1).size : Int)) = true := decide_eq_true c9
                    clear c9
                    have H' := Aside0.mk H
                    clear H
                    have p118 : 0 ≤ (x4_1 : Int) := of_decide_eq_true (by first | (with_reducible assumption) | assumption)
                    have q118 : x4_1 < (t115.length : Int) := of_decide_eq_true (by first | (with_reducible assumption) | assumption)
                    obtain ⟨ad118, e118, hx118_0⟩ := Kd.at_string (Kd.R_reads' HO_3.out).2.2 x4_1 p118 q118
                    cases e118
                    replace p118 := eq_true p118
                    replace q118 := eq_true q118
                    have p119 : 0 ≤ (x4_1 : Int) := of_decide_eq_true (by first | (with_reducible assumption) | assumption)
                    have q119 : x4_1 < (t115.length : Int) := of_decide_eq_true (by first | (with_reducible assumption) | assumption)
                    obtain ⟨ad119, e119, hx119_0⟩ := Kd.at_string (Kd.R_reads' HO_3.out).2.2 x4_1 p119 q119
                    obtain rfl : ad118 = ad119 := (by injection e119)
                    replace p119 := eq_true p119
                    replace q119 := eq_true q119
                    go_wp2
                    go_meet
                    case rel => exact ⟨_, (decide (((rdOf ByteArray.empty t115 x4_1).size : Int) > 1)), (by first | rfl | (simp; done) | (simp [*]; done)), H', ⟨by have := HK1.out; have := HK2.out; first | omega | exact Nat.le_refl _⟩, ⟨by (with_reducible repeat (first | apply Kd.R_alloc | apply Kd.R_drewN | apply Kd.R_drew)); exact HO_3.out⟩, ⟨by repeat (first | (with_reducible first | exact HB.out | apply below_alloc | apply pw_below_drewN | apply below_drew1) | exact HB.out)⟩⟩
                  · rw [if_neg c9] at H
                    have c9b0 : decide (x5_2 < ((rdOf ByteArray.empty t115 x4_1).size : Int)) = false := decide_eq_false c9
                    clear c9
                    have H' := Aside0.mk H
                    clear H
                    have p118 : 0 ≤ (x4_1 : Int) := of_decide_eq_true (by first | (with_reducible assumption) | assumption)
                    have q118 : x4_1 < (t115.length : Int) := of_decide_eq_true (by first | (with_reducible assumption) | assumption)
                    obtain ⟨ad118, e118, hx118_0⟩ := Kd.at_string (Kd.R_reads' HO_3.out).2.2 x4_1 p118 q118
                    cases e118
                    replace p118 := eq_true p118
                    replace q118 := eq_true q118
                    go_wp2
                    go_meet
                    case rel => exact ⟨_, (false), (by first | rfl | (simp; done) | (simp [*]; done)), H', ⟨by have := HK1.out; have := HK2.out; first | omega | exact Nat.le_refl _⟩, ⟨by (with_reducible repeat (first | apply Kd.R_alloc | apply Kd.R_drewN | apply Kd.R_drew)); exact HO_3.out⟩, ⟨by repeat (first | (with_reducible first | exact HB.out | apply below_alloc | apply pw_below_drewN | apply below_drew1) | exact HB.out)⟩⟩
                · rw [if_neg c8] at H
                  exact absurd H (by simp)
              · rw [if_neg c7] at H
                exact absurd H (by simp)
            case rest =>
              clear HC6
              try clear p1
              try clear q1
              try clear hx1
              try clear c2
              try clear p2
              try clear c4
              try clear c4b0
              try clear c7
              try clear c7b0
              try clear c8
              try clear c8b0
              try clear c9
              try clear c9b0
              try clear hx118_0
              try clear hx119_0
              try clear p118
              try clear p119
              try clear p2
              try clear q118
              try clear q119
              obtain ⟨kq, x28_5, rfl, HA, HJ5, HO_3, HB⟩ := hcut
              cases kq with
              | zero => exact absurd HA.out (by simp [laws_tame.j2])
              | succ kj5 =>
                have H := HA.out
                clear HA
                simp only [laws_tame.j2] at H
                by_cases c10 : x28_5 = true
                · subst c10
                  have H1 : (if 0 ≤ x4_1 then (if x4_1 < (t115.length : Int) then (if 0 ≤ x5_2 then (if x5_2 < ((rdOf ByteArray.empty t115 x4_1).size : Int) then (if (bt (rdOf ByteArray.empty t115 x4_1) x5_2) = 42 then (some false) else (if (bt (rdOf ByteArray.empty t115 x4_1) x5_2) = 62 then (some false) else (laws_tame.l1 kj5 t115 x4_1 (wrap64 (x5_2 + 1))))) else (none)) else (none)) else (none)) else (none)) = some r := by rw [if_pos rfl] at H; exact H
                  clear H
                  have H := H1
                  clear H1
                  by_cases c11 : 0 ≤ x4_1
                  · rw [if_pos c11] at H
                    have c11b0 : decide (0 ≤ x4_1) = true := decide_eq_true c11
                    clear c11
                    by_cases c12 : x4_1 < (t115.length : Int)
                    · rw [if_pos c12] at H
                      have c12b0 : decide (x4_1 < (t115.length : Int)) = true := decide_eq_true c12
                      clear c12
                      by_cases c13 : 0 ≤ x5_2
                      · rw [if_pos c13] at H
                        have c13b0 : decide (0 ≤ x5_2) = true := decide_eq_true c13
                        clear c13
                        by_cases c14 : x5_2 < ((rdOf ByteArray.empty t115 x4_1).size : Int)
                        · rw [if_pos c14] at H
                          have c14b0 : decide (x5_2 < ((rdOf ByteArray.empty t115 x4_1).size : Int)) = true := decide_eq_true c14
                          clear c14
                          by_cases c16 : (bt (rdOf ByteArray.empty t115 x4_1) x5_2) = 42
                          · rw [if_pos c16] at H
                            have c16b0 : ((bt (rdOf ByteArray.empty t115 x4_1) x5_2) == 42) = true := beq_iff_eq.mpr c16
                            have c16b1 : ((bt (rdOf ByteArray.empty t115 x4_1) x5_2) != 42) = false := bne_eq_false_iff_eq.mpr c16
                            clear c16
                            obtain rfl := Option.some.inj H
                            have p120 : 0 ≤ (x4_1 : Int) := of_decide_eq_true (by first | (with_reducible assumption) | assumption)
                            have q120 : x4_1 < (t115.length : Int) := of_decide_eq_true (by first | (with_reducible assumption) | assumption)
                            obtain ⟨ad120, e120, hx120_0⟩ := Kd.at_string (Kd.R_reads' HO_3.out).2.2 x4_1 p120 q120
                            cases e120
                            replace p120 := eq_true p120
                            replace q120 := eq_true q120
                            have p15 : 0 ≤ (x5_2 : Int) := of_decide_eq_true (by first | (with_reducible assumption) | assumption)
                            have q15 : x5_2 < ((rdOf ByteArray.empty t115 x4_1).size : Int) := of_decide_eq_true (by first | (with_reducible assumption) | assumption)
                            have hx15 := bt_at (rdOf ByteArray.empty t115 x4_1) x5_2
                            replace p15 := eq_true p15
                            replace q15 := eq_true q15
                            go_wp2
                            go_ret
                            exact ⟨by first | rfl | (simp [errW_none, errW_some] <;> rfl) | (simp [*, errW_none, errW_some] <;> rfl), by repeat (first | (with_reducible first | exact HB.out | apply below_alloc | apply pw_below_drewN | apply below_drew1) | exact HB.out)⟩
                          · rw [if_neg c16] at H
                            have c16b0 : ((bt (rdOf ByteArray.empty t115 x4_1) x5_2) == 42) = false := beq_eq_false_iff_ne.mpr c16
                            have c16b1 : ((bt (rdOf ByteArray.empty t115 x4_1) x5_2) != 42) = true := bne_iff_ne.mpr c16
                            by_cases c18 : (bt (rdOf ByteArray.empty t115 x4_1) x5_2) = 62
                            · rw [if_pos c18] at H
                              have c18b0 : ((bt (rdOf ByteArray.empty t115 x4_1) x5_2) == 62) = true := beq_iff_eq.mpr c18
                              have c18b1 : ((bt (rdOf ByteArray.empty t115 x4_1) x5_2) != 62) = false := bne_eq_false_iff_eq.mpr c18
                              clear c18
                              obtain rfl := Option.some.inj H
                              have p120 : 0 ≤ (x4_1 : Int) := of_decide_eq_true (by first | (with_reducible assumption) | assumption)
                              have q120 : x4_1 < (t115.length : Int) := of_decide_eq_true (by first | (with_reducible assumption) | assumption)
                              obtain ⟨ad120, e120, hx120_0⟩ := Kd.at_string (Kd.R_reads' HO_3.out).2.2 x4_1 p120 q120
                              cases e120
                              replace p120 := eq_true p120
                              replace q120 := eq_true q120
                              have p15 : 0 ≤ (x5_2 : Int) := of_decide_eq_true (by first | (with_reducible assumption) | assumption)
                              have q15 : x5_2 < ((rdOf ByteArray.empty t115 x4_1).size : Int) := of_decide_eq_true (by first | (with_reducible assumption) | assumption)
                              have hx15 := bt_at (rdOf ByteArray.empty t115 x4_1) x5_2
                              replace p15 := eq_true p15
                              replace q15 := eq_true q15
                              have p121 : 0 ≤ (x4_1 : Int) := of_decide_eq_true (by first | (with_reducible assumption) | assumption)
                              have q121 : x4_1 < (t115.length : Int) := of_decide_eq_true (by first | (with_reducible assumption) | assumption)
                              obtain ⟨ad121, e121, hx121_0⟩ := Kd.at_string (Kd.R_reads' HO_3.out).2.2 x4_1 p121 q121
                              obtain rfl : ad120 = ad121 := (by injection e121)
                              replace p121 := eq_true p121
                              replace q121 := eq_true q121
                              have p17 : 0 ≤ (x5_2 : Int) := of_decide_eq_true (by first | (with_reducible assumption) | assumption)
                              have q17 : x5_2 < ((rdOf ByteArray.empty t115 x4_1).size : Int) := of_decide_eq_true (by first | (with_reducible assumption) | assumption)
                              have hx17 := bt_at (rdOf ByteArray.empty t115 x4_1) x5_2
                              replace p17 := eq_true p17
                              replace q17 := eq_true q17
                              go_wp2
                              go_ret
                              exact ⟨by first | rfl | (simp [errW_none, errW_some] <;> rfl) | (simp [*, errW_none, errW_some] <;> rfl), by repeat (first | (with_reducible first | exact HB.out | apply below_alloc | apply pw_below_drewN | apply below_drew1) | exact HB.out)⟩
                            · rw [if_neg c18] at H
                              have c18b0 : ((bt (rdOf ByteArray.empty t115 x4_1) x5_2) == 62) = false := beq_eq_false_iff_ne.mpr c18
                              have c18b1 : ((bt (rdOf ByteArray.empty t115 x4_1) x5_2) != 62) = true := bne_iff_ne.mpr c18
                              have H' := Aside0.mk H
                              clear H
                              have p120 : 0 ≤ (x4_1 : Int) := of_decide_eq_true (by first | (with_reducible assumption) | assumption)
                              have q120 : x4_1 < (t115.length : Int) := of_decide_eq_true (by first | (with_reducible assumption) | assumption)
                              obtain ⟨ad120, e120, hx120_0⟩ := Kd.at_string (Kd.R_reads' HO_3.out).2.2 x4_1 p120 q120
                              cases e120
                              replace p120 := eq_true p120
                              replace q120 := eq_true q120
                              have p15 : 0 ≤ (x5_2 : Int) := of_decide_eq_true (by first | (with_reducible assumption) | assumption)
                              have q15 : x5_2 < ((rdOf ByteArray.empty t115 x4_1).size : Int) := of_decide_eq_true (by first | (with_reducible assumption) | assumption)
                              have hx15 := bt_at (rdOf ByteArray.empty t115 x4_1) x5_2
                              replace p15 := eq_true p15
                              replace q15 := eq_true q15
                              have p121 : 0 ≤ (x4_1 : Int) := of_decide_eq_true (by first | (with_reducible assumption) | assumption)
                              have q121 : x4_1 < (t115.length : Int) := of_decide_eq_true (by first | (with_reducible assumption) | assumption)
                              obtain ⟨ad121, e121, hx121_0⟩ := Kd.at_string (Kd.R_reads' HO_3.out).2.2 x4_1 p121 q121
                              obtain rfl : ad120 = ad121 := (by injection e121)
                              replace p121 := eq_true p121
                              replace q121 := eq_true q121
                              have p17 : 0 ≤ (x5_2 : Int) := of_decide_eq_true (by first | (with_reducible assumption) | assumption)
                              have q17 : x5_2 < ((rdOf ByteArray.empty t115 x4_1).size : Int) := of_decide_eq_true (by first | (with_reducible assumption) | assumption)
                              have hx17 := bt_at (rdOf ByteArray.empty t115 x4_1) x5_2
                              replace p17 := eq_true p17
                              replace q17 := eq_true q17
                              go_wp2
                              go_roundg kj5
                              case measure => have := HK1.out; have := HK2.out; have := HJ5.out; omega
                              case rel => exact ⟨(wrap64 (x5_2 + 1)), (by first | rfl | (simp; done) | (simp [*]; done)), H', ⟨by have := HK1.out; have := HK2.out; have := HJ5.out; omega⟩, ⟨by (with_reducible repeat (first | apply Kd.R_alloc | apply Kd.R_drewN | apply Kd.R_drew)); exact HO_3.out⟩, ⟨by repeat (first | (with_reducible first | exact HB.out | apply below_alloc | apply pw_below_drewN | apply below_drew1) | exact HB.out)⟩⟩
                        · rw [if_neg c14] at H
                          exact absurd H (by simp)
                      · rw [if_neg c13] at H
                        exact absurd H (by simp)
                    · rw [if_neg c12] at H
                      exact absurd H (by simp)
                  · rw [if_neg c11] at H
                    exact absurd H (by simp)
                · replace c10 := Bool.eq_false_iff.mpr c10
                  subst c10
                  have H1 : (laws_tame.l0 kj5 t115 (wrap64 (x4_1 + 1))) = some r := by rw [if_neg (show ¬ (false = true) by decide)] at H; exact H
                  clear H
                  have H := H1
                  clear H1
                  have H' := Aside0.mk H
                  clear H
                  go_wp2
                  go_roundg kj5
                  case measure => have := HK1.out; have := HK2.out; have := HJ5.out; omega
                  case rel => exact ⟨(wrap64 (x4_1 + 1)), (by first | rfl | (simp; done) | (simp [*]; done)), H', ⟨by have := HK1.out; have := HK2.out; have := HJ5.out; omega⟩, ⟨by (with_reducible repeat (first | apply Kd.R_alloc | apply Kd.R_drewN | apply Kd.R_drew)); exact HO_3.out⟩, ⟨by repeat (first | (with_reducible first | exact HB.out | apply below_alloc | apply pw_below_drewN | apply below_drew1) | exact HB.out)⟩⟩
      · rw [if_neg c4] at H
        have c4b0 : decide (x4_1 < (t115.length : Int)) = false := decide_eq_false c4
        clear c4
        obtain rfl := Option.some.inj H
        obtain ⟨Ao19, co19, eo19⟩ := Kd.R_slice HO_3.out
        subst eo19
        go_wp2
        go_ret
        exact ⟨by first | rfl | (simp [errW_none, errW_some] <;> rfl) | (simp [*, errW_none, errW_some] <;> rfl), by repeat (first | (with_reducible first | exact HB.out | apply below_alloc | apply pw_below_drewN | apply below_drew1) | exact HB.out)⟩

/-! ### laws_valid: function 7 -/
def laws_valid.f (k : Nat) (a0 : ByteArray) : Option (Bool) := (laws_clean.f k a0).bind fun t122 => (if t122 = true then ((spec_Valid.f k a0).bind fun t123 => (if t123 = true then ((laws_tame.f k a0).bind fun t124 => (some t124)) else (some false))) else (some false))
theorem laws_valid.mono : ∀ a0 k, LeO (laws_valid.f k a0) (laws_valid.f (k + 1) a0) := by
  intro a0 k
  unfold laws_valid.f
  repeat' first
      | (with_reducible exact laws_clean.mono _ _)
      | (with_reducible exact laws_tame.mono _ _)
      | (with_reducible exact spec_Valid.mono _ _)
      | (with_reducible exact LeO.refl _)
      | (with_reducible exact LeO.none _)
      | (with_reducible refine LeO.ite ?_ ?_)
      | (with_reducible refine LeO.bind ?_ (fun _ => ?_))
      | exact laws_clean.mono _ _
      | exact laws_tame.mono _ _
      | exact spec_Valid.mono _ _
      | exact LeO.none _
      | refine LeO.ite ?_ ?_
      | refine LeO.bind ?_ (fun _ => ?_)
set_option maxHeartbeats 8000000 in
set_option maxRecDepth 100000 in
theorem laws_valid.calls (k : Nat) (a0 : ByteArray) (r : Bool) (w : World) (h : laws_valid.f k a0 = some r) :
    Calls Try.prog 7 #[.string a0] w fun e w' => e = .returned (.bool r) ∧ Below w.heap.size w w' := by
  have HB := Aside0.mk (Below.refl w.heap.size w)
  have H : ((laws_clean.f k a0).bind fun t122 => (if t122 = true then ((spec_Valid.f k a0).bind fun t123 => (if t123 = true then ((laws_tame.f k a0).bind fun t124 => (some t124)) else (some false))) else (some false))) = some r := h
  clear h
  replace H := Option.bind_eq_some_iff.mp H
  obtain ⟨t122, A20, H⟩ := H
  replace H : (if t122 = true then ((spec_Valid.f k a0).bind fun t123 => (if t123 = true then ((laws_tame.f k a0).bind fun t124 => (some t124)) else (some false))) else (some false)) = some r := H
  have A2 := Aside0.mk A20
  clear A20
  by_cases c3 : t122 = true
  · subst c3
    have H1 : ((spec_Valid.f k a0).bind fun t123 => (if t123 = true then ((laws_tame.f k a0).bind fun t124 => (some t124)) else (some false))) = some r := by rw [if_pos rfl] at H; exact H
    clear H
    have H := H1
    clear H1
    replace H := Option.bind_eq_some_iff.mp H
    obtain ⟨t123, A40, H⟩ := H
    replace H : (if t123 = true then ((laws_tame.f k a0).bind fun t124 => (some t124)) else (some false)) = some r := H
    have A4 := Aside0.mk A40
    clear A40
    by_cases c5 : t123 = true
    · subst c5
      have H1 : ((laws_tame.f k a0).bind fun t124 => (some t124)) = some r := by rw [if_pos rfl] at H; exact H
      clear H
      have H := H1
      clear H1
      replace H := Option.bind_eq_some_iff.mp H
      obtain ⟨t124, A60, H⟩ := H
      replace H : (some t124) = some r := H
      have A6 := Aside0.mk A60
      clear A60
      obtain rfl := Option.some.inj H
      go_enter Try.func7, Try.ntmps7
      go_wp2_with (first | ((with_reducible refine gate_callee (f := 21) rfl ?_); refine goesL_ (some 4) rfl rfl Try.func21 (by kernel_rfl) rfl #[.string a0] rfl (by (try simp only [List.map_toArray, List.map_cons, List.map_nil]); first | done | rfl | (simp only [List.length_drop, List.length_take]; rfl)) ?_; (with_reducible refine (laws_clean.calls k a0 true _ A2.out).mono ?_); rintro e w' ⟨rfl, ⟨nd, rfl⟩⟩; refine ⟨_, rfl, ?_⟩) | (go_at_call 22; (with_reducible refine (spec_Valid.calls k a0 true _ A4.out).mono ?_); rintro e w7 ⟨rfl, hb⟩; have n0_ := Aside0.mk (below_step (by repeat (first | (with_reducible first | exact HB.out | apply below_alloc | apply pw_below_drewN | apply below_drew1) | exact HB.out)) hb); clear HB; have HB := n0_; clear n0_; (try clear hb); (try clear hb2); (try clear hk); (try clear hi)) | (go_at_call 23; (with_reducible refine (laws_tame.calls k a0 t124 _ A6.out).mono ?_); rintro e w8 ⟨rfl, hb⟩; have n0_ := Aside0.mk (below_step (by repeat (first | (with_reducible first | exact HB.out | apply below_alloc | apply pw_below_drewN | apply below_drew1) | exact HB.out)) hb); clear HB; have HB := n0_; clear n0_; (try clear hb); (try clear hb2); (try clear hk); (try clear hi)))
      go_ret
      exact ⟨by first | rfl | (simp [errW_none, errW_some] <;> rfl) | (simp [*, errW_none, errW_some] <;> rfl), by repeat (first | (with_reducible first | exact HB.out | apply below_alloc | apply pw_below_drewN | apply below_drew1) | exact HB.out)⟩
    · replace c5 := Bool.eq_false_iff.mpr c5
      subst c5
      have H1 : (some false) = some r := by rw [if_neg (show ¬ (false = true) by decide)] at H; exact H
      clear H
      have H := H1
      clear H1
      obtain rfl := Option.some.inj H
      go_enter Try.func7, Try.ntmps7
      go_wp2_with (first | ((with_reducible refine gate_callee (f := 21) rfl ?_); refine goesL_ (some 4) rfl rfl Try.func21 (by kernel_rfl) rfl #[.string a0] rfl (by (try simp only [List.map_toArray, List.map_cons, List.map_nil]); first | done | rfl | (simp only [List.length_drop, List.length_take]; rfl)) ?_; (with_reducible refine (laws_clean.calls k a0 true _ A2.out).mono ?_); rintro e w' ⟨rfl, ⟨nd, rfl⟩⟩; refine ⟨_, rfl, ?_⟩) | (go_at_call 22; (with_reducible refine (spec_Valid.calls k a0 false _ A4.out).mono ?_); rintro e w9 ⟨rfl, hb⟩; have n0_ := Aside0.mk (below_step (by repeat (first | (with_reducible first | exact HB.out | apply below_alloc | apply pw_below_drewN | apply below_drew1) | exact HB.out)) hb); clear HB; have HB := n0_; clear n0_; (try clear hb); (try clear hb2); (try clear hk); (try clear hi)))
      go_ret
      exact ⟨by first | rfl | (simp [errW_none, errW_some] <;> rfl) | (simp [*, errW_none, errW_some] <;> rfl), by repeat (first | (with_reducible first | exact HB.out | apply below_alloc | apply pw_below_drewN | apply below_drew1) | exact HB.out)⟩
  · replace c3 := Bool.eq_false_iff.mpr c3
    subst c3
    have H1 : (some false) = some r := by rw [if_neg (show ¬ (false = true) by decide)] at H; exact H
    clear H
    have H := H1
    clear H1
    obtain rfl := Option.some.inj H
    go_enter Try.func7, Try.ntmps7
    go_wp2_with (first | ((with_reducible refine gate_callee (f := 21) rfl ?_); refine goesL_ (some 4) rfl rfl Try.func21 (by kernel_rfl) rfl #[.string a0] rfl (by (try simp only [List.map_toArray, List.map_cons, List.map_nil]); first | done | rfl | (simp only [List.length_drop, List.length_take]; rfl)) ?_; (with_reducible refine (laws_clean.calls k a0 false _ A2.out).mono ?_); rintro e w' ⟨rfl, ⟨nd, rfl⟩⟩; refine ⟨_, rfl, ?_⟩))
    go_ret
    exact ⟨by first | rfl | (simp [errW_none, errW_some] <;> rfl) | (simp [*, errW_none, errW_some] <;> rfl), by repeat (first | (with_reducible first | exact HB.out | apply below_alloc | apply pw_below_drewN | apply below_drew1) | exact HB.out)⟩

/-! ### spec_Literal: function 27 -/
def spec_Literal.l0 : Nat → List ByteArray → Int → Option (Bool)
  | 0, _, _ => none
  | k + 1, x3, x4 => if x4 < (x3.length : Int) then (if 0 ≤ x4 then (if (rdOf ByteArray.empty x3 x4).toList = ([42] : List UInt8) then (some false) else (if (rdOf ByteArray.empty x3 x4).toList = ([62] : List UInt8) then (some false) else (spec_Literal.l0 k x3 (wrap64 (x4 + 1))))) else (none)) else (some true)
def spec_Literal.f (k : Nat) (a0 : ByteArray) : Option (Bool) := (spec_Tokens.f k a0).bind fun t125 => (spec_Literal.l0 k t125 0)
theorem spec_Literal.mono_l : ∀ k, (∀ y0 y1, LeO (spec_Literal.l0 k y0 y1) (spec_Literal.l0 (k + 1) y0 y1))
  | 0 => fun _ _ r h => by simp [spec_Literal.l0] at h
  | k + 1 => by
    have ih0 := spec_Literal.mono_l k
    · intro y0 y1
      unfold spec_Literal.l0
      repeat' first
      | (with_reducible exact ih0 _ _)
      | (with_reducible exact spec_Tokens.mono _ _)
      | (with_reducible exact LeO.refl _)
      | (with_reducible exact LeO.none _)
      | (with_reducible refine LeO.ite ?_ ?_)
      | (with_reducible refine LeO.bind ?_ (fun _ => ?_))
      | exact ih0 _ _
      | exact spec_Tokens.mono _ _
      | exact LeO.none _
      | refine LeO.ite ?_ ?_
      | refine LeO.bind ?_ (fun _ => ?_)
theorem spec_Literal.mono : ∀ a0 k, LeO (spec_Literal.f k a0) (spec_Literal.f (k + 1) a0) := by
  intro a0 k
  have ih0 := spec_Literal.mono_l k
  unfold spec_Literal.f
  repeat' first
      | (with_reducible exact ih0 _ _)
      | (with_reducible exact spec_Tokens.mono _ _)
      | (with_reducible exact LeO.refl _)
      | (with_reducible exact LeO.none _)
      | (with_reducible refine LeO.ite ?_ ?_)
      | (with_reducible refine LeO.bind ?_ (fun _ => ?_))
      | exact ih0 _ _
      | exact spec_Tokens.mono _ _
      | exact LeO.none _
      | refine LeO.ite ?_ ?_
      | refine LeO.bind ?_ (fun _ => ?_)
set_option maxHeartbeats 8000000 in
set_option maxRecDepth 100000 in
theorem spec_Literal.calls (k : Nat) (a0 : ByteArray) (r : Bool) (w : World) (h : spec_Literal.f k a0 = some r) :
    Calls Try.prog 27 #[.string a0] w fun e w' => e = .returned (.bool r) ∧ Below w.heap.size w w' := by
  have HB := Aside0.mk (Below.refl w.heap.size w)
  have H : ((spec_Tokens.f k a0).bind fun t125 => (spec_Literal.l0 k t125 0)) = some r := h
  clear h
  replace H := Option.bind_eq_some_iff.mp H
  obtain ⟨t125, A20, H⟩ := H
  replace H : (spec_Literal.l0 k t125 0) = some r := H
  have A2 := Aside0.mk A20
  clear A20
  have H' := Aside0.mk H
  clear H
  go_enter Try.func27, Try.ntmps27
  go_wp2_with (first | ((with_reducible refine gate_callee (f := 26) rfl ?_); refine goesL_ (some 6) rfl rfl Try.func26 (by kernel_rfl) rfl #[.string a0] rfl (by (try simp only [List.map_toArray, List.map_cons, List.map_nil]); first | done | rfl | (simp only [List.length_drop, List.length_take]; rfl)) ?_; (with_reducible refine (spec_Tokens.calls k a0 t125 _ A2.out).mono ?_); rintro e w3 ⟨v126, rfl, ho0, hb⟩; refine ⟨_, rfl, ?_⟩; have n0_ := Aside0.mk (Kd.R_lower ho0 (below_size (by repeat (first | (with_reducible first | exact HB.out | apply below_alloc | apply pw_below_drewN | apply below_drew1) | exact HB.out)))); have n1_ := Aside0.mk (below_step (by repeat (first | (with_reducible first | exact HB.out | apply below_alloc | apply pw_below_drewN | apply below_drew1) | exact HB.out)) hb); clear HB; have HO127 := n0_; have HB := n1_; clear n0_ n1_; (try clear hb); (try clear hb2); (try clear hk); (try clear hi); (try clear ho0)))
  go_loopg [4] k (fun kq v4 w' => ∃ (x4_1 : Int), v4 = .int .i64 x4_1 ∧ Aside0 (spec_Literal.l0 kq t125 x4_1 = some r) ∧ Aside0 (kq ≤ k) ∧ Aside0 (Kd.R Kd.string 9 w' w.heap.size (fun _ => True) v126 t125) ∧ Aside0 (Below w.heap.size w w'))
  case atStart => exact ⟨(0), (by first | rfl | (simp; done) | (simp [*]; done)), H', ⟨Nat.le_refl _⟩, ⟨by (with_reducible repeat (first | apply Kd.R_alloc | apply Kd.R_drewN | apply Kd.R_drew)); exact HO127.out⟩, ⟨by repeat (first | (with_reducible first | exact HB.out | apply below_alloc | apply pw_below_drewN | apply below_drew1) | exact HB.out)⟩⟩
  case round =>
    clear H'
    try clear c2
    try clear p2
    obtain ⟨x4_1, rfl, HA, HK1, HO_3, HB⟩ := hrel
    cases gk with
    | zero => exact absurd HA.out (by simp [spec_Literal.l0])
    | succ k1 =>
      have H := HA.out
      clear HA
      simp only [spec_Literal.l0] at H
      by_cases c4 : x4_1 < (t125.length : Int)
      · rw [if_pos c4] at H
        have c4b0 : decide (x4_1 < (t125.length : Int)) = true := decide_eq_true c4
        clear c4
        by_cases c5 : 0 ≤ x4_1
        · rw [if_pos c5] at H
          have c5b0 : decide (0 ≤ x4_1) = true := decide_eq_true c5
          clear c5
          by_cases c6 : (rdOf ByteArray.empty t125 x4_1).toList = ([42] : List UInt8)
          · rw [if_pos c6] at H
            have c6b0 : ((rdOf ByteArray.empty t125 x4_1).toList == ([42] : List UInt8)) = true := beq_iff_eq.mpr c6
            have c6b1 : ((rdOf ByteArray.empty t125 x4_1).toList != ([42] : List UInt8)) = false := bne_eq_false_iff_eq.mpr c6
            clear c6
            obtain rfl := Option.some.inj H
            obtain ⟨Ao7, co7, eo7⟩ := Kd.R_slice HO_3.out
            subst eo7
            have p128 : 0 ≤ (x4_1 : Int) := of_decide_eq_true (by first | (with_reducible assumption) | assumption)
            have q128 : x4_1 < (t125.length : Int) := of_decide_eq_true (by first | (with_reducible assumption) | assumption)
            obtain ⟨ad128, e128, hx128_0⟩ := Kd.at_string (Kd.R_reads' HO_3.out).2.2 x4_1 p128 q128
            cases e128
            replace p128 := eq_true p128
            replace q128 := eq_true q128
            go_wp2
            go_ret
            exact ⟨by first | rfl | (simp [errW_none, errW_some] <;> rfl) | (simp [*, errW_none, errW_some] <;> rfl), by repeat (first | (with_reducible first | exact HB.out | apply below_alloc | apply pw_below_drewN | apply below_drew1) | exact HB.out)⟩
          · rw [if_neg c6] at H
            have c6b0 : ((rdOf ByteArray.empty t125 x4_1).toList == ([42] : List UInt8)) = false := beq_eq_false_iff_ne.mpr c6
            have c6b1 : ((rdOf ByteArray.empty t125 x4_1).toList != ([42] : List UInt8)) = true := bne_iff_ne.mpr c6
            by_cases c8 : (rdOf ByteArray.empty t125 x4_1).toList = ([62] : List UInt8)
            · rw [if_pos c8] at H
              have c8b0 : ((rdOf ByteArray.empty t125 x4_1).toList == ([62] : List UInt8)) = true := beq_iff_eq.mpr c8
              have c8b1 : ((rdOf ByteArray.empty t125 x4_1).toList != ([62] : List UInt8)) = false := bne_eq_false_iff_eq.mpr c8
              clear c8
              obtain rfl := Option.some.inj H
              obtain ⟨Ao9, co9, eo9⟩ := Kd.R_slice HO_3.out
              subst eo9
              have p128 : 0 ≤ (x4_1 : Int) := of_decide_eq_true (by first | (with_reducible assumption) | assumption)
              have q128 : x4_1 < (t125.length : Int) := of_decide_eq_true (by first | (with_reducible assumption) | assumption)
              obtain ⟨ad128, e128, hx128_0⟩ := Kd.at_string (Kd.R_reads' HO_3.out).2.2 x4_1 p128 q128
              cases e128
              replace p128 := eq_true p128
              replace q128 := eq_true q128
              have p129 : 0 ≤ (x4_1 : Int) := of_decide_eq_true (by first | (with_reducible assumption) | assumption)
              have q129 : x4_1 < (t125.length : Int) := of_decide_eq_true (by first | (with_reducible assumption) | assumption)
              obtain ⟨ad129, e129, hx129_0⟩ := Kd.at_string (Kd.R_reads' HO_3.out).2.2 x4_1 p129 q129
              obtain rfl : ad128 = ad129 := (by injection e129)
              replace p129 := eq_true p129
              replace q129 := eq_true q129
              go_wp2
              go_ret
              exact ⟨by first | rfl | (simp [errW_none, errW_some] <;> rfl) | (simp [*, errW_none, errW_some] <;> rfl), by repeat (first | (with_reducible first | exact HB.out | apply below_alloc | apply pw_below_drewN | apply below_drew1) | exact HB.out)⟩
            · rw [if_neg c8] at H
              have c8b0 : ((rdOf ByteArray.empty t125 x4_1).toList == ([62] : List UInt8)) = false := beq_eq_false_iff_ne.mpr c8
              have c8b1 : ((rdOf ByteArray.empty t125 x4_1).toList != ([62] : List UInt8)) = true := bne_iff_ne.mpr c8
              have H' := Aside0.mk H
              clear H
              obtain ⟨Ao10, co10, eo10⟩ := Kd.R_slice HO_3.out
              subst eo10
              have p128 : 0 ≤ (x4_1 : Int) := of_decide_eq_true (by first | (with_reducible assumption) | assumption)
              have q128 : x4_1 < (t125.length : Int) := of_decide_eq_true (by first | (with_reducible assumption) | assumption)
              obtain ⟨ad128, e128, hx128_0⟩ := Kd.at_string (Kd.R_reads' HO_3.out).2.2 x4_1 p128 q128
              cases e128
              replace p128 := eq_true p128
              replace q128 := eq_true q128
              have p129 : 0 ≤ (x4_1 : Int) := of_decide_eq_true (by first | (with_reducible assumption) | assumption)
              have q129 : x4_1 < (t125.length : Int) := of_decide_eq_true (by first | (with_reducible assumption) | assumption)
              obtain ⟨ad129, e129, hx129_0⟩ := Kd.at_string (Kd.R_reads' HO_3.out).2.2 x4_1 p129 q129
              obtain rfl : ad128 = ad129 := (by injection e129)
              replace p129 := eq_true p129
              replace q129 := eq_true q129
              go_wp2
              go_roundg k1
              case measure => have := HK1.out; omega
              case rel => exact ⟨(wrap64 (x4_1 + 1)), (by first | rfl | (simp; done) | (simp [*]; done)), H', ⟨by have := HK1.out; omega⟩, ⟨by (with_reducible repeat (first | apply Kd.R_alloc | apply Kd.R_drewN | apply Kd.R_drew)); exact HO_3.out⟩, ⟨by repeat (first | (with_reducible first | exact HB.out | apply below_alloc | apply pw_below_drewN | apply below_drew1) | exact HB.out)⟩⟩
        · rw [if_neg c5] at H
          exact absurd H (by simp)
      · rw [if_neg c4] at H
        have c4b0 : decide (x4_1 < (t125.length : Int)) = false := decide_eq_false c4
        clear c4
        obtain rfl := Option.some.inj H
        obtain ⟨Ao11, co11, eo11⟩ := Kd.R_slice HO_3.out
        subst eo11
        go_wp2
        go_ret
        exact ⟨by first | rfl | (simp [errW_none, errW_some] <;> rfl) | (simp [*, errW_none, errW_some] <;> rfl), by repeat (first | (with_reducible first | exact HB.out | apply below_alloc | apply pw_below_drewN | apply below_drew1) | exact HB.out)⟩

/-! ### laws_plain: function 10 -/
def laws_plain.f (k : Nat) (a0 : ByteArray) : Option (Bool) := (laws_valid.f k a0).bind fun t130 => (if t130 = true then ((spec_Literal.f k a0).bind fun t131 => (some t131)) else (some false))
theorem laws_plain.mono : ∀ a0 k, LeO (laws_plain.f k a0) (laws_plain.f (k + 1) a0) := by
  intro a0 k
  unfold laws_plain.f
  repeat' first
      | (with_reducible exact laws_valid.mono _ _)
      | (with_reducible exact spec_Literal.mono _ _)
      | (with_reducible exact LeO.refl _)
      | (with_reducible exact LeO.none _)
      | (with_reducible refine LeO.ite ?_ ?_)
      | (with_reducible refine LeO.bind ?_ (fun _ => ?_))
      | exact laws_valid.mono _ _
      | exact spec_Literal.mono _ _
      | exact LeO.none _
      | refine LeO.ite ?_ ?_
      | refine LeO.bind ?_ (fun _ => ?_)
set_option maxHeartbeats 8000000 in
set_option maxRecDepth 100000 in
theorem laws_plain.calls (k : Nat) (a0 : ByteArray) (r : Bool) (w : World) (h : laws_plain.f k a0 = some r) :
    Calls Try.prog 10 #[.string a0] w fun e w' => e = .returned (.bool r) ∧ Below w.heap.size w w' := by
  have HB := Aside0.mk (Below.refl w.heap.size w)
  have H : ((laws_valid.f k a0).bind fun t130 => (if t130 = true then ((spec_Literal.f k a0).bind fun t131 => (some t131)) else (some false))) = some r := h
  clear h
  replace H := Option.bind_eq_some_iff.mp H
  obtain ⟨t130, A20, H⟩ := H
  replace H : (if t130 = true then ((spec_Literal.f k a0).bind fun t131 => (some t131)) else (some false)) = some r := H
  have A2 := Aside0.mk A20
  clear A20
  by_cases c3 : t130 = true
  · subst c3
    have H1 : ((spec_Literal.f k a0).bind fun t131 => (some t131)) = some r := by rw [if_pos rfl] at H; exact H
    clear H
    have H := H1
    clear H1
    replace H := Option.bind_eq_some_iff.mp H
    obtain ⟨t131, A40, H⟩ := H
    replace H : (some t131) = some r := H
    have A4 := Aside0.mk A40
    clear A40
    obtain rfl := Option.some.inj H
    go_enter Try.func10, Try.ntmps10
    go_wp2_with (first | ((with_reducible refine gate_callee (f := 7) rfl ?_); refine goesL_ (some 4) rfl rfl Try.func7 (by kernel_rfl) rfl #[.string a0] rfl (by (try simp only [List.map_toArray, List.map_cons, List.map_nil]); first | done | rfl | (simp only [List.length_drop, List.length_take]; rfl)) ?_; (with_reducible refine (laws_valid.calls k a0 true _ A2.out).mono ?_); rintro e w5 ⟨rfl, hb⟩; refine ⟨_, rfl, ?_⟩; have n0_ := Aside0.mk (below_step (by repeat (first | (with_reducible first | exact HB.out | apply below_alloc | apply pw_below_drewN | apply below_drew1) | exact HB.out)) hb); clear HB; have HB := n0_; clear n0_; (try clear hb); (try clear hb2); (try clear hk); (try clear hi)) | (go_at_call 27; (with_reducible refine (spec_Literal.calls k a0 t131 _ A4.out).mono ?_); rintro e w6 ⟨rfl, hb⟩; have n0_ := Aside0.mk (below_step (by repeat (first | (with_reducible first | exact HB.out | apply below_alloc | apply pw_below_drewN | apply below_drew1) | exact HB.out)) hb); clear HB; have HB := n0_; clear n0_; (try clear hb); (try clear hb2); (try clear hk); (try clear hi)))
    go_ret
    exact ⟨by first | rfl | (simp [errW_none, errW_some] <;> rfl) | (simp [*, errW_none, errW_some] <;> rfl), by repeat (first | (with_reducible first | exact HB.out | apply below_alloc | apply pw_below_drewN | apply below_drew1) | exact HB.out)⟩
  · replace c3 := Bool.eq_false_iff.mpr c3
    subst c3
    have H1 : (some false) = some r := by rw [if_neg (show ¬ (false = true) by decide)] at H; exact H
    clear H
    have H := H1
    clear H1
    obtain rfl := Option.some.inj H
    go_enter Try.func10, Try.ntmps10
    go_wp2_with (first | ((with_reducible refine gate_callee (f := 7) rfl ?_); refine goesL_ (some 4) rfl rfl Try.func7 (by kernel_rfl) rfl #[.string a0] rfl (by (try simp only [List.map_toArray, List.map_cons, List.map_nil]); first | done | rfl | (simp only [List.length_drop, List.length_take]; rfl)) ?_; (with_reducible refine (laws_valid.calls k a0 false _ A2.out).mono ?_); rintro e w7 ⟨rfl, hb⟩; refine ⟨_, rfl, ?_⟩; have n0_ := Aside0.mk (below_step (by repeat (first | (with_reducible first | exact HB.out | apply below_alloc | apply pw_below_drewN | apply below_drew1) | exact HB.out)) hb); clear HB; have HB := n0_; clear n0_; (try clear hb); (try clear hb2); (try clear hk); (try clear hi)))
    go_ret
    exact ⟨by first | rfl | (simp [errW_none, errW_some] <;> rfl) | (simp [*, errW_none, errW_some] <;> rfl), by repeat (first | (with_reducible first | exact HB.out | apply below_alloc | apply pw_below_drewN | apply below_drew1) | exact HB.out)⟩

end Go.Proofs.Ytgbdjinanflhaaa.PFnMatchLiteral
