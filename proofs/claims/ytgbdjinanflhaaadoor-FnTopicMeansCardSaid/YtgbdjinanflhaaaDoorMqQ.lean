/- A walk of Go functions (plain functions of theirs, and that the machine's calls do what these say), written by a program of this session's. -/
import Derived.Test.YtgbdjinanflhaaaDoorGFnTopicMeansx0
namespace Go.Proofs.YtgbdjinanflhaaaDoor.GFnTopicMeans
open Go.RowKit Go.Proofs.YtgbdjinanflhaaaDoorW.PrintWords Go.Proofs.YtgbdjinanflhaaaDoorW.PrintLast Go.Proofs.YtgbdjinanflhaaaDoorW.PrintMore
attribute [local go_sem] max2_int min2_int max_two min_two max_three min_three max_four min_four   -- for this text's walks alone
set_option linter.unusedVariables false
set_option linter.unusedSimpArgs false


/-! ### spec_Topical: function 19 -/
def spec_Topical.l0 : Nat → ByteArray → Int → Option (Bool)
  | 0, _, _ => none
  | k + 1, x0, x3 => if x3 < (x0.size : Int) then (if 0 ≤ x3 then (if (bt x0 x3) < 33 then (some false) else (if (bt x0 x3) > 126 then (some false) else (if (bt x0 x3) = 43 then (some false) else (if (bt x0 x3) = 35 then (some false) else (if (bt x0 x3) = 42 then (some false) else (if (bt x0 x3) = 62 then (some false) else (spec_Topical.l0 k x0 (wrap64 (x3 + 1))))))))) else (none)) else (some (x0.toList != ([] : List UInt8)))
def spec_Topical.f (k : Nat) (a0 : ByteArray) : Option (Bool) := spec_Topical.l0 k a0 0
theorem spec_Topical.mono_l : ∀ k, (∀ y0 y1, LeO (spec_Topical.l0 k y0 y1) (spec_Topical.l0 (k + 1) y0 y1))
  | 0 => fun _ _ r h => by simp [spec_Topical.l0] at h
  | k + 1 => by
    have ih0 := spec_Topical.mono_l k
    · intro y0 y1
      unfold spec_Topical.l0
      repeat' first
      | (with_reducible exact ih0 _ _)
      | (with_reducible exact LeO.refl _)
      | (with_reducible exact LeO.none _)
      | (with_reducible refine LeO.ite ?_ ?_)
      | (with_reducible refine LeO.bind ?_ (fun _ => ?_))
      | exact ih0 _ _
      | exact LeO.none _
      | refine LeO.ite ?_ ?_
      | refine LeO.bind ?_ (fun _ => ?_)
theorem spec_Topical.mono : ∀ a0 k, LeO (spec_Topical.f k a0) (spec_Topical.f (k + 1) a0) := by
  intro a0 k
  have ih0 := spec_Topical.mono_l k
  unfold spec_Topical.f
  repeat' first
      | (with_reducible exact ih0 _ _)
      | (with_reducible exact LeO.refl _)
      | (with_reducible exact LeO.none _)
      | (with_reducible refine LeO.ite ?_ ?_)
      | (with_reducible refine LeO.bind ?_ (fun _ => ?_))
      | exact ih0 _ _
      | exact LeO.none _
      | refine LeO.ite ?_ ?_
      | refine LeO.bind ?_ (fun _ => ?_)
set_option maxHeartbeats 8000000 in
set_option maxRecDepth 100000 in
theorem spec_Topical.calls (k : Nat) (a0 : ByteArray) (r : Bool) (w : World) (h : spec_Topical.f k a0 = some r) :
    Calls Tryd.prog 19 #[.string a0] w fun e w' => e = .returned (.bool r) ∧ Drawn0 w w' := by
  have H : (spec_Topical.l0 k a0 0) = some r := h
  clear h
  have H' := Aside0.mk H
  clear H
  go_enter Tryd.func19, Tryd.ntmps19
  go_wp2
  go_loopg [3] k (fun kq v3 w' => ∃ (x3_1 : Int), v3 = .int .i64 x3_1 ∧ Aside0 (spec_Topical.l0 kq a0 x3_1 = some r) ∧ Aside0 (kq ≤ k) ∧ Drawn0 w w')
  case atStart => exact ⟨(0), (by first | rfl | (simp; done) | (simp [*]; done)), H', ⟨Nat.le_refl _⟩, by repeat (first | exact Drawn0.refl _ | apply Drawn0.step)⟩
  case round =>
    clear H'
    try clear c1
    obtain ⟨x3_1, rfl, HA, HK1, ⟨m1, rfl⟩⟩ := hrel
    cases gk with
    | zero => exact absurd HA.out (by simp [spec_Topical.l0])
    | succ k1 =>
      have H := HA.out
      clear HA
      simp only [spec_Topical.l0] at H
      by_cases c2 : x3_1 < (a0.size : Int)
      · rw [if_pos c2] at H
        have c2b0 : decide (x3_1 < (a0.size : Int)) = true := decide_eq_true c2
        clear c2
        by_cases c3 : 0 ≤ x3_1
        · rw [if_pos c3] at H
          have c3b0 : decide (0 ≤ x3_1) = true := decide_eq_true c3
          clear c3
          by_cases c5 : (bt a0 x3_1) < 33
          · rw [if_pos c5] at H
            have c5b0 : decide ((bt a0 x3_1) < 33) = true := decide_eq_true c5
            clear c5
            obtain rfl := Option.some.inj H
            have p4 : 0 ≤ (x3_1 : Int) := of_decide_eq_true (by first | (with_reducible assumption) | assumption)
            have q4 : x3_1 < (a0.size : Int) := of_decide_eq_true (by first | (with_reducible assumption) | assumption)
            have hx4 := bt_at a0 x3_1
            replace p4 := eq_true p4
            replace q4 := eq_true q4
            go_wp2
            go_ret
            exact ⟨by first | rfl | (simp; done) | (simp [*]; done) | (simp; cases a0.toList <;> rfl) /- isEmpty -/, by repeat (first | exact Drawn0.refl _ | apply Drawn0.step)⟩
          · rw [if_neg c5] at H
            have c5b0 : decide ((bt a0 x3_1) < 33) = false := decide_eq_false c5
            clear c5
            by_cases c7 : (bt a0 x3_1) > 126
            · rw [if_pos c7] at H
              have c7b0 : decide (126 < (bt a0 x3_1)) = true := decide_eq_true c7
              clear c7
              obtain rfl := Option.some.inj H
              have p4 : 0 ≤ (x3_1 : Int) := of_decide_eq_true (by first | (with_reducible assumption) | assumption)
              have q4 : x3_1 < (a0.size : Int) := of_decide_eq_true (by first | (with_reducible assumption) | assumption)
              have hx4 := bt_at a0 x3_1
              replace p4 := eq_true p4
              replace q4 := eq_true q4
              have p6 : 0 ≤ (x3_1 : Int) := of_decide_eq_true (by first | (with_reducible assumption) | assumption)
              have q6 : x3_1 < (a0.size : Int) := of_decide_eq_true (by first | (with_reducible assumption) | assumption)
              have hx6 := bt_at a0 x3_1
              replace p6 := eq_true p6
              replace q6 := eq_true q6
              go_wp2
              go_ret
              exact ⟨by first | rfl | (simp; done) | (simp [*]; done) | (simp; cases a0.toList <;> rfl) /- isEmpty -/, by repeat (first | exact Drawn0.refl _ | apply Drawn0.step)⟩
            · rw [if_neg c7] at H
              have c7b0 : decide (126 < (bt a0 x3_1)) = false := decide_eq_false c7
              clear c7
              by_cases c9 : (bt a0 x3_1) = 43
              · rw [if_pos c9] at H
                have c9b0 : ((bt a0 x3_1) == 43) = true := beq_iff_eq.mpr c9
                have c9b1 : ((bt a0 x3_1) != 43) = false := bne_eq_false_iff_eq.mpr c9
                clear c9
                obtain rfl := Option.some.inj H
                have p4 : 0 ≤ (x3_1 : Int) := of_decide_eq_true (by first | (with_reducible assumption) | assumption)
                have q4 : x3_1 < (a0.size : Int) := of_decide_eq_true (by first | (with_reducible assumption) | assumption)
                have hx4 := bt_at a0 x3_1
                replace p4 := eq_true p4
                replace q4 := eq_true q4
                have p6 : 0 ≤ (x3_1 : Int) := of_decide_eq_true (by first | (with_reducible assumption) | assumption)
                have q6 : x3_1 < (a0.size : Int) := of_decide_eq_true (by first | (with_reducible assumption) | assumption)
                have hx6 := bt_at a0 x3_1
                replace p6 := eq_true p6
                replace q6 := eq_true q6
                have p8 : 0 ≤ (x3_1 : Int) := of_decide_eq_true (by first | (with_reducible assumption) | assumption)
                have q8 : x3_1 < (a0.size : Int) := of_decide_eq_true (by first | (with_reducible assumption) | assumption)
                have hx8 := bt_at a0 x3_1
                replace p8 := eq_true p8
                replace q8 := eq_true q8
                go_wp2
                go_ret
                exact ⟨by first | rfl | (simp; done) | (simp [*]; done) | (simp; cases a0.toList <;> rfl) /- isEmpty -/, by repeat (first | exact Drawn0.refl _ | apply Drawn0.step)⟩
              · rw [if_neg c9] at H
                have c9b0 : ((bt a0 x3_1) == 43) = false := beq_eq_false_iff_ne.mpr c9
                have c9b1 : ((bt a0 x3_1) != 43) = true := bne_iff_ne.mpr c9
                by_cases c11 : (bt a0 x3_1) = 35
                · rw [if_pos c11] at H
                  have c11b0 : ((bt a0 x3_1) == 35) = true := beq_iff_eq.mpr c11
                  have c11b1 : ((bt a0 x3_1) != 35) = false := bne_eq_false_iff_eq.mpr c11
                  clear c11
                  obtain rfl := Option.some.inj H
                  have p4 : 0 ≤ (x3_1 : Int) := of_decide_eq_true (by first | (with_reducible assumption) | assumption)
                  have q4 : x3_1 < (a0.size : Int) := of_decide_eq_true (by first | (with_reducible assumption) | assumption)
                  have hx4 := bt_at a0 x3_1
                  replace p4 := eq_true p4
                  replace q4 := eq_true q4
                  have p6 : 0 ≤ (x3_1 : Int) := of_decide_eq_true (by first | (with_reducible assumption) | assumption)
                  have q6 : x3_1 < (a0.size : Int) := of_decide_eq_true (by first | (with_reducible assumption) | assumption)
                  have hx6 := bt_at a0 x3_1
                  replace p6 := eq_true p6
                  replace q6 := eq_true q6
                  have p8 : 0 ≤ (x3_1 : Int) := of_decide_eq_true (by first | (with_reducible assumption) | assumption)
                  have q8 : x3_1 < (a0.size : Int) := of_decide_eq_true (by first | (with_reducible assumption) | assumption)
                  have hx8 := bt_at a0 x3_1
                  replace p8 := eq_true p8
                  replace q8 := eq_true q8
                  have p10 : 0 ≤ (x3_1 : Int) := of_decide_eq_true (by first | (with_reducible assumption) | assumption)
                  have q10 : x3_1 < (a0.size : Int) := of_decide_eq_true (by first | (with_reducible assumption) | assumption)
                  have hx10 := bt_at a0 x3_1
                  replace p10 := eq_true p10
                  replace q10 := eq_true q10
                  go_wp2
                  go_ret
                  exact ⟨by first | rfl | (simp; done) | (simp [*]; done) | (simp; cases a0.toList <;> rfl) /- isEmpty -/, by repeat (first | exact Drawn0.refl _ | apply Drawn0.step)⟩
                · rw [if_neg c11] at H
                  have c11b0 : ((bt a0 x3_1) == 35) = false := beq_eq_false_iff_ne.mpr c11
                  have c11b1 : ((bt a0 x3_1) != 35) = true := bne_iff_ne.mpr c11
                  by_cases c13 : (bt a0 x3_1) = 42
                  · rw [if_pos c13] at H
                    have c13b0 : ((bt a0 x3_1) == 42) = true := beq_iff_eq.mpr c13
                    have c13b1 : ((bt a0 x3_1) != 42) = false := bne_eq_false_iff_eq.mpr c13
                    clear c13
                    obtain rfl := Option.some.inj H
                    have p4 : 0 ≤ (x3_1 : Int) := of_decide_eq_true (by first | (with_reducible assumption) | assumption)
                    have q4 : x3_1 < (a0.size : Int) := of_decide_eq_true (by first | (with_reducible assumption) | assumption)
                    have hx4 := bt_at a0 x3_1
                    replace p4 := eq_true p4
                    replace q4 := eq_true q4
                    have p6 : 0 ≤ (x3_1 : Int) := of_decide_eq_true (by first | (with_reducible assumption) | assumption)
                    have q6 : x3_1 < (a0.size : Int) := of_decide_eq_true (by first | (with_reducible assumption) | assumption)
                    have hx6 := bt_at a0 x3_1
                    replace p6 := eq_true p6
                    replace q6 := eq_true q6
                    have p8 : 0 ≤ (x3_1 : Int) := of_decide_eq_true (by first | (with_reducible assumption) | assumption)
                    have q8 : x3_1 < (a0.size : Int) := of_decide_eq_true (by first | (with_reducible assumption) | assumption)
                    have hx8 := bt_at a0 x3_1
                    replace p8 := eq_true p8
                    replace q8 := eq_true q8
                    have p10 : 0 ≤ (x3_1 : Int) := of_decide_eq_true (by first | (with_reducible assumption) | assumption)
                    have q10 : x3_1 < (a0.size : Int) := of_decide_eq_true (by first | (with_reducible assumption) | assumption)
                    have hx10 := bt_at a0 x3_1
                    replace p10 := eq_true p10
                    replace q10 := eq_true q10
                    have p12 : 0 ≤ (x3_1 : Int) := of_decide_eq_true (by first | (with_reducible assumption) | assumption)
                    have q12 : x3_1 < (a0.size : Int) := of_decide_eq_true (by first | (with_reducible assumption) | assumption)
                    have hx12 := bt_at a0 x3_1
                    replace p12 := eq_true p12
                    replace q12 := eq_true q12
                    go_wp2
                    go_ret
                    exact ⟨by first | rfl | (simp; done) | (simp [*]; done) | (simp; cases a0.toList <;> rfl) /- isEmpty -/, by repeat (first | exact Drawn0.refl _ | apply Drawn0.step)⟩
                  · rw [if_neg c13] at H
                    have c13b0 : ((bt a0 x3_1) == 42) = false := beq_eq_false_iff_ne.mpr c13
                    have c13b1 : ((bt a0 x3_1) != 42) = true := bne_iff_ne.mpr c13
                    by_cases c15 : (bt a0 x3_1) = 62
                    · rw [if_pos c15] at H
                      have c15b0 : ((bt a0 x3_1) == 62) = true := beq_iff_eq.mpr c15
                      have c15b1 : ((bt a0 x3_1) != 62) = false := bne_eq_false_iff_eq.mpr c15
                      clear c15
                      obtain rfl := Option.some.inj H
                      have p4 : 0 ≤ (x3_1 : Int) := of_decide_eq_true (by first | (with_reducible assumption) | assumption)
                      have q4 : x3_1 < (a0.size : Int) := of_decide_eq_true (by first | (with_reducible assumption) | assumption)
                      have hx4 := bt_at a0 x3_1
                      replace p4 := eq_true p4
                      replace q4 := eq_true q4
                      have p6 : 0 ≤ (x3_1 : Int) := of_decide_eq_true (by first | (with_reducible assumption) | assumption)
                      have q6 : x3_1 < (a0.size : Int) := of_decide_eq_true (by first | (with_reducible assumption) | assumption)
                      have hx6 := bt_at a0 x3_1
                      replace p6 := eq_true p6
                      replace q6 := eq_true q6
                      have p8 : 0 ≤ (x3_1 : Int) := of_decide_eq_true (by first | (with_reducible assumption) | assumption)
                      have q8 : x3_1 < (a0.size : Int) := of_decide_eq_true (by first | (with_reducible assumption) | assumption)
                      have hx8 := bt_at a0 x3_1
                      replace p8 := eq_true p8
                      replace q8 := eq_true q8
                      have p10 : 0 ≤ (x3_1 : Int) := of_decide_eq_true (by first | (with_reducible assumption) | assumption)
                      have q10 : x3_1 < (a0.size : Int) := of_decide_eq_true (by first | (with_reducible assumption) | assumption)
                      have hx10 := bt_at a0 x3_1
                      replace p10 := eq_true p10
                      replace q10 := eq_true q10
                      have p12 : 0 ≤ (x3_1 : Int) := of_decide_eq_true (by first | (with_reducible assumption) | assumption)
                      have q12 : x3_1 < (a0.size : Int) := of_decide_eq_true (by first | (with_reducible assumption) | assumption)
                      have hx12 := bt_at a0 x3_1
                      replace p12 := eq_true p12
                      replace q12 := eq_true q12
                      have p14 : 0 ≤ (x3_1 : Int) := of_decide_eq_true (by first | (with_reducible assumption) | assumption)
                      have q14 : x3_1 < (a0.size : Int) := of_decide_eq_true (by first | (with_reducible assumption) | assumption)
                      have hx14 := bt_at a0 x3_1
                      replace p14 := eq_true p14
                      replace q14 := eq_true q14
                      go_wp2
                      go_ret
                      exact ⟨by first | rfl | (simp; done) | (simp [*]; done) | (simp; cases a0.toList <;> rfl) /- isEmpty -/, by repeat (first | exact Drawn0.refl _ | apply Drawn0.step)⟩
                    · rw [if_neg c15] at H
                      have c15b0 : ((bt a0 x3_1) == 62) = false := beq_eq_false_iff_ne.mpr c15
                      have c15b1 : ((bt a0 x3_1) != 62) = true := bne_iff_ne.mpr c15
                      have H' := Aside0.mk H
                      clear H
                      have p4 : 0 ≤ (x3_1 : Int) := of_decide_eq_true (by first | (with_reducible assumption) | assumption)
                      have q4 : x3_1 < (a0.size : Int) := of_decide_eq_true (by first | (with_reducible assumption) | assumption)
                      have hx4 := bt_at a0 x3_1
                      replace p4 := eq_true p4
                      replace q4 := eq_true q4
                      have p6 : 0 ≤ (x3_1 : Int) := of_decide_eq_true (by first | (with_reducible assumption) | assumption)
                      have q6 : x3_1 < (a0.size : Int) := of_decide_eq_true (by first | (with_reducible assumption) | assumption)
                      have hx6 := bt_at a0 x3_1
                      replace p6 := eq_true p6
                      replace q6 := eq_true q6
                      have p8 : 0 ≤ (x3_1 : Int) := of_decide_eq_true (by first | (with_reducible assumption) | assumption)
                      have q8 : x3_1 < (a0.size : Int) := of_decide_eq_true (by first | (with_reducible assumption) | assumption)
                      have hx8 := bt_at a0 x3_1
                      replace p8 := eq_true p8
                      replace q8 := eq_true q8
                      have p10 : 0 ≤ (x3_1 : Int) := of_decide_eq_true (by first | (with_reducible assumption) | assumption)
                      have q10 : x3_1 < (a0.size : Int) := of_decide_eq_true (by first | (with_reducible assumption) | assumption)
                      have hx10 := bt_at a0 x3_1
                      replace p10 := eq_true p10
                      replace q10 := eq_true q10
                      have p12 : 0 ≤ (x3_1 : Int) := of_decide_eq_true (by first | (with_reducible assumption) | assumption)
                      have q12 : x3_1 < (a0.size : Int) := of_decide_eq_true (by first | (with_reducible assumption) | assumption)
                      have hx12 := bt_at a0 x3_1
                      replace p12 := eq_true p12
                      replace q12 := eq_true q12
                      have p14 : 0 ≤ (x3_1 : Int) := of_decide_eq_true (by first | (with_reducible assumption) | assumption)
                      have q14 : x3_1 < (a0.size : Int) := of_decide_eq_true (by first | (with_reducible assumption) | assumption)
                      have hx14 := bt_at a0 x3_1
                      replace p14 := eq_true p14
                      replace q14 := eq_true q14
                      go_wp2
                      go_roundg k1
                      case measure => have := HK1.out; omega
                      case rel => exact ⟨(wrap64 (x3_1 + 1)), (by first | rfl | (simp; done) | (simp [*]; done)), H', ⟨by have := HK1.out; omega⟩, by repeat (first | exact Drawn0.refl _ | apply Drawn0.step)⟩
        · rw [if_neg c3] at H
          exact absurd H (by simp)
      · rw [if_neg c2] at H
        have c2b0 : decide (x3_1 < (a0.size : Int)) = false := decide_eq_false c2
        clear c2
        obtain rfl := Option.some.inj H
        go_wp2
        go_ret
        exact ⟨by first | rfl | (simp; done) | (simp [*]; done) | (simp; cases a0.toList <;> rfl) /- isEmpty -/, by repeat (first | exact Drawn0.refl _ | apply Drawn0.step)⟩

/-! ### laws_topic: function 8 -/
def laws_topic.f (k : Nat) (a0 : ByteArray) : Option (Bool) := if (a0.size : Int) ≤ 100 then ((spec_Topical.f k a0).bind fun t118 => (some t118)) else (some false)
theorem laws_topic.mono : ∀ a0 k, LeO (laws_topic.f k a0) (laws_topic.f (k + 1) a0) := by
  intro a0 k
  unfold laws_topic.f
  repeat' first
      | (with_reducible exact spec_Topical.mono _ _)
      | (with_reducible exact LeO.refl _)
      | (with_reducible exact LeO.none _)
      | (with_reducible refine LeO.ite ?_ ?_)
      | (with_reducible refine LeO.bind ?_ (fun _ => ?_))
      | exact spec_Topical.mono _ _
      | exact LeO.none _
      | refine LeO.ite ?_ ?_
      | refine LeO.bind ?_ (fun _ => ?_)
set_option maxHeartbeats 8000000 in
set_option maxRecDepth 100000 in
theorem laws_topic.calls (k : Nat) (a0 : ByteArray) (r : Bool) (w : World) (h : laws_topic.f k a0 = some r) :
    Calls Tryd.prog 8 #[.string a0] w fun e w' => e = .returned (.bool r) ∧ Drawn0 w w' := by
  have H : (if (a0.size : Int) ≤ 100 then ((spec_Topical.f k a0).bind fun t118 => (some t118)) else (some false)) = some r := h
  clear h
  by_cases c2 : (a0.size : Int) ≤ 100
  · rw [if_pos c2] at H
    have c2b0 : decide ((a0.size : Int) ≤ 100) = true := decide_eq_true c2
    have c2b1 : decide (a0.size ≤ 100) = true := decide_eq_true (by omega)
    clear c2
    replace H := Option.bind_eq_some_iff.mp H
    obtain ⟨t118, A30, H⟩ := H
    replace H : (some t118) = some r := H
    have A3 := Aside0.mk A30
    clear A30
    obtain rfl := Option.some.inj H
    go_enter Tryd.func8, Tryd.ntmps8
    go_wp2_with (first | (go_at_call 19; (with_reducible refine (spec_Topical.calls k a0 t118 _ A3.out).mono ?_); rintro e w' ⟨rfl, ⟨nd, rfl⟩⟩))
    go_ret
    exact ⟨by first | rfl | (simp; done) | (simp [*]; done) | (simp; cases a0.toList <;> rfl) /- isEmpty -/, by repeat (first | exact Drawn0.refl _ | apply Drawn0.step)⟩
  · rw [if_neg c2] at H
    have c2b0 : decide ((a0.size : Int) ≤ 100) = false := decide_eq_false c2
    have c2b1 : decide (a0.size ≤ 100) = false := decide_eq_false (by omega)
    clear c2
    obtain rfl := Option.some.inj H
    go_enter Tryd.func8, Tryd.ntmps8
    go_wp2
    go_ret
    exact ⟨by first | rfl | (simp; done) | (simp [*]; done) | (simp; cases a0.toList <;> rfl) /- isEmpty -/, by repeat (first | exact Drawn0.refl _ | apply Drawn0.step)⟩

/-! ### spec_levels: function 25 -/
def spec_levels.l0 : Nat → ByteArray → List ByteArray → Int → Int → Option (List ByteArray)
  | 0, _, _, _, _ => none
  | k + 1, x0, x3, x4, x5 => if x5 < (x0.size : Int) then (if 0 ≤ x5 then (if (bt x0 x5) = 47 then (if 0 ≤ x4 then (if x4 ≤ x5 then (if x5 ≤ (x0.size : Int) then (if x3.length < 8796093022208 then (spec_levels.l0 k x0 (x3 ++ [x0.extract (x4 : Int).toNat (x5 : Int).toNat]) (wrap64 (x5 + 1)) (wrap64 (x5 + 1))) else (none)) else (none)) else (none)) else (none)) else (spec_levels.l0 k x0 x3 x4 (wrap64 (x5 + 1)))) else (none)) else (if 0 ≤ x4 then (if x4 ≤ (x0.size : Int) then (if x3.length < 8796093022208 then (some (x3 ++ [x0.extract (x4 : Int).toNat x0.size])) else (none)) else (none)) else (none))
def spec_levels.f (k : Nat) (a0 : ByteArray) : Option (List ByteArray) := spec_levels.l0 k a0 ([] : List ByteArray) 0 0
theorem spec_levels.mono_l : ∀ k, (∀ y0 y1 y2 y3, LeO (spec_levels.l0 k y0 y1 y2 y3) (spec_levels.l0 (k + 1) y0 y1 y2 y3))
  | 0 => fun _ _ _ _ r h => by simp [spec_levels.l0] at h
  | k + 1 => by
    have ih0 := spec_levels.mono_l k
    · intro y0 y1 y2 y3
      unfold spec_levels.l0
      repeat' first
      | (with_reducible exact ih0 _ _ _ _)
      | (with_reducible exact LeO.refl _)
      | (with_reducible exact LeO.none _)
      | (with_reducible refine LeO.ite ?_ ?_)
      | (with_reducible refine LeO.bind ?_ (fun _ => ?_))
      | exact ih0 _ _ _ _
      | exact LeO.none _
      | refine LeO.ite ?_ ?_
      | refine LeO.bind ?_ (fun _ => ?_)
theorem spec_levels.mono : ∀ a0 k, LeO (spec_levels.f k a0) (spec_levels.f (k + 1) a0) := by
  intro a0 k
  have ih0 := spec_levels.mono_l k
  unfold spec_levels.f
  repeat' first
      | (with_reducible exact ih0 _ _ _ _)
      | (with_reducible exact LeO.refl _)
      | (with_reducible exact LeO.none _)
      | (with_reducible refine LeO.ite ?_ ?_)
      | (with_reducible refine LeO.bind ?_ (fun _ => ?_))
      | exact ih0 _ _ _ _
      | exact LeO.none _
      | refine LeO.ite ?_ ?_
      | refine LeO.bind ?_ (fun _ => ?_)
set_option maxHeartbeats 8000000 in
set_option maxRecDepth 100000 in
theorem spec_levels.calls (k : Nat) (a0 : ByteArray) (r : List ByteArray) (w : World) (h : spec_levels.f k a0 = some r) :
    Calls Tryd.prog 25 #[.string a0] w fun e w' => ∃ v0_ : Value, e = .returned (v0_) ∧ Kd.R Kd.string 9 w' w.heap.size (fun _ => True) v0_ r ∧ Below w.heap.size w w' := by
  have HB := Aside0.mk (Below.refl w.heap.size w)
  have H : (spec_levels.l0 k a0 ([] : List ByteArray) 0 0) = some r := h
  clear h
  have H' := Aside0.mk H
  clear H
  go_enter Tryd.func25, Tryd.ntmps25
  go_wp2
  go_loopg [3, 4, 5] k (fun kq v3 v4 v5 w' => ∃ (x3_1 : List ByteArray) (x4_1 : Int) (x5_1 : Int), v4 = .int .i64 x4_1 ∧ v5 = .int .i64 x5_1 ∧ Aside0 (spec_levels.l0 kq a0 x3_1 x4_1 x5_1 = some r) ∧ Aside0 (kq ≤ k) ∧ Aside0 (Kd.R Kd.string 9 w' w.heap.size (fun _ => True) v3 x3_1) ∧ Aside0 (Below w.heap.size w w'))
  case atStart => exact ⟨(([] : List ByteArray)), (0), (0), (by first | rfl | (simp; done) | (simp [*]; done)), (by first | rfl | (simp; done) | (simp [*]; done)), H', ⟨Nat.le_refl _⟩, ⟨by first | exact Kd.R_nil _ _ _ _ _ | exact Kd.N_nil _ _ _ _ _ | exact Kd.V_nil _ _ _ _ _ | exact Kd.Q_nil _ _ _ _ _ | exact Kd.S_nil _ _ _ _ _⟩, ⟨by repeat (first | (with_reducible first | exact HB.out | apply below_alloc | apply pw_below_drewN | apply below_drew1) | exact HB.out)⟩⟩
  case round =>
    clear H'
    obtain ⟨x3_1, x4_1, x5_1, rfl, rfl, HA, HK1, HO_3, HB⟩ := hrel
    cases gk with
    | zero => exact absurd HA.out (by simp [spec_levels.l0])
    | succ k1 =>
      have H := HA.out
      clear HA
      simp only [spec_levels.l0] at H
      by_cases c2 : x5_1 < (a0.size : Int)
      · rw [if_pos c2] at H
        have c2b0 : decide (x5_1 < (a0.size : Int)) = true := decide_eq_true c2
        clear c2
        by_cases c3 : 0 ≤ x5_1
        · rw [if_pos c3] at H
          have c3b0 : decide (0 ≤ x5_1) = true := decide_eq_true c3
          clear c3
          by_cases c5 : (bt a0 x5_1) = 47
          · rw [if_pos c5] at H
            have c5b0 : ((bt a0 x5_1) == 47) = true := beq_iff_eq.mpr c5
            have c5b1 : ((bt a0 x5_1) != 47) = false := bne_eq_false_iff_eq.mpr c5
            clear c5
            by_cases c6 : 0 ≤ x4_1
            · rw [if_pos c6] at H
              have c6b0 := eq_true c6
              have c6b1 : decide (0 ≤ x4_1) = true := decide_eq_true c6
              clear c6
              by_cases c7 : x4_1 ≤ x5_1
              · rw [if_pos c7] at H
                have c7b0 := eq_true c7
                have c7b1 : decide (x4_1 ≤ x5_1) = true := decide_eq_true c7
                clear c7
                by_cases c8 : x5_1 ≤ (a0.size : Int)
                · rw [if_pos c8] at H
                  have c8b0 := eq_true c8
                  have c8b1 : decide (x5_1 ≤ (a0.size : Int)) = true := decide_eq_true c8
                  clear c8
                  by_cases c9 : x3_1.length < 8796093022208
                  · rw [if_pos c9] at H
                    have LMc9 := Aside0.mk c9
                    clear c9
                    obtain ⟨y119, hy119⟩ : ∃ y_ : List ByteArray, y_ = (x3_1 ++ [a0.extract (x4_1 : Int).toNat (x5_1 : Int).toNat]) := ⟨_, rfl⟩
                    replace H : (spec_levels.l0 k1 a0 y119 (wrap64 (x5_1 + 1)) (wrap64 (x5_1 + 1))) = some r := by first | (rw [hy119]; with_reducible exact H) | (have H2_ := (Option.bind_some _ _).symm.trans H; rw [hy119]; with_reducible exact H2_) | (have H2_ := (Option.bind_some _ _).symm.trans H; with_reducible exact H2_) | with_reducible exact H | (rw [hy119]; exact H) | exact H
                    have Ny119 := Aside0.mk hy119
                    clear hy119
                    have H' := Aside0.mk H
                    clear H
                    have p4 : 0 ≤ (x5_1 : Int) := of_decide_eq_true (by first | (with_reducible assumption) | assumption)
                    have q4 : x5_1 < (a0.size : Int) := of_decide_eq_true (by first | (with_reducible assumption) | assumption)
                    have hx4 := bt_at a0 x5_1
                    replace p4 := eq_true p4
                    replace q4 := eq_true q4
                    go_wp2_with (first | ((with_reducible refine gate_builtin (b := .append) (xs := #[.tmp 16, .tmp 21]) rfl ?_); at_builtin; refine Kd.R_append Kd.string (w0 := w) w.heap.size rfl (.tmp 16) (.tmp 21) 35 9 (.string ⟨#[]⟩) 16 rfl Tryd.underlying35 info9 rfl (by decide) (by omega) u3 x3_1 (a0.extract (x4_1 : Int).toNat (x5_1 : Int).toNat) [.string (a0.extract (x4_1 : Int).toNat (x5_1 : Int).toNat)] (fun _ => True) (fun _ => False) rfl rfl ?aP (fun _ hk => hk.elim) ?aF ?aO ?aB ?aS ?aL ?_; (case aP => exact rfl); (case aB => exact (by repeat (first | (with_reducible first | exact HB.out | apply below_alloc | apply pw_below_drewN | apply below_drew1) | exact HB.out))); (case aF => exact (fun _ _ => trivial)); (case aO => exact (by (with_reducible repeat (first | apply Kd.R_alloc | apply Kd.R_drewN | apply Kd.R_drew)); exact HO_3.out)); (case aS => exact (below_size (by repeat (first | (with_reducible first | exact HB.out | apply below_alloc | apply pw_below_drewN | apply below_drew1) | exact HB.out)))); (case aL => have := LMc9.out; omega); intro v120 w10 ho hb hg hat; rw [← Ny119.out] at ho; have n0_ := Aside0.mk (hb); have n1_ := Aside0.mk (ho); clear HB; clear HO_3; have HB := n0_; have HO121 := n1_; clear n0_ n1_; clear ho hb hg hat))
                    go_roundg k1
                    case measure => have := HK1.out; omega
                    case rel => exact ⟨(y119), (wrap64 (x5_1 + 1)), (wrap64 (x5_1 + 1)), (by first | rfl | (simp; done) | (simp [*]; done)), (by first | rfl | (simp; done) | (simp [*]; done)), H', ⟨by have := HK1.out; omega⟩, ⟨by (with_reducible repeat (first | apply Kd.R_alloc | apply Kd.R_drewN | apply Kd.R_drew)); exact HO121.out⟩, ⟨by repeat (first | (with_reducible first | exact HB.out | apply below_alloc | apply pw_below_drewN | apply below_drew1) | exact HB.out)⟩⟩
                  · rw [if_neg c9] at H
                    exact absurd H (by simp)
                · rw [if_neg c8] at H
                  exact absurd H (by simp)
              · rw [if_neg c7] at H
                exact absurd H (by simp)
            · rw [if_neg c6] at H
              exact absurd H (by simp)
          · rw [if_neg c5] at H
            have c5b0 : ((bt a0 x5_1) == 47) = false := beq_eq_false_iff_ne.mpr c5
            have c5b1 : ((bt a0 x5_1) != 47) = true := bne_iff_ne.mpr c5
            have H' := Aside0.mk H
            clear H
            have p4 : 0 ≤ (x5_1 : Int) := of_decide_eq_true (by first | (with_reducible assumption) | assumption)
            have q4 : x5_1 < (a0.size : Int) := of_decide_eq_true (by first | (with_reducible assumption) | assumption)
            have hx4 := bt_at a0 x5_1
            replace p4 := eq_true p4
            replace q4 := eq_true q4
            go_wp2
            go_roundg k1
            case measure => have := HK1.out; omega
            case rel => exact ⟨(x3_1), (x4_1), (wrap64 (x5_1 + 1)), (by first | rfl | (simp; done) | (simp [*]; done)), (by first | rfl | (simp; done) | (simp [*]; done)), H', ⟨by have := HK1.out; omega⟩, ⟨by (with_reducible repeat (first | apply Kd.R_alloc | apply Kd.R_drewN | apply Kd.R_drew)); exact HO_3.out⟩, ⟨by repeat (first | (with_reducible first | exact HB.out | apply below_alloc | apply pw_below_drewN | apply below_drew1) | exact HB.out)⟩⟩
        · rw [if_neg c3] at H
          exact absurd H (by simp)
      · rw [if_neg c2] at H
        have c2b0 : decide (x5_1 < (a0.size : Int)) = false := decide_eq_false c2
        clear c2
        by_cases c11 : 0 ≤ x4_1
        · rw [if_pos c11] at H
          have c11b0 := eq_true c11
          have c11b1 : decide (0 ≤ x4_1) = true := decide_eq_true c11
          clear c11
          by_cases c12 : x4_1 ≤ (a0.size : Int)
          · rw [if_pos c12] at H
            have c12b0 := eq_true c12
            have c12b1 : decide (x4_1 ≤ (a0.size : Int)) = true := decide_eq_true c12
            clear c12
            by_cases c13 : x3_1.length < 8796093022208
            · rw [if_pos c13] at H
              have LMc13 := Aside0.mk c13
              clear c13
              obtain ⟨y122, hy122⟩ : ∃ y_ : List ByteArray, y_ = (x3_1 ++ [a0.extract (x4_1 : Int).toNat a0.size]) := ⟨_, rfl⟩
              replace H : (some y122) = some r := by first | (rw [hy122]; with_reducible exact H) | (have H2_ := (Option.bind_some _ _).symm.trans H; rw [hy122]; with_reducible exact H2_) | (have H2_ := (Option.bind_some _ _).symm.trans H; with_reducible exact H2_) | with_reducible exact H | (rw [hy122]; exact H) | exact H
              have Ny122 := Aside0.mk hy122
              clear hy122
              obtain rfl := Option.some.inj H
              go_wp2_with (first | ((with_reducible refine gate_builtin (b := .append) (xs := #[.tmp 25, .tmp 29]) rfl ?_); at_builtin; refine Kd.R_append Kd.string (w0 := w) w.heap.size rfl (.tmp 25) (.tmp 29) 35 9 (.string ⟨#[]⟩) 16 rfl Tryd.underlying35 info9 rfl (by decide) (by omega) u3 x3_1 (a0.extract (x4_1 : Int).toNat a0.size) [.string (a0.extract (x4_1 : Int).toNat a0.size)] (fun _ => True) (fun _ => False) rfl rfl ?aP (fun _ hk => hk.elim) ?aF ?aO ?aB ?aS ?aL ?_; (case aP => exact rfl); (case aB => exact (by repeat (first | (with_reducible first | exact HB.out | apply below_alloc | apply pw_below_drewN | apply below_drew1) | exact HB.out))); (case aF => exact (fun _ _ => trivial)); (case aO => exact (by (with_reducible repeat (first | apply Kd.R_alloc | apply Kd.R_drewN | apply Kd.R_drew)); exact HO_3.out)); (case aS => exact (below_size (by repeat (first | (with_reducible first | exact HB.out | apply below_alloc | apply pw_below_drewN | apply below_drew1) | exact HB.out)))); (case aL => have := LMc13.out; omega); intro v123 w14 ho hb hg hat; rw [← Ny122.out] at ho; have n0_ := Aside0.mk (hb); have n1_ := Aside0.mk (ho); clear HB; clear HO_3; have HB := n0_; have HO124 := n1_; clear n0_ n1_; clear ho hb hg hat))
              go_ret
              exact ⟨_, by first | rfl | (simp [errW_none, errW_some] <;> rfl) | (simp [*, errW_none, errW_some] <;> rfl), by (with_reducible repeat (first | apply Kd.R_alloc | apply Kd.R_drewN | apply Kd.R_drew)); exact HO124.out, by repeat (first | (with_reducible first | exact HB.out | apply below_alloc | apply pw_below_drewN | apply below_drew1) | exact HB.out)⟩
            · rw [if_neg c13] at H
              exact absurd H (by simp)
          · rw [if_neg c12] at H
            exact absurd H (by simp)
        · rw [if_neg c11] at H
          exact absurd H (by simp)
/-! ### spec_Filtering: function 21 -/
def spec_Filtering.l0 : Nat → ByteArray → List ByteArray → Int → Option (Bool)
  | 0, _, _, _ => none
  | k + 1, x0, x3, x4 => if x4 < (x3.length : Int) then (if 0 ≤ x4 then (if (rdOf ByteArray.empty x3 x4).toList = ([] : List UInt8) then (spec_Filtering.l0 k x0 x3 (wrap64 (x4 + 1))) else (if (rdOf ByteArray.empty x3 x4).toList = ([43] : List UInt8) then (spec_Filtering.l0 k x0 x3 (wrap64 (x4 + 1))) else (if (rdOf ByteArray.empty x3 x4).toList = ([35] : List UInt8) then (if ((wrap64 (x4 + 1)) = (x3.length : Int)) then (spec_Filtering.l0 k x0 x3 (wrap64 (x4 + 1))) else ((spec_Topical.f k (rdOf ByteArray.empty x3 x4)).bind fun t132 => (if t132 = true then (spec_Filtering.l0 k x0 x3 (wrap64 (x4 + 1))) else (some false)))) else ((spec_Topical.f k (rdOf ByteArray.empty x3 x4)).bind fun t134 => (if t134 = true then (spec_Filtering.l0 k x0 x3 (wrap64 (x4 + 1))) else (some false)))))) else (none)) else (some (x0.toList != ([] : List UInt8)))
def spec_Filtering.f (k : Nat) (a0 : ByteArray) : Option (Bool) := (spec_levels.f k a0).bind fun t125 => (spec_Filtering.l0 k a0 t125 0)
theorem spec_Filtering.mono_l : ∀ k, (∀ y0 y1 y2, LeO (spec_Filtering.l0 k y0 y1 y2) (spec_Filtering.l0 (k + 1) y0 y1 y2))
  | 0 => fun _ _ _ r h => by simp [spec_Filtering.l0] at h
  | k + 1 => by
    have ih0 := spec_Filtering.mono_l k
    · intro y0 y1 y2
      unfold spec_Filtering.l0
      repeat' first
      | (with_reducible exact ih0 _ _ _)
      | (with_reducible exact spec_Topical.mono _ _)
      | (with_reducible exact spec_levels.mono _ _)
      | (with_reducible exact LeO.refl _)
      | (with_reducible exact LeO.none _)
      | (with_reducible refine LeO.ite ?_ ?_)
      | (with_reducible refine LeO.bind ?_ (fun _ => ?_))
      | exact ih0 _ _ _
      | exact spec_Topical.mono _ _
      | exact spec_levels.mono _ _
      | exact LeO.none _
      | refine LeO.ite ?_ ?_
      | refine LeO.bind ?_ (fun _ => ?_)
theorem spec_Filtering.mono : ∀ a0 k, LeO (spec_Filtering.f k a0) (spec_Filtering.f (k + 1) a0) := by
  intro a0 k
  have ih0 := spec_Filtering.mono_l k
  unfold spec_Filtering.f
  repeat' first
      | (with_reducible exact ih0 _ _ _)
      | (with_reducible exact spec_Topical.mono _ _)
      | (with_reducible exact spec_levels.mono _ _)
      | (with_reducible exact LeO.refl _)
      | (with_reducible exact LeO.none _)
      | (with_reducible refine LeO.ite ?_ ?_)
      | (with_reducible refine LeO.bind ?_ (fun _ => ?_))
      | exact ih0 _ _ _
      | exact spec_Topical.mono _ _
      | exact spec_levels.mono _ _
      | exact LeO.none _
      | refine LeO.ite ?_ ?_
      | refine LeO.bind ?_ (fun _ => ?_)
set_option maxHeartbeats 8000000 in
set_option maxRecDepth 100000 in
theorem spec_Filtering.calls (k : Nat) (a0 : ByteArray) (r : Bool) (w : World) (h : spec_Filtering.f k a0 = some r) :
    Calls Tryd.prog 21 #[.string a0] w fun e w' => e = .returned (.bool r) ∧ Below w.heap.size w w' := by
  have HB := Aside0.mk (Below.refl w.heap.size w)
  have H : ((spec_levels.f k a0).bind fun t125 => (spec_Filtering.l0 k a0 t125 0)) = some r := h
  clear h
  replace H := Option.bind_eq_some_iff.mp H
  obtain ⟨t125, A20, H⟩ := H
  replace H : (spec_Filtering.l0 k a0 t125 0) = some r := H
  have A2 := Aside0.mk A20
  clear A20
  have H' := Aside0.mk H
  clear H
  go_enter Tryd.func21, Tryd.ntmps21
  go_wp2_with (first | ((with_reducible refine gate_callee (f := 25) rfl ?_); refine goesL_ (some 6) rfl rfl Tryd.func25 (by kernel_rfl) rfl #[.string a0] rfl (by (try simp only [List.map_toArray, List.map_cons, List.map_nil]); first | done | rfl | (simp only [List.length_drop, List.length_take]; rfl)) ?_; (with_reducible refine (spec_levels.calls k a0 t125 _ A2.out).mono ?_); rintro e w3 ⟨v126, rfl, ho0, hb⟩; refine ⟨_, rfl, ?_⟩; have n0_ := Aside0.mk (Kd.R_lower ho0 (below_size (by repeat (first | (with_reducible first | exact HB.out | apply below_alloc | apply pw_below_drewN | apply below_drew1) | exact HB.out)))); have n1_ := Aside0.mk (below_step (by repeat (first | (with_reducible first | exact HB.out | apply below_alloc | apply pw_below_drewN | apply below_drew1) | exact HB.out)) hb); clear HB; have HO127 := n0_; have HB := n1_; clear n0_ n1_; (try clear hb); (try clear hb2); (try clear hk); (try clear hi); (try clear ho0)))
  go_loopg [4] k (fun kq v4 w' => ∃ (x4_1 : Int), v4 = .int .i64 x4_1 ∧ Aside0 (spec_Filtering.l0 kq a0 t125 x4_1 = some r) ∧ Aside0 (kq ≤ k) ∧ Aside0 (Kd.R Kd.string 9 w' w.heap.size (fun _ => True) v126 t125) ∧ Aside0 (Below w.heap.size w w'))
  case atStart => exact ⟨(0), (by first | rfl | (simp; done) | (simp [*]; done)), H', ⟨Nat.le_refl _⟩, ⟨by (with_reducible repeat (first | apply Kd.R_alloc | apply Kd.R_drewN | apply Kd.R_drew)); exact HO127.out⟩, ⟨by repeat (first | (with_reducible first | exact HB.out | apply below_alloc | apply pw_below_drewN | apply below_drew1) | exact HB.out)⟩⟩
  case round =>
    clear H'
    try clear c2
    try clear p2
    obtain ⟨x4_1, rfl, HA, HK1, HO_3, HB⟩ := hrel
    cases gk with
    | zero => exact absurd HA.out (by simp [spec_Filtering.l0])
    | succ k1 =>
      have H := HA.out
      clear HA
      simp only [spec_Filtering.l0] at H
      by_cases c4 : x4_1 < (t125.length : Int)
      · rw [if_pos c4] at H
        have c4b0 : decide (x4_1 < (t125.length : Int)) = true := decide_eq_true c4
        clear c4
        by_cases c5 : 0 ≤ x4_1
        · rw [if_pos c5] at H
          have c5b0 : decide (0 ≤ x4_1) = true := decide_eq_true c5
          clear c5
          by_cases c6 : (rdOf ByteArray.empty t125 x4_1).toList = ([] : List UInt8)
          · rw [if_pos c6] at H
            have c6b0 : ((rdOf ByteArray.empty t125 x4_1).toList == ([] : List UInt8)) = true := beq_iff_eq.mpr c6
            have c6b1 : ((rdOf ByteArray.empty t125 x4_1).toList != ([] : List UInt8)) = false := bne_eq_false_iff_eq.mpr c6
            clear c6
            have H' := Aside0.mk H
            clear H
            obtain ⟨Ao7, co7, eo7⟩ := Kd.R_slice HO_3.out
            subst eo7
            have p128 : 0 ≤ (x4_1 : Int) := of_decide_eq_true (by first | (with_reducible assumption) | assumption)
            have q128 : x4_1 < (t125.length : Int) := of_decide_eq_true (by first | (with_reducible assumption) | assumption)
            obtain ⟨ad128, e128, hx128_0⟩ := Kd.at_string (Kd.R_reads' HO_3.out).2.2 x4_1 p128 q128
            cases e128
            replace p128 := eq_true p128
            replace q128 := eq_true q128
            go_wp2
            go_roundg k1
            case measure => have := HK1.out; omega
            case rel => exact ⟨(wrap64 (x4_1 + 1)), (by first | rfl | (simp; done) | (simp [*]; done)), H', ⟨by have := HK1.out; omega⟩, ⟨by (with_reducible repeat (first | apply Kd.R_alloc | apply Kd.R_drewN | apply Kd.R_drew)); exact HO_3.out⟩, ⟨by repeat (first | (with_reducible first | exact HB.out | apply below_alloc | apply pw_below_drewN | apply below_drew1) | exact HB.out)⟩⟩
          · rw [if_neg c6] at H
            have c6b0 : ((rdOf ByteArray.empty t125 x4_1).toList == ([] : List UInt8)) = false := beq_eq_false_iff_ne.mpr c6
            have c6b1 : ((rdOf ByteArray.empty t125 x4_1).toList != ([] : List UInt8)) = true := bne_iff_ne.mpr c6
            by_cases c8 : (rdOf ByteArray.empty t125 x4_1).toList = ([43] : List UInt8)
            · rw [if_pos c8] at H
              have c8b0 : ((rdOf ByteArray.empty t125 x4_1).toList == ([43] : List UInt8)) = true := beq_iff_eq.mpr c8
              have c8b1 : ((rdOf ByteArray.empty t125 x4_1).toList != ([43] : List UInt8)) = false := bne_eq_false_iff_eq.mpr c8
              clear c8
              have H' := Aside0.mk H
              clear H
              obtain ⟨Ao9, co9, eo9⟩ := Kd.R_slice HO_3.out
              subst eo9
              have p128 : 0 ≤ (x4_1 : Int) := of_decide_eq_true (by first | (with_reducible assumption) | assumption)
              have q128 : x4_1 < (t125.length : Int) := of_decide_eq_true (by first | (with_reducible assumption) | assumption)
              obtain ⟨ad128, e128, hx128_0⟩ := Kd.at_string (Kd.R_reads' HO_3.out).2.2 x4_1 p128 q128
              cases e128
              replace p128 := eq_true p128
              replace q128 := eq_true q128
              have p129 : 0 ≤ (x4_1 : Int) := of_decide_eq_true (by first | (with_reducible assumption) | assumption)
              have q129 : x4_1 < (t125.length : Int) := of_decide_eq_true (by first | (with_reducible assumption) | assumption)
              obtain ⟨ad129, e129, hx129_0⟩ := Kd.at_string (Kd.R_reads' HO_3.out).2.2 x4_1 p129 q129
              obtain rfl : ad128 = ad129 := (by injection e129)
              replace p129 := eq_true p129
              replace q129 := eq_true q129
              go_wp2
              go_roundg k1
              case measure => have := HK1.out; omega
              case rel => exact ⟨(wrap64 (x4_1 + 1)), (by first | rfl | (simp; done) | (simp [*]; done)), H', ⟨by have := HK1.out; omega⟩, ⟨by (with_reducible repeat (first | apply Kd.R_alloc | apply Kd.R_drewN | apply Kd.R_drew)); exact HO_3.out⟩, ⟨by repeat (first | (with_reducible first | exact HB.out | apply below_alloc | apply pw_below_drewN | apply below_drew1) | exact HB.out)⟩⟩
            · rw [if_neg c8] at H
              have c8b0 : ((rdOf ByteArray.empty t125 x4_1).toList == ([43] : List UInt8)) = false := beq_eq_false_iff_ne.mpr c8
              have c8b1 : ((rdOf ByteArray.empty t125 x4_1).toList != ([43] : List UInt8)) = true := bne_iff_ne.mpr c8
              by_cases c10 : (rdOf ByteArray.empty t125 x4_1).toList = ([35] : List UInt8)
              · rw [if_pos c10] at H
                have c10b0 : ((rdOf ByteArray.empty t125 x4_1).toList == ([35] : List UInt8)) = true := beq_iff_eq.mpr c10
                have c10b1 : ((rdOf ByteArray.empty t125 x4_1).toList != ([35] : List UInt8)) = false := bne_eq_false_iff_eq.mpr c10
                clear c10
                by_cases c11 : ((wrap64 (x4_1 + 1)) = (t125.length : Int))
                · rw [if_pos c11] at H
                  have c11b0 : ((wrap64 (x4_1 + 1)) == (t125.length : Int)) = true := beq_iff_eq.mpr c11
                  have c11b1 : ((wrap64 (x4_1 + 1)) != (t125.length : Int)) = false := bne_eq_false_iff_eq.mpr c11
                  clear c11
                  have H' := Aside0.mk H
                  clear H
                  obtain ⟨Ao12, co12, eo12⟩ := Kd.R_slice HO_3.out
                  subst eo12
                  have p128 : 0 ≤ (x4_1 : Int) := of_decide_eq_true (by first | (with_reducible assumption) | assumption)
                  have q128 : x4_1 < (t125.length : Int) := of_decide_eq_true (by first | (with_reducible assumption) | assumption)
                  obtain ⟨ad128, e128, hx128_0⟩ := Kd.at_string (Kd.R_reads' HO_3.out).2.2 x4_1 p128 q128
                  cases e128
                  replace p128 := eq_true p128
                  replace q128 := eq_true q128
                  have p129 : 0 ≤ (x4_1 : Int) := of_decide_eq_true (by first | (with_reducible assumption) | assumption)
                  have q129 : x4_1 < (t125.length : Int) := of_decide_eq_true (by first | (with_reducible assumption) | assumption)
                  obtain ⟨ad129, e129, hx129_0⟩ := Kd.at_string (Kd.R_reads' HO_3.out).2.2 x4_1 p129 q129
                  obtain rfl : ad128 = ad129 := (by injection e129)
                  replace p129 := eq_true p129
                  replace q129 := eq_true q129
                  have p130 : 0 ≤ (x4_1 : Int) := of_decide_eq_true (by first | (with_reducible assumption) | assumption)
                  have q130 : x4_1 < (t125.length : Int) := of_decide_eq_true (by first | (with_reducible assumption) | assumption)
                  obtain ⟨ad130, e130, hx130_0⟩ := Kd.at_string (Kd.R_reads' HO_3.out).2.2 x4_1 p130 q130
                  obtain rfl : ad128 = ad130 := (by injection e130)
                  replace p130 := eq_true p130
                  replace q130 := eq_true q130
                  go_wp2
                  go_roundg k1
                  case measure => have := HK1.out; omega
                  case rel => exact ⟨(wrap64 (x4_1 + 1)), (by first | rfl | (simp; done) | (simp [*]; done)), H', ⟨by have := HK1.out; omega⟩, ⟨by (with_reducible repeat (first | apply Kd.R_alloc | apply Kd.R_drewN | apply Kd.R_drew)); exact HO_3.out⟩, ⟨by repeat (first | (with_reducible first | exact HB.out | apply below_alloc | apply pw_below_drewN | apply below_drew1) | exact HB.out)⟩⟩
                · rw [if_neg c11] at H
                  have c11b0 : ((wrap64 (x4_1 + 1)) == (t125.length : Int)) = false := beq_eq_false_iff_ne.mpr c11
                  have c11b1 : ((wrap64 (x4_1 + 1)) != (t125.length : Int)) = true := bne_iff_ne.mpr c11
                  replace H := Option.bind_eq_some_iff.mp H
                  obtain ⟨t132, A130, H⟩ := H
                  replace H : (if t132 = true then (spec_Filtering.l0 k1 a0 t125 (wrap64 (x4_1 + 1))) else (some false)) = some r := H
                  have A13 := Aside0.mk A130
                  clear A130
                  by_cases c14 : t132 = true
                  · subst c14
                    have H1 : (spec_Filtering.l0 k1 a0 t125 (wrap64 (x4_1 + 1))) = some r := by rw [if_pos rfl] at H; exact H
                    clear H
                    have H := H1
                    clear H1
                    have H' := Aside0.mk H
                    clear H
                    obtain ⟨Ao15, co15, eo15⟩ := Kd.R_slice HO_3.out
                    subst eo15
                    have p128 : 0 ≤ (x4_1 : Int) := of_decide_eq_true (by first | (with_reducible assumption) | assumption)
                    have q128 : x4_1 < (t125.length : Int) := of_decide_eq_true (by first | (with_reducible assumption) | assumption)
                    obtain ⟨ad128, e128, hx128_0⟩ := Kd.at_string (Kd.R_reads' HO_3.out).2.2 x4_1 p128 q128
                    cases e128
                    replace p128 := eq_true p128
                    replace q128 := eq_true q128
                    have p129 : 0 ≤ (x4_1 : Int) := of_decide_eq_true (by first | (with_reducible assumption) | assumption)
                    have q129 : x4_1 < (t125.length : Int) := of_decide_eq_true (by first | (with_reducible assumption) | assumption)
                    obtain ⟨ad129, e129, hx129_0⟩ := Kd.at_string (Kd.R_reads' HO_3.out).2.2 x4_1 p129 q129
                    obtain rfl : ad128 = ad129 := (by injection e129)
                    replace p129 := eq_true p129
                    replace q129 := eq_true q129
                    have p130 : 0 ≤ (x4_1 : Int) := of_decide_eq_true (by first | (with_reducible assumption) | assumption)
                    have q130 : x4_1 < (t125.length : Int) := of_decide_eq_true (by first | (with_reducible assumption) | assumption)
                    obtain ⟨ad130, e130, hx130_0⟩ := Kd.at_string (Kd.R_reads' HO_3.out).2.2 x4_1 p130 q130
                    obtain rfl : ad128 = ad130 := (by injection e130)
                    replace p130 := eq_true p130
                    replace q130 := eq_true q130
                    have p131 : 0 ≤ (x4_1 : Int) := of_decide_eq_true (by first | (with_reducible assumption) | assumption)
                    have q131 : x4_1 < (t125.length : Int) := of_decide_eq_true (by first | (with_reducible assumption) | assumption)
                    obtain ⟨ad131, e131, hx131_0⟩ := Kd.at_string (Kd.R_reads' HO_3.out).2.2 x4_1 p131 q131
                    obtain rfl : ad128 = ad131 := (by injection e131)
                    replace p131 := eq_true p131
                    replace q131 := eq_true q131
                    go_wp2_with (first | (go_at_call 19; (with_reducible refine (spec_Topical.calls k1 (rdOf ByteArray.empty t125 x4_1) true _ A13.out).mono ?_); rintro e w' ⟨rfl, ⟨nd, rfl⟩⟩))
                    go_roundg k1
                    case measure => have := HK1.out; omega
                    case rel => exact ⟨(wrap64 (x4_1 + 1)), (by first | rfl | (simp; done) | (simp [*]; done)), H', ⟨by have := HK1.out; omega⟩, ⟨by (with_reducible repeat (first | apply Kd.R_alloc | apply Kd.R_drewN | apply Kd.R_drew)); exact HO_3.out⟩, ⟨by repeat (first | (with_reducible first | exact HB.out | apply below_alloc | apply pw_below_drewN | apply below_drew1) | exact HB.out)⟩⟩
                  · replace c14 := Bool.eq_false_iff.mpr c14
                    subst c14
                    have H1 : (some false) = some r := by rw [if_neg (show ¬ (false = true) by decide)] at H; exact H
                    clear H
                    have H := H1
                    clear H1
                    obtain rfl := Option.some.inj H
                    obtain ⟨Ao16, co16, eo16⟩ := Kd.R_slice HO_3.out
                    subst eo16
                    have p128 : 0 ≤ (x4_1 : Int) := of_decide_eq_true (by first | (with_reducible assumption) | assumption)
                    have q128 : x4_1 < (t125.length : Int) := of_decide_eq_true (by first | (with_reducible assumption) | assumption)
                    obtain ⟨ad128, e128, hx128_0⟩ := Kd.at_string (Kd.R_reads' HO_3.out).2.2 x4_1 p128 q128
                    cases e128
                    replace p128 := eq_true p128
                    replace q128 := eq_true q128
                    have p129 : 0 ≤ (x4_1 : Int) := of_decide_eq_true (by first | (with_reducible assumption) | assumption)
                    have q129 : x4_1 < (t125.length : Int) := of_decide_eq_true (by first | (with_reducible assumption) | assumption)
                    obtain ⟨ad129, e129, hx129_0⟩ := Kd.at_string (Kd.R_reads' HO_3.out).2.2 x4_1 p129 q129
                    obtain rfl : ad128 = ad129 := (by injection e129)
                    replace p129 := eq_true p129
                    replace q129 := eq_true q129
                    have p130 : 0 ≤ (x4_1 : Int) := of_decide_eq_true (by first | (with_reducible assumption) | assumption)
                    have q130 : x4_1 < (t125.length : Int) := of_decide_eq_true (by first | (with_reducible assumption) | assumption)
                    obtain ⟨ad130, e130, hx130_0⟩ := Kd.at_string (Kd.R_reads' HO_3.out).2.2 x4_1 p130 q130
                    obtain rfl : ad128 = ad130 := (by injection e130)
                    replace p130 := eq_true p130
                    replace q130 := eq_true q130
                    have p131 : 0 ≤ (x4_1 : Int) := of_decide_eq_true (by first | (with_reducible assumption) | assumption)
                    have q131 : x4_1 < (t125.length : Int) := of_decide_eq_true (by first | (with_reducible assumption) | assumption)
                    obtain ⟨ad131, e131, hx131_0⟩ := Kd.at_string (Kd.R_reads' HO_3.out).2.2 x4_1 p131 q131
                    obtain rfl : ad128 = ad131 := (by injection e131)
                    replace p131 := eq_true p131
                    replace q131 := eq_true q131
                    go_wp2_with (first | (go_at_call 19; (with_reducible refine (spec_Topical.calls k1 (rdOf ByteArray.empty t125 x4_1) false _ A13.out).mono ?_); rintro e w' ⟨rfl, ⟨nd, rfl⟩⟩))
                    go_ret
                    exact ⟨by first | rfl | (refine congrArg Ending.returned (congrArg Value.bool ?_); (first | rfl | (rw [Bool.eq_iff_iff]; simp; done) | (cases a0.toList <;> rfl))) | (simp [errW_none, errW_some] <;> rfl) | (simp [*, errW_none, errW_some] <;> rfl), by repeat (first | (with_reducible first | exact HB.out | apply below_alloc | apply pw_below_drewN | apply below_drew1) | exact HB.out)⟩
              · rw [if_neg c10] at H
                have c10b0 : ((rdOf ByteArray.empty t125 x4_1).toList == ([35] : List UInt8)) = false := beq_eq_false_iff_ne.mpr c10
                have c10b1 : ((rdOf ByteArray.empty t125 x4_1).toList != ([35] : List UInt8)) = true := bne_iff_ne.mpr c10
                replace H := Option.bind_eq_some_iff.mp H
                obtain ⟨t134, A170, H⟩ := H
                replace H : (if t134 = true then (spec_Filtering.l0 k1 a0 t125 (wrap64 (x4_1 + 1))) else (some false)) = some r := H
                have A17 := Aside0.mk A170
                clear A170
                by_cases c18 : t134 = true
                · subst c18
                  have H1 : (spec_Filtering.l0 k1 a0 t125 (wrap64 (x4_1 + 1))) = some r := by rw [if_pos rfl] at H; exact H
                  clear H
                  have H := H1
                  clear H1
                  have H' := Aside0.mk H
                  clear H
                  obtain ⟨Ao19, co19, eo19⟩ := Kd.R_slice HO_3.out
                  subst eo19
                  have p128 : 0 ≤ (x4_1 : Int) := of_decide_eq_true (by first | (with_reducible assumption) | assumption)
                  have q128 : x4_1 < (t125.length : Int) := of_decide_eq_true (by first | (with_reducible assumption) | assumption)
                  obtain ⟨ad128, e128, hx128_0⟩ := Kd.at_string (Kd.R_reads' HO_3.out).2.2 x4_1 p128 q128
                  cases e128
                  replace p128 := eq_true p128
                  replace q128 := eq_true q128
                  have p129 : 0 ≤ (x4_1 : Int) := of_decide_eq_true (by first | (with_reducible assumption) | assumption)
                  have q129 : x4_1 < (t125.length : Int) := of_decide_eq_true (by first | (with_reducible assumption) | assumption)
                  obtain ⟨ad129, e129, hx129_0⟩ := Kd.at_string (Kd.R_reads' HO_3.out).2.2 x4_1 p129 q129
                  obtain rfl : ad128 = ad129 := (by injection e129)
                  replace p129 := eq_true p129
                  replace q129 := eq_true q129
                  have p130 : 0 ≤ (x4_1 : Int) := of_decide_eq_true (by first | (with_reducible assumption) | assumption)
                  have q130 : x4_1 < (t125.length : Int) := of_decide_eq_true (by first | (with_reducible assumption) | assumption)
                  obtain ⟨ad130, e130, hx130_0⟩ := Kd.at_string (Kd.R_reads' HO_3.out).2.2 x4_1 p130 q130
                  obtain rfl : ad128 = ad130 := (by injection e130)
                  replace p130 := eq_true p130
                  replace q130 := eq_true q130
                  have p133 : 0 ≤ (x4_1 : Int) := of_decide_eq_true (by first | (with_reducible assumption) | assumption)
                  have q133 : x4_1 < (t125.length : Int) := of_decide_eq_true (by first | (with_reducible assumption) | assumption)
                  obtain ⟨ad133, e133, hx133_0⟩ := Kd.at_string (Kd.R_reads' HO_3.out).2.2 x4_1 p133 q133
                  obtain rfl : ad128 = ad133 := (by injection e133)
                  replace p133 := eq_true p133
                  replace q133 := eq_true q133
                  go_wp2_with (first | (go_at_call 19; (with_reducible refine (spec_Topical.calls k1 (rdOf ByteArray.empty t125 x4_1) true _ A17.out).mono ?_); rintro e w' ⟨rfl, ⟨nd, rfl⟩⟩))
                  go_roundg k1
                  case measure => have := HK1.out; omega
                  case rel => exact ⟨(wrap64 (x4_1 + 1)), (by first | rfl | (simp; done) | (simp [*]; done)), H', ⟨by have := HK1.out; omega⟩, ⟨by (with_reducible repeat (first | apply Kd.R_alloc | apply Kd.R_drewN | apply Kd.R_drew)); exact HO_3.out⟩, ⟨by repeat (first | (with_reducible first | exact HB.out | apply below_alloc | apply pw_below_drewN | apply below_drew1) | exact HB.out)⟩⟩
                · replace c18 := Bool.eq_false_iff.mpr c18
                  subst c18
                  have H1 : (some false) = some r := by rw [if_neg (show ¬ (false = true) by decide)] at H; exact H
                  clear H
                  have H := H1
                  clear H1
                  obtain rfl := Option.some.inj H
                  obtain ⟨Ao20, co20, eo20⟩ := Kd.R_slice HO_3.out
                  subst eo20
                  have p128 : 0 ≤ (x4_1 : Int) := of_decide_eq_true (by first | (with_reducible assumption) | assumption)
                  have q128 : x4_1 < (t125.length : Int) := of_decide_eq_true (by first | (with_reducible assumption) | assumption)
                  obtain ⟨ad128, e128, hx128_0⟩ := Kd.at_string (Kd.R_reads' HO_3.out).2.2 x4_1 p128 q128
                  cases e128
                  replace p128 := eq_true p128
                  replace q128 := eq_true q128
                  have p129 : 0 ≤ (x4_1 : Int) := of_decide_eq_true (by first | (with_reducible assumption) | assumption)
                  have q129 : x4_1 < (t125.length : Int) := of_decide_eq_true (by first | (with_reducible assumption) | assumption)
                  obtain ⟨ad129, e129, hx129_0⟩ := Kd.at_string (Kd.R_reads' HO_3.out).2.2 x4_1 p129 q129
                  obtain rfl : ad128 = ad129 := (by injection e129)
                  replace p129 := eq_true p129
                  replace q129 := eq_true q129
                  have p130 : 0 ≤ (x4_1 : Int) := of_decide_eq_true (by first | (with_reducible assumption) | assumption)
                  have q130 : x4_1 < (t125.length : Int) := of_decide_eq_true (by first | (with_reducible assumption) | assumption)
                  obtain ⟨ad130, e130, hx130_0⟩ := Kd.at_string (Kd.R_reads' HO_3.out).2.2 x4_1 p130 q130
                  obtain rfl : ad128 = ad130 := (by injection e130)
                  replace p130 := eq_true p130
                  replace q130 := eq_true q130
                  have p133 : 0 ≤ (x4_1 : Int) := of_decide_eq_true (by first | (with_reducible assumption) | assumption)
                  have q133 : x4_1 < (t125.length : Int) := of_decide_eq_true (by first | (with_reducible assumption) | assumption)
                  obtain ⟨ad133, e133, hx133_0⟩ := Kd.at_string (Kd.R_reads' HO_3.out).2.2 x4_1 p133 q133
                  obtain rfl : ad128 = ad133 := (by injection e133)
                  replace p133 := eq_true p133
                  replace q133 := eq_true q133
                  go_wp2_with (first | (go_at_call 19; (with_reducible refine (spec_Topical.calls k1 (rdOf ByteArray.empty t125 x4_1) false _ A17.out).mono ?_); rintro e w' ⟨rfl, ⟨nd, rfl⟩⟩))
                  go_ret
                  exact ⟨by first | rfl | (refine congrArg Ending.returned (congrArg Value.bool ?_); (first | rfl | (rw [Bool.eq_iff_iff]; simp; done) | (cases a0.toList <;> rfl))) | (simp [errW_none, errW_some] <;> rfl) | (simp [*, errW_none, errW_some] <;> rfl), by repeat (first | (with_reducible first | exact HB.out | apply below_alloc | apply pw_below_drewN | apply below_drew1) | exact HB.out)⟩
        · rw [if_neg c5] at H
          exact absurd H (by simp)
      · rw [if_neg c4] at H
        have c4b0 : decide (x4_1 < (t125.length : Int)) = false := decide_eq_false c4
        clear c4
        obtain rfl := Option.some.inj H
        obtain ⟨Ao21, co21, eo21⟩ := Kd.R_slice HO_3.out
        subst eo21
        go_wp2
        go_ret
        exact ⟨by first | rfl | (refine congrArg Ending.returned (congrArg Value.bool ?_); (first | rfl | (rw [Bool.eq_iff_iff]; simp; done) | (cases a0.toList <;> rfl))) | (simp [errW_none, errW_some] <;> rfl) | (simp [*, errW_none, errW_some] <;> rfl), by repeat (first | (with_reducible first | exact HB.out | apply below_alloc | apply pw_below_drewN | apply below_drew1) | exact HB.out)⟩

/-! ### laws_filter: function 10 -/
def laws_filter.f (k : Nat) (a0 : ByteArray) : Option (Bool) := if (a0.size : Int) ≤ 100 then ((spec_Filtering.f k a0).bind fun t135 => (some t135)) else (some false)
theorem laws_filter.mono : ∀ a0 k, LeO (laws_filter.f k a0) (laws_filter.f (k + 1) a0) := by
  intro a0 k
  unfold laws_filter.f
  repeat' first
      | (with_reducible exact spec_Filtering.mono _ _)
      | (with_reducible exact LeO.refl _)
      | (with_reducible exact LeO.none _)
      | (with_reducible refine LeO.ite ?_ ?_)
      | (with_reducible refine LeO.bind ?_ (fun _ => ?_))
      | exact spec_Filtering.mono _ _
      | exact LeO.none _
      | refine LeO.ite ?_ ?_
      | refine LeO.bind ?_ (fun _ => ?_)
set_option maxHeartbeats 8000000 in
set_option maxRecDepth 100000 in
theorem laws_filter.calls (k : Nat) (a0 : ByteArray) (r : Bool) (w : World) (h : laws_filter.f k a0 = some r) :
    Calls Tryd.prog 10 #[.string a0] w fun e w' => e = .returned (.bool r) ∧ Below w.heap.size w w' := by
  have HB := Aside0.mk (Below.refl w.heap.size w)
  have H : (if (a0.size : Int) ≤ 100 then ((spec_Filtering.f k a0).bind fun t135 => (some t135)) else (some false)) = some r := h
  clear h
  by_cases c2 : (a0.size : Int) ≤ 100
  · rw [if_pos c2] at H
    have c2b0 : decide ((a0.size : Int) ≤ 100) = true := decide_eq_true c2
    have c2b1 : decide (a0.size ≤ 100) = true := decide_eq_true (by omega)
    clear c2
    replace H := Option.bind_eq_some_iff.mp H
    obtain ⟨t135, A30, H⟩ := H
    replace H : (some t135) = some r := H
    have A3 := Aside0.mk A30
    clear A30
    obtain rfl := Option.some.inj H
    go_enter Tryd.func10, Tryd.ntmps10
    go_wp2_with (first | (go_at_call 21; (with_reducible refine (spec_Filtering.calls k a0 t135 _ A3.out).mono ?_); rintro e w4 ⟨rfl, hb⟩; have n0_ := Aside0.mk (below_step (by repeat (first | (with_reducible first | exact HB.out | apply below_alloc | apply pw_below_drewN | apply below_drew1) | exact HB.out)) hb); clear HB; have HB := n0_; clear n0_; (try clear hb); (try clear hb2); (try clear hk); (try clear hi)))
    go_ret
    exact ⟨by first | rfl | (simp [errW_none, errW_some] <;> rfl) | (simp [*, errW_none, errW_some] <;> rfl), by repeat (first | (with_reducible first | exact HB.out | apply below_alloc | apply pw_below_drewN | apply below_drew1) | exact HB.out)⟩
  · rw [if_neg c2] at H
    have c2b0 : decide ((a0.size : Int) ≤ 100) = false := decide_eq_false c2
    have c2b1 : decide (a0.size ≤ 100) = false := decide_eq_false (by omega)
    clear c2
    obtain rfl := Option.some.inj H
    go_enter Tryd.func10, Tryd.ntmps10
    go_wp2
    go_ret
    exact ⟨by first | rfl | (simp [errW_none, errW_some] <;> rfl) | (simp [*, errW_none, errW_some] <;> rfl), by repeat (first | (with_reducible first | exact HB.out | apply below_alloc | apply pw_below_drewN | apply below_drew1) | exact HB.out)⟩



/-! ### server_tokenizeSubjectIntoSlice: function 32 -/
def server_tokenizeSubjectIntoSlice.l0 : Nat → List ByteArray → ByteArray → Int → Int → Option (List ByteArray)
  | 0, _, _, _, _ => none
  | k + 1, x0, x1, x5, x6 => if x6 < (x1.size : Int) then (if 0 ≤ x6 then (if (bt x1 x6) = 46 then (if 0 ≤ x5 then (if x5 ≤ x6 then (if x6 ≤ (x1.size : Int) then (if x0.length < 8796093022208 then (server_tokenizeSubjectIntoSlice.l0 k (x0 ++ [x1.extract (x5 : Int).toNat (x6 : Int).toNat]) x1 (wrap64 (x6 + 1)) (wrap64 (x6 + 1))) else (none)) else (none)) else (none)) else (none)) else (server_tokenizeSubjectIntoSlice.l0 k x0 x1 x5 (wrap64 (x6 + 1)))) else (none)) else (if 0 ≤ x5 then (if x5 ≤ (x1.size : Int) then (if x0.length < 8796093022208 then (some (x0 ++ [x1.extract (x5 : Int).toNat x1.size])) else (none)) else (none)) else (none))
def server_tokenizeSubjectIntoSlice.f (k : Nat) (l0 : List ByteArray) (a1 : ByteArray) : Option (List ByteArray) := server_tokenizeSubjectIntoSlice.l0 k l0 a1 0 0
theorem server_tokenizeSubjectIntoSlice.mono_l : ∀ k, (∀ y0 y1 y2 y3, LeO (server_tokenizeSubjectIntoSlice.l0 k y0 y1 y2 y3) (server_tokenizeSubjectIntoSlice.l0 (k + 1) y0 y1 y2 y3))
  | 0 => fun _ _ _ _ r h => by simp [server_tokenizeSubjectIntoSlice.l0] at h
  | k + 1 => by
    have ih0 := server_tokenizeSubjectIntoSlice.mono_l k
    · intro y0 y1 y2 y3
      unfold server_tokenizeSubjectIntoSlice.l0
      repeat' first
      | (with_reducible exact ih0 _ _ _ _)
      | (with_reducible exact LeO.refl _)
      | (with_reducible exact LeO.none _)
      | (with_reducible refine LeO.ite ?_ ?_)
      | (with_reducible refine LeO.bind ?_ (fun _ => ?_))
      | exact ih0 _ _ _ _
      | exact LeO.none _
      | refine LeO.ite ?_ ?_
      | refine LeO.bind ?_ (fun _ => ?_)
theorem server_tokenizeSubjectIntoSlice.mono : ∀ a0 a1 k, LeO (server_tokenizeSubjectIntoSlice.f k a0 a1) (server_tokenizeSubjectIntoSlice.f (k + 1) a0 a1) := by
  intro a0 a1 k
  have ih0 := server_tokenizeSubjectIntoSlice.mono_l k
  unfold server_tokenizeSubjectIntoSlice.f
  repeat' first
      | (with_reducible exact ih0 _ _ _ _)
      | (with_reducible exact LeO.refl _)
      | (with_reducible exact LeO.none _)
      | (with_reducible refine LeO.ite ?_ ?_)
      | (with_reducible refine LeO.bind ?_ (fun _ => ?_))
      | exact ih0 _ _ _ _
      | exact LeO.none _
      | refine LeO.ite ?_ ?_
      | refine LeO.bind ?_ (fun _ => ?_)
set_option maxHeartbeats 8000000 in
set_option maxRecDepth 100000 in
theorem server_tokenizeSubjectIntoSlice.calls (k : Nat) (P0_ : Nat → Prop) (u9000_ : Value) (l0 : List ByteArray) (a1 : ByteArray) (r : List ByteArray) (w0 w : World) (hB : Below w0.heap.size w0 w) (ho0 : Kd.R Kd.string 9 w w0.heap.size P0_ u9000_ l0) (h : server_tokenizeSubjectIntoSlice.f k l0 a1 = some r) :
    Calls Tryd.prog 32 #[u9000_, .string a1] w fun e w' => ∃ v0_ : Value, e = .returned (v0_) ∧ Kd.R Kd.string 9 w' w0.heap.size (fun k_ => (P0_ k_ ∨ w.heap.size ≤ k_)) v0_ r ∧ Below w0.heap.size w0 w' ∧ Kept w w' (fun k_ => P0_ k_) := by
  have HO0 := Aside0.mk (show Kd.R Kd.string 9 w w0.heap.size (fun k_ => (P0_ k_ ∨ w.heap.size ≤ k_)) u9000_ l0 from Kd.R_mono ho0 (fun k_ hk => (.inl hk)))
  have HK := Aside0.mk (Kept.refl w (fun k_ => P0_ k_))
  have HW0 := Aside0.mk hB.size
  have HB := Aside0.mk hB
  clear hB
  have H : (server_tokenizeSubjectIntoSlice.l0 k l0 a1 0 0) = some r := h
  clear h
  have H' := Aside0.mk H
  clear H
  go_enter Tryd.func32, Tryd.ntmps32
  go_wp2
  go_loopg [0, 5, 6] k (fun kq v0 v5 v6 w' => ∃ (x0_1 : List ByteArray) (x5_1 : Int) (x6_1 : Int), v5 = .int .i64 x5_1 ∧ v6 = .int .i64 x6_1 ∧ Aside0 (server_tokenizeSubjectIntoSlice.l0 kq x0_1 a1 x5_1 x6_1 = some r) ∧ Aside0 (kq ≤ k) ∧ Aside0 (Kd.R Kd.string 9 w' w0.heap.size (fun k_ => (P0_ k_ ∨ w.heap.size ≤ k_)) v0 x0_1) ∧ Aside0 (Kept w w' (fun k_ => P0_ k_)) ∧ Aside0 (Below w0.heap.size w0 w'))
  case atStart => exact ⟨(l0), (0), (0), (by first | rfl | (simp; done) | (simp [*]; done)), (by first | rfl | (simp; done) | (simp [*]; done)), H', ⟨Nat.le_refl _⟩, ⟨by (with_reducible repeat (first | apply Kd.R_alloc | apply Kd.R_drewN | apply Kd.R_drew)); exact HO0.out⟩, ⟨by repeat (first | (with_reducible first | exact HK.out | apply Kept.alloc | apply Kept.drewN | apply Kept.drew) | exact HK.out)⟩, ⟨by repeat (first | (with_reducible first | exact HB.out | apply below_alloc | apply pw_below_drewN | apply below_drew1) | exact HB.out)⟩⟩
  case round =>
    clear H'
    try clear p2
    obtain ⟨x0_1, x5_1, x6_1, rfl, rfl, HA, HK1, HO_0, HK, HB⟩ := hrel
    cases gk with
    | zero => exact absurd HA.out (by simp [server_tokenizeSubjectIntoSlice.l0])
    | succ k1 =>
      have H := HA.out
      clear HA
      simp only [server_tokenizeSubjectIntoSlice.l0] at H
      by_cases c3 : x6_1 < (a1.size : Int)
      · rw [if_pos c3] at H
        have c3b0 : decide (x6_1 < (a1.size : Int)) = true := decide_eq_true c3
        clear c3
        by_cases c4 : 0 ≤ x6_1
        · rw [if_pos c4] at H
          have c4b0 : decide (0 ≤ x6_1) = true := decide_eq_true c4
          clear c4
          by_cases c6 : (bt a1 x6_1) = 46
          · rw [if_pos c6] at H
            have c6b0 : ((bt a1 x6_1) == 46) = true := beq_iff_eq.mpr c6
            have c6b1 : ((bt a1 x6_1) != 46) = false := bne_eq_false_iff_eq.mpr c6
            clear c6
            by_cases c7 : 0 ≤ x5_1
            · rw [if_pos c7] at H
              have c7b0 := eq_true c7
              have c7b1 : decide (0 ≤ x5_1) = true := decide_eq_true c7
              clear c7
              by_cases c8 : x5_1 ≤ x6_1
              · rw [if_pos c8] at H
                have c8b0 := eq_true c8
                have c8b1 : decide (x5_1 ≤ x6_1) = true := decide_eq_true c8
                clear c8
                by_cases c9 : x6_1 ≤ (a1.size : Int)
                · rw [if_pos c9] at H
                  have c9b0 := eq_true c9
                  have c9b1 : decide (x6_1 ≤ (a1.size : Int)) = true := decide_eq_true c9
                  clear c9
                  by_cases c10 : x0_1.length < 8796093022208
                  · rw [if_pos c10] at H
                    have LMc10 := Aside0.mk c10
                    clear c10
                    obtain ⟨y139, hy139⟩ : ∃ y_ : List ByteArray, y_ = (x0_1 ++ [a1.extract (x5_1 : Int).toNat (x6_1 : Int).toNat]) := ⟨_, rfl⟩
                    replace H : (server_tokenizeSubjectIntoSlice.l0 k1 y139 a1 (wrap64 (x6_1 + 1)) (wrap64 (x6_1 + 1))) = some r := by first | (rw [hy139]; with_reducible exact H) | (have H2_ := (Option.bind_some _ _).symm.trans H; rw [hy139]; with_reducible exact H2_) | (have H2_ := (Option.bind_some _ _).symm.trans H; with_reducible exact H2_) | with_reducible exact H | (rw [hy139]; exact H) | exact H
                    have Ny139 := Aside0.mk hy139
                    clear hy139
                    have H' := Aside0.mk H
                    clear H
                    have p5 : 0 ≤ (x6_1 : Int) := of_decide_eq_true (by first | (with_reducible assumption) | assumption)
                    have q5 : x6_1 < (a1.size : Int) := of_decide_eq_true (by first | (with_reducible assumption) | assumption)
                    have hx5 := bt_at a1 x6_1
                    replace p5 := eq_true p5
                    replace q5 := eq_true q5
                    go_wp2_with (first | ((with_reducible refine gate_builtin (b := .append) (xs := #[.tmp 17, .tmp 22]) rfl ?_); at_builtin; refine Kd.R_append Kd.string (w0 := w0) w0.heap.size rfl (.tmp 17) (.tmp 22) 35 9 (.string ⟨#[]⟩) 16 rfl Tryd.underlying35 info9 rfl (by decide) (by omega) u0 x0_1 (a1.extract (x5_1 : Int).toNat (x6_1 : Int).toNat) [.string (a1.extract (x5_1 : Int).toNat (x6_1 : Int).toNat)] (fun k_ => (P0_ k_ ∨ w.heap.size ≤ k_)) (fun _ => False) rfl rfl ?aP (fun _ hk => hk.elim) ?aF ?aO ?aB ?aS ?aL ?_; (case aP => exact rfl); (case aB => exact (by repeat (first | (with_reducible first | exact HB.out | apply below_alloc | apply pw_below_drewN | apply below_drew1) | exact HB.out))); (case aF => exact (fun k_ hk => (.inr (Nat.le_trans (by first | exact HK.out.1 | exact (show Kept w _ (fun k_ => P0_ k_) from by repeat (first | (with_reducible first | exact HK.out | apply Kept.alloc | apply Kept.drewN | apply Kept.drew) | exact HK.out)).1) hk)))); (case aO => exact (by (with_reducible repeat (first | apply Kd.R_alloc | apply Kd.R_drewN | apply Kd.R_drew)); exact HO_0.out)); (case aS => exact (below_size (by repeat (first | (with_reducible first | exact HB.out | apply below_alloc | apply pw_below_drewN | apply below_drew1) | exact HB.out)))); (case aL => have := LMc10.out; omega); intro v140 w11 ho hb hg hat; rw [← Ny139.out] at ho; have n0_ := Aside0.mk (hb); have n1_ := Aside0.mk (Kept.of_grown (S := (fun k_ => P0_ k_)) hg (by repeat (first | (with_reducible first | exact HK.out | apply Kept.alloc | apply Kept.drewN | apply Kept.drew) | exact HK.out)) (fun k_ e_ => (HO_0.out.1 k_ e_))); have n2_ := Aside0.mk (ho); clear HB; clear HK; clear HO_0; have HB := n0_; have HK := n1_; have HO141 := n2_; clear n0_ n1_ n2_; clear ho hb hg hat))
                    go_roundg k1
                    case measure => have := HK1.out; omega
                    case rel => exact ⟨(y139), (wrap64 (x6_1 + 1)), (wrap64 (x6_1 + 1)), (by first | rfl | (simp; done) | (simp [*]; done)), (by first | rfl | (simp; done) | (simp [*]; done)), H', ⟨by have := HK1.out; omega⟩, ⟨by (with_reducible repeat (first | apply Kd.R_alloc | apply Kd.R_drewN | apply Kd.R_drew)); exact HO141.out⟩, ⟨by repeat (first | (with_reducible first | exact HK.out | apply Kept.alloc | apply Kept.drewN | apply Kept.drew) | exact HK.out)⟩, ⟨by repeat (first | (with_reducible first | exact HB.out | apply below_alloc | apply pw_below_drewN | apply below_drew1) | exact HB.out)⟩⟩
                  · rw [if_neg c10] at H
                    exact absurd H (by simp)
                · rw [if_neg c9] at H
                  exact absurd H (by simp)
              · rw [if_neg c8] at H
                exact absurd H (by simp)
            · rw [if_neg c7] at H
              exact absurd H (by simp)
          · rw [if_neg c6] at H
            have c6b0 : ((bt a1 x6_1) == 46) = false := beq_eq_false_iff_ne.mpr c6
            have c6b1 : ((bt a1 x6_1) != 46) = true := bne_iff_ne.mpr c6
            have H' := Aside0.mk H
            clear H
            have p5 : 0 ≤ (x6_1 : Int) := of_decide_eq_true (by first | (with_reducible assumption) | assumption)
            have q5 : x6_1 < (a1.size : Int) := of_decide_eq_true (by first | (with_reducible assumption) | assumption)
            have hx5 := bt_at a1 x6_1
            replace p5 := eq_true p5
            replace q5 := eq_true q5
            go_wp2
            go_roundg k1
            case measure => have := HK1.out; omega
            case rel => exact ⟨(x0_1), (x5_1), (wrap64 (x6_1 + 1)), (by first | rfl | (simp; done) | (simp [*]; done)), (by first | rfl | (simp; done) | (simp [*]; done)), H', ⟨by have := HK1.out; omega⟩, ⟨by (with_reducible repeat (first | apply Kd.R_alloc | apply Kd.R_drewN | apply Kd.R_drew)); exact HO_0.out⟩, ⟨by repeat (first | (with_reducible first | exact HK.out | apply Kept.alloc | apply Kept.drewN | apply Kept.drew) | exact HK.out)⟩, ⟨by repeat (first | (with_reducible first | exact HB.out | apply below_alloc | apply pw_below_drewN | apply below_drew1) | exact HB.out)⟩⟩
        · rw [if_neg c4] at H
          exact absurd H (by simp)
      · rw [if_neg c3] at H
        have c3b0 : decide (x6_1 < (a1.size : Int)) = false := decide_eq_false c3
        clear c3
        by_cases c12 : 0 ≤ x5_1
        · rw [if_pos c12] at H
          have c12b0 := eq_true c12
          have c12b1 : decide (0 ≤ x5_1) = true := decide_eq_true c12
          clear c12
          by_cases c13 : x5_1 ≤ (a1.size : Int)
          · rw [if_pos c13] at H
            have c13b0 := eq_true c13
            have c13b1 : decide (x5_1 ≤ (a1.size : Int)) = true := decide_eq_true c13
            clear c13
            by_cases c14 : x0_1.length < 8796093022208
            · rw [if_pos c14] at H
              have LMc14 := Aside0.mk c14
              clear c14
              obtain ⟨y142, hy142⟩ : ∃ y_ : List ByteArray, y_ = (x0_1 ++ [a1.extract (x5_1 : Int).toNat a1.size]) := ⟨_, rfl⟩
              replace H : (some y142) = some r := by first | (rw [hy142]; with_reducible exact H) | (have H2_ := (Option.bind_some _ _).symm.trans H; rw [hy142]; with_reducible exact H2_) | (have H2_ := (Option.bind_some _ _).symm.trans H; with_reducible exact H2_) | with_reducible exact H | (rw [hy142]; exact H) | exact H
              have Ny142 := Aside0.mk hy142
              clear hy142
              obtain rfl := Option.some.inj H
              go_wp2_with (first | ((with_reducible refine gate_builtin (b := .append) (xs := #[.tmp 26, .tmp 30]) rfl ?_); at_builtin; refine Kd.R_append Kd.string (w0 := w0) w0.heap.size rfl (.tmp 26) (.tmp 30) 35 9 (.string ⟨#[]⟩) 16 rfl Tryd.underlying35 info9 rfl (by decide) (by omega) u0 x0_1 (a1.extract (x5_1 : Int).toNat a1.size) [.string (a1.extract (x5_1 : Int).toNat a1.size)] (fun k_ => (P0_ k_ ∨ w.heap.size ≤ k_)) (fun _ => False) rfl rfl ?aP (fun _ hk => hk.elim) ?aF ?aO ?aB ?aS ?aL ?_; (case aP => exact rfl); (case aB => exact (by repeat (first | (with_reducible first | exact HB.out | apply below_alloc | apply pw_below_drewN | apply below_drew1) | exact HB.out))); (case aF => exact (fun k_ hk => (.inr (Nat.le_trans (by first | exact HK.out.1 | exact (show Kept w _ (fun k_ => P0_ k_) from by repeat (first | (with_reducible first | exact HK.out | apply Kept.alloc | apply Kept.drewN | apply Kept.drew) | exact HK.out)).1) hk)))); (case aO => exact (by (with_reducible repeat (first | apply Kd.R_alloc | apply Kd.R_drewN | apply Kd.R_drew)); exact HO_0.out)); (case aS => exact (below_size (by repeat (first | (with_reducible first | exact HB.out | apply below_alloc | apply pw_below_drewN | apply below_drew1) | exact HB.out)))); (case aL => have := LMc14.out; omega); intro v143 w15 ho hb hg hat; rw [← Ny142.out] at ho; have n0_ := Aside0.mk (hb); have n1_ := Aside0.mk (Kept.of_grown (S := (fun k_ => P0_ k_)) hg (by repeat (first | (with_reducible first | exact HK.out | apply Kept.alloc | apply Kept.drewN | apply Kept.drew) | exact HK.out)) (fun k_ e_ => (HO_0.out.1 k_ e_))); have n2_ := Aside0.mk (ho); clear HB; clear HK; clear HO_0; have HB := n0_; have HK := n1_; have HO144 := n2_; clear n0_ n1_ n2_; clear ho hb hg hat))
              go_ret
              exact ⟨_, by first | rfl | (simp [errW_none, errW_some] <;> rfl) | (simp [*, errW_none, errW_some] <;> rfl), by (with_reducible repeat (first | apply Kd.R_alloc | apply Kd.R_drewN | apply Kd.R_drew)); exact HO144.out, by repeat (first | (with_reducible first | exact HB.out | apply below_alloc | apply pw_below_drewN | apply below_drew1) | exact HB.out), by repeat (first | (with_reducible first | exact HK.out | apply Kept.alloc | apply Kept.drewN | apply Kept.drew) | exact HK.out)⟩
            · rw [if_neg c14] at H
              exact absurd H (by simp)
          · rw [if_neg c13] at H
            exact absurd H (by simp)
        · rw [if_neg c12] at H
          exact absurd H (by simp)


/-! ### strings_Compare: function 37 (by hand) -/
def strings_Compare.f (a0 a1 : ByteArray) : Option Int := some (Lib.compareBytes a0.data.toList a1.data.toList)
theorem strings_Compare.calls (a0 a1 : ByteArray) (r : Int) (w : World) (h : strings_Compare.f a0 a1 = some r) :
    Calls Tryd.prog 37 #[.string a0, .string a1] w fun e w' => e = .returned (.int .i64 r) ∧ Drawn0 w w' := by
  obtain rfl := Option.some.inj h
  refine (Tryd.strings_Compare a0 a1 w).mono ?_
  rintro e w' ⟨rfl, rfl⟩
  exact ⟨rfl, Drawn0.refl _⟩
/-! ### server_isSubsetMatchTokenized: function 36 -/
mutual
def server_isSubsetMatchTokenized.l0 : Nat → List ByteArray → List ByteArray → List ByteArray → Int → Int → Option (Bool)
  | 0, _, _, _, _, _ => none
  | k + 1, x0, x1, x10, x11, x12 => if x12 < x11 then (if 0 ≤ x12 then (if x12 < (x10.length : Int) then (if x12 ≥ (x0.length : Int) then (some false) else (if ((rdOf ByteArray.empty x10 x12).size : Int) = 0 then (some false) else (if 0 < ((rdOf ByteArray.empty x10 x12).size : Int) then (if (bt (rdOf ByteArray.empty x10 x12) 0) = 62 then (server_isSubsetMatchTokenized.j1 k x0 x1 x12 (rdOf ByteArray.empty x10 x12) x10 x11 x12 (((rdOf ByteArray.empty x10 x12).size : Int) == 1)) else (server_isSubsetMatchTokenized.j1 k x0 x1 x12 (rdOf ByteArray.empty x10 x12) x10 x11 x12 false)) else (none)))) else (none)) else (none)) else (some ((x0.length : Int) == (x1.length : Int)))
def server_isSubsetMatchTokenized.j1 : Nat → List ByteArray → List ByteArray → Int → ByteArray → List ByteArray → Int → Int → Bool → Option (Bool)
  | 0, _, _, _, _, _, _, _, _ => none
  | k + 1, x0, x1, x5, x6, x10, x11, x12, x31 => if x31 = true then (some true) else (if 0 ≤ x5 then (if x5 < (x0.length : Int) then (if ((rdOf ByteArray.empty x0 x5).size : Int) = 0 then (server_isSubsetMatchTokenized.j2 k x0 x1 x5 x6 (rdOf ByteArray.empty x0 x5) x10 x11 x12 true) else (if 0 < ((rdOf ByteArray.empty x0 x5).size : Int) then (if (bt (rdOf ByteArray.empty x0 x5) 0) = 62 then (server_isSubsetMatchTokenized.j2 k x0 x1 x5 x6 (rdOf ByteArray.empty x0 x5) x10 x11 x12 (((rdOf ByteArray.empty x0 x5).size : Int) == 1)) else (server_isSubsetMatchTokenized.j2 k x0 x1 x5 x6 (rdOf ByteArray.empty x0 x5) x10 x11 x12 false)) else (none))) else (none)) else (none))
def server_isSubsetMatchTokenized.j2 : Nat → List ByteArray → List ByteArray → Int → ByteArray → ByteArray → List ByteArray → Int → Int → Bool → Option (Bool)
  | 0, _, _, _, _, _, _, _, _, _ => none
  | k + 1, x0, x1, x5, x6, x8, x10, x11, x12, x48 => if x48 = true then (some false) else (if 0 < (x8.size : Int) then (if (bt x8 0) = 42 then (server_isSubsetMatchTokenized.j3 k x0 x1 x5 x6 x8 x10 x11 x12 ((x8.size : Int) == 1)) else (server_isSubsetMatchTokenized.j3 k x0 x1 x5 x6 x8 x10 x11 x12 false)) else (none))
def server_isSubsetMatchTokenized.j3 : Nat → List ByteArray → List ByteArray → Int → ByteArray → ByteArray → List ByteArray → Int → Int → Bool → Option (Bool)
  | 0, _, _, _, _, _, _, _, _, _ => none
  | k + 1, x0, x1, x5, x6, x8, x10, x11, x12, x56 => if x56 = true then (if 0 < (x6.size : Int) then (if (bt x6 0) = 42 then (server_isSubsetMatchTokenized.j4 k x0 x1 x5 ((x6.size : Int) == 1) x10 x11 x12) else (server_isSubsetMatchTokenized.j4 k x0 x1 x5 false x10 x11 x12)) else (none)) else (if 0 < (x6.size : Int) then (if (bt x6 0) = 42 then (server_isSubsetMatchTokenized.l0 k x0 x1 x10 x11 (wrap64 (x12 + 1))) else ((strings_Compare.f x8 x6).bind fun t147 => (if t147 = 0 then (server_isSubsetMatchTokenized.l0 k x0 x1 x10 x11 (wrap64 (x12 + 1))) else (some false)))) else (none))
def server_isSubsetMatchTokenized.j4 : Nat → List ByteArray → List ByteArray → Int → Bool → List ByteArray → Int → Int → Option (Bool)
  | 0, _, _, _, _, _, _, _ => none
  | k + 1, x0, x1, x5, x9, x10, x11, x12 => if x9 = true then (if x5 ≥ (x1.length : Int) then (some true) else (server_isSubsetMatchTokenized.l0 k x0 x1 x10 x11 (wrap64 (x12 + 1)))) else (some false)
end
def server_isSubsetMatchTokenized.f (k : Nat) (l0 : List ByteArray) (l1 : List ByteArray) : Option (Bool) := server_isSubsetMatchTokenized.l0 k l0 l1 l1 (l1.length : Int) 0
theorem server_isSubsetMatchTokenized.mono_l : ∀ k, (∀ y0 y1 y2 y3 y4, LeO (server_isSubsetMatchTokenized.l0 k y0 y1 y2 y3 y4) (server_isSubsetMatchTokenized.l0 (k + 1) y0 y1 y2 y3 y4)) ∧ (∀ y0 y1 y2 y3 y4 y5 y6 y7, LeO (server_isSubsetMatchTokenized.j1 k y0 y1 y2 y3 y4 y5 y6 y7) (server_isSubsetMatchTokenized.j1 (k + 1) y0 y1 y2 y3 y4 y5 y6 y7)) ∧ (∀ y0 y1 y2 y3 y4 y5 y6 y7 y8, LeO (server_isSubsetMatchTokenized.j2 k y0 y1 y2 y3 y4 y5 y6 y7 y8) (server_isSubsetMatchTokenized.j2 (k + 1) y0 y1 y2 y3 y4 y5 y6 y7 y8)) ∧ (∀ y0 y1 y2 y3 y4 y5 y6 y7 y8, LeO (server_isSubsetMatchTokenized.j3 k y0 y1 y2 y3 y4 y5 y6 y7 y8) (server_isSubsetMatchTokenized.j3 (k + 1) y0 y1 y2 y3 y4 y5 y6 y7 y8)) ∧ (∀ y0 y1 y2 y3 y4 y5 y6, LeO (server_isSubsetMatchTokenized.j4 k y0 y1 y2 y3 y4 y5 y6) (server_isSubsetMatchTokenized.j4 (k + 1) y0 y1 y2 y3 y4 y5 y6))
  | 0 => ⟨fun _ _ _ _ _ r h => by simp [server_isSubsetMatchTokenized.l0] at h, fun _ _ _ _ _ _ _ _ r h => by simp [server_isSubsetMatchTokenized.j1] at h, fun _ _ _ _ _ _ _ _ _ r h => by simp [server_isSubsetMatchTokenized.j2] at h, fun _ _ _ _ _ _ _ _ _ r h => by simp [server_isSubsetMatchTokenized.j3] at h, fun _ _ _ _ _ _ _ r h => by simp [server_isSubsetMatchTokenized.j4] at h⟩
  | k + 1 => by
    obtain ⟨ih0, ih1, ih2, ih3, ih4⟩ := server_isSubsetMatchTokenized.mono_l k
    refine ⟨?_, ?_, ?_, ?_, ?_⟩
    · intro y0 y1 y2 y3 y4
      unfold server_isSubsetMatchTokenized.l0
      repeat' first
      | (with_reducible exact ih0 _ _ _ _ _)
      | (with_reducible exact ih1 _ _ _ _ _ _ _ _)
      | (with_reducible exact ih2 _ _ _ _ _ _ _ _ _)
      | (with_reducible exact ih3 _ _ _ _ _ _ _ _ _)
      | (with_reducible exact ih4 _ _ _ _ _ _ _)
      | (with_reducible exact LeO.refl _)
      | (with_reducible exact LeO.none _)
      | (with_reducible refine LeO.ite ?_ ?_)
      | (with_reducible refine LeO.bind ?_ (fun _ => ?_))
      | exact ih0 _ _ _ _ _
      | exact ih1 _ _ _ _ _ _ _ _
      | exact ih2 _ _ _ _ _ _ _ _ _
      | exact ih3 _ _ _ _ _ _ _ _ _
      | exact ih4 _ _ _ _ _ _ _
      | exact LeO.none _
      | refine LeO.ite ?_ ?_
      | refine LeO.bind ?_ (fun _ => ?_)
    · intro y0 y1 y2 y3 y4 y5 y6 y7
      unfold server_isSubsetMatchTokenized.j1
      repeat' first
      | (with_reducible exact ih0 _ _ _ _ _)
      | (with_reducible exact ih1 _ _ _ _ _ _ _ _)
      | (with_reducible exact ih2 _ _ _ _ _ _ _ _ _)
      | (with_reducible exact ih3 _ _ _ _ _ _ _ _ _)
      | (with_reducible exact ih4 _ _ _ _ _ _ _)
      | (with_reducible exact LeO.refl _)
      | (with_reducible exact LeO.none _)
      | (with_reducible refine LeO.ite ?_ ?_)
      | (with_reducible refine LeO.bind ?_ (fun _ => ?_))
      | exact ih0 _ _ _ _ _
      | exact ih1 _ _ _ _ _ _ _ _
      | exact ih2 _ _ _ _ _ _ _ _ _
      | exact ih3 _ _ _ _ _ _ _ _ _
      | exact ih4 _ _ _ _ _ _ _
      | exact LeO.none _
      | refine LeO.ite ?_ ?_
      | refine LeO.bind ?_ (fun _ => ?_)
    · intro y0 y1 y2 y3 y4 y5 y6 y7 y8
      unfold server_isSubsetMatchTokenized.j2
      repeat' first
      | (with_reducible exact ih0 _ _ _ _ _)
      | (with_reducible exact ih1 _ _ _ _ _ _ _ _)
      | (with_reducible exact ih2 _ _ _ _ _ _ _ _ _)
      | (with_reducible exact ih3 _ _ _ _ _ _ _ _ _)
      | (with_reducible exact ih4 _ _ _ _ _ _ _)
      | (with_reducible exact LeO.refl _)
      | (with_reducible exact LeO.none _)
      | (with_reducible refine LeO.ite ?_ ?_)
      | (with_reducible refine LeO.bind ?_ (fun _ => ?_))
      | exact ih0 _ _ _ _ _
      | exact ih1 _ _ _ _ _ _ _ _
      | exact ih2 _ _ _ _ _ _ _ _ _
      | exact ih3 _ _ _ _ _ _ _ _ _
      | exact ih4 _ _ _ _ _ _ _
      | exact LeO.none _
      | refine LeO.ite ?_ ?_
      | refine LeO.bind ?_ (fun _ => ?_)
    · intro y0 y1 y2 y3 y4 y5 y6 y7 y8
      unfold server_isSubsetMatchTokenized.j3
      repeat' first
      | (with_reducible exact ih0 _ _ _ _ _)
      | (with_reducible exact ih1 _ _ _ _ _ _ _ _)
      | (with_reducible exact ih2 _ _ _ _ _ _ _ _ _)
      | (with_reducible exact ih3 _ _ _ _ _ _ _ _ _)
      | (with_reducible exact ih4 _ _ _ _ _ _ _)
      | (with_reducible exact LeO.refl _)
      | (with_reducible exact LeO.none _)
      | (with_reducible refine LeO.ite ?_ ?_)
      | (with_reducible refine LeO.bind ?_ (fun _ => ?_))
      | exact ih0 _ _ _ _ _
      | exact ih1 _ _ _ _ _ _ _ _
      | exact ih2 _ _ _ _ _ _ _ _ _
      | exact ih3 _ _ _ _ _ _ _ _ _
      | exact ih4 _ _ _ _ _ _ _
      | exact LeO.none _
      | refine LeO.ite ?_ ?_
      | refine LeO.bind ?_ (fun _ => ?_)
    · intro y0 y1 y2 y3 y4 y5 y6
      unfold server_isSubsetMatchTokenized.j4
      repeat' first
      | (with_reducible exact ih0 _ _ _ _ _)
      | (with_reducible exact ih1 _ _ _ _ _ _ _ _)
      | (with_reducible exact ih2 _ _ _ _ _ _ _ _ _)
      | (with_reducible exact ih3 _ _ _ _ _ _ _ _ _)
      | (with_reducible exact ih4 _ _ _ _ _ _ _)
      | (with_reducible exact LeO.refl _)
      | (with_reducible exact LeO.none _)
      | (with_reducible refine LeO.ite ?_ ?_)
      | (with_reducible refine LeO.bind ?_ (fun _ => ?_))
      | exact ih0 _ _ _ _ _
      | exact ih1 _ _ _ _ _ _ _ _
      | exact ih2 _ _ _ _ _ _ _ _ _
      | exact ih3 _ _ _ _ _ _ _ _ _
      | exact ih4 _ _ _ _ _ _ _
      | exact LeO.none _
      | refine LeO.ite ?_ ?_
      | refine LeO.bind ?_ (fun _ => ?_)
theorem server_isSubsetMatchTokenized.mono : ∀ a0 a1 k, LeO (server_isSubsetMatchTokenized.f k a0 a1) (server_isSubsetMatchTokenized.f (k + 1) a0 a1) := by
  intro a0 a1 k
  obtain ⟨ih0, ih1, ih2, ih3, ih4⟩ := server_isSubsetMatchTokenized.mono_l k
  unfold server_isSubsetMatchTokenized.f
  repeat' first
      | (with_reducible exact ih0 _ _ _ _ _)
      | (with_reducible exact ih1 _ _ _ _ _ _ _ _)
      | (with_reducible exact ih2 _ _ _ _ _ _ _ _ _)
      | (with_reducible exact ih3 _ _ _ _ _ _ _ _ _)
      | (with_reducible exact ih4 _ _ _ _ _ _ _)
      | (with_reducible exact LeO.refl _)
      | (with_reducible exact LeO.none _)
      | (with_reducible refine LeO.ite ?_ ?_)
      | (with_reducible refine LeO.bind ?_ (fun _ => ?_))
      | exact ih0 _ _ _ _ _
      | exact ih1 _ _ _ _ _ _ _ _
      | exact ih2 _ _ _ _ _ _ _ _ _
      | exact ih3 _ _ _ _ _ _ _ _ _
      | exact ih4 _ _ _ _ _ _ _
      | exact LeO.none _
      | refine LeO.ite ?_ ?_
      | refine LeO.bind ?_ (fun _ => ?_)
set_option maxHeartbeats 8000000 in
set_option maxRecDepth 100000 in
theorem server_isSubsetMatchTokenized.calls (k : Nat) (A0 : Option Addr) (c0 : Nat) (l0 : List ByteArray) (A1 : Option Addr) (c1 : Nat) (l1 : List ByteArray) (r : Bool) (w : World) (hr0 : Kd.C Kd.string w A0 l0.length l0) (hc0 : l0.length ≤ c0) (hr1 : Kd.C Kd.string w A1 l1.length l1) (hc1 : l1.length ≤ c1) (h : server_isSubsetMatchTokenized.f k l0 l1 = some r) :
    Calls Tryd.prog 36 #[.slice A0 l0.length c0, .slice A1 l1.length c1] w fun e w' => e = .returned (.bool r) ∧ Drawn0 w w' := by
  have HR0 := Aside0.mk hr0
  have HC0 := Aside0.mk hc0
  clear hr0 hc0
  have HR1 := Aside0.mk hr1
  have HC1 := Aside0.mk hc1
  clear hr1 hc1
  have H : (server_isSubsetMatchTokenized.l0 k l0 l1 l1 (l1.length : Int) 0) = some r := h
  clear h
  have H' := Aside0.mk H
  clear H
  go_enter Tryd.func36, Tryd.ntmps36
  go_wp2
  go_loopg [12] k (fun kq v12 w' => ∃ (x12_1 : Int), v12 = .int .i64 x12_1 ∧ Aside0 (server_isSubsetMatchTokenized.l0 kq l0 l1 l1 (l1.length : Int) x12_1 = some r) ∧ Aside0 (kq ≤ k) ∧ Drawn0 w w')
  case atStart => exact ⟨(0), (by first | rfl | (simp; done) | (simp [*]; done)), H', ⟨Nat.le_refl _⟩, by repeat (first | exact Drawn0.refl _ | apply Drawn0.step)⟩
  case round =>
    clear H'
    try clear c1
    try clear p2
    obtain ⟨x12_1, rfl, HA, HK1, ⟨m1, rfl⟩⟩ := hrel
    cases gk with
    | zero => exact absurd HA.out (by simp [server_isSubsetMatchTokenized.l0])
    | succ k1 =>
      have H := HA.out
      clear HA
      simp only [server_isSubsetMatchTokenized.l0] at H
      by_cases c3 : x12_1 < (l1.length : Int)
      · rw [if_pos c3] at H
        have c3b0 : decide (x12_1 < (l1.length : Int)) = true := decide_eq_true c3
        clear c3
        by_cases c4 : 0 ≤ x12_1
        · rw [if_pos c4] at H
          have c4b0 : decide (0 ≤ x12_1) = true := decide_eq_true c4
          clear c4
          by_cases c5 : x12_1 < (l1.length : Int)
          · rw [if_pos c5] at H
            have c5b0 : decide (x12_1 < (l1.length : Int)) = true := decide_eq_true c5
            clear c5
            by_cases c6 : x12_1 ≥ (l0.length : Int)
            · rw [if_pos c6] at H
              have c6b0 : decide ((l0.length : Int) ≤ x12_1) = true := decide_eq_true c6
              clear c6
              obtain rfl := Option.some.inj H
              have p145 : 0 ≤ (x12_1 : Int) := of_decide_eq_true (by first | (with_reducible assumption) | assumption)
              have q145 : x12_1 < (l1.length : Int) := of_decide_eq_true (by first | (with_reducible assumption) | assumption)
              obtain ⟨ad145, e145, hx145_0⟩ := Kd.at_string HR1.out x12_1 p145 q145
              cases e145
              replace p145 := eq_true p145
              replace q145 := eq_true q145
              go_wp2
              go_ret
              exact ⟨by first | rfl | (simp; done) | (simp [*]; done), by repeat (first | exact Drawn0.refl _ | apply Drawn0.step)⟩
            · rw [if_neg c6] at H
              have c6b0 : decide ((l0.length : Int) ≤ x12_1) = false := decide_eq_false c6
              clear c6
              by_cases c7 : ((rdOf ByteArray.empty l1 x12_1).size : Int) = 0
              · rw [if_pos c7] at H
                have c7b0 : (((rdOf ByteArray.empty l1 x12_1).size : Int) == 0) = true := beq_iff_eq.mpr c7
                have c7b1 : (((rdOf ByteArray.empty l1 x12_1).size : Int) != 0) = false := bne_eq_false_iff_eq.mpr c7
                clear c7
                obtain rfl := Option.some.inj H
                have p145 : 0 ≤ (x12_1 : Int) := of_decide_eq_true (by first | (with_reducible assumption) | assumption)
                have q145 : x12_1 < (l1.length : Int) := of_decide_eq_true (by first | (with_reducible assumption) | assumption)
                obtain ⟨ad145, e145, hx145_0⟩ := Kd.at_string HR1.out x12_1 p145 q145
                cases e145
                replace p145 := eq_true p145
                replace q145 := eq_true q145
                go_wp2
                go_ret
                exact ⟨by first | rfl | (simp; done) | (simp [*]; done), by repeat (first | exact Drawn0.refl _ | apply Drawn0.step)⟩
              · rw [if_neg c7] at H
                have c7b0 : (((rdOf ByteArray.empty l1 x12_1).size : Int) == 0) = false := beq_eq_false_iff_ne.mpr c7
                have c7b1 : (((rdOf ByteArray.empty l1 x12_1).size : Int) != 0) = true := bne_iff_ne.mpr c7
                have HC8 := Aside0.mk H
                clear H
                have p145 : 0 ≤ (x12_1 : Int) := of_decide_eq_true (by first | (with_reducible assumption) | assumption)
                have q145 : x12_1 < (l1.length : Int) := of_decide_eq_true (by first | (with_reducible assumption) | assumption)
                obtain ⟨ad145, e145, hx145_0⟩ := Kd.at_string HR1.out x12_1 p145 q145
                cases e145
                replace p145 := eq_true p145
                replace q145 := eq_true q145
                go_upto_region 9 with (fail)
                go_cut [31] (fun v31 wc => ∃ (kq : Nat) (x31_7 : Bool), v31 = .bool x31_7 ∧ Aside0 (server_isSubsetMatchTokenized.j1 kq l0 l1 x12_1 (rdOf ByteArray.empty l1 x12_1) l1 (l1.length : Int) x12_1 x31_7 = some r) ∧ Aside0 (kq ≤ k1) ∧ Drawn0 w wc)
                case first =>
                  have H := HC8.out
                  clear HC8
                  by_cases c9 : 0 < ((rdOf ByteArray.empty l1 x12_1).size : Int)
                  · rw [if_pos c9] at H
                    have c9b0 : decide (0 < ((rdOf ByteArray.empty l1 x12_1).size : Int)) = true := decide_eq_true c9
                    have c9b1 : decide (0 < (rdOf ByteArray.empty l1 x12_1).size) = true := decide_eq_true (by omega)
                    clear c9
                    (first | rw [c9b0] | (simp only [i64_w, i32_w]; rw [c9b0]) | skip)
                    by_cases c11 : (bt (rdOf ByteArray.empty l1 x12_1) 0) = 62
                    · rw [if_pos c11] at H
                      have c11b0 : ((bt (rdOf ByteArray.empty l1 x12_1) 0) == 62) = true := beq_iff_eq.mpr c11
                      have c11b1 : ((bt (rdOf ByteArray.empty l1 x12_1) 0) != 62) = false := bne_eq_false_iff_eq.mpr c11
                      clear c11
                      have H' := Aside0.mk H
                      clear H
                      have p10 : 0 ≤ (0 : Int) := (by omega)
                      have q10 : 0 < (rdOf ByteArray.empty l1 x12_1).size := (by have : (0 : Int) < ((rdOf ByteArray.empty l1 x12_1).size : Int) := of_decide_eq_true (by first | (with_reducible assumption) | assumption); omega)
                      have hx10 : ∀ h : 0 < (rdOf ByteArray.empty l1 x12_1).size, (((rdOf ByteArray.empty l1 x12_1)[0]'h).toNat : Int) = bt (rdOf ByteArray.empty l1 x12_1) 0 := bt_at (rdOf ByteArray.empty l1 x12_1) 0
                      clear p10
                      have qi10 : (0 < ((rdOf ByteArray.empty l1 x12_1).size : Int)) = True := eq_true (of_decide_eq_true (by first | (with_reducible assumption) | assumption))
                      replace q10 := eq_true q10
                      go_wp2
                      go_meet
                      case rel => exact ⟨_, ((((rdOf ByteArray.empty l1 x12_1).size : Int) == 1)), (by first | rfl | (simp; done) | (simp [*]; done)), H', ⟨by have := HK1.out; first | omega | exact Nat.le_refl _⟩, by repeat (first | exact Drawn0.refl _ | apply Drawn0.step)⟩
                    · rw [if_neg c11] at H
                      have c11b0 : ((bt (rdOf ByteArray.empty l1 x12_1) 0) == 62) = false := beq_eq_false_iff_ne.mpr c11
                      have c11b1 : ((bt (rdOf ByteArray.empty l1 x12_1) 0) != 62) = true := bne_iff_ne.mpr c11
                      have H' := Aside0.mk H
                      clear H
                      have p10 : 0 ≤ (0 : Int) := (by omega)
                      have q10 : 0 < (rdOf ByteArray.empty l1 x12_1).size := (by have : (0 : Int) < ((rdOf ByteArray.empty l1 x12_1).size : Int) := of_decide_eq_true (by first | (with_reducible assumption) | assumption); omega)
                      have hx10 : ∀ h : 0 < (rdOf ByteArray.empty l1 x12_1).size, (((rdOf ByteArray.empty l1 x12_1)[0]'h).toNat : Int) = bt (rdOf ByteArray.empty l1 x12_1) 0 := bt_at (rdOf ByteArray.empty l1 x12_1) 0
                      clear p10
                      have qi10 : (0 < ((rdOf ByteArray.empty l1 x12_1).size : Int)) = True := eq_true (of_decide_eq_true (by first | (with_reducible assumption) | assumption))
                      replace q10 := eq_true q10
                      go_wp2
                      go_meet
                      case rel => exact ⟨_, (false), (by first | rfl | (simp; done) | (simp [*]; done)), H', ⟨by have := HK1.out; first | omega | exact Nat.le_refl _⟩, by repeat (first | exact Drawn0.refl _ | apply Drawn0.step)⟩
                  · rw [if_neg c9] at H
                    exact absurd H (by simp)
                case rest =>
                  clear HC8
                  try clear c1
                  try clear p1
                  try clear q1
                  try clear hx1
                  try clear qi1
                  try clear p2
                  try clear c3
                  try clear c3b0
                  try clear c4
                  try clear c4b0
                  try clear c5
                  try clear c5b0
                  try clear c6
                  try clear c6b0
                  try clear c7
                  try clear c7b0
                  try clear c7b1
                  try clear c9
                  try clear c9b0
                  try clear c9b1
                  try clear p10
                  try clear q10
                  try clear hx10
                  try clear qi10
                  try clear c11
                  try clear c11b0
                  try clear c11b1
                  try clear hx145_0
                  try clear p10
                  try clear p145
                  try clear p2
                  try clear q10
                  try clear q145
                  obtain ⟨kq, x31_7, rfl, HA, HJ7, ⟨mc7, rfl⟩⟩ := hcut
                  cases kq with
                  | zero => exact absurd HA.out (by simp [server_isSubsetMatchTokenized.j1])
                  | succ kj7 =>
                    have H := HA.out
                    clear HA
                    simp only [server_isSubsetMatchTokenized.j1] at H
                    by_cases c12 : x31_7 = true
                    · subst c12
                      have H1 : (some true) = some r := by rw [if_pos rfl] at H; exact H
                      clear H
                      have H := H1
                      clear H1
                      obtain rfl := Option.some.inj H
                      go_wp2
                      go_ret
                      exact ⟨by first | rfl | (simp; done) | (simp [*]; done), by repeat (first | exact Drawn0.refl _ | apply Drawn0.step)⟩
                    · replace c12 := Bool.eq_false_iff.mpr c12
                      subst c12
                      have H1 : (if 0 ≤ x12_1 then (if x12_1 < (l0.length : Int) then (if ((rdOf ByteArray.empty l0 x12_1).size : Int) = 0 then (server_isSubsetMatchTokenized.j2 kj7 l0 l1 x12_1 (rdOf ByteArray.empty l1 x12_1) (rdOf ByteArray.empty l0 x12_1) l1 (l1.length : Int) x12_1 true) else (if 0 < ((rdOf ByteArray.empty l0 x12_1).size : Int) then (if (bt (rdOf ByteArray.empty l0 x12_1) 0) = 62 then (server_isSubsetMatchTokenized.j2 kj7 l0 l1 x12_1 (rdOf ByteArray.empty l1 x12_1) (rdOf ByteArray.empty l0 x12_1) l1 (l1.length : Int) x12_1 (((rdOf ByteArray.empty l0 x12_1).size : Int) == 1)) else (server_isSubsetMatchTokenized.j2 kj7 l0 l1 x12_1 (rdOf ByteArray.empty l1 x12_1) (rdOf ByteArray.empty l0 x12_1) l1 (l1.length : Int) x12_1 false)) else (none))) else (none)) else (none)) = some r := by rw [if_neg (show ¬ (false = true) by decide)] at H; exact H
                      clear H
                      have H := H1
                      clear H1
                      by_cases c13 : 0 ≤ x12_1
                      · rw [if_pos c13] at H
                        have c13b0 : decide (0 ≤ x12_1) = true := decide_eq_true c13
                        clear c13
                        by_cases c14 : x12_1 < (l0.length : Int)
                        · rw [if_pos c14] at H
                          have c14b0 : decide (x12_1 < (l0.length : Int)) = true := decide_eq_true c14
                          clear c14
                          have HC15 := Aside0.mk H
                          clear H
                          have p146 : 0 ≤ (x12_1 : Int) := of_decide_eq_true (by first | (with_reducible assumption) | assumption)
                          have q146 : x12_1 < (l0.length : Int) := of_decide_eq_true (by first | (with_reducible assumption) | assumption)
                          obtain ⟨ad146, e146, hx146_0⟩ := Kd.at_string HR0.out x12_1 p146 q146
                          cases e146
                          replace p146 := eq_true p146
                          replace q146 := eq_true q146
                          go_upto_region 13 with (fail)
                          go_cut [48] (fun v48 wc => ∃ (kq : Nat) (x48_14 : Bool), v48 = .bool x48_14 ∧ Aside0 (server_isSubsetMatchTokenized.j2 kq l0 l1 x12_1 (rdOf ByteArray.empty l1 x12_1) (rdOf ByteArray.empty l0 x12_1) l1 (l1.length : Int) x12_1 x48_14 = some r) ∧ Aside0 (kq ≤ kj7) ∧ Drawn0 w wc)
                          case first =>
                            have H := HC15.out
                            clear HC15
                            by_cases c16 : ((rdOf ByteArray.empty l0 x12_1).size : Int) = 0
                            · rw [if_pos c16] at H
                              have c16b0 : (((rdOf ByteArray.empty l0 x12_1).size : Int) == 0) = true := beq_iff_eq.mpr c16
                              have c16b1 : (((rdOf ByteArray.empty l0 x12_1).size : Int) != 0) = false := bne_eq_false_iff_eq.mpr c16
                              clear c16
                              (first | rw [c16b0] | (simp only [i64_w, i32_w]; rw [c16b0]) | skip)
                              have H' := Aside0.mk H
                              clear H
                              go_wp2
                              go_meet
                              case rel => exact ⟨_, (true), (by first | rfl | (simp; done) | (simp [*]; done)), H', ⟨by have := HK1.out; have := HJ7.out; first | omega | exact Nat.le_refl _⟩, by repeat (first | exact Drawn0.refl _ | apply Drawn0.step)⟩
                            · rw [if_neg c16] at H
                              have c16b0 : (((rdOf ByteArray.empty l0 x12_1).size : Int) == 0) = false := beq_eq_false_iff_ne.mpr c16
                              have c16b1 : (((rdOf ByteArray.empty l0 x12_1).size : Int) != 0) = true := bne_iff_ne.mpr c16
                              (first | rw [c16b0] | (simp only [i64_w, i32_w]; rw [c16b0]) | skip)
                              by_cases c17 : 0 < ((rdOf ByteArray.empty l0 x12_1).size : Int)
                              · rw [if_pos c17] at H
                                have c17b0 : decide (0 < ((rdOf ByteArray.empty l0 x12_1).size : Int)) = true := decide_eq_true c17
                                have c17b1 : decide (0 < (rdOf ByteArray.empty l0 x12_1).size) = true := decide_eq_true (by omega)
                                clear c17
                                by_cases c19 : (bt (rdOf ByteArray.empty l0 x12_1) 0) = 62
                                · rw [if_pos c19] at H
                                  have c19b0 : ((bt (rdOf ByteArray.empty l0 x12_1) 0) == 62) = true := beq_iff_eq.mpr c19
                                  have c19b1 : ((bt (rdOf ByteArray.empty l0 x12_1) 0) != 62) = false := bne_eq_false_iff_eq.mpr c19
                                  clear c19
                                  have H' := Aside0.mk H
                                  clear H
                                  have p18 : 0 ≤ (0 : Int) := (by omega)
                                  have q18 : 0 < (rdOf ByteArray.empty l0 x12_1).size := (by have : (0 : Int) < ((rdOf ByteArray.empty l0 x12_1).size : Int) := of_decide_eq_true (by first | (with_reducible assumption) | assumption); omega)
                                  have hx18 : ∀ h : 0 < (rdOf ByteArray.empty l0 x12_1).size, (((rdOf ByteArray.empty l0 x12_1)[0]'h).toNat : Int) = bt (rdOf ByteArray.empty l0 x12_1) 0 := bt_at (rdOf ByteArray.empty l0 x12_1) 0
                                  clear p18
                                  have qi18 : (0 < ((rdOf ByteArray.empty l0 x12_1).size : Int)) = True := eq_true (of_decide_eq_true (by first | (with_reducible assumption) | assumption))
                                  replace q18 := eq_true q18
                                  go_wp2
                                  go_meet
                                  case rel => exact ⟨_, ((((rdOf ByteArray.empty l0 x12_1).size : Int) == 1)), (by first | rfl | (simp; done) | (simp [*]; done)), H', ⟨by have := HK1.out; have := HJ7.out; first | omega | exact Nat.le_refl _⟩, by repeat (first | exact Drawn0.refl _ | apply Drawn0.step)⟩
                                · rw [if_neg c19] at H
                                  have c19b0 : ((bt (rdOf ByteArray.empty l0 x12_1) 0) == 62) = false := beq_eq_false_iff_ne.mpr c19
                                  have c19b1 : ((bt (rdOf ByteArray.empty l0 x12_1) 0) != 62) = true := bne_iff_ne.mpr c19
                                  have H' := Aside0.mk H
                                  clear H
                                  have p18 : 0 ≤ (0 : Int) := (by omega)
                                  have q18 : 0 < (rdOf ByteArray.empty l0 x12_1).size := (by have : (0 : Int) < ((rdOf ByteArray.empty l0 x12_1).size : Int) := of_decide_eq_true (by first | (with_reducible assumption) | assumption); omega)
                                  have hx18 : ∀ h : 0 < (rdOf ByteArray.empty l0 x12_1).size, (((rdOf ByteArray.empty l0 x12_1)[0]'h).toNat : Int) = bt (rdOf ByteArray.empty l0 x12_1) 0 := bt_at (rdOf ByteArray.empty l0 x12_1) 0
                                  clear p18
                                  have qi18 : (0 < ((rdOf ByteArray.empty l0 x12_1).size : Int)) = True := eq_true (of_decide_eq_true (by first | (with_reducible assumption) | assumption))
                                  replace q18 := eq_true q18
                                  go_wp2
                                  go_meet
                                  case rel => exact ⟨_, (false), (by first | rfl | (simp; done) | (simp [*]; done)), H', ⟨by have := HK1.out; have := HJ7.out; first | omega | exact Nat.le_refl _⟩, by repeat (first | exact Drawn0.refl _ | apply Drawn0.step)⟩
                              · rw [if_neg c17] at H
                                exact absurd H (by simp)
                          case rest =>
                            clear HC15
                            try clear c1
                            try clear p1
                            try clear q1
                            try clear hx1
                            try clear qi1
                            try clear p2
                            try clear c3
                            try clear c3b0
                            try clear c4
                            try clear c4b0
                            try clear c5
                            try clear c5b0
                            try clear c6
                            try clear c6b0
                            try clear c7
                            try clear c7b0
                            try clear c7b1
                            try clear c9
                            try clear c9b0
                            try clear c9b1
                            try clear p10
                            try clear q10
                            try clear hx10
                            try clear qi10
                            try clear c11
                            try clear c11b0
                            try clear c11b1
                            try clear c12
                            try clear c13
                            try clear c13b0
                            try clear c14
                            try clear c14b0
                            try clear p14
                            try clear q14
                            try clear hx14
                            try clear c16
                            try clear c16b0
                            try clear c16b1
                            try clear c17
                            try clear c17b0
                            try clear c17b1
                            try clear p18
                            try clear q18
                            try clear hx18
                            try clear qi18
                            try clear c19
                            try clear c19b0
                            try clear c19b1
                            try clear hx145_0
                            try clear hx146_0
                            try clear p1
                            try clear p10
                            try clear p145
                            try clear p146
                            try clear p18
                            try clear p2
                            try clear q1
                            try clear q10
                            try clear q145
                            try clear q146
                            try clear q18
                            obtain ⟨kq, x48_14, rfl, HA, HJ14, ⟨mc14, rfl⟩⟩ := hcut
                            cases kq with
                            | zero => exact absurd HA.out (by simp [server_isSubsetMatchTokenized.j2])
                            | succ kj14 =>
                              have H := HA.out
                              clear HA
                              simp only [server_isSubsetMatchTokenized.j2] at H
                              by_cases c20 : x48_14 = true
                              · subst c20
                                have H1 : (some false) = some r := by rw [if_pos rfl] at H; exact H
                                clear H
                                have H := H1
                                clear H1
                                obtain rfl := Option.some.inj H
                                go_wp2
                                go_ret
                                exact ⟨by first | rfl | (simp; done) | (simp [*]; done), by repeat (first | exact Drawn0.refl _ | apply Drawn0.step)⟩
                              · replace c20 := Bool.eq_false_iff.mpr c20
                                subst c20
                                have H1 : (if 0 < ((rdOf ByteArray.empty l0 x12_1).size : Int) then (if (bt (rdOf ByteArray.empty l0 x12_1) 0) = 42 then (server_isSubsetMatchTokenized.j3 kj14 l0 l1 x12_1 (rdOf ByteArray.empty l1 x12_1) (rdOf ByteArray.empty l0 x12_1) l1 (l1.length : Int) x12_1 (((rdOf ByteArray.empty l0 x12_1).size : Int) == 1)) else (server_isSubsetMatchTokenized.j3 kj14 l0 l1 x12_1 (rdOf ByteArray.empty l1 x12_1) (rdOf ByteArray.empty l0 x12_1) l1 (l1.length : Int) x12_1 false)) else (none)) = some r := by rw [if_neg (show ¬ (false = true) by decide)] at H; exact H
                                clear H
                                have H := H1
                                clear H1
                                have HC21 := Aside0.mk H
                                clear H
                                go_upto_region 15 with (fail)
                                go_cut [56] (fun v56 wc => ∃ (kq : Nat) (x56_20 : Bool), v56 = .bool x56_20 ∧ Aside0 (server_isSubsetMatchTokenized.j3 kq l0 l1 x12_1 (rdOf ByteArray.empty l1 x12_1) (rdOf ByteArray.empty l0 x12_1) l1 (l1.length : Int) x12_1 x56_20 = some r) ∧ Aside0 (kq ≤ kj14) ∧ Drawn0 w wc)
                                case first =>
                                  have H := HC21.out
                                  clear HC21
                                  by_cases c22 : 0 < ((rdOf ByteArray.empty l0 x12_1).size : Int)
                                  · rw [if_pos c22] at H
                                    have c22b0 : decide (0 < ((rdOf ByteArray.empty l0 x12_1).size : Int)) = true := decide_eq_true c22
                                    have c22b1 : decide (0 < (rdOf ByteArray.empty l0 x12_1).size) = true := decide_eq_true (by omega)
                                    clear c22
                                    (first | rw [c22b0] | (simp only [i64_w, i32_w]; rw [c22b0]) | skip)
                                    by_cases c24 : (bt (rdOf ByteArray.empty l0 x12_1) 0) = 42
                                    · rw [if_pos c24] at H
                                      have c24b0 : ((bt (rdOf ByteArray.empty l0 x12_1) 0) == 42) = true := beq_iff_eq.mpr c24
                                      have c24b1 : ((bt (rdOf ByteArray.empty l0 x12_1) 0) != 42) = false := bne_eq_false_iff_eq.mpr c24
                                      clear c24
                                      have H' := Aside0.mk H
                                      clear H
                                      have p23 : 0 ≤ (0 : Int) := (by omega)
                                      have q23 : 0 < (rdOf ByteArray.empty l0 x12_1).size := (by have : (0 : Int) < ((rdOf ByteArray.empty l0 x12_1).size : Int) := of_decide_eq_true (by first | (with_reducible assumption) | assumption); omega)
                                      have hx23 : ∀ h : 0 < (rdOf ByteArray.empty l0 x12_1).size, (((rdOf ByteArray.empty l0 x12_1)[0]'h).toNat : Int) = bt (rdOf ByteArray.empty l0 x12_1) 0 := bt_at (rdOf ByteArray.empty l0 x12_1) 0
                                      clear p23
                                      have qi23 : (0 < ((rdOf ByteArray.empty l0 x12_1).size : Int)) = True := eq_true (of_decide_eq_true (by first | (with_reducible assumption) | assumption))
                                      replace q23 := eq_true q23
                                      go_wp2
                                      go_meet
                                      case rel => exact ⟨_, ((((rdOf ByteArray.empty l0 x12_1).size : Int) == 1)), (by first | rfl | (simp; done) | (simp [*]; done)), H', ⟨by have := HK1.out; have := HJ7.out; have := HJ14.out; first | omega | exact Nat.le_refl _⟩, by repeat (first | exact Drawn0.refl _ | apply Drawn0.step)⟩
                                    · rw [if_neg c24] at H
                                      have c24b0 : ((bt (rdOf ByteArray.empty l0 x12_1) 0) == 42) = false := beq_eq_false_iff_ne.mpr c24
                                      have c24b1 : ((bt (rdOf ByteArray.empty l0 x12_1) 0) != 42) = true := bne_iff_ne.mpr c24
                                      have H' := Aside0.mk H
                                      clear H
                                      have p23 : 0 ≤ (0 : Int) := (by omega)
                                      have q23 : 0 < (rdOf ByteArray.empty l0 x12_1).size := (by have : (0 : Int) < ((rdOf ByteArray.empty l0 x12_1).size : Int) := of_decide_eq_true (by first | (with_reducible assumption) | assumption); omega)
                                      have hx23 : ∀ h : 0 < (rdOf ByteArray.empty l0 x12_1).size, (((rdOf ByteArray.empty l0 x12_1)[0]'h).toNat : Int) = bt (rdOf ByteArray.empty l0 x12_1) 0 := bt_at (rdOf ByteArray.empty l0 x12_1) 0
                                      clear p23
                                      have qi23 : (0 < ((rdOf ByteArray.empty l0 x12_1).size : Int)) = True := eq_true (of_decide_eq_true (by first | (with_reducible assumption) | assumption))
                                      replace q23 := eq_true q23
                                      go_wp2
                                      go_meet
                                      case rel => exact ⟨_, (false), (by first | rfl | (simp; done) | (simp [*]; done)), H', ⟨by have := HK1.out; have := HJ7.out; have := HJ14.out; first | omega | exact Nat.le_refl _⟩, by repeat (first | exact Drawn0.refl _ | apply Drawn0.step)⟩
                                  · rw [if_neg c22] at H
                                    exact absurd H (by simp)
                                case rest =>
                                  clear HC21
                                  try clear c1
                                  try clear p1
                                  try clear q1
                                  try clear hx1
                                  try clear qi1
                                  try clear c2
                                  try clear p2
                                  try clear q2
                                  try clear hx2
                                  try clear qi2
                                  try clear c3
                                  try clear c3b0
                                  try clear c4
                                  try clear c4b0
                                  try clear c5
                                  try clear c5b0
                                  try clear c6
                                  try clear c6b0
                                  try clear c7
                                  try clear c7b0
                                  try clear c7b1
                                  try clear c9
                                  try clear c9b0
                                  try clear c9b1
                                  try clear p10
                                  try clear q10
                                  try clear hx10
                                  try clear qi10
                                  try clear c11
                                  try clear c11b0
                                  try clear c11b1
                                  try clear c12
                                  try clear c13
                                  try clear c13b0
                                  try clear c14
                                  try clear c14b0
                                  try clear p14
                                  try clear q14
                                  try clear hx14
                                  try clear c16
                                  try clear c16b0
                                  try clear c16b1
                                  try clear c17
                                  try clear c17b0
                                  try clear c17b1
                                  try clear p18
                                  try clear q18
                                  try clear hx18
                                  try clear qi18
                                  try clear c19
                                  try clear c19b0
                                  try clear c19b1
                                  try clear c20
                                  try clear c22
                                  try clear c22b0
                                  try clear c22b1
                                  try clear p23
                                  try clear q23
                                  try clear hx23
                                  try clear qi23
                                  try clear c24
                                  try clear c24b0
                                  try clear c24b1
                                  try clear hx145_0
                                  try clear hx146_0
                                  try clear p1
                                  try clear p10
                                  try clear p14
                                  try clear p145
                                  try clear p146
                                  try clear p18
                                  try clear p2
                                  try clear p23
                                  try clear q1
                                  try clear q10
                                  try clear q14
                                  try clear q145
                                  try clear q146
                                  try clear q18
                                  try clear q23
                                  obtain ⟨kq, x56_20, rfl, HA, HJ20, ⟨mc20, rfl⟩⟩ := hcut
                                  cases kq with
                                  | zero => exact absurd HA.out (by simp [server_isSubsetMatchTokenized.j3])
                                  | succ kj20 =>
                                    have H := HA.out
                                    clear HA
                                    simp only [server_isSubsetMatchTokenized.j3] at H
                                    by_cases c25 : x56_20 = true
                                    · subst c25
                                      have H1 : (if 0 < ((rdOf ByteArray.empty l1 x12_1).size : Int) then (if (bt (rdOf ByteArray.empty l1 x12_1) 0) = 42 then (server_isSubsetMatchTokenized.j4 kj20 l0 l1 x12_1 (((rdOf ByteArray.empty l1 x12_1).size : Int) == 1) l1 (l1.length : Int) x12_1) else (server_isSubsetMatchTokenized.j4 kj20 l0 l1 x12_1 false l1 (l1.length : Int) x12_1)) else (none)) = some r := by rw [if_pos rfl] at H; exact H
                                      clear H
                                      have H := H1
                                      clear H1
                                      have HC26 := Aside0.mk H
                                      clear H
                                      go_upto_region 16 with (fail)
                                      go_cut [9] (fun v9 wc => ∃ (kq : Nat) (x9_25 : Bool), v9 = .bool x9_25 ∧ Aside0 (server_isSubsetMatchTokenized.j4 kq l0 l1 x12_1 x9_25 l1 (l1.length : Int) x12_1 = some r) ∧ Aside0 (kq ≤ kj20) ∧ Drawn0 w wc)
                                      case first =>
                                        have H := HC26.out
                                        clear HC26
                                        by_cases c27 : 0 < ((rdOf ByteArray.empty l1 x12_1).size : Int)
                                        · rw [if_pos c27] at H
                                          have c27b0 : decide (0 < ((rdOf ByteArray.empty l1 x12_1).size : Int)) = true := decide_eq_true c27
                                          have c27b1 : decide (0 < (rdOf ByteArray.empty l1 x12_1).size) = true := decide_eq_true (by omega)
                                          clear c27
                                          (first | rw [c27b0] | (simp only [i64_w, i32_w]; rw [c27b0]) | skip)
                                          by_cases c29 : (bt (rdOf ByteArray.empty l1 x12_1) 0) = 42
                                          · rw [if_pos c29] at H
                                            have c29b0 : ((bt (rdOf ByteArray.empty l1 x12_1) 0) == 42) = true := beq_iff_eq.mpr c29
                                            have c29b1 : ((bt (rdOf ByteArray.empty l1 x12_1) 0) != 42) = false := bne_eq_false_iff_eq.mpr c29
                                            clear c29
                                            have H' := Aside0.mk H
                                            clear H
                                            have p28 : 0 ≤ (0 : Int) := (by omega)
                                            have q28 : 0 < (rdOf ByteArray.empty l1 x12_1).size := (by have : (0 : Int) < ((rdOf ByteArray.empty l1 x12_1).size : Int) := of_decide_eq_true (by first | (with_reducible assumption) | assumption); omega)
                                            have hx28 : ∀ h : 0 < (rdOf ByteArray.empty l1 x12_1).size, (((rdOf ByteArray.empty l1 x12_1)[0]'h).toNat : Int) = bt (rdOf ByteArray.empty l1 x12_1) 0 := bt_at (rdOf ByteArray.empty l1 x12_1) 0
                                            clear p28
                                            have qi28 : (0 < ((rdOf ByteArray.empty l1 x12_1).size : Int)) = True := eq_true (of_decide_eq_true (by first | (with_reducible assumption) | assumption))
                                            replace q28 := eq_true q28
                                            go_wp2
                                            go_meet
                                            case rel => exact ⟨_, ((((rdOf ByteArray.empty l1 x12_1).size : Int) == 1)), (by first | rfl | (simp; done) | (simp [*]; done)), H', ⟨by have := HK1.out; have := HJ7.out; have := HJ14.out; have := HJ20.out; first | omega | exact Nat.le_refl _⟩, by repeat (first | exact Drawn0.refl _ | apply Drawn0.step)⟩
                                          · rw [if_neg c29] at H
                                            have c29b0 : ((bt (rdOf ByteArray.empty l1 x12_1) 0) == 42) = false := beq_eq_false_iff_ne.mpr c29
                                            have c29b1 : ((bt (rdOf ByteArray.empty l1 x12_1) 0) != 42) = true := bne_iff_ne.mpr c29
                                            have H' := Aside0.mk H
                                            clear H
                                            have p28 : 0 ≤ (0 : Int) := (by omega)
                                            have q28 : 0 < (rdOf ByteArray.empty l1 x12_1).size := (by have : (0 : Int) < ((rdOf ByteArray.empty l1 x12_1).size : Int) := of_decide_eq_true (by first | (with_reducible assumption) | assumption); omega)
                                            have hx28 : ∀ h : 0 < (rdOf ByteArray.empty l1 x12_1).size, (((rdOf ByteArray.empty l1 x12_1)[0]'h).toNat : Int) = bt (rdOf ByteArray.empty l1 x12_1) 0 := bt_at (rdOf ByteArray.empty l1 x12_1) 0
                                            clear p28
                                            have qi28 : (0 < ((rdOf ByteArray.empty l1 x12_1).size : Int)) = True := eq_true (of_decide_eq_true (by first | (with_reducible assumption) | assumption))
                                            replace q28 := eq_true q28
                                            go_wp2
                                            go_meet
                                            case rel => exact ⟨_, (false), (by first | rfl | (simp; done) | (simp [*]; done)), H', ⟨by have := HK1.out; have := HJ7.out; have := HJ14.out; have := HJ20.out; first | omega | exact Nat.le_refl _⟩, by repeat (first | exact Drawn0.refl _ | apply Drawn0.step)⟩
                                        · rw [if_neg c27] at H
                                          exact absurd H (by simp)
                                      case rest =>
                                        clear HC26
                                        try clear c1
                                        try clear p1
                                        try clear q1
                                        try clear hx1
                                        try clear qi1
                                        try clear c2
                                        try clear p2
                                        try clear q2
                                        try clear hx2
                                        try clear qi2
                                        try clear c3
                                        try clear c3b0
                                        try clear c4
                                        try clear c4b0
                                        try clear c5
                                        try clear c5b0
                                        try clear c6
                                        try clear c6b0
                                        try clear c7
                                        try clear c7b0
                                        try clear c7b1
                                        try clear c9
                                        try clear c9b0
                                        try clear c9b1
                                        try clear p10
                                        try clear q10
                                        try clear hx10
                                        try clear qi10
                                        try clear c11
                                        try clear c11b0
                                        try clear c11b1
                                        try clear c12
                                        try clear c13
                                        try clear c13b0
                                        try clear c14
                                        try clear c14b0
                                        try clear p14
                                        try clear q14
                                        try clear hx14
                                        try clear c16
                                        try clear c16b0
                                        try clear c16b1
                                        try clear c17
                                        try clear c17b0
                                        try clear c17b1
                                        try clear p18
                                        try clear q18
                                        try clear hx18
                                        try clear qi18
                                        try clear c19
                                        try clear c19b0
                                        try clear c19b1
                                        try clear c20
                                        try clear c22
                                        try clear c22b0
                                        try clear c22b1
                                        try clear p23
                                        try clear q23
                                        try clear hx23
                                        try clear qi23
                                        try clear c24
                                        try clear c24b0
                                        try clear c24b1
                                        try clear c25
                                        try clear c27
                                        try clear c27b0
                                        try clear c27b1
                                        try clear p28
                                        try clear q28
                                        try clear hx28
                                        try clear qi28
                                        try clear c29
                                        try clear c29b0
                                        try clear c29b1
                                        try clear hx145_0
                                        try clear hx146_0
                                        try clear p1
                                        try clear p10
                                        try clear p14
                                        try clear p145
                                        try clear p146
                                        try clear p18
                                        try clear p2
                                        try clear p23
                                        try clear p28
                                        try clear q1
                                        try clear q10
                                        try clear q14
                                        try clear q145
                                        try clear q146
                                        try clear q18
                                        try clear q2
                                        try clear q23
                                        try clear q28
                                        obtain ⟨kq, x9_25, rfl, HA, HJ25, ⟨mc25, rfl⟩⟩ := hcut
                                        cases kq with
                                        | zero => exact absurd HA.out (by simp [server_isSubsetMatchTokenized.j4])
                                        | succ kj25 =>
                                          have H := HA.out
                                          clear HA
                                          simp only [server_isSubsetMatchTokenized.j4] at H
                                          by_cases c30 : x9_25 = true
                                          · subst c30
                                            have H1 : (if x12_1 ≥ (l1.length : Int) then (some true) else (server_isSubsetMatchTokenized.l0 kj25 l0 l1 l1 (l1.length : Int) (wrap64 (x12_1 + 1)))) = some r := by rw [if_pos rfl] at H; exact H
                                            clear H
                                            have H := H1
                                            clear H1
                                            by_cases c31 : x12_1 ≥ (l1.length : Int)
                                            · rw [if_pos c31] at H
                                              have c31b0 : decide ((l1.length : Int) ≤ x12_1) = true := decide_eq_true c31
                                              clear c31
                                              obtain rfl := Option.some.inj H
                                              go_wp2
                                              go_ret
                                              exact ⟨by first | rfl | (simp; done) | (simp [*]; done), by repeat (first | exact Drawn0.refl _ | apply Drawn0.step)⟩
                                            · rw [if_neg c31] at H
                                              have c31b0 : decide ((l1.length : Int) ≤ x12_1) = false := decide_eq_false c31
                                              clear c31
                                              have H' := Aside0.mk H
                                              clear H
                                              go_wp2
                                              go_roundg kj25
                                              case measure => have := HK1.out; have := HJ7.out; have := HJ14.out; have := HJ20.out; have := HJ25.out; omega
                                              case rel => exact ⟨(wrap64 (x12_1 + 1)), (by first | rfl | (simp; done) | (simp [*]; done)), H', ⟨by have := HK1.out; have := HJ7.out; have := HJ14.out; have := HJ20.out; have := HJ25.out; omega⟩, by repeat (first | exact Drawn0.refl _ | apply Drawn0.step)⟩
                                          · replace c30 := Bool.eq_false_iff.mpr c30
                                            subst c30
                                            have H1 : (some false) = some r := by rw [if_neg (show ¬ (false = true) by decide)] at H; exact H
                                            clear H
                                            have H := H1
                                            clear H1
                                            obtain rfl := Option.some.inj H
                                            go_wp2
                                            go_ret
                                            exact ⟨by first | rfl | (simp; done) | (simp [*]; done), by repeat (first | exact Drawn0.refl _ | apply Drawn0.step)⟩
                                    · replace c25 := Bool.eq_false_iff.mpr c25
                                      subst c25
                                      have H1 : (if 0 < ((rdOf ByteArray.empty l1 x12_1).size : Int) then (if (bt (rdOf ByteArray.empty l1 x12_1) 0) = 42 then (server_isSubsetMatchTokenized.l0 kj20 l0 l1 l1 (l1.length : Int) (wrap64 (x12_1 + 1))) else ((strings_Compare.f (rdOf ByteArray.empty l0 x12_1) (rdOf ByteArray.empty l1 x12_1)).bind fun t147 => (if t147 = 0 then (server_isSubsetMatchTokenized.l0 kj20 l0 l1 l1 (l1.length : Int) (wrap64 (x12_1 + 1))) else (some false)))) else (none)) = some r := by rw [if_neg (show ¬ (false = true) by decide)] at H; exact H
                                      clear H
                                      have H := H1
                                      clear H1
                                      by_cases c32 : 0 < ((rdOf ByteArray.empty l1 x12_1).size : Int)
                                      · rw [if_pos c32] at H
                                        have c32b0 : decide (0 < ((rdOf ByteArray.empty l1 x12_1).size : Int)) = true := decide_eq_true c32
                                        have c32b1 : decide (0 < (rdOf ByteArray.empty l1 x12_1).size) = true := decide_eq_true (by omega)
                                        clear c32
                                        by_cases c34 : (bt (rdOf ByteArray.empty l1 x12_1) 0) = 42
                                        · rw [if_pos c34] at H
                                          have c34b0 : ((bt (rdOf ByteArray.empty l1 x12_1) 0) == 42) = true := beq_iff_eq.mpr c34
                                          have c34b1 : ((bt (rdOf ByteArray.empty l1 x12_1) 0) != 42) = false := bne_eq_false_iff_eq.mpr c34
                                          clear c34
                                          have H' := Aside0.mk H
                                          clear H
                                          have p33 : 0 ≤ (0 : Int) := (by omega)
                                          have q33 : 0 < (rdOf ByteArray.empty l1 x12_1).size := (by have : (0 : Int) < ((rdOf ByteArray.empty l1 x12_1).size : Int) := of_decide_eq_true (by first | (with_reducible assumption) | assumption); omega)
                                          have hx33 : ∀ h : 0 < (rdOf ByteArray.empty l1 x12_1).size, (((rdOf ByteArray.empty l1 x12_1)[0]'h).toNat : Int) = bt (rdOf ByteArray.empty l1 x12_1) 0 := bt_at (rdOf ByteArray.empty l1 x12_1) 0
                                          clear p33
                                          have qi33 : (0 < ((rdOf ByteArray.empty l1 x12_1).size : Int)) = True := eq_true (of_decide_eq_true (by first | (with_reducible assumption) | assumption))
                                          replace q33 := eq_true q33
                                          go_wp2
                                          go_roundg kj20
                                          case measure => have := HK1.out; have := HJ7.out; have := HJ14.out; have := HJ20.out; omega
                                          case rel => exact ⟨(wrap64 (x12_1 + 1)), (by first | rfl | (simp; done) | (simp [*]; done)), H', ⟨by have := HK1.out; have := HJ7.out; have := HJ14.out; have := HJ20.out; omega⟩, by repeat (first | exact Drawn0.refl _ | apply Drawn0.step)⟩
                                        · rw [if_neg c34] at H
                                          have c34b0 : ((bt (rdOf ByteArray.empty l1 x12_1) 0) == 42) = false := beq_eq_false_iff_ne.mpr c34
                                          have c34b1 : ((bt (rdOf ByteArray.empty l1 x12_1) 0) != 42) = true := bne_iff_ne.mpr c34
                                          replace H := Option.bind_eq_some_iff.mp H
                                          obtain ⟨t147, A350, H⟩ := H
                                          replace H : (if t147 = 0 then (server_isSubsetMatchTokenized.l0 kj20 l0 l1 l1 (l1.length : Int) (wrap64 (x12_1 + 1))) else (some false)) = some r := H
                                          have A35 := Aside0.mk A350
                                          clear A350
                                          by_cases c36 : t147 = 0
                                          · rw [if_pos c36] at H
                                            have c36b0 : (t147 == 0) = true := beq_iff_eq.mpr c36
                                            have c36b1 : (t147 != 0) = false := bne_eq_false_iff_eq.mpr c36
                                            clear c36
                                            have H' := Aside0.mk H
                                            clear H
                                            have p33 : 0 ≤ (0 : Int) := (by omega)
                                            have q33 : 0 < (rdOf ByteArray.empty l1 x12_1).size := (by have : (0 : Int) < ((rdOf ByteArray.empty l1 x12_1).size : Int) := of_decide_eq_true (by first | (with_reducible assumption) | assumption); omega)
                                            have hx33 : ∀ h : 0 < (rdOf ByteArray.empty l1 x12_1).size, (((rdOf ByteArray.empty l1 x12_1)[0]'h).toNat : Int) = bt (rdOf ByteArray.empty l1 x12_1) 0 := bt_at (rdOf ByteArray.empty l1 x12_1) 0
                                            clear p33
                                            have qi33 : (0 < ((rdOf ByteArray.empty l1 x12_1).size : Int)) = True := eq_true (of_decide_eq_true (by first | (with_reducible assumption) | assumption))
                                            replace q33 := eq_true q33
                                            go_wp2_with (first | (go_at_call 37; (with_reducible refine (strings_Compare.calls (rdOf ByteArray.empty l0 x12_1) (rdOf ByteArray.empty l1 x12_1) t147 _ A35.out).mono ?_); rintro e w' ⟨rfl, ⟨nd, rfl⟩⟩))
                                            go_roundg kj20
                                            case measure => have := HK1.out; have := HJ7.out; have := HJ14.out; have := HJ20.out; omega
                                            case rel => exact ⟨(wrap64 (x12_1 + 1)), (by first | rfl | (simp; done) | (simp [*]; done)), H', ⟨by have := HK1.out; have := HJ7.out; have := HJ14.out; have := HJ20.out; omega⟩, by repeat (first | exact Drawn0.refl _ | apply Drawn0.step)⟩
                                          · rw [if_neg c36] at H
                                            have c36b0 : (t147 == 0) = false := beq_eq_false_iff_ne.mpr c36
                                            have c36b1 : (t147 != 0) = true := bne_iff_ne.mpr c36
                                            obtain rfl := Option.some.inj H
                                            have p33 : 0 ≤ (0 : Int) := (by omega)
                                            have q33 : 0 < (rdOf ByteArray.empty l1 x12_1).size := (by have : (0 : Int) < ((rdOf ByteArray.empty l1 x12_1).size : Int) := of_decide_eq_true (by first | (with_reducible assumption) | assumption); omega)
                                            have hx33 : ∀ h : 0 < (rdOf ByteArray.empty l1 x12_1).size, (((rdOf ByteArray.empty l1 x12_1)[0]'h).toNat : Int) = bt (rdOf ByteArray.empty l1 x12_1) 0 := bt_at (rdOf ByteArray.empty l1 x12_1) 0
                                            clear p33
                                            have qi33 : (0 < ((rdOf ByteArray.empty l1 x12_1).size : Int)) = True := eq_true (of_decide_eq_true (by first | (with_reducible assumption) | assumption))
                                            replace q33 := eq_true q33
                                            go_wp2_with (first | (go_at_call 37; (with_reducible refine (strings_Compare.calls (rdOf ByteArray.empty l0 x12_1) (rdOf ByteArray.empty l1 x12_1) t147 _ A35.out).mono ?_); rintro e w' ⟨rfl, ⟨nd, rfl⟩⟩))
                                            go_ret
                                            exact ⟨by first | rfl | (simp; done) | (simp [*]; done), by repeat (first | exact Drawn0.refl _ | apply Drawn0.step)⟩
                                      · rw [if_neg c32] at H
                                        exact absurd H (by simp)
                        · rw [if_neg c14] at H
                          exact absurd H (by simp)
                      · rw [if_neg c13] at H
                        exact absurd H (by simp)
          · rw [if_neg c5] at H
            exact absurd H (by simp)
        · rw [if_neg c4] at H
          exact absurd H (by simp)
      · rw [if_neg c3] at H
        have c3b0 : decide (x12_1 < (l1.length : Int)) = false := decide_eq_false c3
        clear c3
        obtain rfl := Option.some.inj H
        go_wp2
        go_ret
        exact ⟨by first | rfl | (simp; done) | (simp [*]; done), by repeat (first | exact Drawn0.refl _ | apply Drawn0.step)⟩
/-! ### server_isSubsetMatch: function 33 (by hand) -/
set_option maxHeartbeats 8000000 in
set_option maxRecDepth 100000 in
/-- The tokens, appended to a slice of another's array (a cut of a local array): told by 'AR'. -/
theorem server_tokenizeSubjectIntoSlice.onto (k : Nat) (l0 : List ByteArray) (a1 : ByteArray) (r : List ByteArray) (w0 w : World) (v : Value) (hB : Below w0.heap.size w0 w) (ho : Wk.AR w w0.heap.size v (l0.map Value.string)) (h : server_tokenizeSubjectIntoSlice.f k l0 a1 = some r) :
    Calls Tryd.prog 32 #[v, .string a1] w fun e w' => ∃ v' : Value, e = .returned v' ∧ Wk.AR w' w0.heap.size v' (r.map Value.string) ∧ Below w0.heap.size w0 w' ∧ Wk.Fr w v w' ∧ (v'.ownBlock = v.ownBlock ∨ ∃ k, v'.ownBlock = some k ∧ w.heap.size ≤ k) := by
  have H' := Aside0.mk (show server_tokenizeSubjectIntoSlice.l0 k l0 a1 0 0 = some r from h)
  clear h
  have HO := Aside0.mk ho
  have HB := Aside0.mk hB
  have HF := Aside0.mk (Wk.Fr.refl w v)
  clear ho hB
  go_enter Tryd.func32, Tryd.ntmps32
  go_wp2
  go_loopg [0, 5, 6] k (fun kq v0 v5 v6 w' => ∃ (x0_1 : List ByteArray) (x5_1 : Int) (x6_1 : Int), v5 = .int .i64 x5_1 ∧ v6 = .int .i64 x6_1 ∧ Aside0 (server_tokenizeSubjectIntoSlice.l0 kq x0_1 a1 x5_1 x6_1 = some r) ∧ Aside0 (kq ≤ k) ∧ Aside0 (Wk.AR w' w0.heap.size v0 (x0_1.map Value.string)) ∧ Aside0 (Below w0.heap.size w0 w') ∧ Aside0 (Wk.Fr w v w') ∧ Aside0 (v0.ownBlock = v.ownBlock ∨ ∃ k, v0.ownBlock = some k ∧ w.heap.size ≤ k))
  case atStart => exact ⟨l0, (0), (0), rfl, rfl, H', ⟨Nat.le_refl _⟩, ⟨by repeat (first | exact HO.out | apply Wk.AR.alloc | apply Wk.AR.drew)⟩, ⟨by repeat (first | exact HB.out | apply Below.drew)⟩, HF, ⟨.inl rfl⟩⟩
  case round =>
    clear H'
    obtain ⟨x0_1, x5_1, x6_1, rfl, rfl, HA, HK1, HO_0, HB, HF, HV⟩ := hrel
    clear HO
    cases gk with
    | zero => exact absurd HA.out (by simp [server_tokenizeSubjectIntoSlice.l0])
    | succ k1 =>
      have H := HA.out
      clear HA
      simp only [server_tokenizeSubjectIntoSlice.l0] at H
      by_cases c3 : x6_1 < (a1.size : Int)
      · rw [if_pos c3] at H
        have c3b0 : decide (x6_1 < (a1.size : Int)) = true := decide_eq_true c3
        clear c3
        by_cases c4 : 0 ≤ x6_1
        · rw [if_pos c4] at H
          have c4b0 : decide (0 ≤ x6_1) = true := decide_eq_true c4
          clear c4
          by_cases c6 : (bt a1 x6_1) = 46
          · rw [if_pos c6] at H
            have c6b0 : ((bt a1 x6_1) == 46) = true := beq_iff_eq.mpr c6
            have c6b1 : ((bt a1 x6_1) != 46) = false := bne_eq_false_iff_eq.mpr c6
            clear c6
            by_cases c7 : 0 ≤ x5_1
            · rw [if_pos c7] at H
              have c7b0 := eq_true c7
              have c7b1 : decide (0 ≤ x5_1) = true := decide_eq_true c7
              clear c7
              by_cases c8 : x5_1 ≤ x6_1
              · rw [if_pos c8] at H
                have c8b0 := eq_true c8
                have c8b1 : decide (x5_1 ≤ x6_1) = true := decide_eq_true c8
                clear c8
                by_cases c9 : x6_1 ≤ (a1.size : Int)
                · rw [if_pos c9] at H
                  have c9b0 := eq_true c9
                  have c9b1 : decide (x6_1 ≤ (a1.size : Int)) = true := decide_eq_true c9
                  clear c9
                  by_cases c10 : x0_1.length < 8796093022208
                  · rw [if_pos c10] at H
                    have LMc10 := Aside0.mk c10
                    clear c10
                    have H' := Aside0.mk H
                    clear H
                    have p5 : 0 ≤ (x6_1 : Int) := of_decide_eq_true (by first | (with_reducible assumption) | assumption)
                    have q5 : x6_1 < (a1.size : Int) := of_decide_eq_true (by first | (with_reducible assumption) | assumption)
                    have hx5 := bt_at a1 x6_1
                    replace p5 := eq_true p5
                    replace q5 := eq_true q5
                    go_wp2_with (first | ((with_reducible refine gate_builtin (b := .append) (xs := #[.tmp 17, .tmp 22]) rfl ?_); at_builtin; refine Wk.AR.append (N := w0.heap.size) (w0 := w0) rfl (.tmp 17) (.tmp 22) 35 9 (.string ⟨#[]⟩) 16 rfl Tryd.underlying35 info9 rfl rfl (by repeat (first | exact HO_0.out | apply Wk.AR.alloc | apply Wk.AR.drew)) (Nat.le_refl _) ?cW ?cB _ _ (.string (a1.extract (x5_1 : Int).toNat (x6_1 : Int).toNat)) rfl ?cU rfl ?cL ?c6 ?_; (case cW => have := HB.out.size; simp; omega); (case cB => repeat (first | exact HB.out | apply below_alloc | apply Below.drew)); (case cU => simp); (case cL => have := LMc10.out; rw [List.length_map]; omega); (case c6 => have := LMc10.out; rw [List.length_map]; simp only [maxLen]; omega); intro v126 w11 q1 q2 q3 q4 q5; have n1 := Aside0.mk q1; have n2 := Aside0.mk q2; have n3 := Aside0.mk (Wk.frame_step HF.out HV.out (Wk.alloc_frame _ _) q3 q4); have n4 := Aside0.mk (Wk.own_step HF.out HV.out (by simp) q5); clear q1 q2 q3 q4 q5 HO_0 HB HF HV; have HO127 := n1; have HB := n2; have HF := n3; have HV := n4; clear n1 n2 n3 n4))
                    go_roundg k1
                    case measure => have := HK1.out; omega
                    case rel => exact ⟨_, (wrap64 (x6_1 + 1)), (wrap64 (x6_1 + 1)), (by first | rfl | (simp; done) | (simp [*]; done)), (by first | rfl | (simp; done) | (simp [*]; done)), H', ⟨by have := HK1.out; omega⟩, ⟨by have := HO127.out; first | exact this | (rw [List.map_append]; exact this)⟩, HB, HF, HV⟩
                  · rw [if_neg c10] at H
                    exact absurd H (by simp)
                · rw [if_neg c9] at H
                  exact absurd H (by simp)
              · rw [if_neg c8] at H
                exact absurd H (by simp)
            · rw [if_neg c7] at H
              exact absurd H (by simp)
          · rw [if_neg c6] at H
            have c6b0 : ((bt a1 x6_1) == 46) = false := beq_eq_false_iff_ne.mpr c6
            have c6b1 : ((bt a1 x6_1) != 46) = true := bne_iff_ne.mpr c6
            have H' := Aside0.mk H
            clear H
            have p5 : 0 ≤ (x6_1 : Int) := of_decide_eq_true (by first | (with_reducible assumption) | assumption)
            have q5 : x6_1 < (a1.size : Int) := of_decide_eq_true (by first | (with_reducible assumption) | assumption)
            have hx5 := bt_at a1 x6_1
            replace p5 := eq_true p5
            replace q5 := eq_true q5
            go_wp2
            go_roundg k1
            case measure => have := HK1.out; omega
            case rel => exact ⟨(x0_1), (x5_1), (wrap64 (x6_1 + 1)), (by first | rfl | (simp; done) | (simp [*]; done)), (by first | rfl | (simp; done) | (simp [*]; done)), H', ⟨by have := HK1.out; omega⟩, ⟨by repeat (first | exact HO_0.out | apply Wk.AR.alloc | apply Wk.AR.drew)⟩, HB, HF, HV⟩
        · rw [if_neg c4] at H
          exact absurd H (by simp)
      · rw [if_neg c3] at H
        have c3b0 : decide (x6_1 < (a1.size : Int)) = false := decide_eq_false c3
        clear c3
        by_cases c12 : 0 ≤ x5_1
        · rw [if_pos c12] at H
          have c12b0 := eq_true c12
          have c12b1 : decide (0 ≤ x5_1) = true := decide_eq_true c12
          clear c12
          by_cases c13 : x5_1 ≤ (a1.size : Int)
          · rw [if_pos c13] at H
            have c13b0 := eq_true c13
            have c13b1 : decide (x5_1 ≤ (a1.size : Int)) = true := decide_eq_true c13
            clear c13
            by_cases c14 : x0_1.length < 8796093022208
            · rw [if_pos c14] at H
              have LMc14 := Aside0.mk c14
              clear c14
              obtain rfl := Option.some.inj H
              go_wp2_with (first | ((with_reducible refine gate_builtin (b := .append) (xs := #[.tmp 26, .tmp 30]) rfl ?_); at_builtin; refine Wk.AR.append (N := w0.heap.size) (w0 := w0) rfl (.tmp 26) (.tmp 30) 35 9 (.string ⟨#[]⟩) 16 rfl Tryd.underlying35 info9 rfl rfl (by repeat (first | exact HO_0.out | apply Wk.AR.alloc | apply Wk.AR.drew)) (Nat.le_refl _) ?cW ?cB _ _ (.string (a1.extract (x5_1 : Int).toNat a1.size)) rfl ?cU rfl ?cL ?c6 ?_; (case cW => have := HB.out.size; simp; omega); (case cB => repeat (first | exact HB.out | apply below_alloc | apply Below.drew)); (case cU => simp); (case cL => have := LMc14.out; rw [List.length_map]; omega); (case c6 => have := LMc14.out; rw [List.length_map]; simp only [maxLen]; omega); intro v126 w11 q1 q2 q3 q4 q5; have n1 := Aside0.mk q1; have n2 := Aside0.mk q2; have n3 := Aside0.mk (Wk.frame_step HF.out HV.out (Wk.alloc_frame _ _) q3 q4); have n4 := Aside0.mk (Wk.own_step HF.out HV.out (by simp) q5); clear q1 q2 q3 q4 q5 HO_0 HB HF HV; have HO127 := n1; have HB := n2; have HF := n3; have HV := n4; clear n1 n2 n3 n4))
              go_ret
              exact ⟨v126, rfl, by have := HO127.out; first | exact this | (rw [List.map_append]; exact this), HB.out, HF.out, HV.out⟩
            · rw [if_neg c14] at H
              exact absurd H (by simp)
          · rw [if_neg c13] at H
            exact absurd H (by simp)
        · rw [if_neg c12] at H
          exact absurd H (by simp)
def server_isSubsetMatch.f (k : Nat) (l0 : List ByteArray) (a1 : ByteArray) : Option Bool := (server_tokenizeSubjectIntoSlice.f k [] a1).bind fun t => server_isSubsetMatchTokenized.f k l0 t
theorem server_isSubsetMatch.mono : ∀ l0 a1 k, LeO (server_isSubsetMatch.f k l0 a1) (server_isSubsetMatch.f (k + 1) l0 a1) := by
  intro l0 a1 k
  unfold server_isSubsetMatch.f
  exact LeO.bind (server_tokenizeSubjectIntoSlice.mono _ _ _) (fun _ => server_isSubsetMatchTokenized.mono _ _ _)
set_option maxHeartbeats 8000000 in
set_option maxRecDepth 100000 in
theorem server_isSubsetMatch.calls (k : Nat) (A0 : Option Addr) (c0 : Nat) (l0 : List ByteArray) (a1 : ByteArray) (r : Bool) (w : World) (hr0 : Kd.C Kd.string w A0 l0.length l0) (hc0 : l0.length ≤ c0) (h : server_isSubsetMatch.f k l0 a1 = some r) :
    Calls Tryd.prog 33 #[.slice A0 l0.length c0, .string a1] w fun e w' => e = .returned (.bool r) ∧ Below w.heap.size w w' := by
  obtain ⟨t, ht, h2⟩ := Option.bind_eq_some_iff.mp h
  have HT := Aside0.mk ht
  have H2 := Aside0.mk h2
  clear h ht h2
  have HR0 := Aside0.mk hr0
  have HC0 := Aside0.mk hc0
  clear hr0 hc0
  go_enter Tryd.func33, Tryd.ntmps33
  go_upto_region 1 with (fail)
  refine wp_region_lit ?_
  refine Wk.arrL_ (Array.replicate 32 (.string ⟨#[]⟩)) (T := 38) (N1 := 7) (N2 := 5) rfl rfl rfl rfl rfl rfl (fun _ _ => by kernel_rfl) (fun _ _ => by kernel_rfl) rfl (by kernel_rfl) (by simp [Value.oneCell']) rfl rfl ?_
  intro w2 cur hB hblk hcur hsz
  simp only [Act.put, List.setIfInBounds_toArray, List.set_cons_zero, List.set_cons_succ]
  generalize Value.agg (Array.replicate 32 (.string ⟨#[]⟩)) = v7
  have HO := Aside0.mk (Wk.AR.made (base := w.heap.size) (n := 32) hblk (Nat.le_refl _) (by rw [← Array.length_toList, hcur]; simp) (by simp only [maxLen]; omega))
  have hshape : w2.shape? w.heap.size = some (38, 32) := Wk.shape_of hblk (by rw [← Array.length_toList, hcur]; simp)
  have HB := Aside0.mk hB
  clear hB hcur hsz hblk
  clear hshape
  go_wp2_with fail
  refine (server_tokenizeSubjectIntoSlice.onto k [] a1 t w w2 _ HB.out HO.out HT.out).mono ?_
  rintro e w3 ⟨v3, rfl, q1, q2, -⟩
  obtain ⟨A1, c1, rfl, hc1, hC1⟩ := q1.strings
  clear q1
  have HB3 := Aside0.mk q2
  have HC1 := Aside0.mk hC1
  have HL1 := Aside0.mk hc1
  clear q2 hC1 hc1
  go_wp2_with fail
  refine (server_isSubsetMatchTokenized.calls k A0 c0 l0 A1 c1 t r w3 (Kd.C_below HR0.out HB3.out) HC0.out HC1.out HL1.out H2.out).mono ?_
  rintro e w' ⟨rfl, ⟨nd, rfl⟩⟩
  go_wp2
  go_ret
  exact ⟨rfl, pw_below_drewN HB3.out nd⟩

/-! ### server_subjectIsSubsetMatch: function 29 (by hand) -/
def server_subjectIsSubsetMatch.f (k : Nat) (a0 a1 : ByteArray) : Option Bool := (server_tokenizeSubjectIntoSlice.f k [] a0).bind fun t => server_isSubsetMatch.f k t a1
theorem server_subjectIsSubsetMatch.mono : ∀ a0 a1 k, LeO (server_subjectIsSubsetMatch.f k a0 a1) (server_subjectIsSubsetMatch.f (k + 1) a0 a1) := by
  intro a0 a1 k
  unfold server_subjectIsSubsetMatch.f
  exact LeO.bind (server_tokenizeSubjectIntoSlice.mono _ _ _) (fun _ => server_isSubsetMatch.mono _ _ _)
set_option maxHeartbeats 8000000 in
set_option maxRecDepth 100000 in
theorem server_subjectIsSubsetMatch.calls (k : Nat) (a0 a1 : ByteArray) (r : Bool) (w : World) (h : server_subjectIsSubsetMatch.f k a0 a1 = some r) :
    Calls Tryd.prog 29 #[.string a0, .string a1] w fun e w' => e = .returned (.bool r) ∧ Below w.heap.size w w' := by
  obtain ⟨t, ht, h2⟩ := Option.bind_eq_some_iff.mp h
  have HT := Aside0.mk ht
  have H2 := Aside0.mk h2
  clear h ht h2
  go_enter Tryd.func29, Tryd.ntmps29
  go_upto_region 1 with (fail)
  refine wp_region_lit ?_
  refine Wk.arrL_ (Array.replicate 32 (.string ⟨#[]⟩)) (T := 38) (N1 := 7) (N2 := 5) rfl rfl rfl rfl rfl rfl (fun _ _ => by kernel_rfl) (fun _ _ => by kernel_rfl) rfl (by kernel_rfl) (by simp [Value.oneCell']) rfl rfl ?_
  intro w2 cur hB hblk hcur hsz
  simp only [Act.put, List.setIfInBounds_toArray, List.set_cons_zero, List.set_cons_succ]
  generalize Value.agg (Array.replicate 32 (.string ⟨#[]⟩)) = v7
  have HO := Aside0.mk (Wk.AR.made (base := w.heap.size) (n := 32) hblk (Nat.le_refl _) (by rw [← Array.length_toList, hcur]; simp) (by simp only [maxLen]; omega))
  have hshape : w2.shape? w.heap.size = some (38, 32) := Wk.shape_of hblk (by rw [← Array.length_toList, hcur]; simp)
  have HB := Aside0.mk hB
  clear hB hcur hsz hblk
  go_wp2_with fail
  clear hshape
  go_wp2_with fail
  refine (server_tokenizeSubjectIntoSlice.onto k [] a0 t w w2 _ HB.out HO.out HT.out).mono ?_
  rintro e w3 ⟨v3, rfl, q1, q2, -⟩
  obtain ⟨A1, c1, rfl, hc1, hC1⟩ := q1.strings
  clear q1
  have HB3 := Aside0.mk q2
  have HC1 := Aside0.mk hC1
  have HL1 := Aside0.mk hc1
  clear q2 hC1 hc1
  go_wp2_with fail
  refine (server_isSubsetMatch.calls k A1 c1 t a1 r w3 HC1.out HL1.out H2.out).mono ?_
  rintro e w4 ⟨rfl, hb⟩
  have HB4 := Aside0.mk (below_step HB3.out hb)
  clear hb
  go_wp2
  go_ret
  exact ⟨rfl, HB4.out⟩

/-! ### server_SubjectMatchesFilter: function 23 -/
def server_SubjectMatchesFilter.f (k : Nat) (a0 : ByteArray) (a1 : ByteArray) : Option (Bool) := (server_subjectIsSubsetMatch.f k a0 a1).bind fun t148 => (some t148)
theorem server_SubjectMatchesFilter.mono : ∀ a0 a1 k, LeO (server_SubjectMatchesFilter.f k a0 a1) (server_SubjectMatchesFilter.f (k + 1) a0 a1) := by
  intro a0 a1 k
  unfold server_SubjectMatchesFilter.f
  repeat' first
      | (with_reducible exact server_subjectIsSubsetMatch.mono _ _ _)
      | (with_reducible exact LeO.refl _)
      | (with_reducible exact LeO.none _)
      | (with_reducible refine LeO.ite ?_ ?_)
      | (with_reducible refine LeO.bind ?_ (fun _ => ?_))
      | exact server_subjectIsSubsetMatch.mono _ _ _
      | exact LeO.none _
      | refine LeO.ite ?_ ?_
      | refine LeO.bind ?_ (fun _ => ?_)
set_option maxHeartbeats 8000000 in
set_option maxRecDepth 100000 in
theorem server_SubjectMatchesFilter.calls (k : Nat) (a0 : ByteArray) (a1 : ByteArray) (r : Bool) (w : World) (h : server_SubjectMatchesFilter.f k a0 a1 = some r) :
    Calls Tryd.prog 23 #[.string a0, .string a1] w fun e w' => e = .returned (.bool r) ∧ Below w.heap.size w w' := by
  have HB := Aside0.mk (Below.refl w.heap.size w)
  have H : ((server_subjectIsSubsetMatch.f k a0 a1).bind fun t148 => (some t148)) = some r := h
  clear h
  replace H := Option.bind_eq_some_iff.mp H
  obtain ⟨t148, A30, H⟩ := H
  replace H : (some t148) = some r := H
  have A3 := Aside0.mk A30
  clear A30
  obtain rfl := Option.some.inj H
  go_enter Tryd.func23, Tryd.ntmps23
  go_wp2_with (first | ((with_reducible refine gate_callee (f := 29) rfl ?_); refine goesL_ (some 7) rfl rfl Tryd.func29 (by kernel_rfl) rfl #[.string a0, .string a1] rfl (by (try simp only [List.map_toArray, List.map_cons, List.map_nil]); first | done | rfl | (simp only [List.length_drop, List.length_take]; rfl)) ?_; (with_reducible refine (server_subjectIsSubsetMatch.calls k a0 a1 t148 _ A3.out).mono ?_); rintro e w4 ⟨rfl, hb⟩; refine ⟨_, rfl, ?_⟩; have n0_ := Aside0.mk (below_step (by repeat (first | (with_reducible first | exact HB.out | apply below_alloc | apply pw_below_drewN | apply below_drew1) | exact HB.out)) hb); clear HB; have HB := n0_; clear n0_; (try clear hb); (try clear hb2); (try clear hk); (try clear hi)))
  go_ret
  exact ⟨by first | rfl | (simp [errW_none, errW_some] <;> rfl) | (simp [*, errW_none, errW_some] <;> rfl), by repeat (first | (with_reducible first | exact HB.out | apply below_alloc | apply pw_below_drewN | apply below_drew1) | exact HB.out)⟩

/-! ### impl_Matches: function 12 -/
def impl_Matches.f (k : Nat) (a0 : ByteArray) (a1 : ByteArray) : Option (Bool) := (server_SubjectMatchesFilter.f k a0 a1).bind fun t149 => (some t149)
theorem impl_Matches.mono : ∀ a0 a1 k, LeO (impl_Matches.f k a0 a1) (impl_Matches.f (k + 1) a0 a1) := by
  intro a0 a1 k
  unfold impl_Matches.f
  repeat' first
      | (with_reducible exact server_SubjectMatchesFilter.mono _ _ _)
      | (with_reducible exact LeO.refl _)
      | (with_reducible exact LeO.none _)
      | (with_reducible refine LeO.ite ?_ ?_)
      | (with_reducible refine LeO.bind ?_ (fun _ => ?_))
      | exact server_SubjectMatchesFilter.mono _ _ _
      | exact LeO.none _
      | refine LeO.ite ?_ ?_
      | refine LeO.bind ?_ (fun _ => ?_)
set_option maxHeartbeats 8000000 in
set_option maxRecDepth 100000 in
theorem impl_Matches.calls (k : Nat) (a0 : ByteArray) (a1 : ByteArray) (r : Bool) (w : World) (h : impl_Matches.f k a0 a1 = some r) :
    Calls Tryd.prog 12 #[.string a0, .string a1] w fun e w' => e = .returned (.bool r) ∧ Below w.heap.size w w' := by
  have HB := Aside0.mk (Below.refl w.heap.size w)
  have H : ((server_SubjectMatchesFilter.f k a0 a1).bind fun t149 => (some t149)) = some r := h
  clear h
  replace H := Option.bind_eq_some_iff.mp H
  obtain ⟨t149, A30, H⟩ := H
  replace H : (some t149) = some r := H
  have A3 := Aside0.mk A30
  clear A30
  obtain rfl := Option.some.inj H
  go_enter Tryd.func12, Tryd.ntmps12
  go_wp2_with (first | ((with_reducible refine gate_callee (f := 23) rfl ?_); refine goesL_ (some 7) rfl rfl Tryd.func23 (by kernel_rfl) rfl #[.string a0, .string a1] rfl (by (try simp only [List.map_toArray, List.map_cons, List.map_nil]); first | done | rfl | (simp only [List.length_drop, List.length_take]; rfl)) ?_; (with_reducible refine (server_SubjectMatchesFilter.calls k a0 a1 t149 _ A3.out).mono ?_); rintro e w4 ⟨rfl, hb⟩; refine ⟨_, rfl, ?_⟩; have n0_ := Aside0.mk (below_step (by repeat (first | (with_reducible first | exact HB.out | apply below_alloc | apply pw_below_drewN | apply below_drew1) | exact HB.out)) hb); clear HB; have HB := n0_; clear n0_; (try clear hb); (try clear hb2); (try clear hk); (try clear hi)))
  go_ret
  exact ⟨by first | rfl | (simp [errW_none, errW_some] <;> rfl) | (simp [*, errW_none, errW_some] <;> rfl), by repeat (first | (with_reducible first | exact HB.out | apply below_alloc | apply pw_below_drewN | apply below_drew1) | exact HB.out)⟩

/-! ### server_mqttNeedSubForLevelUp: function 30 -/
def server_mqttNeedSubForLevelUp.f (a0 : ByteArray) : Option (Bool) := if (a0.size : Int) < 3 then (some false) else (if 0 ≤ (wrap64 ((a0.size : Int) - 2)) then (if (wrap64 ((a0.size : Int) - 2)) < (a0.size : Int) then (if (bt a0 (wrap64 ((a0.size : Int) - 2))) = 46 then (if 0 ≤ (wrap64 ((a0.size : Int) - 1)) then (if (wrap64 ((a0.size : Int) - 1)) < (a0.size : Int) then (if (bt a0 (wrap64 ((a0.size : Int) - 1))) = 62 then (some true) else (some false)) else (none)) else (none)) else (some false)) else (none)) else (none))
set_option maxHeartbeats 8000000 in
set_option maxRecDepth 100000 in
theorem server_mqttNeedSubForLevelUp.calls (a0 : ByteArray) (r : Bool) (w : World) (h : server_mqttNeedSubForLevelUp.f a0 = some r) :
    Calls Tryd.prog 30 #[.string a0] w fun e w' => e = .returned (.bool r) ∧ Drawn0 w w' := by
  have H : (if (a0.size : Int) < 3 then (some false) else (if 0 ≤ (wrap64 ((a0.size : Int) - 2)) then (if (wrap64 ((a0.size : Int) - 2)) < (a0.size : Int) then (if (bt a0 (wrap64 ((a0.size : Int) - 2))) = 46 then (if 0 ≤ (wrap64 ((a0.size : Int) - 1)) then (if (wrap64 ((a0.size : Int) - 1)) < (a0.size : Int) then (if (bt a0 (wrap64 ((a0.size : Int) - 1))) = 62 then (some true) else (some false)) else (none)) else (none)) else (some false)) else (none)) else (none))) = some r := h
  clear h
  by_cases c2 : (a0.size : Int) < 3
  · rw [if_pos c2] at H
    have c2b0 : decide ((a0.size : Int) < 3) = true := decide_eq_true c2
    have c2b1 : decide (a0.size < 3) = true := decide_eq_true (by omega)
    clear c2
    obtain rfl := Option.some.inj H
    go_enter Tryd.func30, Tryd.ntmps30
    go_wp2
    go_ret
    exact ⟨by first | rfl | (simp; done) | (simp [*]; done), by repeat (first | exact Drawn0.refl _ | apply Drawn0.step)⟩
  · rw [if_neg c2] at H
    have c2b0 : decide ((a0.size : Int) < 3) = false := decide_eq_false c2
    have c2b1 : decide (a0.size < 3) = false := decide_eq_false (by omega)
    clear c2
    obtain ⟨ji3, hji3⟩ : ∃ j_ : Int, (wrap64 ((a0.size : Int) - 2)) = j_ := ⟨_, rfl⟩
    replace H : (if 0 ≤ (ji3) then (if (ji3) < (a0.size : Int) then (if (bt a0 (ji3)) = 46 then (if 0 ≤ (wrap64 ((a0.size : Int) - 1)) then (if (wrap64 ((a0.size : Int) - 1)) < (a0.size : Int) then (if (bt a0 (wrap64 ((a0.size : Int) - 1))) = 62 then (some true) else (some false)) else (none)) else (none)) else (some false)) else (none)) else (none)) = some r := by first | (rw [hji3] at H; exact H) | (simp only [hji3] at H ⊢; exact H)
    have hji3w : (IntKind.i64.wrap ((a0.size : Int) - 2)) = ji3 := (i64_w _).trans hji3
    by_cases c4 : 0 ≤ (ji3)
    · rw [if_pos c4] at H
      have c4b0 : decide (0 ≤ (ji3)) = true := decide_eq_true c4
      clear c4
      by_cases c5 : (ji3) < (a0.size : Int)
      · rw [if_pos c5] at H
        have c5b0 : decide ((ji3) < (a0.size : Int)) = true := decide_eq_true c5
        clear c5
        by_cases c7 : (bt a0 (ji3)) = 46
        · rw [if_pos c7] at H
          have c7b0 : ((bt a0 (ji3)) == 46) = true := beq_iff_eq.mpr c7
          have c7b1 : ((bt a0 (ji3)) != 46) = false := bne_eq_false_iff_eq.mpr c7
          clear c7
          obtain ⟨ji8, hji8⟩ : ∃ j_ : Int, (wrap64 ((a0.size : Int) - 1)) = j_ := ⟨_, rfl⟩
          replace H : (if 0 ≤ (ji8) then (if (ji8) < (a0.size : Int) then (if (bt a0 (ji8)) = 62 then (some true) else (some false)) else (none)) else (none)) = some r := by first | (rw [hji8] at H; exact H) | (simp only [hji8] at H ⊢; exact H)
          have hji8w : (IntKind.i64.wrap ((a0.size : Int) - 1)) = ji8 := (i64_w _).trans hji8
          by_cases c9 : 0 ≤ (ji8)
          · rw [if_pos c9] at H
            have c9b0 : decide (0 ≤ (ji8)) = true := decide_eq_true c9
            clear c9
            by_cases c10 : (ji8) < (a0.size : Int)
            · rw [if_pos c10] at H
              have c10b0 : decide ((ji8) < (a0.size : Int)) = true := decide_eq_true c10
              clear c10
              by_cases c12 : (bt a0 (ji8)) = 62
              · rw [if_pos c12] at H
                have c12b0 : ((bt a0 (ji8)) == 62) = true := beq_iff_eq.mpr c12
                have c12b1 : ((bt a0 (ji8)) != 62) = false := bne_eq_false_iff_eq.mpr c12
                clear c12
                obtain rfl := Option.some.inj H
                have p6 : 0 ≤ ((ji3) : Int) := of_decide_eq_true (by first | (with_reducible assumption) | assumption)
                have q6 : (ji3) < (a0.size : Int) := of_decide_eq_true (by first | (with_reducible assumption) | assumption)
                have hx6 := bt_at a0 (ji3)
                replace p6 := eq_true p6
                replace q6 := eq_true q6
                have p11 : 0 ≤ ((ji8) : Int) := of_decide_eq_true (by first | (with_reducible assumption) | assumption)
                have q11 : (ji8) < (a0.size : Int) := of_decide_eq_true (by first | (with_reducible assumption) | assumption)
                have hx11 := bt_at a0 (ji8)
                replace p11 := eq_true p11
                replace q11 := eq_true q11
                go_enter Tryd.func30, Tryd.ntmps30
                go_wp2
                go_ret
                exact ⟨by first | rfl | (simp; done) | (simp only [← hji3, ← hji8] <;> (first | rfl | simp)) | (simp [*]; done), by repeat (first | exact Drawn0.refl _ | apply Drawn0.step)⟩
              · rw [if_neg c12] at H
                have c12b0 : ((bt a0 (ji8)) == 62) = false := beq_eq_false_iff_ne.mpr c12
                have c12b1 : ((bt a0 (ji8)) != 62) = true := bne_iff_ne.mpr c12
                obtain rfl := Option.some.inj H
                have p6 : 0 ≤ ((ji3) : Int) := of_decide_eq_true (by first | (with_reducible assumption) | assumption)
                have q6 : (ji3) < (a0.size : Int) := of_decide_eq_true (by first | (with_reducible assumption) | assumption)
                have hx6 := bt_at a0 (ji3)
                replace p6 := eq_true p6
                replace q6 := eq_true q6
                have p11 : 0 ≤ ((ji8) : Int) := of_decide_eq_true (by first | (with_reducible assumption) | assumption)
                have q11 : (ji8) < (a0.size : Int) := of_decide_eq_true (by first | (with_reducible assumption) | assumption)
                have hx11 := bt_at a0 (ji8)
                replace p11 := eq_true p11
                replace q11 := eq_true q11
                go_enter Tryd.func30, Tryd.ntmps30
                go_wp2
                go_ret
                exact ⟨by first | rfl | (simp; done) | (simp only [← hji3, ← hji8] <;> (first | rfl | simp)) | (simp [*]; done), by repeat (first | exact Drawn0.refl _ | apply Drawn0.step)⟩
            · rw [if_neg c10] at H
              exact absurd H (by simp)
          · rw [if_neg c9] at H
            exact absurd H (by simp)
        · rw [if_neg c7] at H
          have c7b0 : ((bt a0 (ji3)) == 46) = false := beq_eq_false_iff_ne.mpr c7
          have c7b1 : ((bt a0 (ji3)) != 46) = true := bne_iff_ne.mpr c7
          obtain rfl := Option.some.inj H
          have p6 : 0 ≤ ((ji3) : Int) := of_decide_eq_true (by first | (with_reducible assumption) | assumption)
          have q6 : (ji3) < (a0.size : Int) := of_decide_eq_true (by first | (with_reducible assumption) | assumption)
          have hx6 := bt_at a0 (ji3)
          replace p6 := eq_true p6
          replace q6 := eq_true q6
          go_enter Tryd.func30, Tryd.ntmps30
          go_wp2
          go_ret
          exact ⟨by first | rfl | (simp; done) | (simp only [← hji3] <;> (first | rfl | simp)) | (simp [*]; done), by repeat (first | exact Drawn0.refl _ | apply Drawn0.step)⟩
      · rw [if_neg c5] at H
        exact absurd H (by simp)
    · rw [if_neg c4] at H
      exact absurd H (by simp)

/-! ### server_NeedsLevelUp: function 24 -/
def server_NeedsLevelUp.f (a0 : ByteArray) : Option (Bool) := (server_mqttNeedSubForLevelUp.f a0).bind fun t150 => (some t150)
set_option maxHeartbeats 8000000 in
set_option maxRecDepth 100000 in
theorem server_NeedsLevelUp.calls (a0 : ByteArray) (r : Bool) (w : World) (h : server_NeedsLevelUp.f a0 = some r) :
    Calls Tryd.prog 24 #[.string a0] w fun e w' => e = .returned (.bool r) ∧ Drawn0 w w' := by
  have H : ((server_mqttNeedSubForLevelUp.f a0).bind fun t150 => (some t150)) = some r := h
  clear h
  replace H := Option.bind_eq_some_iff.mp H
  obtain ⟨t150, A20, H⟩ := H
  replace H : (some t150) = some r := H
  have A2 := Aside0.mk A20
  clear A20
  obtain rfl := Option.some.inj H
  go_enter Tryd.func24, Tryd.ntmps24
  go_wp2_with (first | ((with_reducible refine gate_callee (f := 30) rfl ?_); refine goesL_ (some 4) rfl rfl Tryd.func30 (by kernel_rfl) rfl #[.string a0] rfl (by (try simp only [List.map_toArray, List.map_cons, List.map_nil]); first | done | rfl | (simp only [List.length_drop, List.length_take]; rfl)) ?_; (with_reducible refine (server_mqttNeedSubForLevelUp.calls a0 t150 _ A2.out).mono ?_); rintro e w' ⟨rfl, ⟨nd, rfl⟩⟩; refine ⟨_, rfl, ?_⟩))
  go_ret
  exact ⟨by first | rfl | (simp; done) | (simp [*]; done), by repeat (first | exact Drawn0.refl _ | apply Drawn0.step)⟩

/-! ### impl_NeedsUp: function 13 -/
def impl_NeedsUp.f (a0 : ByteArray) : Option (Bool) := (server_NeedsLevelUp.f a0).bind fun t151 => (some t151)
set_option maxHeartbeats 8000000 in
set_option maxRecDepth 100000 in
theorem impl_NeedsUp.calls (a0 : ByteArray) (r : Bool) (w : World) (h : impl_NeedsUp.f a0 = some r) :
    Calls Tryd.prog 13 #[.string a0] w fun e w' => e = .returned (.bool r) ∧ Drawn0 w w' := by
  have H : ((server_NeedsLevelUp.f a0).bind fun t151 => (some t151)) = some r := h
  clear h
  replace H := Option.bind_eq_some_iff.mp H
  obtain ⟨t151, A20, H⟩ := H
  replace H : (some t151) = some r := H
  have A2 := Aside0.mk A20
  clear A20
  obtain rfl := Option.some.inj H
  go_enter Tryd.func13, Tryd.ntmps13
  go_wp2_with (first | ((with_reducible refine gate_callee (f := 24) rfl ?_); refine goesL_ (some 4) rfl rfl Tryd.func24 (by kernel_rfl) rfl #[.string a0] rfl (by (try simp only [List.map_toArray, List.map_cons, List.map_nil]); first | done | rfl | (simp only [List.length_drop, List.length_take]; rfl)) ?_; (with_reducible refine (server_NeedsLevelUp.calls a0 t151 _ A2.out).mono ?_); rintro e w' ⟨rfl, ⟨nd, rfl⟩⟩; refine ⟨_, rfl, ?_⟩))
  go_ret
  exact ⟨by first | rfl | (simp; done) | (simp [*]; done), by repeat (first | exact Drawn0.refl _ | apply Drawn0.step)⟩

/-! ### spec_Above: function 14 -/
def spec_Above.l0 : Nat → List ByteArray → ByteArray → Int → Option (ByteArray)
  | 0, _, _, _ => none
  | k + 1, x3, x4, x5 => if (wrap64 (x5 + 1)) < (x3.length : Int) then (if x5 > 0 then (if x4.size + 1 ≤ 9223372036854775807 then (if 0 ≤ x5 then (if x5 < (x3.length : Int) then (if (x4 ++ (⟨#[47]⟩ : ByteArray)).size + (rdOf ByteArray.empty x3 x5).size ≤ 9223372036854775807 then (spec_Above.l0 k x3 ((x4 ++ (⟨#[47]⟩ : ByteArray)) ++ (rdOf ByteArray.empty x3 x5)) (wrap64 (x5 + 1))) else (none)) else (none)) else (none)) else (none)) else (if 0 ≤ x5 then (if x5 < (x3.length : Int) then (if x4.size + (rdOf ByteArray.empty x3 x5).size ≤ 9223372036854775807 then (spec_Above.l0 k x3 (x4 ++ (rdOf ByteArray.empty x3 x5)) (wrap64 (x5 + 1))) else (none)) else (none)) else (none))) else (some x4)
def spec_Above.f (k : Nat) (a0 : ByteArray) : Option (ByteArray) := (spec_levels.f k a0).bind fun t152 => (spec_Above.l0 k t152 (⟨#[]⟩ : ByteArray) 0)
theorem spec_Above.mono_l : ∀ k, (∀ y0 y1 y2, LeO (spec_Above.l0 k y0 y1 y2) (spec_Above.l0 (k + 1) y0 y1 y2))
  | 0 => fun _ _ _ r h => by simp [spec_Above.l0] at h
  | k + 1 => by
    have ih0 := spec_Above.mono_l k
    · intro y0 y1 y2
      unfold spec_Above.l0
      repeat' first
      | (with_reducible exact ih0 _ _ _)
      | (with_reducible exact spec_levels.mono _ _)
      | (with_reducible exact LeO.refl _)
      | (with_reducible exact LeO.none _)
      | (with_reducible refine LeO.ite ?_ ?_)
      | (with_reducible refine LeO.bind ?_ (fun _ => ?_))
      | exact ih0 _ _ _
      | exact spec_levels.mono _ _
      | exact LeO.none _
      | refine LeO.ite ?_ ?_
      | refine LeO.bind ?_ (fun _ => ?_)
theorem spec_Above.mono : ∀ a0 k, LeO (spec_Above.f k a0) (spec_Above.f (k + 1) a0) := by
  intro a0 k
  have ih0 := spec_Above.mono_l k
  unfold spec_Above.f
  repeat' first
      | (with_reducible exact ih0 _ _ _)
      | (with_reducible exact spec_levels.mono _ _)
      | (with_reducible exact LeO.refl _)
      | (with_reducible exact LeO.none _)
      | (with_reducible refine LeO.ite ?_ ?_)
      | (with_reducible refine LeO.bind ?_ (fun _ => ?_))
      | exact ih0 _ _ _
      | exact spec_levels.mono _ _
      | exact LeO.none _
      | refine LeO.ite ?_ ?_
      | refine LeO.bind ?_ (fun _ => ?_)
set_option maxHeartbeats 8000000 in
set_option maxRecDepth 100000 in
theorem spec_Above.calls (k : Nat) (a0 : ByteArray) (r : ByteArray) (w : World) (h : spec_Above.f k a0 = some r) :
    Calls Tryd.prog 14 #[.string a0] w fun e w' => e = .returned (.string r) ∧ Below w.heap.size w w' := by
  have HB := Aside0.mk (Below.refl w.heap.size w)
  have H : ((spec_levels.f k a0).bind fun t152 => (spec_Above.l0 k t152 (⟨#[]⟩ : ByteArray) 0)) = some r := h
  clear h
  replace H := Option.bind_eq_some_iff.mp H
  obtain ⟨t152, A20, H⟩ := H
  replace H : (spec_Above.l0 k t152 (⟨#[]⟩ : ByteArray) 0) = some r := H
  have A2 := Aside0.mk A20
  clear A20
  have H' := Aside0.mk H
  clear H
  go_enter Tryd.func14, Tryd.ntmps14
  go_wp2_with (first | ((with_reducible refine gate_callee (f := 25) rfl ?_); refine goesL_ (some 7) rfl rfl Tryd.func25 (by kernel_rfl) rfl #[.string a0] rfl (by (try simp only [List.map_toArray, List.map_cons, List.map_nil]); first | done | rfl | (simp only [List.length_drop, List.length_take]; rfl)) ?_; (with_reducible refine (spec_levels.calls k a0 t152 _ A2.out).mono ?_); rintro e w3 ⟨v153, rfl, ho0, hb⟩; refine ⟨_, rfl, ?_⟩; have n0_ := Aside0.mk (Kd.R_lower ho0 (below_size (by repeat (first | (with_reducible first | exact HB.out | apply below_alloc | apply pw_below_drewN | apply below_drew1) | exact HB.out)))); have n1_ := Aside0.mk (below_step (by repeat (first | (with_reducible first | exact HB.out | apply below_alloc | apply pw_below_drewN | apply below_drew1) | exact HB.out)) hb); clear HB; have HO154 := n0_; have HB := n1_; clear n0_ n1_; (try clear hb); (try clear hb2); (try clear hk); (try clear hi); (try clear ho0)))
  go_loopg [4, 5] k (fun kq v4 v5 w' => ∃ (x4_1 : ByteArray) (x5_1 : Int), v4 = .string x4_1 ∧ v5 = .int .i64 x5_1 ∧ Aside0 (spec_Above.l0 kq t152 x4_1 x5_1 = some r) ∧ Aside0 (kq ≤ k) ∧ Aside0 (Kd.R Kd.string 9 w' w.heap.size (fun _ => True) v153 t152) ∧ Aside0 (Below w.heap.size w w'))
  case atStart => exact ⟨((⟨#[]⟩ : ByteArray)), (0), (by first | rfl | (simp; done) | (simp [*]; done)), (by first | rfl | (simp; done) | (simp [*]; done)), H', ⟨Nat.le_refl _⟩, ⟨by (with_reducible repeat (first | apply Kd.R_alloc | apply Kd.R_drewN | apply Kd.R_drew)); exact HO154.out⟩, ⟨by repeat (first | (with_reducible first | exact HB.out | apply below_alloc | apply pw_below_drewN | apply below_drew1) | exact HB.out)⟩⟩
  case round =>
    clear H'
    try clear c1
    try clear c2
    try clear p2
    obtain ⟨x4_1, x5_1, rfl, rfl, HA, HK1, HO_3, HB⟩ := hrel
    cases gk with
    | zero => exact absurd HA.out (by simp [spec_Above.l0])
    | succ k1 =>
      have H := HA.out
      clear HA
      simp only [spec_Above.l0] at H
      by_cases c4 : (wrap64 (x5_1 + 1)) < (t152.length : Int)
      · rw [if_pos c4] at H
        have c4b0 : decide ((wrap64 (x5_1 + 1)) < (t152.length : Int)) = true := decide_eq_true c4
        clear c4
        by_cases c5 : x5_1 > 0
        · rw [if_pos c5] at H
          have c5b0 : decide (0 < x5_1) = true := decide_eq_true c5
          clear c5
          by_cases c6 : x4_1.size + 1 ≤ 9223372036854775807
          · rw [if_pos c6] at H
            have c6b0 := eq_true c6
            have c6b1 : decide (x4_1.size + 1 ≤ 9223372036854775807) = true := decide_eq_true c6
            try have c6b2 : (9223372036854775807 < x4_1.size + 1) = False := eq_false (Nat.not_lt.2 c6)
            by_cases c7 : 0 ≤ x5_1
            · rw [if_pos c7] at H
              have c7b0 : decide (0 ≤ x5_1) = true := decide_eq_true c7
              clear c7
              by_cases c8 : x5_1 < (t152.length : Int)
              · rw [if_pos c8] at H
                have c8b0 : decide (x5_1 < (t152.length : Int)) = true := decide_eq_true c8
                clear c8
                by_cases c9 : (x4_1 ++ (⟨#[47]⟩ : ByteArray)).size + (rdOf ByteArray.empty t152 x5_1).size ≤ 9223372036854775807
                · rw [if_pos c9] at H
                  have c9b0 := eq_true c9
                  have c9b1 : decide ((x4_1 ++ (⟨#[47]⟩ : ByteArray)).size + (rdOf ByteArray.empty t152 x5_1).size ≤ 9223372036854775807) = true := decide_eq_true c9
                  try have c9b2 : (9223372036854775807 < (x4_1 ++ (⟨#[47]⟩ : ByteArray)).size + (rdOf ByteArray.empty t152 x5_1).size) = False := eq_false (Nat.not_lt.2 c9)
                  have c9z : (9223372036854775807 < (x4_1).size + 1 + (rdOf ByteArray.empty t152 x5_1).size) = False := eq_false (Nat.not_lt.2 (by have h_ := c9; simp only [ByteArray.size_append] at h_; exact h_))
                  have H' := Aside0.mk H
                  clear H
                  obtain ⟨Ao10, co10, eo10⟩ := Kd.R_slice HO_3.out
                  subst eo10
                  have p155 : 0 ≤ (x5_1 : Int) := of_decide_eq_true (by first | (with_reducible assumption) | assumption)
                  have q155 : x5_1 < (t152.length : Int) := of_decide_eq_true (by first | (with_reducible assumption) | assumption)
                  obtain ⟨ad155, e155, hx155_0⟩ := Kd.at_string (Kd.R_reads' HO_3.out).2.2 x5_1 p155 q155
                  cases e155
                  replace p155 := eq_true p155
                  replace q155 := eq_true q155
                  go_wp2
                  go_roundg k1
                  case measure => have := HK1.out; omega
                  case rel => exact ⟨((x4_1 ++ (⟨#[47]⟩ : ByteArray)) ++ (rdOf ByteArray.empty t152 x5_1)), (wrap64 (x5_1 + 1)), (by first | rfl | (simp; done) | (simp [*]; done)), (by first | rfl | (simp; done) | (simp [*]; done)), H', ⟨by have := HK1.out; omega⟩, ⟨by (with_reducible repeat (first | apply Kd.R_alloc | apply Kd.R_drewN | apply Kd.R_drew)); exact HO_3.out⟩, ⟨by repeat (first | (with_reducible first | exact HB.out | apply below_alloc | apply pw_below_drewN | apply below_drew1) | exact HB.out)⟩⟩
                · rw [if_neg c9] at H
                  exact absurd H (by simp)
              · rw [if_neg c8] at H
                exact absurd H (by simp)
            · rw [if_neg c7] at H
              exact absurd H (by simp)
          · rw [if_neg c6] at H
            exact absurd H (by simp)
        · rw [if_neg c5] at H
          have c5b0 : decide (0 < x5_1) = false := decide_eq_false c5
          clear c5
          by_cases c11 : 0 ≤ x5_1
          · rw [if_pos c11] at H
            have c11b0 : decide (0 ≤ x5_1) = true := decide_eq_true c11
            clear c11
            by_cases c12 : x5_1 < (t152.length : Int)
            · rw [if_pos c12] at H
              have c12b0 : decide (x5_1 < (t152.length : Int)) = true := decide_eq_true c12
              clear c12
              by_cases c13 : x4_1.size + (rdOf ByteArray.empty t152 x5_1).size ≤ 9223372036854775807
              · rw [if_pos c13] at H
                have c13b0 := eq_true c13
                have c13b1 : decide (x4_1.size + (rdOf ByteArray.empty t152 x5_1).size ≤ 9223372036854775807) = true := decide_eq_true c13
                try have c13b2 : (9223372036854775807 < x4_1.size + (rdOf ByteArray.empty t152 x5_1).size) = False := eq_false (Nat.not_lt.2 c13)
                have H' := Aside0.mk H
                clear H
                obtain ⟨Ao14, co14, eo14⟩ := Kd.R_slice HO_3.out
                subst eo14
                have p156 : 0 ≤ (x5_1 : Int) := of_decide_eq_true (by first | (with_reducible assumption) | assumption)
                have q156 : x5_1 < (t152.length : Int) := of_decide_eq_true (by first | (with_reducible assumption) | assumption)
                obtain ⟨ad156, e156, hx156_0⟩ := Kd.at_string (Kd.R_reads' HO_3.out).2.2 x5_1 p156 q156
                cases e156
                replace p156 := eq_true p156
                replace q156 := eq_true q156
                go_wp2
                go_roundg k1
                case measure => have := HK1.out; omega
                case rel => exact ⟨(x4_1 ++ (rdOf ByteArray.empty t152 x5_1)), (wrap64 (x5_1 + 1)), (by first | rfl | (simp; done) | (simp [*]; done)), (by first | rfl | (simp; done) | (simp [*]; done)), H', ⟨by have := HK1.out; omega⟩, ⟨by (with_reducible repeat (first | apply Kd.R_alloc | apply Kd.R_drewN | apply Kd.R_drew)); exact HO_3.out⟩, ⟨by repeat (first | (with_reducible first | exact HB.out | apply below_alloc | apply pw_below_drewN | apply below_drew1) | exact HB.out)⟩⟩
              · rw [if_neg c13] at H
                exact absurd H (by simp)
            · rw [if_neg c12] at H
              exact absurd H (by simp)
          · rw [if_neg c11] at H
            exact absurd H (by simp)
      · rw [if_neg c4] at H
        have c4b0 : decide ((wrap64 (x5_1 + 1)) < (t152.length : Int)) = false := decide_eq_false c4
        clear c4
        obtain rfl := Option.some.inj H
        obtain ⟨Ao15, co15, eo15⟩ := Kd.R_slice HO_3.out
        subst eo15
        go_wp2
        go_ret
        exact ⟨by first | rfl | (simp [errW_none, errW_some] <;> rfl) | (simp [*, errW_none, errW_some] <;> rfl), by repeat (first | (with_reducible first | exact HB.out | apply below_alloc | apply pw_below_drewN | apply below_drew1) | exact HB.out)⟩

/-! ### spec_Filters: function 15 -/
def spec_Filters.l0 : Nat → List ByteArray → List ByteArray → Int → Option (Bool)
  | 0, _, _, _ => none
  | k + 1, x5, x6, x7 => if x7 < (x5.length : Int) then (if 0 ≤ x7 then (if (rdOf ByteArray.empty x5 x7).toList = ([35] : List UInt8) then (some true) else (if x7 ≥ (x6.length : Int) then (some false) else (if (rdOf ByteArray.empty x5 x7).toList = ([43] : List UInt8) then (spec_Filters.l0 k x5 x6 (wrap64 (x7 + 1))) else (if x7 < (x6.length : Int) then (if (rdOf ByteArray.empty x5 x7).toList = (rdOf ByteArray.empty x6 x7).toList then (spec_Filters.l0 k x5 x6 (wrap64 (x7 + 1))) else (some false)) else (none))))) else (none)) else (some ((x5.length : Int) == (x6.length : Int)))
def spec_Filters.f (k : Nat) (a0 : ByteArray) (a1 : ByteArray) : Option (Bool) := (spec_levels.f k a0).bind fun t157 => ((spec_levels.f k a1).bind fun t160 => (spec_Filters.l0 k t157 t160 0))
theorem spec_Filters.mono_l : ∀ k, (∀ y0 y1 y2, LeO (spec_Filters.l0 k y0 y1 y2) (spec_Filters.l0 (k + 1) y0 y1 y2))
  | 0 => fun _ _ _ r h => by simp [spec_Filters.l0] at h
  | k + 1 => by
    have ih0 := spec_Filters.mono_l k
    · intro y0 y1 y2
      unfold spec_Filters.l0
      repeat' first
      | (with_reducible exact ih0 _ _ _)
      | (with_reducible exact spec_levels.mono _ _)
      | (with_reducible exact LeO.refl _)
      | (with_reducible exact LeO.none _)
      | (with_reducible refine LeO.ite ?_ ?_)
      | (with_reducible refine LeO.bind ?_ (fun _ => ?_))
      | exact ih0 _ _ _
      | exact spec_levels.mono _ _
      | exact LeO.none _
      | refine LeO.ite ?_ ?_
      | refine LeO.bind ?_ (fun _ => ?_)
theorem spec_Filters.mono : ∀ a0 a1 k, LeO (spec_Filters.f k a0 a1) (spec_Filters.f (k + 1) a0 a1) := by
  intro a0 a1 k
  have ih0 := spec_Filters.mono_l k
  unfold spec_Filters.f
  repeat' first
      | (with_reducible exact ih0 _ _ _)
      | (with_reducible exact spec_levels.mono _ _)
      | (with_reducible exact LeO.refl _)
      | (with_reducible exact LeO.none _)
      | (with_reducible refine LeO.ite ?_ ?_)
      | (with_reducible refine LeO.bind ?_ (fun _ => ?_))
      | exact ih0 _ _ _
      | exact spec_levels.mono _ _
      | exact LeO.none _
      | refine LeO.ite ?_ ?_
      | refine LeO.bind ?_ (fun _ => ?_)
set_option maxHeartbeats 8000000 in
set_option maxRecDepth 100000 in
theorem spec_Filters.calls (k : Nat) (a0 : ByteArray) (a1 : ByteArray) (r : Bool) (w : World) (h : spec_Filters.f k a0 a1 = some r) :
    Calls Tryd.prog 15 #[.string a0, .string a1] w fun e w' => e = .returned (.bool r) ∧ Below w.heap.size w w' := by
  have HB := Aside0.mk (Below.refl w.heap.size w)
  have H : ((spec_levels.f k a0).bind fun t157 => ((spec_levels.f k a1).bind fun t160 => (spec_Filters.l0 k t157 t160 0))) = some r := h
  clear h
  replace H := Option.bind_eq_some_iff.mp H
  obtain ⟨t157, A30, H⟩ := H
  replace H : ((spec_levels.f k a1).bind fun t160 => (spec_Filters.l0 k t157 t160 0)) = some r := H
  have A3 := Aside0.mk A30
  clear A30
  replace H := Option.bind_eq_some_iff.mp H
  obtain ⟨t160, A40, H⟩ := H
  replace H : (spec_Filters.l0 k t157 t160 0) = some r := H
  have A4 := Aside0.mk A40
  clear A40
  have H' := Aside0.mk H
  clear H
  go_enter Tryd.func15, Tryd.ntmps15
  go_wp2_with (first | (go_at_call 25; (with_reducible refine (spec_levels.calls k a0 t157 _ A3.out).mono ?_); rintro e w5 ⟨v158, rfl, ho0, hb⟩; have n0_ := Aside0.mk (Kd.R_lower ho0 (below_size (by repeat (first | (with_reducible first | exact HB.out | apply below_alloc | apply pw_below_drewN | apply below_drew1) | exact HB.out)))); have n1_ := Aside0.mk (below_step (by repeat (first | (with_reducible first | exact HB.out | apply below_alloc | apply pw_below_drewN | apply below_drew1) | exact HB.out)) hb); clear HB; have HO159 := n0_; have HB := n1_; clear n0_ n1_; (try clear hb); (try clear hb2); (try clear hk); (try clear hi); (try clear ho0)) | (go_at_call 25; (with_reducible refine (spec_levels.calls k a1 t160 _ A4.out).mono ?_); rintro e w6 ⟨v161, rfl, ho0, hb⟩; have n0_ := Aside0.mk (Kd.R_elder' (by (with_reducible repeat (first | apply Kd.R_alloc | apply Kd.R_drewN | apply Kd.R_drew)); exact HO159.out) (Kd.R_base ho0) hb); have n1_ := Aside0.mk (Kd.R_lower (Kd.R_new' ho0 (Kd.R_lt (by (with_reducible repeat (first | apply Kd.R_alloc | apply Kd.R_drewN | apply Kd.R_drew)); exact HO159.out))) (below_size (by repeat (first | (with_reducible first | exact HB.out | apply below_alloc | apply pw_below_drewN | apply below_drew1) | exact HB.out)))); have n2_ := Aside0.mk (below_step (by repeat (first | (with_reducible first | exact HB.out | apply below_alloc | apply pw_below_drewN | apply below_drew1) | exact HB.out)) hb); clear HO159; clear HB; have HO159 := n0_; have HO162 := n1_; have HB := n2_; clear n0_ n1_ n2_; (try clear hb); (try clear hb2); (try clear hk); (try clear hi); (try clear ho0)))
  repeat (go_quiet (first | (go_at_call 25; (with_reducible refine (spec_levels.calls k a0 t157 _ A3.out).mono ?_); rintro e w5 ⟨v158, rfl, ho0, hb⟩; have n0_ := Aside0.mk (Kd.R_lower ho0 (below_size (by repeat (first | (with_reducible first | exact HB.out | apply below_alloc | apply pw_below_drewN | apply below_drew1) | exact HB.out)))); have n1_ := Aside0.mk (below_step (by repeat (first | (with_reducible first | exact HB.out | apply below_alloc | apply pw_below_drewN | apply below_drew1) | exact HB.out)) hb); clear HB; have HO159 := n0_; have HB := n1_; clear n0_ n1_; (try clear hb); (try clear hb2); (try clear hk); (try clear hi); (try clear ho0)) | (go_at_call 25; (with_reducible refine (spec_levels.calls k a1 t160 _ A4.out).mono ?_); rintro e w6 ⟨v161, rfl, ho0, hb⟩; have n0_ := Aside0.mk (Kd.R_elder' (by (with_reducible repeat (first | apply Kd.R_alloc | apply Kd.R_drewN | apply Kd.R_drew)); exact HO159.out) (Kd.R_base ho0) hb); have n1_ := Aside0.mk (Kd.R_lower (Kd.R_new' ho0 (Kd.R_lt (by (with_reducible repeat (first | apply Kd.R_alloc | apply Kd.R_drewN | apply Kd.R_drew)); exact HO159.out))) (below_size (by repeat (first | (with_reducible first | exact HB.out | apply below_alloc | apply pw_below_drewN | apply below_drew1) | exact HB.out)))); have n2_ := Aside0.mk (below_step (by repeat (first | (with_reducible first | exact HB.out | apply below_alloc | apply pw_below_drewN | apply below_drew1) | exact HB.out)) hb); clear HO159; clear HB; have HO159 := n0_; have HO162 := n1_; have HB := n2_; clear n0_ n1_ n2_; (try clear hb); (try clear hb2); (try clear hk); (try clear hi); (try clear ho0))); try go_wp2_with (first | (go_at_call 25; (with_reducible refine (spec_levels.calls k a0 t157 _ A3.out).mono ?_); rintro e w5 ⟨v158, rfl, ho0, hb⟩; have n0_ := Aside0.mk (Kd.R_lower ho0 (below_size (by repeat (first | (with_reducible first | exact HB.out | apply below_alloc | apply pw_below_drewN | apply below_drew1) | exact HB.out)))); have n1_ := Aside0.mk (below_step (by repeat (first | (with_reducible first | exact HB.out | apply below_alloc | apply pw_below_drewN | apply below_drew1) | exact HB.out)) hb); clear HB; have HO159 := n0_; have HB := n1_; clear n0_ n1_; (try clear hb); (try clear hb2); (try clear hk); (try clear hi); (try clear ho0)) | (go_at_call 25; (with_reducible refine (spec_levels.calls k a1 t160 _ A4.out).mono ?_); rintro e w6 ⟨v161, rfl, ho0, hb⟩; have n0_ := Aside0.mk (Kd.R_elder' (by (with_reducible repeat (first | apply Kd.R_alloc | apply Kd.R_drewN | apply Kd.R_drew)); exact HO159.out) (Kd.R_base ho0) hb); have n1_ := Aside0.mk (Kd.R_lower (Kd.R_new' ho0 (Kd.R_lt (by (with_reducible repeat (first | apply Kd.R_alloc | apply Kd.R_drewN | apply Kd.R_drew)); exact HO159.out))) (below_size (by repeat (first | (with_reducible first | exact HB.out | apply below_alloc | apply pw_below_drewN | apply below_drew1) | exact HB.out)))); have n2_ := Aside0.mk (below_step (by repeat (first | (with_reducible first | exact HB.out | apply below_alloc | apply pw_below_drewN | apply below_drew1) | exact HB.out)) hb); clear HO159; clear HB; have HO159 := n0_; have HO162 := n1_; have HB := n2_; clear n0_ n1_ n2_; (try clear hb); (try clear hb2); (try clear hk); (try clear hi); (try clear ho0))))
  go_loopg [7] k (fun kq v7 w' => ∃ (x7_1 : Int), v7 = .int .i64 x7_1 ∧ Aside0 (spec_Filters.l0 kq t157 t160 x7_1 = some r) ∧ Aside0 (kq ≤ k) ∧ Aside0 (Kd.R Kd.string 9 w' w.heap.size (fun k_ => some k_ ≠ (v161 : Value).ownBlock) v158 t157) ∧ Aside0 (Kd.R Kd.string 9 w' w.heap.size (fun k_ => some k_ ≠ (v158 : Value).ownBlock) v161 t160) ∧ Aside0 (Below w.heap.size w w'))
  case atStart => exact ⟨(0), (by first | rfl | (simp; done) | (simp [*]; done)), H', ⟨Nat.le_refl _⟩, ⟨by (with_reducible repeat (first | apply Kd.R_alloc | apply Kd.R_drewN | apply Kd.R_drew)); exact Kd.R_mono HO159.out (fun _ hk => hk.2)⟩, ⟨by (with_reducible repeat (first | apply Kd.R_alloc | apply Kd.R_drewN | apply Kd.R_drew)); exact Kd.R_mono HO162.out (fun _ hk => hk.2)⟩, ⟨by repeat (first | (with_reducible first | exact HB.out | apply below_alloc | apply pw_below_drewN | apply below_drew1) | exact HB.out)⟩⟩
  case round =>
    clear H'
    try clear c1
    try clear p2
    obtain ⟨x7_1, rfl, HA, HK1, HO_5, HO_6, HB⟩ := hrel
    cases gk with
    | zero => exact absurd HA.out (by simp [spec_Filters.l0])
    | succ k1 =>
      have H := HA.out
      clear HA
      simp only [spec_Filters.l0] at H
      by_cases c7 : x7_1 < (t157.length : Int)
      · rw [if_pos c7] at H
        have c7b0 : decide (x7_1 < (t157.length : Int)) = true := decide_eq_true c7
        clear c7
        by_cases c8 : 0 ≤ x7_1
        · rw [if_pos c8] at H
          have c8b0 : decide (0 ≤ x7_1) = true := decide_eq_true c8
          clear c8
          by_cases c9 : (rdOf ByteArray.empty t157 x7_1).toList = ([35] : List UInt8)
          · rw [if_pos c9] at H
            have c9b0 : ((rdOf ByteArray.empty t157 x7_1).toList == ([35] : List UInt8)) = true := beq_iff_eq.mpr c9
            have c9b1 : ((rdOf ByteArray.empty t157 x7_1).toList != ([35] : List UInt8)) = false := bne_eq_false_iff_eq.mpr c9
            clear c9
            obtain rfl := Option.some.inj H
            obtain ⟨Ao10, co10, eo10⟩ := Kd.R_slice HO_5.out
            subst eo10
            have p163 : 0 ≤ (x7_1 : Int) := of_decide_eq_true (by first | (with_reducible assumption) | assumption)
            have q163 : x7_1 < (t157.length : Int) := of_decide_eq_true (by first | (with_reducible assumption) | assumption)
            obtain ⟨ad163, e163, hx163_0⟩ := Kd.at_string (Kd.R_reads' HO_5.out).2.2 x7_1 p163 q163
            cases e163
            replace p163 := eq_true p163
            replace q163 := eq_true q163
            go_wp2
            repeat (go_quiet (fail); try go_wp2)
            go_ret
            exact ⟨by first | rfl | (simp [errW_none, errW_some] <;> rfl) | (simp [*, errW_none, errW_some] <;> rfl), by repeat (first | (with_reducible first | exact HB.out | apply below_alloc | apply pw_below_drewN | apply below_drew1) | exact HB.out)⟩
          · rw [if_neg c9] at H
            have c9b0 : ((rdOf ByteArray.empty t157 x7_1).toList == ([35] : List UInt8)) = false := beq_eq_false_iff_ne.mpr c9
            have c9b1 : ((rdOf ByteArray.empty t157 x7_1).toList != ([35] : List UInt8)) = true := bne_iff_ne.mpr c9
            by_cases c11 : x7_1 ≥ (t160.length : Int)
            · rw [if_pos c11] at H
              have c11b0 : decide ((t160.length : Int) ≤ x7_1) = true := decide_eq_true c11
              clear c11
              obtain rfl := Option.some.inj H
              obtain ⟨Ao12, co12, eo12⟩ := Kd.R_slice HO_5.out
              subst eo12
              have p163 : 0 ≤ (x7_1 : Int) := of_decide_eq_true (by first | (with_reducible assumption) | assumption)
              have q163 : x7_1 < (t157.length : Int) := of_decide_eq_true (by first | (with_reducible assumption) | assumption)
              obtain ⟨ad163, e163, hx163_0⟩ := Kd.at_string (Kd.R_reads' HO_5.out).2.2 x7_1 p163 q163
              cases e163
              replace p163 := eq_true p163
              replace q163 := eq_true q163
              obtain ⟨Ao13, co13, eo13⟩ := Kd.R_slice HO_6.out
              subst eo13
              go_wp2
              repeat (go_quiet (fail); try go_wp2)
              go_ret
              exact ⟨by first | rfl | (simp [errW_none, errW_some] <;> rfl) | (simp [*, errW_none, errW_some] <;> rfl), by repeat (first | (with_reducible first | exact HB.out | apply below_alloc | apply pw_below_drewN | apply below_drew1) | exact HB.out)⟩
            · rw [if_neg c11] at H
              have c11b0 : decide ((t160.length : Int) ≤ x7_1) = false := decide_eq_false c11
              clear c11
              by_cases c14 : (rdOf ByteArray.empty t157 x7_1).toList = ([43] : List UInt8)
              · rw [if_pos c14] at H
                have c14b0 : ((rdOf ByteArray.empty t157 x7_1).toList == ([43] : List UInt8)) = true := beq_iff_eq.mpr c14
                have c14b1 : ((rdOf ByteArray.empty t157 x7_1).toList != ([43] : List UInt8)) = false := bne_eq_false_iff_eq.mpr c14
                clear c14
                have H' := Aside0.mk H
                clear H
                obtain ⟨Ao15, co15, eo15⟩ := Kd.R_slice HO_5.out
                subst eo15
                have p163 : 0 ≤ (x7_1 : Int) := of_decide_eq_true (by first | (with_reducible assumption) | assumption)
                have q163 : x7_1 < (t157.length : Int) := of_decide_eq_true (by first | (with_reducible assumption) | assumption)
                obtain ⟨ad163, e163, hx163_0⟩ := Kd.at_string (Kd.R_reads' HO_5.out).2.2 x7_1 p163 q163
                cases e163
                replace p163 := eq_true p163
                replace q163 := eq_true q163
                obtain ⟨Ao16, co16, eo16⟩ := Kd.R_slice HO_6.out
                subst eo16
                have p164 : 0 ≤ (x7_1 : Int) := of_decide_eq_true (by first | (with_reducible assumption) | assumption)
                have q164 : x7_1 < (t157.length : Int) := of_decide_eq_true (by first | (with_reducible assumption) | assumption)
                obtain ⟨ad164, e164, hx164_0⟩ := Kd.at_string (Kd.R_reads' HO_5.out).2.2 x7_1 p164 q164
                obtain rfl : ad163 = ad164 := (by injection e164)
                replace p164 := eq_true p164
                replace q164 := eq_true q164
                go_wp2
                repeat (go_quiet (fail); try go_wp2)
                go_roundg k1
                case measure => have := HK1.out; omega
                case rel => exact ⟨(wrap64 (x7_1 + 1)), (by first | rfl | (simp; done) | (simp [*]; done)), H', ⟨by have := HK1.out; omega⟩, ⟨by (with_reducible repeat (first | apply Kd.R_alloc | apply Kd.R_drewN | apply Kd.R_drew)); exact HO_5.out⟩, ⟨by (with_reducible repeat (first | apply Kd.R_alloc | apply Kd.R_drewN | apply Kd.R_drew)); exact HO_6.out⟩, ⟨by repeat (first | (with_reducible first | exact HB.out | apply below_alloc | apply pw_below_drewN | apply below_drew1) | exact HB.out)⟩⟩
              · rw [if_neg c14] at H
                have c14b0 : ((rdOf ByteArray.empty t157 x7_1).toList == ([43] : List UInt8)) = false := beq_eq_false_iff_ne.mpr c14
                have c14b1 : ((rdOf ByteArray.empty t157 x7_1).toList != ([43] : List UInt8)) = true := bne_iff_ne.mpr c14
                by_cases c17 : x7_1 < (t160.length : Int)
                · rw [if_pos c17] at H
                  have c17b0 : decide (x7_1 < (t160.length : Int)) = true := decide_eq_true c17
                  clear c17
                  by_cases c18 : (rdOf ByteArray.empty t157 x7_1).toList = (rdOf ByteArray.empty t160 x7_1).toList
                  · rw [if_pos c18] at H
                    have c18b0 : ((rdOf ByteArray.empty t157 x7_1).toList == (rdOf ByteArray.empty t160 x7_1).toList) = true := beq_iff_eq.mpr c18
                    have c18b1 : ((rdOf ByteArray.empty t157 x7_1).toList != (rdOf ByteArray.empty t160 x7_1).toList) = false := bne_eq_false_iff_eq.mpr c18
                    clear c18
                    have H' := Aside0.mk H
                    clear H
                    obtain ⟨Ao19, co19, eo19⟩ := Kd.R_slice HO_5.out
                    subst eo19
                    have p163 : 0 ≤ (x7_1 : Int) := of_decide_eq_true (by first | (with_reducible assumption) | assumption)
                    have q163 : x7_1 < (t157.length : Int) := of_decide_eq_true (by first | (with_reducible assumption) | assumption)
                    obtain ⟨ad163, e163, hx163_0⟩ := Kd.at_string (Kd.R_reads' HO_5.out).2.2 x7_1 p163 q163
                    cases e163
                    replace p163 := eq_true p163
                    replace q163 := eq_true q163
                    obtain ⟨Ao20, co20, eo20⟩ := Kd.R_slice HO_6.out
                    subst eo20
                    have p164 : 0 ≤ (x7_1 : Int) := of_decide_eq_true (by first | (with_reducible assumption) | assumption)
                    have q164 : x7_1 < (t157.length : Int) := of_decide_eq_true (by first | (with_reducible assumption) | assumption)
                    obtain ⟨ad164, e164, hx164_0⟩ := Kd.at_string (Kd.R_reads' HO_5.out).2.2 x7_1 p164 q164
                    obtain rfl : ad163 = ad164 := (by injection e164)
                    replace p164 := eq_true p164
                    replace q164 := eq_true q164
                    have p165 : 0 ≤ (x7_1 : Int) := of_decide_eq_true (by first | (with_reducible assumption) | assumption)
                    have q165 : x7_1 < (t157.length : Int) := of_decide_eq_true (by first | (with_reducible assumption) | assumption)
                    obtain ⟨ad165, e165, hx165_0⟩ := Kd.at_string (Kd.R_reads' HO_5.out).2.2 x7_1 p165 q165
                    obtain rfl : ad163 = ad165 := (by injection e165)
                    replace p165 := eq_true p165
                    replace q165 := eq_true q165
                    have p166 : 0 ≤ (x7_1 : Int) := of_decide_eq_true (by first | (with_reducible assumption) | assumption)
                    have q166 : x7_1 < (t160.length : Int) := of_decide_eq_true (by first | (with_reducible assumption) | assumption)
                    obtain ⟨ad166, e166, hx166_0⟩ := Kd.at_string (Kd.R_reads' HO_6.out).2.2 x7_1 p166 q166
                    cases e166
                    replace p166 := eq_true p166
                    replace q166 := eq_true q166
                    go_wp2
                    repeat (go_quiet (fail); try go_wp2)
                    go_roundg k1
                    case measure => have := HK1.out; omega
                    case rel => exact ⟨(wrap64 (x7_1 + 1)), (by first | rfl | (simp; done) | (simp [*]; done)), H', ⟨by have := HK1.out; omega⟩, ⟨by (with_reducible repeat (first | apply Kd.R_alloc | apply Kd.R_drewN | apply Kd.R_drew)); exact HO_5.out⟩, ⟨by (with_reducible repeat (first | apply Kd.R_alloc | apply Kd.R_drewN | apply Kd.R_drew)); exact HO_6.out⟩, ⟨by repeat (first | (with_reducible first | exact HB.out | apply below_alloc | apply pw_below_drewN | apply below_drew1) | exact HB.out)⟩⟩
                  · rw [if_neg c18] at H
                    have c18b0 : ((rdOf ByteArray.empty t157 x7_1).toList == (rdOf ByteArray.empty t160 x7_1).toList) = false := beq_eq_false_iff_ne.mpr c18
                    have c18b1 : ((rdOf ByteArray.empty t157 x7_1).toList != (rdOf ByteArray.empty t160 x7_1).toList) = true := bne_iff_ne.mpr c18
                    obtain rfl := Option.some.inj H
                    obtain ⟨Ao21, co21, eo21⟩ := Kd.R_slice HO_5.out
                    subst eo21
                    have p163 : 0 ≤ (x7_1 : Int) := of_decide_eq_true (by first | (with_reducible assumption) | assumption)
                    have q163 : x7_1 < (t157.length : Int) := of_decide_eq_true (by first | (with_reducible assumption) | assumption)
                    obtain ⟨ad163, e163, hx163_0⟩ := Kd.at_string (Kd.R_reads' HO_5.out).2.2 x7_1 p163 q163
                    cases e163
                    replace p163 := eq_true p163
                    replace q163 := eq_true q163
                    obtain ⟨Ao22, co22, eo22⟩ := Kd.R_slice HO_6.out
                    subst eo22
                    have p164 : 0 ≤ (x7_1 : Int) := of_decide_eq_true (by first | (with_reducible assumption) | assumption)
                    have q164 : x7_1 < (t157.length : Int) := of_decide_eq_true (by first | (with_reducible assumption) | assumption)
                    obtain ⟨ad164, e164, hx164_0⟩ := Kd.at_string (Kd.R_reads' HO_5.out).2.2 x7_1 p164 q164
                    obtain rfl : ad163 = ad164 := (by injection e164)
                    replace p164 := eq_true p164
                    replace q164 := eq_true q164
                    have p165 : 0 ≤ (x7_1 : Int) := of_decide_eq_true (by first | (with_reducible assumption) | assumption)
                    have q165 : x7_1 < (t157.length : Int) := of_decide_eq_true (by first | (with_reducible assumption) | assumption)
                    obtain ⟨ad165, e165, hx165_0⟩ := Kd.at_string (Kd.R_reads' HO_5.out).2.2 x7_1 p165 q165
                    obtain rfl : ad163 = ad165 := (by injection e165)
                    replace p165 := eq_true p165
                    replace q165 := eq_true q165
                    have p166 : 0 ≤ (x7_1 : Int) := of_decide_eq_true (by first | (with_reducible assumption) | assumption)
                    have q166 : x7_1 < (t160.length : Int) := of_decide_eq_true (by first | (with_reducible assumption) | assumption)
                    obtain ⟨ad166, e166, hx166_0⟩ := Kd.at_string (Kd.R_reads' HO_6.out).2.2 x7_1 p166 q166
                    cases e166
                    replace p166 := eq_true p166
                    replace q166 := eq_true q166
                    go_wp2
                    repeat (go_quiet (fail); try go_wp2)
                    go_ret
                    exact ⟨by first | rfl | (simp [errW_none, errW_some] <;> rfl) | (simp [*, errW_none, errW_some] <;> rfl), by repeat (first | (with_reducible first | exact HB.out | apply below_alloc | apply pw_below_drewN | apply below_drew1) | exact HB.out)⟩
                · rw [if_neg c17] at H
                  exact absurd H (by simp)
        · rw [if_neg c8] at H
          exact absurd H (by simp)
      · rw [if_neg c7] at H
        have c7b0 : decide (x7_1 < (t157.length : Int)) = false := decide_eq_false c7
        clear c7
        obtain rfl := Option.some.inj H
        obtain ⟨Ao23, co23, eo23⟩ := Kd.R_slice HO_5.out
        subst eo23
        obtain ⟨Ao24, co24, eo24⟩ := Kd.R_slice HO_6.out
        subst eo24
        go_wp2
        repeat (go_quiet (fail); try go_wp2)
        go_ret
        exact ⟨by first | rfl | (simp [errW_none, errW_some] <;> rfl) | (simp [*, errW_none, errW_some] <;> rfl), by repeat (first | (with_reducible first | exact HB.out | apply below_alloc | apply pw_below_drewN | apply below_drew1) | exact HB.out)⟩


end Go.Proofs.YtgbdjinanflhaaaDoor.GFnTopicMeans
