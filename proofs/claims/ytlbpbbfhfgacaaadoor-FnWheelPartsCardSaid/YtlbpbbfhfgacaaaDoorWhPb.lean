/- A walk of Go functions (plain functions of theirs, and that the machine's calls do what these say), written by a program of this session's. -/
import Derived.Test.YtlbpbbfhfgacaaaDoorGFnWheelPartsx0
namespace Go.Proofs.YtlbpbbfhfgacaaaDoor.GFnWheelParts
open Go.RowKit Go.Proofs.YtlbpbbfhfgacaaaDoorW.PrintWords Go.Proofs.YtlbpbbfhfgacaaaDoorW.PrintLast Go.Proofs.YtlbpbbfhfgacaaaDoorW.PrintMore
attribute [local go_sem] max2_int min2_int max_two min_two max_three min_three max_four min_four   -- for this text's walks alone
set_option linter.unusedVariables false
set_option linter.unusedSimpArgs false


/-! ### laws_stays: function 9 -/
def laws_stays.l0 : Nat → List (S30) → Int → Option (Bool)
  | 0, _, _ => none
  | k + 1, x0, x3 => if x3 < (x0.length : Int) then (if 0 ≤ x3 then (if ((rd_T30 x0 x3).f0) = 1 then (some false) else (if ((rd_T30 x0 x3).f0) = 2 then (some false) else (laws_stays.l0 k x0 (wrap64 (x3 + 1))))) else (none)) else (some true)
def laws_stays.f (k : Nat) (l0 : List (S30)) : Option (Bool) := laws_stays.l0 k l0 0
theorem laws_stays.mono_l : ∀ k, (∀ y0 y1, LeO (laws_stays.l0 k y0 y1) (laws_stays.l0 (k + 1) y0 y1))
  | 0 => fun _ _ r h => by simp [laws_stays.l0] at h
  | k + 1 => by
    have ih0 := laws_stays.mono_l k
    · intro y0 y1
      unfold laws_stays.l0
      repeat' first
      | (with_reducible exact ih0 _ _)
      | (with_reducible exact LeO.refl _)
      | (with_reducible exact LeO.none _)
      | (with_reducible refine LeO.ite ?_ ?_)
      | (with_reducible refine LeO.bind ?_ (fun _ => ?_))
      | exact ih0 _ _
      | exact LeO.none _
      | refine LeO.ite ?_ ?_
      | refine LeO.bind ?_ (fun _ => ?_)
theorem laws_stays.mono : ∀ a0 k, LeO (laws_stays.f k a0) (laws_stays.f (k + 1) a0) := by
  intro a0 k
  have ih0 := laws_stays.mono_l k
  unfold laws_stays.f
  repeat' first
      | (with_reducible exact ih0 _ _)
      | (with_reducible exact LeO.refl _)
      | (with_reducible exact LeO.none _)
      | (with_reducible refine LeO.ite ?_ ?_)
      | (with_reducible refine LeO.bind ?_ (fun _ => ?_))
      | exact ih0 _ _
      | exact LeO.none _
      | refine LeO.ite ?_ ?_
      | refine LeO.bind ?_ (fun _ => ?_)
set_option maxHeartbeats 8000000 in
set_option maxRecDepth 100000 in
theorem laws_stays.calls (k : Nat) (A0 : Option Addr) (c0 : Nat) (l0 : List (S30)) (r : Bool) (w : World) (hr0 : Kd.C k30 w A0 l0.length l0) (hc0 : l0.length ≤ c0) (h : laws_stays.f k l0 = some r) :
    Calls Tryd.prog 9 #[.slice A0 l0.length c0] w fun e w' => e = .returned (.bool r) ∧ Drawn0 w w' := by
  have HR0 := Aside0.mk hr0
  have HC0 := Aside0.mk hc0
  clear hr0 hc0
  have H : (laws_stays.l0 k l0 0) = some r := h
  clear h
  have H' := Aside0.mk H
  clear H
  go_enter Tryd.func9, Tryd.ntmps9
  go_wp2
  go_loopg [3] k (fun kq v3 w' => ∃ (x3_1 : Int), v3 = .int .i64 x3_1 ∧ Aside0 (laws_stays.l0 kq l0 x3_1 = some r) ∧ Aside0 (kq ≤ k) ∧ Drawn0 w w')
  case atStart => exact ⟨(0), (by first | rfl | (simp; done) | (simp [*]; done)), H', ⟨Nat.le_refl _⟩, by repeat (first | exact Drawn0.refl _ | apply Drawn0.step)⟩
  case round =>
    clear H'
    obtain ⟨x3_1, rfl, HA, HK1, ⟨m1, rfl⟩⟩ := hrel
    cases gk with
    | zero => exact absurd HA.out (by simp [laws_stays.l0])
    | succ k1 =>
      have H := HA.out
      clear HA
      simp only [laws_stays.l0] at H
      by_cases c2 : x3_1 < (l0.length : Int)
      · rw [if_pos c2] at H
        have c2b0 : decide (x3_1 < (l0.length : Int)) = true := decide_eq_true c2
        clear c2
        by_cases c3 : 0 ≤ x3_1
        · rw [if_pos c3] at H
          have c3b0 : decide (0 ≤ x3_1) = true := decide_eq_true c3
          clear c3
          by_cases c4 : ((rd_T30 l0 x3_1).f0) = 1
          · rw [if_pos c4] at H
            have c4b0 : (((rd_T30 l0 x3_1).f0) == 1) = true := beq_iff_eq.mpr c4
            have c4b1 : (((rd_T30 l0 x3_1).f0) != 1) = false := bne_eq_false_iff_eq.mpr c4
            clear c4
            obtain rfl := Option.some.inj H
            have p258 : 0 ≤ (x3_1 : Int) := of_decide_eq_true (by first | (with_reducible assumption) | assumption)
            have q258 : x3_1 < (l0.length : Int) := of_decide_eq_true (by first | (with_reducible assumption) | assumption)
            obtain ⟨ad258, e258, hx258_0, hx258_1, hx258_2, hx258_3, hx258_4⟩ := at_T30 HR0.out x3_1 p258 q258
            cases e258
            replace p258 := eq_true p258
            replace q258 := eq_true q258
            go_wp2
            go_ret
            exact ⟨by first | rfl | (simp; done) | (simp [*]; done), by repeat (first | exact Drawn0.refl _ | apply Drawn0.step)⟩
          · rw [if_neg c4] at H
            have c4b0 : (((rd_T30 l0 x3_1).f0) == 1) = false := beq_eq_false_iff_ne.mpr c4
            have c4b1 : (((rd_T30 l0 x3_1).f0) != 1) = true := bne_iff_ne.mpr c4
            by_cases c5 : ((rd_T30 l0 x3_1).f0) = 2
            · rw [if_pos c5] at H
              have c5b0 : (((rd_T30 l0 x3_1).f0) == 2) = true := beq_iff_eq.mpr c5
              have c5b1 : (((rd_T30 l0 x3_1).f0) != 2) = false := bne_eq_false_iff_eq.mpr c5
              clear c5
              obtain rfl := Option.some.inj H
              have p258 : 0 ≤ (x3_1 : Int) := of_decide_eq_true (by first | (with_reducible assumption) | assumption)
              have q258 : x3_1 < (l0.length : Int) := of_decide_eq_true (by first | (with_reducible assumption) | assumption)
              obtain ⟨ad258, e258, hx258_0, hx258_1, hx258_2, hx258_3, hx258_4⟩ := at_T30 HR0.out x3_1 p258 q258
              cases e258
              replace p258 := eq_true p258
              replace q258 := eq_true q258
              have p259 : 0 ≤ (x3_1 : Int) := of_decide_eq_true (by first | (with_reducible assumption) | assumption)
              have q259 : x3_1 < (l0.length : Int) := of_decide_eq_true (by first | (with_reducible assumption) | assumption)
              obtain ⟨ad259, e259, hx259_0, hx259_1, hx259_2, hx259_3, hx259_4⟩ := at_T30 HR0.out x3_1 p259 q259
              obtain rfl : ad258 = ad259 := (by injection e259)
              replace p259 := eq_true p259
              replace q259 := eq_true q259
              go_wp2
              go_ret
              exact ⟨by first | rfl | (simp; done) | (simp [*]; done), by repeat (first | exact Drawn0.refl _ | apply Drawn0.step)⟩
            · rw [if_neg c5] at H
              have c5b0 : (((rd_T30 l0 x3_1).f0) == 2) = false := beq_eq_false_iff_ne.mpr c5
              have c5b1 : (((rd_T30 l0 x3_1).f0) != 2) = true := bne_iff_ne.mpr c5
              have H' := Aside0.mk H
              clear H
              have p258 : 0 ≤ (x3_1 : Int) := of_decide_eq_true (by first | (with_reducible assumption) | assumption)
              have q258 : x3_1 < (l0.length : Int) := of_decide_eq_true (by first | (with_reducible assumption) | assumption)
              obtain ⟨ad258, e258, hx258_0, hx258_1, hx258_2, hx258_3, hx258_4⟩ := at_T30 HR0.out x3_1 p258 q258
              cases e258
              replace p258 := eq_true p258
              replace q258 := eq_true q258
              have p259 : 0 ≤ (x3_1 : Int) := of_decide_eq_true (by first | (with_reducible assumption) | assumption)
              have q259 : x3_1 < (l0.length : Int) := of_decide_eq_true (by first | (with_reducible assumption) | assumption)
              obtain ⟨ad259, e259, hx259_0, hx259_1, hx259_2, hx259_3, hx259_4⟩ := at_T30 HR0.out x3_1 p259 q259
              obtain rfl : ad258 = ad259 := (by injection e259)
              replace p259 := eq_true p259
              replace q259 := eq_true q259
              go_wp2
              go_roundg k1
              case measure => have := HK1.out; omega
              case rel => exact ⟨(wrap64 (x3_1 + 1)), (by first | rfl | (simp; done) | (simp [*]; done)), H', ⟨by have := HK1.out; omega⟩, by repeat (first | exact Drawn0.refl _ | apply Drawn0.step)⟩
        · rw [if_neg c3] at H
          exact absurd H (by simp)
      · rw [if_neg c2] at H
        have c2b0 : decide (x3_1 < (l0.length : Int)) = false := decide_eq_false c2
        clear c2
        obtain rfl := Option.some.inj H
        go_wp2
        go_ret
        exact ⟨by first | rfl | (simp; done) | (simp [*]; done), by repeat (first | exact Drawn0.refl _ | apply Drawn0.step)⟩


/-! ### spec_Next: function 12 -/
def spec_Next.l0 : Nat → List (S42) → Int → Int → Int → Option (Int)
  | 0, _, _, _, _ => none
  | k + 1, x0, x1, x5, x6 => if x6 < (x0.length : Int) then (if 0 ≤ x6 then (if ((rd_T42 x0 x6).f1) < x1 then (if ((rd_T42 x0 x6).f1) < x5 then (spec_Next.l0 k x0 x1 ((rd_T42 x0 x6).f1) (wrap64 (x6 + 1))) else (spec_Next.l0 k x0 x1 x5 (wrap64 (x6 + 1)))) else (spec_Next.l0 k x0 x1 x5 (wrap64 (x6 + 1)))) else (none)) else (some x5)
def spec_Next.f (k : Nat) (l0 : List (S42)) (a1 : Int) : Option (Int) := spec_Next.l0 k l0 a1 9223372036854775807 0
theorem spec_Next.mono_l : ∀ k, (∀ y0 y1 y2 y3, LeO (spec_Next.l0 k y0 y1 y2 y3) (spec_Next.l0 (k + 1) y0 y1 y2 y3))
  | 0 => fun _ _ _ _ r h => by simp [spec_Next.l0] at h
  | k + 1 => by
    have ih0 := spec_Next.mono_l k
    · intro y0 y1 y2 y3
      unfold spec_Next.l0
      repeat' first
      | (with_reducible exact ih0 _ _ _ _)
      | (with_reducible exact LeO.refl _)
      | (with_reducible exact LeO.none _)
      | (with_reducible refine LeO.ite ?_ ?_)
      | (with_reducible refine LeO.bind ?_ (fun _ => ?_))
      | exact ih0 _ _ _ _
      | exact LeO.none _
      | refine LeO.ite ?_ ?_
      | refine LeO.bind ?_ (fun _ => ?_)
theorem spec_Next.mono : ∀ a0 a1 k, LeO (spec_Next.f k a0 a1) (spec_Next.f (k + 1) a0 a1) := by
  intro a0 a1 k
  have ih0 := spec_Next.mono_l k
  unfold spec_Next.f
  repeat' first
      | (with_reducible exact ih0 _ _ _ _)
      | (with_reducible exact LeO.refl _)
      | (with_reducible exact LeO.none _)
      | (with_reducible refine LeO.ite ?_ ?_)
      | (with_reducible refine LeO.bind ?_ (fun _ => ?_))
      | exact ih0 _ _ _ _
      | exact LeO.none _
      | refine LeO.ite ?_ ?_
      | refine LeO.bind ?_ (fun _ => ?_)
set_option maxHeartbeats 8000000 in
set_option maxRecDepth 100000 in
theorem spec_Next.calls (k : Nat) (A0 : Option Addr) (c0 : Nat) (l0 : List (S42)) (a1 : Int) (r : Int) (w : World) (hr0 : Kd.C k42 w A0 l0.length l0) (hc0 : l0.length ≤ c0) (h : spec_Next.f k l0 a1 = some r) :
    Calls Tryd.prog 12 #[.slice A0 l0.length c0, .int .i64 a1] w fun e w' => e = .returned (.int .i64 r) ∧ Drawn0 w w' := by
  have HR0 := Aside0.mk hr0
  have HC0 := Aside0.mk hc0
  clear hr0 hc0
  have H : (spec_Next.l0 k l0 a1 9223372036854775807 0) = some r := h
  clear h
  have H' := Aside0.mk H
  clear H
  go_enter Tryd.func12, Tryd.ntmps12
  go_wp2
  go_loopg [5, 6] k (fun kq v5 v6 w' => ∃ (x5_1 : Int) (x6_1 : Int), v5 = .int .i64 x5_1 ∧ v6 = .int .i64 x6_1 ∧ Aside0 (spec_Next.l0 kq l0 a1 x5_1 x6_1 = some r) ∧ Aside0 (kq ≤ k) ∧ Drawn0 w w')
  case atStart => exact ⟨(9223372036854775807), (0), (by first | rfl | (simp; done) | (simp [*]; done)), (by first | rfl | (simp; done) | (simp [*]; done)), H', ⟨Nat.le_refl _⟩, by repeat (first | exact Drawn0.refl _ | apply Drawn0.step)⟩
  case round =>
    clear H'
    try clear c1
    try clear p2
    obtain ⟨x5_1, x6_1, rfl, rfl, HA, HK1, ⟨m1, rfl⟩⟩ := hrel
    cases gk with
    | zero => exact absurd HA.out (by simp [spec_Next.l0])
    | succ k1 =>
      have H := HA.out
      clear HA
      simp only [spec_Next.l0] at H
      by_cases c3 : x6_1 < (l0.length : Int)
      · rw [if_pos c3] at H
        have c3b0 : decide (x6_1 < (l0.length : Int)) = true := decide_eq_true c3
        clear c3
        by_cases c4 : 0 ≤ x6_1
        · rw [if_pos c4] at H
          have c4b0 : decide (0 ≤ x6_1) = true := decide_eq_true c4
          clear c4
          by_cases c5 : ((rd_T42 l0 x6_1).f1) < a1
          · rw [if_pos c5] at H
            have c5b0 : decide (((rd_T42 l0 x6_1).f1) < a1) = true := decide_eq_true c5
            clear c5
            by_cases c6 : ((rd_T42 l0 x6_1).f1) < x5_1
            · rw [if_pos c6] at H
              have c6b0 : decide (((rd_T42 l0 x6_1).f1) < x5_1) = true := decide_eq_true c6
              clear c6
              have H' := Aside0.mk H
              clear H
              have p260 : 0 ≤ (x6_1 : Int) := of_decide_eq_true (by first | (with_reducible assumption) | assumption)
              have q260 : x6_1 < (l0.length : Int) := of_decide_eq_true (by first | (with_reducible assumption) | assumption)
              obtain ⟨ad260, e260, hx260_0, hx260_1⟩ := at_T42 HR0.out x6_1 p260 q260
              cases e260
              replace p260 := eq_true p260
              replace q260 := eq_true q260
              have p261 : 0 ≤ (x6_1 : Int) := of_decide_eq_true (by first | (with_reducible assumption) | assumption)
              have q261 : x6_1 < (l0.length : Int) := of_decide_eq_true (by first | (with_reducible assumption) | assumption)
              obtain ⟨ad261, e261, hx261_0, hx261_1⟩ := at_T42 HR0.out x6_1 p261 q261
              obtain rfl : ad260 = ad261 := (by injection e261)
              replace p261 := eq_true p261
              replace q261 := eq_true q261
              have p262 : 0 ≤ (x6_1 : Int) := of_decide_eq_true (by first | (with_reducible assumption) | assumption)
              have q262 : x6_1 < (l0.length : Int) := of_decide_eq_true (by first | (with_reducible assumption) | assumption)
              obtain ⟨ad262, e262, hx262_0, hx262_1⟩ := at_T42 HR0.out x6_1 p262 q262
              obtain rfl : ad260 = ad262 := (by injection e262)
              replace p262 := eq_true p262
              replace q262 := eq_true q262
              go_wp2
              go_roundg k1
              case measure => have := HK1.out; omega
              case rel => exact ⟨((rd_T42 l0 x6_1).f1), (wrap64 (x6_1 + 1)), (by first | rfl | (simp; done) | (simp [*]; done)), (by first | rfl | (simp; done) | (simp [*]; done)), H', ⟨by have := HK1.out; omega⟩, by repeat (first | exact Drawn0.refl _ | apply Drawn0.step)⟩
            · rw [if_neg c6] at H
              have c6b0 : decide (((rd_T42 l0 x6_1).f1) < x5_1) = false := decide_eq_false c6
              clear c6
              have H' := Aside0.mk H
              clear H
              have p260 : 0 ≤ (x6_1 : Int) := of_decide_eq_true (by first | (with_reducible assumption) | assumption)
              have q260 : x6_1 < (l0.length : Int) := of_decide_eq_true (by first | (with_reducible assumption) | assumption)
              obtain ⟨ad260, e260, hx260_0, hx260_1⟩ := at_T42 HR0.out x6_1 p260 q260
              cases e260
              replace p260 := eq_true p260
              replace q260 := eq_true q260
              have p261 : 0 ≤ (x6_1 : Int) := of_decide_eq_true (by first | (with_reducible assumption) | assumption)
              have q261 : x6_1 < (l0.length : Int) := of_decide_eq_true (by first | (with_reducible assumption) | assumption)
              obtain ⟨ad261, e261, hx261_0, hx261_1⟩ := at_T42 HR0.out x6_1 p261 q261
              obtain rfl : ad260 = ad261 := (by injection e261)
              replace p261 := eq_true p261
              replace q261 := eq_true q261
              go_wp2
              go_roundg k1
              case measure => have := HK1.out; omega
              case rel => exact ⟨(x5_1), (wrap64 (x6_1 + 1)), (by first | rfl | (simp; done) | (simp [*]; done)), (by first | rfl | (simp; done) | (simp [*]; done)), H', ⟨by have := HK1.out; omega⟩, by repeat (first | exact Drawn0.refl _ | apply Drawn0.step)⟩
          · rw [if_neg c5] at H
            have c5b0 : decide (((rd_T42 l0 x6_1).f1) < a1) = false := decide_eq_false c5
            clear c5
            have H' := Aside0.mk H
            clear H
            have p260 : 0 ≤ (x6_1 : Int) := of_decide_eq_true (by first | (with_reducible assumption) | assumption)
            have q260 : x6_1 < (l0.length : Int) := of_decide_eq_true (by first | (with_reducible assumption) | assumption)
            obtain ⟨ad260, e260, hx260_0, hx260_1⟩ := at_T42 HR0.out x6_1 p260 q260
            cases e260
            replace p260 := eq_true p260
            replace q260 := eq_true q260
            go_wp2
            go_roundg k1
            case measure => have := HK1.out; omega
            case rel => exact ⟨(x5_1), (wrap64 (x6_1 + 1)), (by first | rfl | (simp; done) | (simp [*]; done)), (by first | rfl | (simp; done) | (simp [*]; done)), H', ⟨by have := HK1.out; omega⟩, by repeat (first | exact Drawn0.refl _ | apply Drawn0.step)⟩
        · rw [if_neg c4] at H
          exact absurd H (by simp)
      · rw [if_neg c3] at H
        have c3b0 : decide (x6_1 < (l0.length : Int)) = false := decide_eq_false c3
        clear c3
        obtain rfl := Option.some.inj H
        go_wp2
        go_ret
        exact ⟨by first | rfl | (simp; done) | (simp [*]; done), by repeat (first | exact Drawn0.refl _ | apply Drawn0.step)⟩


end Go.Proofs.YtlbpbbfhfgacaaaDoor.GFnWheelParts
