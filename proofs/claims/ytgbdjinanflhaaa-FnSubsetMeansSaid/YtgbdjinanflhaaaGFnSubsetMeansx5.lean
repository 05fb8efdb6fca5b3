/- A walk of Go functions (plain functions of theirs, and that the machine's calls do what these say), written by a program of this session's. -/
import Derived.Test.YtgbdjinanflhaaaGFnSubsetMeansx0
namespace Go.Proofs.Ytgbdjinanflhaaa.GFnSubsetMeans
open Go.RowKit Go.Proofs.YtgbdjinanflhaaaW.PrintWords Go.Proofs.YtgbdjinanflhaaaW.PrintLast Go.Proofs.YtgbdjinanflhaaaW.PrintMore
attribute [local go_sem] max2_int min2_int max_two min_two max_three min_three max_four min_four   -- for this text's walks alone
set_option linter.unusedVariables false
set_option linter.unusedSimpArgs false

/-! ### server_matchLiteral: function 37 -/
mutual
def server_matchLiteral.l0 : Nat → ByteArray → ByteArray → Int → Int → Int → Int → Option (Bool)
  | 0, _, _, _, _, _, _ => none
  | k + 1, x0, x1, x5, x6, x7, x8 => if x8 < x7 then (if x5 ≥ x6 then (some false) else (if 0 ≤ x8 then (if x8 < (x1.size : Int) then (if (bt x1 x8) = 42 then (if x8 = 0 then (server_matchLiteral.j1 k x0 x1 x5 x6 x7 x8 true) else (if 0 ≤ (wrap64 (x8 - 1)) then (if (wrap64 (x8 - 1)) < (x1.size : Int) then (server_matchLiteral.j1 k x0 x1 x5 x6 x7 x8 ((bt x1 (wrap64 (x8 - 1))) == 46)) else (none)) else (none))) else (if (bt x1 x8) = 62 then (if x8 = 0 then (server_matchLiteral.j4 k x0 x1 x5 x6 x7 x8 (x8 == (wrap64 (x7 - 1)))) else (if 0 ≤ (wrap64 (x8 - 1)) then (if (wrap64 (x8 - 1)) < (x1.size : Int) then (if (bt x1 (wrap64 (x8 - 1))) = 46 then (server_matchLiteral.j4 k x0 x1 x5 x6 x7 x8 (x8 == (wrap64 (x7 - 1)))) else (server_matchLiteral.j4 k x0 x1 x5 x6 x7 x8 false)) else (none)) else (none))) else (if 0 ≤ x5 then (if x5 < (x0.size : Int) then (if (bt x1 x8) = (bt x0 x5) then (server_matchLiteral.l0 k x0 x1 (wrap64 (x5 + 1)) x6 x7 (wrap64 (x8 + 1))) else (some false)) else (none)) else (none)))) else (none)) else (none))) else (some (decide (x5 ≥ x6)))
def server_matchLiteral.j1 : Nat → ByteArray → ByteArray → Int → Int → Int → Int → Bool → Option (Bool)
  | 0, _, _, _, _, _, _, _ => none
  | k + 1, x0, x1, x5, x6, x7, x8, x34 => if x34 = true then (if x8 = (wrap64 (x7 - 1)) then (server_matchLiteral.l1 k x0 x5 x6) else (if 0 ≤ (wrap64 (x8 + 1)) then (if (wrap64 (x8 + 1)) < (x1.size : Int) then (if (bt x1 (wrap64 (x8 + 1))) = 46 then (server_matchLiteral.l2 k x0 x1 x5 x6 x7 x8) else (if 0 ≤ x8 then (if x8 < (x1.size : Int) then (if 0 ≤ x5 then (if x5 < (x0.size : Int) then (if (bt x1 x8) = (bt x0 x5) then (server_matchLiteral.l0 k x0 x1 (wrap64 (x5 + 1)) x6 x7 (wrap64 (x8 + 1))) else (some false)) else (none)) else (none)) else (none)) else (none))) else (none)) else (none))) else (if 0 ≤ x8 then (if x8 < (x1.size : Int) then (if 0 ≤ x5 then (if x5 < (x0.size : Int) then (if (bt x1 x8) = (bt x0 x5) then (server_matchLiteral.l0 k x0 x1 (wrap64 (x5 + 1)) x6 x7 (wrap64 (x8 + 1))) else (some false)) else (none)) else (none)) else (none)) else (none))
def server_matchLiteral.l1 : Nat → ByteArray → Int → Int → Option (Bool)
  | 0, _, _, _ => none
  | k + 1, x0, x5, x6 => if x5 ≥ x6 then (some true) else (if 0 ≤ x5 then (if x5 < (x0.size : Int) then (if (bt x0 x5) = 46 then (some false) else (server_matchLiteral.l1 k x0 (wrap64 (x5 + 1)) x6)) else (none)) else (none))
def server_matchLiteral.l2 : Nat → ByteArray → ByteArray → Int → Int → Int → Int → Option (Bool)
  | 0, _, _, _, _, _, _ => none
  | k + 1, x0, x1, x5, x6, x7, x8 => if x5 ≥ x6 then (some false) else (if 0 ≤ x5 then (if x5 < (x0.size : Int) then (if (bt x0 x5) = 46 then (if 0 ≤ (wrap64 (x8 + 1)) then (if (wrap64 (x8 + 1)) < (x1.size : Int) then (if (bt x1 (wrap64 (x8 + 1))) = (bt x0 x5) then (server_matchLiteral.l0 k x0 x1 (wrap64 (x5 + 1)) x6 x7 (wrap64 ((wrap64 (x8 + 1)) + 1))) else (some false)) else (none)) else (none)) else (server_matchLiteral.l2 k x0 x1 (wrap64 (x5 + 1)) x6 x7 x8)) else (none)) else (none))
def server_matchLiteral.j4 : Nat → ByteArray → ByteArray → Int → Int → Int → Int → Bool → Option (Bool)
  | 0, _, _, _, _, _, _, _ => none
  | k + 1, x0, x1, x5, x6, x7, x8, x80 => if x80 = true then (some true) else (if 0 ≤ x8 then (if x8 < (x1.size : Int) then (if 0 ≤ x5 then (if x5 < (x0.size : Int) then (if (bt x1 x8) = (bt x0 x5) then (server_matchLiteral.l0 k x0 x1 (wrap64 (x5 + 1)) x6 x7 (wrap64 (x8 + 1))) else (some false)) else (none)) else (none)) else (none)) else (none))
end
def server_matchLiteral.f (k : Nat) (a0 : ByteArray) (a1 : ByteArray) : Option (Bool) := server_matchLiteral.l0 k a0 a1 0 (a0.size : Int) (a1.size : Int) 0
theorem server_matchLiteral.mono_l : ∀ k, (∀ y0 y1 y2 y3 y4 y5, LeO (server_matchLiteral.l0 k y0 y1 y2 y3 y4 y5) (server_matchLiteral.l0 (k + 1) y0 y1 y2 y3 y4 y5)) ∧ (∀ y0 y1 y2 y3 y4 y5 y6, LeO (server_matchLiteral.j1 k y0 y1 y2 y3 y4 y5 y6) (server_matchLiteral.j1 (k + 1) y0 y1 y2 y3 y4 y5 y6)) ∧ (∀ y0 y1 y2, LeO (server_matchLiteral.l1 k y0 y1 y2) (server_matchLiteral.l1 (k + 1) y0 y1 y2)) ∧ (∀ y0 y1 y2 y3 y4 y5, LeO (server_matchLiteral.l2 k y0 y1 y2 y3 y4 y5) (server_matchLiteral.l2 (k + 1) y0 y1 y2 y3 y4 y5)) ∧ (∀ y0 y1 y2 y3 y4 y5 y6, LeO (server_matchLiteral.j4 k y0 y1 y2 y3 y4 y5 y6) (server_matchLiteral.j4 (k + 1) y0 y1 y2 y3 y4 y5 y6))
  | 0 => ⟨fun _ _ _ _ _ _ r h => by simp [server_matchLiteral.l0] at h, fun _ _ _ _ _ _ _ r h => by simp [server_matchLiteral.j1] at h, fun _ _ _ r h => by simp [server_matchLiteral.l1] at h, fun _ _ _ _ _ _ r h => by simp [server_matchLiteral.l2] at h, fun _ _ _ _ _ _ _ r h => by simp [server_matchLiteral.j4] at h⟩
  | k + 1 => by
    obtain ⟨ih0, ih1, ih2, ih3, ih4⟩ := server_matchLiteral.mono_l k
    refine ⟨?_, ?_, ?_, ?_, ?_⟩
    · intro y0 y1 y2 y3 y4 y5
      unfold server_matchLiteral.l0
      repeat' first
      | (with_reducible exact ih0 _ _ _ _ _ _)
      | (with_reducible exact ih1 _ _ _ _ _ _ _)
      | (with_reducible exact ih2 _ _ _)
      | (with_reducible exact ih3 _ _ _ _ _ _)
      | (with_reducible exact ih4 _ _ _ _ _ _ _)
      | (with_reducible exact LeO.refl _)
      | (with_reducible exact LeO.none _)
      | (with_reducible refine LeO.ite ?_ ?_)
      | (with_reducible refine LeO.bind ?_ (fun _ => ?_))
      | exact ih0 _ _ _ _ _ _
      | exact ih1 _ _ _ _ _ _ _
      | exact ih2 _ _ _
      | exact ih3 _ _ _ _ _ _
      | exact ih4 _ _ _ _ _ _ _
      | exact LeO.none _
      | refine LeO.ite ?_ ?_
      | refine LeO.bind ?_ (fun _ => ?_)
    · intro y0 y1 y2 y3 y4 y5 y6
      unfold server_matchLiteral.j1
      repeat' first
      | (with_reducible exact ih0 _ _ _ _ _ _)
      | (with_reducible exact ih1 _ _ _ _ _ _ _)
      | (with_reducible exact ih2 _ _ _)
      | (with_reducible exact ih3 _ _ _ _ _ _)
      | (with_reducible exact ih4 _ _ _ _ _ _ _)
      | (with_reducible exact LeO.refl _)
      | (with_reducible exact LeO.none _)
      | (with_reducible refine LeO.ite ?_ ?_)
      | (with_reducible refine LeO.bind ?_ (fun _ => ?_))
      | exact ih0 _ _ _ _ _ _
      | exact ih1 _ _ _ _ _ _ _
      | exact ih2 _ _ _
      | exact ih3 _ _ _ _ _ _
      | exact ih4 _ _ _ _ _ _ _
      | exact LeO.none _
      | refine LeO.ite ?_ ?_
      | refine LeO.bind ?_ (fun _ => ?_)
    · intro y0 y1 y2
      unfold server_matchLiteral.l1
      repeat' first
      | (with_reducible exact ih0 _ _ _ _ _ _)
      | (with_reducible exact ih1 _ _ _ _ _ _ _)
      | (with_reducible exact ih2 _ _ _)
      | (with_reducible exact ih3 _ _ _ _ _ _)
      | (with_reducible exact ih4 _ _ _ _ _ _ _)
      | (with_reducible exact LeO.refl _)
      | (with_reducible exact LeO.none _)
      | (with_reducible refine LeO.ite ?_ ?_)
      | (with_reducible refine LeO.bind ?_ (fun _ => ?_))
      | exact ih0 _ _ _ _ _ _
      | exact ih1 _ _ _ _ _ _ _
      | exact ih2 _ _ _
      | exact ih3 _ _ _ _ _ _
      | exact ih4 _ _ _ _ _ _ _
      | exact LeO.none _
      | refine LeO.ite ?_ ?_
      | refine LeO.bind ?_ (fun _ => ?_)
    · intro y0 y1 y2 y3 y4 y5
      unfold server_matchLiteral.l2
      repeat' first
      | (with_reducible exact ih0 _ _ _ _ _ _)
      | (with_reducible exact ih1 _ _ _ _ _ _ _)
      | (with_reducible exact ih2 _ _ _)
      | (with_reducible exact ih3 _ _ _ _ _ _)
      | (with_reducible exact ih4 _ _ _ _ _ _ _)
      | (with_reducible exact LeO.refl _)
      | (with_reducible exact LeO.none _)
      | (with_reducible refine LeO.ite ?_ ?_)
      | (with_reducible refine LeO.bind ?_ (fun _ => ?_))
      | exact ih0 _ _ _ _ _ _
      | exact ih1 _ _ _ _ _ _ _
      | exact ih2 _ _ _
      | exact ih3 _ _ _ _ _ _
      | exact ih4 _ _ _ _ _ _ _
      | exact LeO.none _
      | refine LeO.ite ?_ ?_
      | refine LeO.bind ?_ (fun _ => ?_)
    · intro y0 y1 y2 y3 y4 y5 y6
      unfold server_matchLiteral.j4
      repeat' first
      | (with_reducible exact ih0 _ _ _ _ _ _)
      | (with_reducible exact ih1 _ _ _ _ _ _ _)
      | (with_reducible exact ih2 _ _ _)
      | (with_reducible exact ih3 _ _ _ _ _ _)
      | (with_reducible exact ih4 _ _ _ _ _ _ _)
      | (with_reducible exact LeO.refl _)
      | (with_reducible exact LeO.none _)
      | (with_reducible refine LeO.ite ?_ ?_)
      | (with_reducible refine LeO.bind ?_ (fun _ => ?_))
      | exact ih0 _ _ _ _ _ _
      | exact ih1 _ _ _ _ _ _ _
      | exact ih2 _ _ _
      | exact ih3 _ _ _ _ _ _
      | exact ih4 _ _ _ _ _ _ _
      | exact LeO.none _
      | refine LeO.ite ?_ ?_
      | refine LeO.bind ?_ (fun _ => ?_)
theorem server_matchLiteral.mono : ∀ a0 a1 k, LeO (server_matchLiteral.f k a0 a1) (server_matchLiteral.f (k + 1) a0 a1) := by
  intro a0 a1 k
  obtain ⟨ih0, ih1, ih2, ih3, ih4⟩ := server_matchLiteral.mono_l k
  unfold server_matchLiteral.f
  repeat' first
      | (with_reducible exact ih0 _ _ _ _ _ _)
      | (with_reducible exact ih1 _ _ _ _ _ _ _)
      | (with_reducible exact ih2 _ _ _)
      | (with_reducible exact ih3 _ _ _ _ _ _)
      | (with_reducible exact ih4 _ _ _ _ _ _ _)
      | (with_reducible exact LeO.refl _)
      | (with_reducible exact LeO.none _)
      | (with_reducible refine LeO.ite ?_ ?_)
      | (with_reducible refine LeO.bind ?_ (fun _ => ?_))
      | exact ih0 _ _ _ _ _ _
      | exact ih1 _ _ _ _ _ _ _
      | exact ih2 _ _ _
      | exact ih3 _ _ _ _ _ _
      | exact ih4 _ _ _ _ _ _ _
      | exact LeO.none _
      | refine LeO.ite ?_ ?_
      | refine LeO.bind ?_ (fun _ => ?_)
set_option maxHeartbeats 8000000 in
set_option maxRecDepth 100000 in
theorem server_matchLiteral.calls (k : Nat) (a0 : ByteArray) (a1 : ByteArray) (r : Bool) (w : World) (h : server_matchLiteral.f k a0 a1 = some r) :
    Calls Try.prog 37 #[.string a0, .string a1] w fun e w' => e = .returned (.bool r) ∧ Drawn0 w w' := by
  have H : (server_matchLiteral.l0 k a0 a1 0 (a0.size : Int) (a1.size : Int) 0) = some r := h
  clear h
  have H' := Aside0.mk H
  clear H
  go_enter Try.func37, Try.ntmps37
  go_wp2
  repeat (go_quiet (fail); try go_wp2)
  go_loopg [5, 8] k (fun kq v5 v8 w' => ∃ (x5_1 : Int) (x8_1 : Int), v5 = .int .i64 x5_1 ∧ v8 = .int .i64 x8_1 ∧ Aside0 (server_matchLiteral.l0 kq a0 a1 x5_1 (a0.size : Int) (a1.size : Int) x8_1 = some r) ∧ Aside0 (kq ≤ k) ∧ Drawn0 w w')
  case atStart => exact ⟨(0), (0), (by first | rfl | (simp; done) | (simp [*]; done)), (by first | rfl | (simp; done) | (simp [*]; done)), H', ⟨Nat.le_refl _⟩, by repeat (first | exact Drawn0.refl _ | apply Drawn0.step)⟩
  case round =>
    clear H'
    try clear p2
    obtain ⟨x5_1, x8_1, rfl, rfl, HA, HK1, ⟨m1, rfl⟩⟩ := hrel
    cases gk with
    | zero => exact absurd HA.out (by simp [server_matchLiteral.l0])
    | succ k1 =>
      have H := HA.out
      clear HA
      simp only [server_matchLiteral.l0] at H
      by_cases c3 : x8_1 < (a1.size : Int)
      · rw [if_pos c3] at H
        have c3b0 : decide (x8_1 < (a1.size : Int)) = true := decide_eq_true c3
        clear c3
        by_cases c4 : x5_1 ≥ (a0.size : Int)
        · rw [if_pos c4] at H
          have c4b0 : decide ((a0.size : Int) ≤ x5_1) = true := decide_eq_true c4
          clear c4
          obtain rfl := Option.some.inj H
          go_wp2
          repeat (go_quiet (fail); try go_wp2)
          go_ret
          exact ⟨by first | rfl | (simp; done) | (simp [*]; done), by repeat (first | exact Drawn0.refl _ | apply Drawn0.step)⟩
        · rw [if_neg c4] at H
          have c4b0 : decide ((a0.size : Int) ≤ x5_1) = false := decide_eq_false c4
          clear c4
          by_cases c5 : 0 ≤ x8_1
          · rw [if_pos c5] at H
            have c5b0 : decide (0 ≤ x8_1) = true := decide_eq_true c5
            clear c5
            by_cases c6 : x8_1 < (a1.size : Int)
            · rw [if_pos c6] at H
              have c6b0 : decide (x8_1 < (a1.size : Int)) = true := decide_eq_true c6
              clear c6
              by_cases c8 : (bt a1 x8_1) = 42
              · rw [if_pos c8] at H
                have c8b0 : ((bt a1 x8_1) == 42) = true := beq_iff_eq.mpr c8
                have c8b1 : ((bt a1 x8_1) != 42) = false := bne_eq_false_iff_eq.mpr c8
                clear c8
                have HC9 := Aside0.mk H
                clear H
                have p7 : 0 ≤ (x8_1 : Int) := of_decide_eq_true (by first | (with_reducible assumption) | assumption)
                have q7 : x8_1 < (a1.size : Int) := of_decide_eq_true (by first | (with_reducible assumption) | assumption)
                have hx7 := bt_at a1 x8_1
                replace p7 := eq_true p7
                replace q7 := eq_true q7
                go_upto_region 11 with (fail)
                repeat (go_quiet (fail); go_upto_region 11 with (fail))
                go_cut [34] (fun v34 wc => ∃ (kq : Nat) (x34_8 : Bool), v34 = .bool x34_8 ∧ Aside0 (server_matchLiteral.j1 kq a0 a1 x5_1 (a0.size : Int) (a1.size : Int) x8_1 x34_8 = some r) ∧ Aside0 (kq ≤ k1) ∧ Drawn0 w wc)
                case first =>
                  have H := HC9.out
                  clear HC9
                  by_cases c10 : x8_1 = 0
                  · rw [if_pos c10] at H
                    have c10b0 : (x8_1 == 0) = true := beq_iff_eq.mpr c10
                    have c10b1 : (x8_1 != 0) = false := bne_eq_false_iff_eq.mpr c10
                    clear c10
                    (first | rw [c10b0] | (simp only [i64_w, i32_w]; rw [c10b0]) | skip)
                    have H' := Aside0.mk H
                    clear H
                    go_wp2
                    repeat (go_quiet (fail); try go_wp2)
                    go_meet
                    case rel => exact ⟨_, (true), (by first | rfl | (simp; done) | (simp [*]; done)), H', ⟨by have := HK1.out; first | omega | exact Nat.le_refl _⟩, by repeat (first | exact Drawn0.refl _ | apply Drawn0.step)⟩
                  · rw [if_neg c10] at H
                    have c10b0 : (x8_1 == 0) = false := beq_eq_false_iff_ne.mpr c10
                    have c10b1 : (x8_1 != 0) = true := bne_iff_ne.mpr c10
                    (first | rw [c10b0] | (simp only [i64_w, i32_w]; rw [c10b0]) | skip)
                    obtain ⟨ji11, hji11⟩ : ∃ j_ : Int, (wrap64 (x8_1 - 1)) = j_ := ⟨_, rfl⟩
                    replace H : (if 0 ≤ (ji11) then (if (ji11) < (a1.size : Int) then (server_matchLiteral.j1 k1 a0 a1 x5_1 (a0.size : Int) (a1.size : Int) x8_1 ((bt a1 (ji11)) == 46)) else (none)) else (none)) = some r := by first | (rw [hji11] at H; exact H) | (simp only [hji11] at H ⊢; exact H)
                    have hji11w : (IntKind.i64.wrap (x8_1 - 1)) = ji11 := (i64_w _).trans hji11
                    by_cases c12 : 0 ≤ (ji11)
                    · rw [if_pos c12] at H
                      have c12b0 : decide (0 ≤ (ji11)) = true := decide_eq_true c12
                      clear c12
                      by_cases c13 : (ji11) < (a1.size : Int)
                      · rw [if_pos c13] at H
                        have c13b0 : decide ((ji11) < (a1.size : Int)) = true := decide_eq_true c13
                        clear c13
                        have H' := Aside0.mk H
                        clear H
                        have p14 : 0 ≤ ((ji11) : Int) := of_decide_eq_true (by first | (with_reducible assumption) | assumption)
                        have q14 : (ji11) < (a1.size : Int) := of_decide_eq_true (by first | (with_reducible assumption) | assumption)
                        have hx14 := bt_at a1 (ji11)
                        replace p14 := eq_true p14
                        replace q14 := eq_true q14
                        go_wp2
                        repeat (go_quiet (fail); try go_wp2)
                        go_meet
                        case rel => exact ⟨_, (((bt a1 (ji11)) == 46)), (by first | rfl | (simp; done) | (simp only [← hji11] <;> (first | rfl | simp)) | (simp [*]; done)), H', ⟨by have := HK1.out; first | omega | exact Nat.le_refl _⟩, by repeat (first | exact Drawn0.refl _ | apply Drawn0.step)⟩
                      · rw [if_neg c13] at H
                        exact absurd H (by simp)
                    · rw [if_neg c12] at H
                      exact absurd H (by simp)
                case rest =>
                  clear HC9
                  try clear c1
                  try clear p1
                  try clear q1
                  try clear hx1
                  try clear p2
                  try clear c3
                  try clear c3b0
                  try clear c4
                  try clear c4b0
                  try clear c5
                  try clear c5b0
                  try clear c6
                  try clear c6b0
                  try clear p6
                  try clear p7
                  try clear q7
                  try clear hx7
                  try clear c8
                  try clear c8b0
                  try clear c8b1
                  try clear c10
                  try clear c10b0
                  try clear c10b1
                  try clear c12
                  try clear c12b0
                  try clear c13
                  try clear c13b0
                  try clear p14
                  try clear q14
                  try clear hx14
                  try clear p14
                  try clear p2
                  try clear p7
                  try clear q14
                  try clear q7
                  obtain ⟨kq, x34_8, rfl, HA, HJ8, ⟨mc8, rfl⟩⟩ := hcut
                  cases kq with
                  | zero => exact absurd HA.out (by simp [server_matchLiteral.j1])
                  | succ kj8 =>
                    have H := HA.out
                    clear HA
                    simp only [server_matchLiteral.j1] at H
                    by_cases c15 : x34_8 = true
                    · subst c15
                      have H1 : (if x8_1 = (wrap64 ((a1.size : Int) - 1)) then (server_matchLiteral.l1 kj8 a0 x5_1 (a0.size : Int)) else (if 0 ≤ (wrap64 (x8_1 + 1)) then (if (wrap64 (x8_1 + 1)) < (a1.size : Int) then (if (bt a1 (wrap64 (x8_1 + 1))) = 46 then (server_matchLiteral.l2 kj8 a0 a1 x5_1 (a0.size : Int) (a1.size : Int) x8_1) else (if 0 ≤ x8_1 then (if x8_1 < (a1.size : Int) then (if 0 ≤ x5_1 then (if x5_1 < (a0.size : Int) then (if (bt a1 x8_1) = (bt a0 x5_1) then (server_matchLiteral.l0 kj8 a0 a1 (wrap64 (x5_1 + 1)) (a0.size : Int) (a1.size : Int) (wrap64 (x8_1 + 1))) else (some false)) else (none)) else (none)) else (none)) else (none))) else (none)) else (none))) = some r := by rw [if_pos rfl] at H; exact H
                      clear H
                      have H := H1
                      clear H1
                      by_cases c16 : x8_1 = (wrap64 ((a1.size : Int) - 1))
                      · rw [if_pos c16] at H
                        have c16b0 : (x8_1 == (wrap64 ((a1.size : Int) - 1))) = true := beq_iff_eq.mpr c16
                        have c16b1 : (x8_1 != (wrap64 ((a1.size : Int) - 1))) = false := bne_eq_false_iff_eq.mpr c16
                        clear c16
                        have H' := Aside0.mk H
                        clear H
                        go_wp2
                        repeat (go_quiet (fail); try go_wp2)
                        go_loopg [5] kj8 (fun kq v5 w' => ∃ (x5_3 : Int), v5 = .int .i64 x5_3 ∧ Aside0 (server_matchLiteral.l1 kq a0 x5_3 (a0.size : Int) = some r) ∧ Aside0 (kq ≤ kj8) ∧ Drawn0 w w')
                        case atStart => exact ⟨(x5_1), (by first | rfl | (simp; done) | (simp [*]; done)), H', ⟨Nat.le_refl _⟩, by repeat (first | exact Drawn0.refl _ | apply Drawn0.step)⟩
                        case round =>
                          clear H'
                          try clear c1
                          try clear p1
                          try clear q1
                          try clear hx1
                          try clear p2
                          try clear c3
                          try clear c3b0
                          try clear c4
                          try clear c4b0
                          try clear c5
                          try clear c5b0
                          try clear c6
                          try clear c6b0
                          try clear p6
                          try clear p7
                          try clear q7
                          try clear hx7
                          try clear c8
                          try clear c8b0
                          try clear c8b1
                          try clear c10
                          try clear c10b0
                          try clear c10b1
                          try clear c12
                          try clear c12b0
                          try clear c13
                          try clear c13b0
                          try clear p14
                          try clear q14
                          try clear hx14
                          try clear c15
                          try clear c16
                          try clear c16b0
                          try clear c16b1
                          try clear p1
                          try clear p14
                          try clear p2
                          try clear p6
                          try clear p7
                          try clear q1
                          try clear q14
                          try clear q7
                          obtain ⟨x5_3, rfl, HA, HK3, ⟨m3, rfl⟩⟩ := hrel
                          cases gk with
                          | zero => exact absurd HA.out (by simp [server_matchLiteral.l1])
                          | succ k3 =>
                            have H := HA.out
                            clear HA
                            simp only [server_matchLiteral.l1] at H
                            by_cases c17 : x5_3 ≥ (a0.size : Int)
                            · rw [if_pos c17] at H
                              have c17b0 : decide ((a0.size : Int) ≤ x5_3) = true := decide_eq_true c17
                              clear c17
                              obtain rfl := Option.some.inj H
                              go_wp2
                              repeat (go_quiet (fail); try go_wp2)
                              go_ret
                              exact ⟨by first | rfl | (simp; done) | (simp [*]; done), by repeat (first | exact Drawn0.refl _ | apply Drawn0.step)⟩
                            · rw [if_neg c17] at H
                              have c17b0 : decide ((a0.size : Int) ≤ x5_3) = false := decide_eq_false c17
                              clear c17
                              by_cases c18 : 0 ≤ x5_3
                              · rw [if_pos c18] at H
                                have c18b0 : decide (0 ≤ x5_3) = true := decide_eq_true c18
                                clear c18
                                by_cases c19 : x5_3 < (a0.size : Int)
                                · rw [if_pos c19] at H
                                  have c19b0 : decide (x5_3 < (a0.size : Int)) = true := decide_eq_true c19
                                  clear c19
                                  by_cases c21 : (bt a0 x5_3) = 46
                                  · rw [if_pos c21] at H
                                    have c21b0 : ((bt a0 x5_3) == 46) = true := beq_iff_eq.mpr c21
                                    have c21b1 : ((bt a0 x5_3) != 46) = false := bne_eq_false_iff_eq.mpr c21
                                    clear c21
                                    obtain rfl := Option.some.inj H
                                    have p20 : 0 ≤ (x5_3 : Int) := of_decide_eq_true (by first | (with_reducible assumption) | assumption)
                                    have q20 : x5_3 < (a0.size : Int) := of_decide_eq_true (by first | (with_reducible assumption) | assumption)
                                    have hx20 := bt_at a0 x5_3
                                    replace p20 := eq_true p20
                                    replace q20 := eq_true q20
                                    go_wp2
                                    repeat (go_quiet (fail); try go_wp2)
                                    go_ret
                                    exact ⟨by first | rfl | (simp; done) | (simp [*]; done), by repeat (first | exact Drawn0.refl _ | apply Drawn0.step)⟩
                                  · rw [if_neg c21] at H
                                    have c21b0 : ((bt a0 x5_3) == 46) = false := beq_eq_false_iff_ne.mpr c21
                                    have c21b1 : ((bt a0 x5_3) != 46) = true := bne_iff_ne.mpr c21
                                    have H' := Aside0.mk H
                                    clear H
                                    have p20 : 0 ≤ (x5_3 : Int) := of_decide_eq_true (by first | (with_reducible assumption) | assumption)
                                    have q20 : x5_3 < (a0.size : Int) := of_decide_eq_true (by first | (with_reducible assumption) | assumption)
                                    have hx20 := bt_at a0 x5_3
                                    replace p20 := eq_true p20
                                    replace q20 := eq_true q20
                                    go_wp2
                                    repeat (go_quiet (fail); try go_wp2)
                                    go_roundg k3
                                    case measure => have := HK1.out; have := HJ8.out; have := HK3.out; omega
                                    case rel => exact ⟨(wrap64 (x5_3 + 1)), (by first | rfl | (simp; done) | (simp [*]; done)), H', ⟨by have := HK1.out; have := HJ8.out; have := HK3.out; omega⟩, by repeat (first | exact Drawn0.refl _ | apply Drawn0.step)⟩
                                · rw [if_neg c19] at H
                                  exact absurd H (by simp)
                              · rw [if_neg c18] at H
                                exact absurd H (by simp)
                      · rw [if_neg c16] at H
                        have c16b0 : (x8_1 == (wrap64 ((a1.size : Int) - 1))) = false := beq_eq_false_iff_ne.mpr c16
                        have c16b1 : (x8_1 != (wrap64 ((a1.size : Int) - 1))) = true := bne_iff_ne.mpr c16
                        obtain ⟨ji22, hji22⟩ : ∃ j_ : Int, (wrap64 (x8_1 + 1)) = j_ := ⟨_, rfl⟩
                        replace H : (if 0 ≤ (ji22) then (if (ji22) < (a1.size : Int) then (if (bt a1 (ji22)) = 46 then (server_matchLiteral.l2 kj8 a0 a1 x5_1 (a0.size : Int) (a1.size : Int) x8_1) else (if 0 ≤ x8_1 then (if x8_1 < (a1.size : Int) then (if 0 ≤ x5_1 then (if x5_1 < (a0.size : Int) then (if (bt a1 x8_1) = (bt a0 x5_1) then (server_matchLiteral.l0 kj8 a0 a1 (wrap64 (x5_1 + 1)) (a0.size : Int) (a1.size : Int) ji22) else (some false)) else (none)) else (none)) else (none)) else (none))) else (none)) else (none)) = some r := by first | (rw [hji22] at H; exact H) | (simp only [hji22] at H ⊢; exact H)
                        have hji22w : (IntKind.i64.wrap (x8_1 + 1)) = ji22 := (i64_w _).trans hji22
                        by_cases c23 : 0 ≤ (ji22)
                        · rw [if_pos c23] at H
                          have c23b0 : decide (0 ≤ (ji22)) = true := decide_eq_true c23
                          clear c23
                          by_cases c24 : (ji22) < (a1.size : Int)
                          · rw [if_pos c24] at H
                            have c24b0 : decide ((ji22) < (a1.size : Int)) = true := decide_eq_true c24
                            clear c24
                            by_cases c26 : (bt a1 (ji22)) = 46
                            · rw [if_pos c26] at H
                              have c26b0 : ((bt a1 (ji22)) == 46) = true := beq_iff_eq.mpr c26
                              have c26b1 : ((bt a1 (ji22)) != 46) = false := bne_eq_false_iff_eq.mpr c26
                              clear c26
                              have H' := Aside0.mk H
                              clear H
                              have p25 : 0 ≤ ((ji22) : Int) := of_decide_eq_true (by first | (with_reducible assumption) | assumption)
                              have q25 : (ji22) < (a1.size : Int) := of_decide_eq_true (by first | (with_reducible assumption) | assumption)
                              have hx25 := bt_at a1 (ji22)
                              replace p25 := eq_true p25
                              replace q25 := eq_true q25
                              go_wp2
                              repeat (go_quiet (fail); try go_wp2)
                              go_loopg [5] kj8 (fun kq v5 w' => ∃ (x5_3 : Int), v5 = .int .i64 x5_3 ∧ Aside0 (server_matchLiteral.l2 kq a0 a1 x5_3 (a0.size : Int) (a1.size : Int) x8_1 = some r) ∧ Aside0 (kq ≤ kj8) ∧ Drawn0 w w')
                              case atStart => exact ⟨(x5_1), (by first | rfl | (simp; done) | (simp [*]; done)), H', ⟨Nat.le_refl _⟩, by repeat (first | exact Drawn0.refl _ | apply Drawn0.step)⟩
                              case round =>
                                clear H'
                                try clear c1
                                try clear p1
                                try clear q1
                                try clear hx1
                                try clear c2
                                try clear p2
                                try clear q2
                                try clear hx2
                                try clear c3
                                try clear c3b0
                                try clear c4
                                try clear c4b0
                                try clear c5
                                try clear c5b0
                                try clear c6
                                try clear c6b0
                                try clear p6
                                try clear p7
                                try clear q7
                                try clear hx7
                                try clear c8
                                try clear c8b0
                                try clear c8b1
                                try clear c10
                                try clear c10b0
                                try clear c10b1
                                try clear c12
                                try clear c12b0
                                try clear c13
                                try clear c13b0
                                try clear p14
                                try clear q14
                                try clear hx14
                                try clear c15
                                try clear c16
                                try clear c16b0
                                try clear c16b1
                                try clear c17
                                try clear c17b0
                                try clear c18
                                try clear c18b0
                                try clear c19
                                try clear c19b0
                                try clear p20
                                try clear q20
                                try clear hx20
                                try clear c21
                                try clear c21b0
                                try clear c21b1
                                try clear c23
                                try clear c23b0
                                try clear c24
                                try clear c24b0
                                try clear p25
                                try clear q25
                                try clear hx25
                                try clear c26
                                try clear c26b0
                                try clear c26b1
                                try clear p1
                                try clear p14
                                try clear p2
                                try clear p20
                                try clear p25
                                try clear p6
                                try clear p7
                                try clear q1
                                try clear q14
                                try clear q20
                                try clear q25
                                try clear q7
                                obtain ⟨x5_3, rfl, HA, HK3, ⟨m3, rfl⟩⟩ := hrel
                                cases gk with
                                | zero => exact absurd HA.out (by simp [server_matchLiteral.l2])
                                | succ k3 =>
                                  have H := HA.out
                                  clear HA
                                  simp only [server_matchLiteral.l2] at H
                                  by_cases c27 : x5_3 ≥ (a0.size : Int)
                                  · rw [if_pos c27] at H
                                    have c27b0 : decide ((a0.size : Int) ≤ x5_3) = true := decide_eq_true c27
                                    clear c27
                                    obtain rfl := Option.some.inj H
                                    go_wp2
                                    repeat (go_quiet (fail); try go_wp2)
                                    go_ret
                                    exact ⟨by first | rfl | (simp; done) | (simp only [← hji22] <;> (first | rfl | simp)) | (simp [*]; done), by repeat (first | exact Drawn0.refl _ | apply Drawn0.step)⟩
                                  · rw [if_neg c27] at H
                                    have c27b0 : decide ((a0.size : Int) ≤ x5_3) = false := decide_eq_false c27
                                    clear c27
                                    by_cases c28 : 0 ≤ x5_3
                                    · rw [if_pos c28] at H
                                      have c28b0 : decide (0 ≤ x5_3) = true := decide_eq_true c28
                                      clear c28
                                      by_cases c29 : x5_3 < (a0.size : Int)
                                      · rw [if_pos c29] at H
                                        have c29b0 : decide (x5_3 < (a0.size : Int)) = true := decide_eq_true c29
                                        clear c29
                                        by_cases c31 : (bt a0 x5_3) = 46
                                        · rw [if_pos c31] at H
                                          have c31b0 : ((bt a0 x5_3) == 46) = true := beq_iff_eq.mpr c31
                                          have c31b1 : ((bt a0 x5_3) != 46) = false := bne_eq_false_iff_eq.mpr c31
                                          clear c31
                                          obtain ⟨ji32, hji32⟩ : ∃ j_ : Int, (wrap64 (x8_1 + 1)) = j_ := ⟨_, rfl⟩
                                          replace H : (if 0 ≤ (ji32) then (if (ji32) < (a1.size : Int) then (if (bt a1 (ji32)) = (bt a0 x5_3) then (server_matchLiteral.l0 k3 a0 a1 (wrap64 (x5_3 + 1)) (a0.size : Int) (a1.size : Int) (wrap64 ((ji32) + 1))) else (some false)) else (none)) else (none)) = some r := by first | (rw [hji32] at H; exact H) | (simp only [hji32] at H ⊢; exact H)
                                          have hji32w : (IntKind.i64.wrap (x8_1 + 1)) = ji32 := (i64_w _).trans hji32
                                          obtain rfl : ji32 = ji22 := hji32.symm.trans hji22
                                          by_cases c33 : 0 ≤ (ji32)
                                          · rw [if_pos c33] at H
                                            have c33b0 : decide (0 ≤ (ji32)) = true := decide_eq_true c33
                                            clear c33
                                            by_cases c34 : (ji32) < (a1.size : Int)
                                            · rw [if_pos c34] at H
                                              have c34b0 : decide ((ji32) < (a1.size : Int)) = true := decide_eq_true c34
                                              clear c34
                                              by_cases c37 : (bt a1 (ji32)) = (bt a0 x5_3)
                                              · rw [if_pos c37] at H
                                                have c37b0 : ((bt a1 (ji32)) == (bt a0 x5_3)) = true := beq_iff_eq.mpr c37
                                                have c37b1 : ((bt a1 (ji32)) != (bt a0 x5_3)) = false := bne_eq_false_iff_eq.mpr c37
                                                clear c37
                                                have H' := Aside0.mk H
                                                clear H
                                                have p30 : 0 ≤ (x5_3 : Int) := of_decide_eq_true (by first | (with_reducible assumption) | assumption)
                                                have q30 : x5_3 < (a0.size : Int) := of_decide_eq_true (by first | (with_reducible assumption) | assumption)
                                                have hx30 := bt_at a0 x5_3
                                                replace p30 := eq_true p30
                                                replace q30 := eq_true q30
                                                have p35 : 0 ≤ ((ji32) : Int) := of_decide_eq_true (by first | (with_reducible assumption) | assumption)
                                                have q35 : (ji32) < (a1.size : Int) := of_decide_eq_true (by first | (with_reducible assumption) | assumption)
                                                have hx35 := bt_at a1 (ji32)
                                                replace p35 := eq_true p35
                                                replace q35 := eq_true q35
                                                have p36 : 0 ≤ (x5_3 : Int) := of_decide_eq_true (by first | (with_reducible assumption) | assumption)
                                                have q36 : x5_3 < (a0.size : Int) := of_decide_eq_true (by first | (with_reducible assumption) | assumption)
                                                have hx36 := bt_at a0 x5_3
                                                replace p36 := eq_true p36
                                                replace q36 := eq_true q36
                                                go_wp2
                                                repeat (go_quiet (fail); try go_wp2)
                                                go_roundg k3
                                                case measure => have := HK1.out; have := HJ8.out; have := HK3.out; omega
                                                case rel => exact ⟨(wrap64 (x5_3 + 1)), (wrap64 ((ji32) + 1)), (by first | rfl | (simp; done) | (simp [*]; done)), (by first | rfl | (simp; done) | (simp only [← hji32] <;> (first | rfl | simp)) | (simp [*]; done)), H', ⟨by have := HK1.out; have := HJ8.out; have := HK3.out; omega⟩, by repeat (first | exact Drawn0.refl _ | apply Drawn0.step)⟩
                                              · rw [if_neg c37] at H
                                                have c37b0 : ((bt a1 (ji32)) == (bt a0 x5_3)) = false := beq_eq_false_iff_ne.mpr c37
                                                have c37b1 : ((bt a1 (ji32)) != (bt a0 x5_3)) = true := bne_iff_ne.mpr c37
                                                obtain rfl := Option.some.inj H
                                                have p30 : 0 ≤ (x5_3 : Int) := of_decide_eq_true (by first | (with_reducible assumption) | assumption)
                                                have q30 : x5_3 < (a0.size : Int) := of_decide_eq_true (by first | (with_reducible assumption) | assumption)
                                                have hx30 := bt_at a0 x5_3
                                                replace p30 := eq_true p30
                                                replace q30 := eq_true q30
                                                have p35 : 0 ≤ ((ji32) : Int) := of_decide_eq_true (by first | (with_reducible assumption) | assumption)
                                                have q35 : (ji32) < (a1.size : Int) := of_decide_eq_true (by first | (with_reducible assumption) | assumption)
                                                have hx35 := bt_at a1 (ji32)
                                                replace p35 := eq_true p35
                                                replace q35 := eq_true q35
                                                have p36 : 0 ≤ (x5_3 : Int) := of_decide_eq_true (by first | (with_reducible assumption) | assumption)
                                                have q36 : x5_3 < (a0.size : Int) := of_decide_eq_true (by first | (with_reducible assumption) | assumption)
                                                have hx36 := bt_at a0 x5_3
                                                replace p36 := eq_true p36
                                                replace q36 := eq_true q36
                                                go_wp2
                                                repeat (go_quiet (fail); try go_wp2)
                                                go_ret
                                                exact ⟨by first | rfl | (simp; done) | (simp only [← hji22, ← hji32] <;> (first | rfl | simp)) | (simp [*]; done), by repeat (first | exact Drawn0.refl _ | apply Drawn0.step)⟩
                                            · rw [if_neg c34] at H
                                              exact absurd H (by simp)
                                          · rw [if_neg c33] at H
                                            exact absurd H (by simp)
                                        · rw [if_neg c31] at H
                                          have c31b0 : ((bt a0 x5_3) == 46) = false := beq_eq_false_iff_ne.mpr c31
                                          have c31b1 : ((bt a0 x5_3) != 46) = true := bne_iff_ne.mpr c31
                                          have H' := Aside0.mk H
                                          clear H
                                          have p30 : 0 ≤ (x5_3 : Int) := of_decide_eq_true (by first | (with_reducible assumption) | assumption)
                                          have q30 : x5_3 < (a0.size : Int) := of_decide_eq_true (by first | (with_reducible assumption) | assumption)
                                          have hx30 := bt_at a0 x5_3
                                          replace p30 := eq_true p30
                                          replace q30 := eq_true q30
                                          go_wp2
                                          repeat (go_quiet (fail); try go_wp2)
                                          go_roundg k3
                                          case measure => have := HK1.out; have := HJ8.out; have := HK3.out; omega
                                          case rel => exact ⟨(wrap64 (x5_3 + 1)), (by first | rfl | (simp; done) | (simp [*]; done)), H', ⟨by have := HK1.out; have := HJ8.out; have := HK3.out; omega⟩, by repeat (first | exact Drawn0.refl _ | apply Drawn0.step)⟩
                                      · rw [if_neg c29] at H
                                        exact absurd H (by simp)
                                    · rw [if_neg c28] at H
                                      exact absurd H (by simp)
                            · rw [if_neg c26] at H
                              have c26b0 : ((bt a1 (ji22)) == 46) = false := beq_eq_false_iff_ne.mpr c26
                              have c26b1 : ((bt a1 (ji22)) != 46) = true := bne_iff_ne.mpr c26
                              by_cases c38 : 0 ≤ x8_1
                              · rw [if_pos c38] at H
                                have c38b0 : decide (0 ≤ x8_1) = true := decide_eq_true c38
                                clear c38
                                by_cases c39 : x8_1 < (a1.size : Int)
                                · rw [if_pos c39] at H
                                  have c39b0 : decide (x8_1 < (a1.size : Int)) = true := decide_eq_true c39
                                  clear c39
                                  by_cases c41 : 0 ≤ x5_1
                                  · rw [if_pos c41] at H
                                    have c41b0 : decide (0 ≤ x5_1) = true := decide_eq_true c41
                                    clear c41
                                    by_cases c42 : x5_1 < (a0.size : Int)
                                    · rw [if_pos c42] at H
                                      have c42b0 : decide (x5_1 < (a0.size : Int)) = true := decide_eq_true c42
                                      clear c42
                                      by_cases c44 : (bt a1 x8_1) = (bt a0 x5_1)
                                      · rw [if_pos c44] at H
                                        have c44b0 : ((bt a1 x8_1) == (bt a0 x5_1)) = true := beq_iff_eq.mpr c44
                                        have c44b1 : ((bt a1 x8_1) != (bt a0 x5_1)) = false := bne_eq_false_iff_eq.mpr c44
                                        clear c44
                                        have H' := Aside0.mk H
                                        clear H
                                        have p25 : 0 ≤ ((ji22) : Int) := of_decide_eq_true (by first | (with_reducible assumption) | assumption)
                                        have q25 : (ji22) < (a1.size : Int) := of_decide_eq_true (by first | (with_reducible assumption) | assumption)
                                        have hx25 := bt_at a1 (ji22)
                                        replace p25 := eq_true p25
                                        replace q25 := eq_true q25
                                        have p40 : 0 ≤ (x8_1 : Int) := of_decide_eq_true (by first | (with_reducible assumption) | assumption)
                                        have q40 : x8_1 < (a1.size : Int) := of_decide_eq_true (by first | (with_reducible assumption) | assumption)
                                        have hx40 := bt_at a1 x8_1
                                        replace p40 := eq_true p40
                                        replace q40 := eq_true q40
                                        have p43 : 0 ≤ (x5_1 : Int) := of_decide_eq_true (by first | (with_reducible assumption) | assumption)
                                        have q43 : x5_1 < (a0.size : Int) := of_decide_eq_true (by first | (with_reducible assumption) | assumption)
                                        have hx43 := bt_at a0 x5_1
                                        replace p43 := eq_true p43
                                        replace q43 := eq_true q43
                                        go_wp2
                                        repeat (go_quiet (fail); try go_wp2)
                                        go_roundg kj8
                                        case measure => have := HK1.out; have := HJ8.out; omega
                                        case rel => exact ⟨(wrap64 (x5_1 + 1)), (ji22), (by first | rfl | (simp; done) | (simp [*]; done)), (by first | rfl | (simp; done) | (simp only [← hji22] <;> (first | rfl | simp)) | (simp [*]; done)), H', ⟨by have := HK1.out; have := HJ8.out; omega⟩, by repeat (first | exact Drawn0.refl _ | apply Drawn0.step)⟩
                                      · rw [if_neg c44] at H
                                        have c44b0 : ((bt a1 x8_1) == (bt a0 x5_1)) = false := beq_eq_false_iff_ne.mpr c44
                                        have c44b1 : ((bt a1 x8_1) != (bt a0 x5_1)) = true := bne_iff_ne.mpr c44
                                        obtain rfl := Option.some.inj H
                                        have p25 : 0 ≤ ((ji22) : Int) := of_decide_eq_true (by first | (with_reducible assumption) | assumption)
                                        have q25 : (ji22) < (a1.size : Int) := of_decide_eq_true (by first | (with_reducible assumption) | assumption)
                                        have hx25 := bt_at a1 (ji22)
                                        replace p25 := eq_true p25
                                        replace q25 := eq_true q25
                                        have p40 : 0 ≤ (x8_1 : Int) := of_decide_eq_true (by first | (with_reducible assumption) | assumption)
                                        have q40 : x8_1 < (a1.size : Int) := of_decide_eq_true (by first | (with_reducible assumption) | assumption)
                                        have hx40 := bt_at a1 x8_1
                                        replace p40 := eq_true p40
                                        replace q40 := eq_true q40
                                        have p43 : 0 ≤ (x5_1 : Int) := of_decide_eq_true (by first | (with_reducible assumption) | assumption)
                                        have q43 : x5_1 < (a0.size : Int) := of_decide_eq_true (by first | (with_reducible assumption) | assumption)
                                        have hx43 := bt_at a0 x5_1
                                        replace p43 := eq_true p43
                                        replace q43 := eq_true q43
                                        go_wp2
                                        repeat (go_quiet (fail); try go_wp2)
                                        go_ret
                                        exact ⟨by first | rfl | (simp; done) | (simp only [← hji22] <;> (first | rfl | simp)) | (simp [*]; done), by repeat (first | exact Drawn0.refl _ | apply Drawn0.step)⟩
                                    · rw [if_neg c42] at H
                                      exact absurd H (by simp)
                                  · rw [if_neg c41] at H
                                    exact absurd H (by simp)
                                · rw [if_neg c39] at H
                                  exact absurd H (by simp)
                              · rw [if_neg c38] at H
                                exact absurd H (by simp)
                          · rw [if_neg c24] at H
                            exact absurd H (by simp)
                        · rw [if_neg c23] at H
                          exact absurd H (by simp)
                    · replace c15 := Bool.eq_false_iff.mpr c15
                      subst c15
                      have H1 : (if 0 ≤ x8_1 then (if x8_1 < (a1.size : Int) then (if 0 ≤ x5_1 then (if x5_1 < (a0.size : Int) then (if (bt a1 x8_1) = (bt a0 x5_1) then (server_matchLiteral.l0 kj8 a0 a1 (wrap64 (x5_1 + 1)) (a0.size : Int) (a1.size : Int) (wrap64 (x8_1 + 1))) else (some false)) else (none)) else (none)) else (none)) else (none)) = some r := by rw [if_neg (show ¬ (false = true) by decide)] at H; exact H
                      clear H
                      have H := H1
                      clear H1
                      by_cases c45 : 0 ≤ x8_1
                      · rw [if_pos c45] at H
                        have c45b0 : decide (0 ≤ x8_1) = true := decide_eq_true c45
                        clear c45
                        by_cases c46 : x8_1 < (a1.size : Int)
                        · rw [if_pos c46] at H
                          have c46b0 : decide (x8_1 < (a1.size : Int)) = true := decide_eq_true c46
                          clear c46
                          by_cases c48 : 0 ≤ x5_1
                          · rw [if_pos c48] at H
                            have c48b0 : decide (0 ≤ x5_1) = true := decide_eq_true c48
                            clear c48
                            by_cases c49 : x5_1 < (a0.size : Int)
                            · rw [if_pos c49] at H
                              have c49b0 : decide (x5_1 < (a0.size : Int)) = true := decide_eq_true c49
                              clear c49
                              by_cases c51 : (bt a1 x8_1) = (bt a0 x5_1)
                              · rw [if_pos c51] at H
                                have c51b0 : ((bt a1 x8_1) == (bt a0 x5_1)) = true := beq_iff_eq.mpr c51
                                have c51b1 : ((bt a1 x8_1) != (bt a0 x5_1)) = false := bne_eq_false_iff_eq.mpr c51
                                clear c51
                                have H' := Aside0.mk H
                                clear H
                                have p47 : 0 ≤ (x8_1 : Int) := of_decide_eq_true (by first | (with_reducible assumption) | assumption)
                                have q47 : x8_1 < (a1.size : Int) := of_decide_eq_true (by first | (with_reducible assumption) | assumption)
                                have hx47 := bt_at a1 x8_1
                                replace p47 := eq_true p47
                                replace q47 := eq_true q47
                                have p50 : 0 ≤ (x5_1 : Int) := of_decide_eq_true (by first | (with_reducible assumption) | assumption)
                                have q50 : x5_1 < (a0.size : Int) := of_decide_eq_true (by first | (with_reducible assumption) | assumption)
                                have hx50 := bt_at a0 x5_1
                                replace p50 := eq_true p50
                                replace q50 := eq_true q50
                                go_wp2
                                repeat (go_quiet (fail); try go_wp2)
                                go_roundg kj8
                                case measure => have := HK1.out; have := HJ8.out; omega
                                case rel => exact ⟨(wrap64 (x5_1 + 1)), (wrap64 (x8_1 + 1)), (by first | rfl | (simp; done) | (simp [*]; done)), (by first | rfl | (simp; done) | (simp [*]; done)), H', ⟨by have := HK1.out; have := HJ8.out; omega⟩, by repeat (first | exact Drawn0.refl _ | apply Drawn0.step)⟩
                              · rw [if_neg c51] at H
                                have c51b0 : ((bt a1 x8_1) == (bt a0 x5_1)) = false := beq_eq_false_iff_ne.mpr c51
                                have c51b1 : ((bt a1 x8_1) != (bt a0 x5_1)) = true := bne_iff_ne.mpr c51
                                obtain rfl := Option.some.inj H
                                have p47 : 0 ≤ (x8_1 : Int) := of_decide_eq_true (by first | (with_reducible assumption) | assumption)
                                have q47 : x8_1 < (a1.size : Int) := of_decide_eq_true (by first | (with_reducible assumption) | assumption)
                                have hx47 := bt_at a1 x8_1
                                replace p47 := eq_true p47
                                replace q47 := eq_true q47
                                have p50 : 0 ≤ (x5_1 : Int) := of_decide_eq_true (by first | (with_reducible assumption) | assumption)
                                have q50 : x5_1 < (a0.size : Int) := of_decide_eq_true (by first | (with_reducible assumption) | assumption)
                                have hx50 := bt_at a0 x5_1
                                replace p50 := eq_true p50
                                replace q50 := eq_true q50
                                go_wp2
                                repeat (go_quiet (fail); try go_wp2)
                                go_ret
                                exact ⟨by first | rfl | (simp; done) | (simp [*]; done), by repeat (first | exact Drawn0.refl _ | apply Drawn0.step)⟩
                            · rw [if_neg c49] at H
                              exact absurd H (by simp)
                          · rw [if_neg c48] at H
                            exact absurd H (by simp)
                        · rw [if_neg c46] at H
                          exact absurd H (by simp)
                      · rw [if_neg c45] at H
                        exact absurd H (by simp)
              · rw [if_neg c8] at H
                have c8b0 : ((bt a1 x8_1) == 42) = false := beq_eq_false_iff_ne.mpr c8
                have c8b1 : ((bt a1 x8_1) != 42) = true := bne_iff_ne.mpr c8
                by_cases c52 : (bt a1 x8_1) = 62
                · rw [if_pos c52] at H
                  have c52b0 : ((bt a1 x8_1) == 62) = true := beq_iff_eq.mpr c52
                  have c52b1 : ((bt a1 x8_1) != 62) = false := bne_eq_false_iff_eq.mpr c52
                  clear c52
                  have HC53 := Aside0.mk H
                  clear H
                  have p7 : 0 ≤ (x8_1 : Int) := of_decide_eq_true (by first | (with_reducible assumption) | assumption)
                  have q7 : x8_1 < (a1.size : Int) := of_decide_eq_true (by first | (with_reducible assumption) | assumption)
                  have hx7 := bt_at a1 x8_1
                  replace p7 := eq_true p7
                  replace q7 := eq_true q7
                  go_upto_region 25 with (fail)
                  repeat (go_quiet (fail); go_upto_region 25 with (fail))
                  go_cut [80] (fun v80 wc => ∃ (kq : Nat) (x80_52 : Bool), v80 = .bool x80_52 ∧ Aside0 (server_matchLiteral.j4 kq a0 a1 x5_1 (a0.size : Int) (a1.size : Int) x8_1 x80_52 = some r) ∧ Aside0 (kq ≤ k1) ∧ Drawn0 w wc)
                  case first =>
                    have H := HC53.out
                    clear HC53
                    by_cases c54 : x8_1 = 0
                    · rw [if_pos c54] at H
                      have c54b0 : (x8_1 == 0) = true := beq_iff_eq.mpr c54
                      have c54b1 : (x8_1 != 0) = false := bne_eq_false_iff_eq.mpr c54
                      clear c54
                      (first | rw [c54b0] | (simp only [i64_w, i32_w]; rw [c54b0]) | skip)
                      have H' := Aside0.mk H
                      clear H
                      go_wp2
                      repeat (go_quiet (fail); try go_wp2)
                      go_meet
                      case rel => exact ⟨_, ((x8_1 == (wrap64 ((a1.size : Int) - 1)))), (by first | rfl | (simp; done) | (simp [*]; done)), H', ⟨by have := HK1.out; first | omega | exact Nat.le_refl _⟩, by repeat (first | exact Drawn0.refl _ | apply Drawn0.step)⟩
                    · rw [if_neg c54] at H
                      have c54b0 : (x8_1 == 0) = false := beq_eq_false_iff_ne.mpr c54
                      have c54b1 : (x8_1 != 0) = true := bne_iff_ne.mpr c54
                      (first | rw [c54b0] | (simp only [i64_w, i32_w]; rw [c54b0]) | skip)
                      obtain ⟨ji55, hji55⟩ : ∃ j_ : Int, (wrap64 (x8_1 - 1)) = j_ := ⟨_, rfl⟩
                      replace H : (if 0 ≤ (ji55) then (if (ji55) < (a1.size : Int) then (if (bt a1 (ji55)) = 46 then (server_matchLiteral.j4 k1 a0 a1 x5_1 (a0.size : Int) (a1.size : Int) x8_1 (x8_1 == (wrap64 ((a1.size : Int) - 1)))) else (server_matchLiteral.j4 k1 a0 a1 x5_1 (a0.size : Int) (a1.size : Int) x8_1 false)) else (none)) else (none)) = some r := by first | (rw [hji55] at H; exact H) | (simp only [hji55] at H ⊢; exact H)
                      have hji55w : (IntKind.i64.wrap (x8_1 - 1)) = ji55 := (i64_w _).trans hji55
                      by_cases c56 : 0 ≤ (ji55)
                      · rw [if_pos c56] at H
                        have c56b0 : decide (0 ≤ (ji55)) = true := decide_eq_true c56
                        clear c56
                        by_cases c57 : (ji55) < (a1.size : Int)
                        · rw [if_pos c57] at H
                          have c57b0 : decide ((ji55) < (a1.size : Int)) = true := decide_eq_true c57
                          clear c57
                          by_cases c59 : (bt a1 (ji55)) = 46
                          · rw [if_pos c59] at H
                            have c59b0 : ((bt a1 (ji55)) == 46) = true := beq_iff_eq.mpr c59
                            have c59b1 : ((bt a1 (ji55)) != 46) = false := bne_eq_false_iff_eq.mpr c59
                            clear c59
                            have H' := Aside0.mk H
                            clear H
                            have p58 : 0 ≤ ((ji55) : Int) := of_decide_eq_true (by first | (with_reducible assumption) | assumption)
                            have q58 : (ji55) < (a1.size : Int) := of_decide_eq_true (by first | (with_reducible assumption) | assumption)
                            have hx58 := bt_at a1 (ji55)
                            replace p58 := eq_true p58
                            replace q58 := eq_true q58
                            go_wp2
                            repeat (go_quiet (fail); try go_wp2)
                            go_meet
                            case rel => exact ⟨_, ((x8_1 == (wrap64 ((a1.size : Int) - 1)))), (by first | rfl | (simp; done) | (simp [*]; done)), H', ⟨by have := HK1.out; first | omega | exact Nat.le_refl _⟩, by repeat (first | exact Drawn0.refl _ | apply Drawn0.step)⟩
                          · rw [if_neg c59] at H
                            have c59b0 : ((bt a1 (ji55)) == 46) = false := beq_eq_false_iff_ne.mpr c59
                            have c59b1 : ((bt a1 (ji55)) != 46) = true := bne_iff_ne.mpr c59
                            have H' := Aside0.mk H
                            clear H
                            have p58 : 0 ≤ ((ji55) : Int) := of_decide_eq_true (by first | (with_reducible assumption) | assumption)
                            have q58 : (ji55) < (a1.size : Int) := of_decide_eq_true (by first | (with_reducible assumption) | assumption)
                            have hx58 := bt_at a1 (ji55)
                            replace p58 := eq_true p58
                            replace q58 := eq_true q58
                            go_wp2
                            repeat (go_quiet (fail); try go_wp2)
                            go_meet
                            case rel => exact ⟨_, (false), (by first | rfl | (simp; done) | (simp [*]; done)), H', ⟨by have := HK1.out; first | omega | exact Nat.le_refl _⟩, by repeat (first | exact Drawn0.refl _ | apply Drawn0.step)⟩
                        · rw [if_neg c57] at H
                          exact absurd H (by simp)
                      · rw [if_neg c56] at H
                        exact absurd H (by simp)
                  case rest =>
                    clear HC53
                    try clear c1
                    try clear p1
                    try clear q1
                    try clear hx1
                    try clear c2
                    try clear p2
                    try clear q2
                    try clear hx2
                    try clear c3
                    try clear c3b0
                    try clear p3
                    try clear q3
                    try clear hx3
                    try clear c4
                    try clear c4b0
                    try clear p4
                    try clear q4
                    try clear hx4
                    try clear c5
                    try clear c5b0
                    try clear p5
                    try clear q5
                    try clear hx5
                    try clear c6
                    try clear c6b0
                    try clear p6
                    try clear p7
                    try clear q7
                    try clear hx7
                    try clear c8
                    try clear c8b0
                    try clear c8b1
                    try clear c10
                    try clear c10b0
                    try clear c10b1
                    try clear c12
                    try clear c12b0
                    try clear c13
                    try clear c13b0
                    try clear p14
                    try clear q14
                    try clear hx14
                    try clear c15
                    try clear c16
                    try clear c16b0
                    try clear c16b1
                    try clear c17
                    try clear c17b0
                    try clear c18
                    try clear c18b0
                    try clear c19
                    try clear c19b0
                    try clear p20
                    try clear q20
                    try clear hx20
                    try clear c21
                    try clear c21b0
                    try clear c21b1
                    try clear c23
                    try clear c23b0
                    try clear c24
                    try clear c24b0
                    try clear p25
                    try clear q25
                    try clear hx25
                    try clear c26
                    try clear c26b0
                    try clear c26b1
                    try clear c27
                    try clear c27b0
                    try clear c28
                    try clear c28b0
                    try clear c29
                    try clear c29b0
                    try clear p30
                    try clear q30
                    try clear hx30
                    try clear c31
                    try clear c31b0
                    try clear c31b1
                    try clear c33
                    try clear c33b0
                    try clear c34
                    try clear c34b0
                    try clear p35
                    try clear q35
                    try clear hx35
                    try clear p36
                    try clear q36
                    try clear hx36
                    try clear c37
                    try clear c37b0
                    try clear c37b1
                    try clear c38
                    try clear c38b0
                    try clear c39
                    try clear c39b0
                    try clear p40
                    try clear q40
                    try clear hx40
                    try clear c41
                    try clear c41b0
                    try clear c42
                    try clear c42b0
                    try clear p43
                    try clear q43
                    try clear hx43
                    try clear c44
                    try clear c44b0
                    try clear c44b1
                    try clear c45
                    try clear c45b0
                    try clear c46
                    try clear c46b0
                    try clear p47
                    try clear q47
                    try clear hx47
                    try clear c48
                    try clear c48b0
                    try clear c49
                    try clear c49b0
                    try clear p50
                    try clear q50
                    try clear hx50
                    try clear c51
                    try clear c51b0
                    try clear c51b1
                    try clear c52
                    try clear c52b0
                    try clear c52b1
                    try clear c54
                    try clear c54b0
                    try clear c54b1
                    try clear c56
                    try clear c56b0
                    try clear c57
                    try clear c57b0
                    try clear p58
                    try clear q58
                    try clear hx58
                    try clear c59
                    try clear c59b0
                    try clear c59b1
                    try clear p1
                    try clear p14
                    try clear p2
                    try clear p20
                    try clear p25
                    try clear p30
                    try clear p35
                    try clear p36
                    try clear p40
                    try clear p43
                    try clear p47
                    try clear p50
                    try clear p58
                    try clear p6
                    try clear p7
                    try clear q1
                    try clear q14
                    try clear q2
                    try clear q20
                    try clear q25
                    try clear q30
                    try clear q35
                    try clear q36
                    try clear q40
                    try clear q43
                    try clear q47
                    try clear q50
                    try clear q58
                    try clear q7
                    obtain ⟨kq, x80_52, rfl, HA, HJ52, ⟨mc52, rfl⟩⟩ := hcut
                    cases kq with
                    | zero => exact absurd HA.out (by simp [server_matchLiteral.j4])
                    | succ kj52 =>
                      have H := HA.out
                      clear HA
                      simp only [server_matchLiteral.j4] at H
                      by_cases c60 : x80_52 = true
                      · subst c60
                        have H1 : (some true) = some r := by rw [if_pos rfl] at H; exact H
                        clear H
                        have H := H1
                        clear H1
                        obtain rfl := Option.some.inj H
                        go_wp2
                        repeat (go_quiet (fail); try go_wp2)
                        go_ret
                        exact ⟨by first | rfl | (simp; done) | (simp [*]; done), by repeat (first | exact Drawn0.refl _ | apply Drawn0.step)⟩
                      · replace c60 := Bool.eq_false_iff.mpr c60
                        subst c60
                        have H1 : (if 0 ≤ x8_1 then (if x8_1 < (a1.size : Int) then (if 0 ≤ x5_1 then (if x5_1 < (a0.size : Int) then (if (bt a1 x8_1) = (bt a0 x5_1) then (server_matchLiteral.l0 kj52 a0 a1 (wrap64 (x5_1 + 1)) (a0.size : Int) (a1.size : Int) (wrap64 (x8_1 + 1))) else (some false)) else (none)) else (none)) else (none)) else (none)) = some r := by rw [if_neg (show ¬ (false = true) by decide)] at H; exact H
                        clear H
                        have H := H1
                        clear H1
                        by_cases c61 : 0 ≤ x8_1
                        · rw [if_pos c61] at H
                          have c61b0 : decide (0 ≤ x8_1) = true := decide_eq_true c61
                          clear c61
                          by_cases c62 : x8_1 < (a1.size : Int)
                          · rw [if_pos c62] at H
                            have c62b0 : decide (x8_1 < (a1.size : Int)) = true := decide_eq_true c62
                            clear c62
                            by_cases c64 : 0 ≤ x5_1
                            · rw [if_pos c64] at H
                              have c64b0 : decide (0 ≤ x5_1) = true := decide_eq_true c64
                              clear c64
                              by_cases c65 : x5_1 < (a0.size : Int)
                              · rw [if_pos c65] at H
                                have c65b0 : decide (x5_1 < (a0.size : Int)) = true := decide_eq_true c65
                                clear c65
                                by_cases c67 : (bt a1 x8_1) = (bt a0 x5_1)
                                · rw [if_pos c67] at H
                                  have c67b0 : ((bt a1 x8_1) == (bt a0 x5_1)) = true := beq_iff_eq.mpr c67
                                  have c67b1 : ((bt a1 x8_1) != (bt a0 x5_1)) = false := bne_eq_false_iff_eq.mpr c67
                                  clear c67
                                  have H' := Aside0.mk H
                                  clear H
                                  have p63 : 0 ≤ (x8_1 : Int) := of_decide_eq_true (by first | (with_reducible assumption) | assumption)
                                  have q63 : x8_1 < (a1.size : Int) := of_decide_eq_true (by first | (with_reducible assumption) | assumption)
                                  have hx63 := bt_at a1 x8_1
                                  replace p63 := eq_true p63
                                  replace q63 := eq_true q63
                                  have p66 : 0 ≤ (x5_1 : Int) := of_decide_eq_true (by first | (with_reducible assumption) | assumption)
                                  have q66 : x5_1 < (a0.size : Int) := of_decide_eq_true (by first | (with_reducible assumption) | assumption)
                                  have hx66 := bt_at a0 x5_1
                                  replace p66 := eq_true p66
                                  replace q66 := eq_true q66
                                  go_wp2
                                  repeat (go_quiet (fail); try go_wp2)
                                  go_roundg kj52
                                  case measure => have := HK1.out; have := HJ52.out; omega
                                  case rel => exact ⟨(wrap64 (x5_1 + 1)), (wrap64 (x8_1 + 1)), (by first | rfl | (simp; done) | (simp [*]; done)), (by first | rfl | (simp; done) | (simp [*]; done)), H', ⟨by have := HK1.out; have := HJ52.out; omega⟩, by repeat (first | exact Drawn0.refl _ | apply Drawn0.step)⟩
                                · rw [if_neg c67] at H
                                  have c67b0 : ((bt a1 x8_1) == (bt a0 x5_1)) = false := beq_eq_false_iff_ne.mpr c67
                                  have c67b1 : ((bt a1 x8_1) != (bt a0 x5_1)) = true := bne_iff_ne.mpr c67
                                  obtain rfl := Option.some.inj H
                                  have p63 : 0 ≤ (x8_1 : Int) := of_decide_eq_true (by first | (with_reducible assumption) | assumption)
                                  have q63 : x8_1 < (a1.size : Int) := of_decide_eq_true (by first | (with_reducible assumption) | assumption)
                                  have hx63 := bt_at a1 x8_1
                                  replace p63 := eq_true p63
                                  replace q63 := eq_true q63
                                  have p66 : 0 ≤ (x5_1 : Int) := of_decide_eq_true (by first | (with_reducible assumption) | assumption)
                                  have q66 : x5_1 < (a0.size : Int) := of_decide_eq_true (by first | (with_reducible assumption) | assumption)
                                  have hx66 := bt_at a0 x5_1
                                  replace p66 := eq_true p66
                                  replace q66 := eq_true q66
                                  go_wp2
                                  repeat (go_quiet (fail); try go_wp2)
                                  go_ret
                                  exact ⟨by first | rfl | (simp; done) | (simp [*]; done), by repeat (first | exact Drawn0.refl _ | apply Drawn0.step)⟩
                              · rw [if_neg c65] at H
                                exact absurd H (by simp)
                            · rw [if_neg c64] at H
                              exact absurd H (by simp)
                          · rw [if_neg c62] at H
                            exact absurd H (by simp)
                        · rw [if_neg c61] at H
                          exact absurd H (by simp)
                · rw [if_neg c52] at H
                  have c52b0 : ((bt a1 x8_1) == 62) = false := beq_eq_false_iff_ne.mpr c52
                  have c52b1 : ((bt a1 x8_1) != 62) = true := bne_iff_ne.mpr c52
                  by_cases c69 : 0 ≤ x5_1
                  · rw [if_pos c69] at H
                    have c69b0 : decide (0 ≤ x5_1) = true := decide_eq_true c69
                    clear c69
                    by_cases c70 : x5_1 < (a0.size : Int)
                    · rw [if_pos c70] at H
                      have c70b0 : decide (x5_1 < (a0.size : Int)) = true := decide_eq_true c70
                      clear c70
                      by_cases c72 : (bt a1 x8_1) = (bt a0 x5_1)
                      · rw [if_pos c72] at H
                        have c72b0 : ((bt a1 x8_1) == (bt a0 x5_1)) = true := beq_iff_eq.mpr c72
                        have c72b1 : ((bt a1 x8_1) != (bt a0 x5_1)) = false := bne_eq_false_iff_eq.mpr c72
                        clear c72
                        have H' := Aside0.mk H
                        clear H
                        have p7 : 0 ≤ (x8_1 : Int) := of_decide_eq_true (by first | (with_reducible assumption) | assumption)
                        have q7 : x8_1 < (a1.size : Int) := of_decide_eq_true (by first | (with_reducible assumption) | assumption)
                        have hx7 := bt_at a1 x8_1
                        replace p7 := eq_true p7
                        replace q7 := eq_true q7
                        have p68 : 0 ≤ (x8_1 : Int) := of_decide_eq_true (by first | (with_reducible assumption) | assumption)
                        have q68 : x8_1 < (a1.size : Int) := of_decide_eq_true (by first | (with_reducible assumption) | assumption)
                        have hx68 := bt_at a1 x8_1
                        replace p68 := eq_true p68
                        replace q68 := eq_true q68
                        have p71 : 0 ≤ (x5_1 : Int) := of_decide_eq_true (by first | (with_reducible assumption) | assumption)
                        have q71 : x5_1 < (a0.size : Int) := of_decide_eq_true (by first | (with_reducible assumption) | assumption)
                        have hx71 := bt_at a0 x5_1
                        replace p71 := eq_true p71
                        replace q71 := eq_true q71
                        go_wp2
                        repeat (go_quiet (fail); try go_wp2)
                        go_roundg k1
                        case measure => have := HK1.out; omega
                        case rel => exact ⟨(wrap64 (x5_1 + 1)), (wrap64 (x8_1 + 1)), (by first | rfl | (simp; done) | (simp [*]; done)), (by first | rfl | (simp; done) | (simp [*]; done)), H', ⟨by have := HK1.out; omega⟩, by repeat (first | exact Drawn0.refl _ | apply Drawn0.step)⟩
                      · rw [if_neg c72] at H
                        have c72b0 : ((bt a1 x8_1) == (bt a0 x5_1)) = false := beq_eq_false_iff_ne.mpr c72
                        have c72b1 : ((bt a1 x8_1) != (bt a0 x5_1)) = true := bne_iff_ne.mpr c72
                        obtain rfl := Option.some.inj H
                        have p7 : 0 ≤ (x8_1 : Int) := of_decide_eq_true (by first | (with_reducible assumption) | assumption)
                        have q7 : x8_1 < (a1.size : Int) := of_decide_eq_true (by first | (with_reducible assumption) | assumption)
                        have hx7 := bt_at a1 x8_1
                        replace p7 := eq_true p7
                        replace q7 := eq_true q7
                        have p68 : 0 ≤ (x8_1 : Int) := of_decide_eq_true (by first | (with_reducible assumption) | assumption)
                        have q68 : x8_1 < (a1.size : Int) := of_decide_eq_true (by first | (with_reducible assumption) | assumption)
                        have hx68 := bt_at a1 x8_1
                        replace p68 := eq_true p68
                        replace q68 := eq_true q68
                        have p71 : 0 ≤ (x5_1 : Int) := of_decide_eq_true (by first | (with_reducible assumption) | assumption)
                        have q71 : x5_1 < (a0.size : Int) := of_decide_eq_true (by first | (with_reducible assumption) | assumption)
                        have hx71 := bt_at a0 x5_1
                        replace p71 := eq_true p71
                        replace q71 := eq_true q71
                        go_wp2
                        repeat (go_quiet (fail); try go_wp2)
                        go_ret
                        exact ⟨by first | rfl | (simp; done) | (simp [*]; done), by repeat (first | exact Drawn0.refl _ | apply Drawn0.step)⟩
                    · rw [if_neg c70] at H
                      exact absurd H (by simp)
                  · rw [if_neg c69] at H
                    exact absurd H (by simp)
            · rw [if_neg c6] at H
              exact absurd H (by simp)
          · rw [if_neg c5] at H
            exact absurd H (by simp)
      · rw [if_neg c3] at H
        have c3b0 : decide (x8_1 < (a1.size : Int)) = false := decide_eq_false c3
        clear c3
        obtain rfl := Option.some.inj H
        go_wp2
        repeat (go_quiet (fail); try go_wp2)
        go_ret
        exact ⟨by first | rfl | (simp; done) | (simp [*]; done), by repeat (first | exact Drawn0.refl _ | apply Drawn0.step)⟩

end Go.Proofs.Ytgbdjinanflhaaa.GFnSubsetMeans
