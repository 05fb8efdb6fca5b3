/- A walk of Go functions (plain functions of theirs, and that the machine's calls do what these say), written by a program of this session's. -/
import Derived.Test.YtnkioieocjgekaaGFnHeaderRemovePrefixx0
import Derived.Test.YtnkioieocjgekaaGFnHeaderRemovePrefixx1
import Derived.Test.YtnkioieocjgekaaGFnHeaderRemovePrefixx2
namespace Go.Proofs.Ytnkioieocjgekaa.GFnHeaderRemovePrefix
open Go.RowKit Go.Proofs.YtnkioieocjgekaaW.PrintWords Go.Proofs.YtnkioieocjgekaaW.PrintLast Go.Proofs.YtnkioieocjgekaaW.PrintMore
attribute [local go_sem] max2_int min2_int max_two min_two max_three min_three max_four min_four   -- for this text's walks alone
set_option linter.unusedVariables false
set_option linter.unusedSimpArgs false

/-! ### laws_headed: function 6 -/
mutual
def laws_headed.j0 : Nat → List (S34) → Bool → Option (Bool)
  | 0, _, _ => none
  | k + 1, x0, x12 => if x12 = true then (some false) else (laws_headed.l0 k x0 0)
def laws_headed.l0 : Nat → List (S34) → Int → Option (Bool)
  | 0, _, _ => none
  | k + 1, x0, x3 => if x3 < (x0.length : Int) then (if 0 ≤ x3 then (if (((rd_T34 x0 x3).f0).size : Int) > 40 then (laws_headed.j2 k x0 x3 true) else (laws_headed.j2 k x0 x3 (decide ((((rd_T34 x0 x3).f1).size : Int) > 60)))) else (none)) else (some true)
def laws_headed.j2 : Nat → List (S34) → Int → Bool → Option (Bool)
  | 0, _, _, _ => none
  | k + 1, x0, x3, x34 => if x34 = true then (some false) else (laws_headed.l1 k x0 x3 0)
def laws_headed.l1 : Nat → List (S34) → Int → Int → Option (Bool)
  | 0, _, _, _ => none
  | k + 1, x0, x3, x4 => if x4 < x3 then (if 0 ≤ x4 then (if x4 < (x0.length : Int) then ((laws_lower.f k ((rd_T34 x0 x4).f0)).bind fun t122 => (if 0 ≤ x3 then (if x3 < (x0.length : Int) then ((laws_lower.f k ((rd_T34 x0 x3).f0)).bind fun t124 => (if t122.toList = t124.toList then (some false) else (laws_headed.l1 k x0 x3 (wrap64 (x4 + 1))))) else (none)) else (none))) else (none)) else (none)) else (laws_headed.l0 k x0 (wrap64 (x3 + 1)))
end
def laws_headed.f (k : Nat) (l0 : List (S34)) : Option (Bool) := if (l0.length : Int) > 8 then (laws_headed.j0 k l0 true) else ((spec_Fine.f k l0).bind fun t118 => (laws_headed.j0 k l0 (!t118)))
theorem laws_headed.mono_l : ∀ k, (∀ y0 y1, LeO (laws_headed.j0 k y0 y1) (laws_headed.j0 (k + 1) y0 y1)) ∧ (∀ y0 y1, LeO (laws_headed.l0 k y0 y1) (laws_headed.l0 (k + 1) y0 y1)) ∧ (∀ y0 y1 y2, LeO (laws_headed.j2 k y0 y1 y2) (laws_headed.j2 (k + 1) y0 y1 y2)) ∧ (∀ y0 y1 y2, LeO (laws_headed.l1 k y0 y1 y2) (laws_headed.l1 (k + 1) y0 y1 y2))
  | 0 => ⟨fun _ _ r h => by simp [laws_headed.j0] at h, fun _ _ r h => by simp [laws_headed.l0] at h, fun _ _ _ r h => by simp [laws_headed.j2] at h, fun _ _ _ r h => by simp [laws_headed.l1] at h⟩
  | k + 1 => by
    obtain ⟨ih0, ih1, ih2, ih3⟩ := laws_headed.mono_l k
    refine ⟨?_, ?_, ?_, ?_⟩
    · intro y0 y1
      unfold laws_headed.j0
      repeat' first
      | (with_reducible exact ih0 _ _)
      | (with_reducible exact ih1 _ _)
      | (with_reducible exact ih2 _ _ _)
      | (with_reducible exact ih3 _ _ _)
      | (with_reducible exact laws_lower.mono _ _)
      | (with_reducible exact spec_Fine.mono _ _)
      | (with_reducible exact LeO.refl _)
      | (with_reducible exact LeO.none _)
      | (with_reducible refine LeO.ite ?_ ?_)
      | (with_reducible refine LeO.bind ?_ (fun _ => ?_))
      | exact ih0 _ _
      | exact ih1 _ _
      | exact ih2 _ _ _
      | exact ih3 _ _ _
      | exact laws_lower.mono _ _
      | exact spec_Fine.mono _ _
      | exact LeO.none _
      | refine LeO.ite ?_ ?_
      | refine LeO.bind ?_ (fun _ => ?_)
    · intro y0 y1
      unfold laws_headed.l0
      repeat' first
      | (with_reducible exact ih0 _ _)
      | (with_reducible exact ih1 _ _)
      | (with_reducible exact ih2 _ _ _)
      | (with_reducible exact ih3 _ _ _)
      | (with_reducible exact laws_lower.mono _ _)
      | (with_reducible exact spec_Fine.mono _ _)
      | (with_reducible exact LeO.refl _)
      | (with_reducible exact LeO.none _)
      | (with_reducible refine LeO.ite ?_ ?_)
      | (with_reducible refine LeO.bind ?_ (fun _ => ?_))
      | exact ih0 _ _
      | exact ih1 _ _
      | exact ih2 _ _ _
      | exact ih3 _ _ _
      | exact laws_lower.mono _ _
      | exact spec_Fine.mono _ _
      | exact LeO.none _
      | refine LeO.ite ?_ ?_
      | refine LeO.bind ?_ (fun _ => ?_)
    · intro y0 y1 y2
      unfold laws_headed.j2
      repeat' first
      | (with_reducible exact ih0 _ _)
      | (with_reducible exact ih1 _ _)
      | (with_reducible exact ih2 _ _ _)
      | (with_reducible exact ih3 _ _ _)
      | (with_reducible exact laws_lower.mono _ _)
      | (with_reducible exact spec_Fine.mono _ _)
      | (with_reducible exact LeO.refl _)
      | (with_reducible exact LeO.none _)
      | (with_reducible refine LeO.ite ?_ ?_)
      | (with_reducible refine LeO.bind ?_ (fun _ => ?_))
      | exact ih0 _ _
      | exact ih1 _ _
      | exact ih2 _ _ _
      | exact ih3 _ _ _
      | exact laws_lower.mono _ _
      | exact spec_Fine.mono _ _
      | exact LeO.none _
      | refine LeO.ite ?_ ?_
      | refine LeO.bind ?_ (fun _ => ?_)
    · intro y0 y1 y2
      unfold laws_headed.l1
      repeat' first
      | (with_reducible exact ih0 _ _)
      | (with_reducible exact ih1 _ _)
      | (with_reducible exact ih2 _ _ _)
      | (with_reducible exact ih3 _ _ _)
      | (with_reducible exact laws_lower.mono _ _)
      | (with_reducible exact spec_Fine.mono _ _)
      | (with_reducible exact LeO.refl _)
      | (with_reducible exact LeO.none _)
      | (with_reducible refine LeO.ite ?_ ?_)
      | (with_reducible refine LeO.bind ?_ (fun _ => ?_))
      | exact ih0 _ _
      | exact ih1 _ _
      | exact ih2 _ _ _
      | exact ih3 _ _ _
      | exact laws_lower.mono _ _
      | exact spec_Fine.mono _ _
      | exact LeO.none _
      | refine LeO.ite ?_ ?_
      | refine LeO.bind ?_ (fun _ => ?_)
theorem laws_headed.mono : ∀ a0 k, LeO (laws_headed.f k a0) (laws_headed.f (k + 1) a0) := by
  intro a0 k
  obtain ⟨ih0, ih1, ih2, ih3⟩ := laws_headed.mono_l k
  unfold laws_headed.f
  repeat' first
      | (with_reducible exact ih0 _ _)
      | (with_reducible exact ih1 _ _)
      | (with_reducible exact ih2 _ _ _)
      | (with_reducible exact ih3 _ _ _)
      | (with_reducible exact laws_lower.mono _ _)
      | (with_reducible exact spec_Fine.mono _ _)
      | (with_reducible exact LeO.refl _)
      | (with_reducible exact LeO.none _)
      | (with_reducible refine LeO.ite ?_ ?_)
      | (with_reducible refine LeO.bind ?_ (fun _ => ?_))
      | exact ih0 _ _
      | exact ih1 _ _
      | exact ih2 _ _ _
      | exact ih3 _ _ _
      | exact laws_lower.mono _ _
      | exact spec_Fine.mono _ _
      | exact LeO.none _
      | refine LeO.ite ?_ ?_
      | refine LeO.bind ?_ (fun _ => ?_)
def laws_headed.T11 : Bool × List (List Nat × List Nat) := (true, [([], []), ([], []), ([0, 1], [0, 1]), ([2], [2]), ([3], [3]), ([4], [4]), ([], []), ([], []), ([6, 7], [6, 7]), ([8], [8]), ([9], [9]), ([10, 5], [10]), ([5, 11], [5, 11])])
def laws_headed.B11 : List Nat := [0, 0, 3, 7, 15, 31, 0, 0, 192, 448, 960, 2047, 4095]
theorem laws_headed.tab11 : rtab .any (opsOf Try.f6 11) = laws_headed.T11 := by kernel_rfl
theorem laws_headed.bits11 : waitsOk laws_headed.T11.2 laws_headed.B11 = true := by kernel_rfl
set_option maxHeartbeats 8000000 in
set_option maxRecDepth 100000 in
theorem laws_headed.calls (k : Nat) (A0 : Option Addr) (c0 : Nat) (l0 : List (S34)) (r : Bool) (w : World) (hr0 : Kd.C k34 w A0 l0.length l0) (hc0 : l0.length ≤ c0) (h : laws_headed.f k l0 = some r) :
    Calls Try.prog 6 #[.slice A0 l0.length c0] w fun e w' => e = .returned (.bool r) ∧ Below w.heap.size w w' := by
  have HR0 := Aside0.mk hr0
  have HC0 := Aside0.mk hc0
  clear hr0 hc0
  have HB := Aside0.mk (Below.refl w.heap.size w)
  have H : (if (l0.length : Int) > 8 then (laws_headed.j0 k l0 true) else ((spec_Fine.f k l0).bind fun t118 => (laws_headed.j0 k l0 (!t118)))) = some r := h
  clear h
  have HC2 := Aside0.mk H
  clear H
  go_enter Try.func6, Try.ntmps6
  go_upto_region 1 with (fail)
  go_cut [12] (fun v12 wc => ∃ (kq : Nat) (x12_1 : Bool), v12 = .bool x12_1 ∧ Aside0 (laws_headed.j0 kq l0 x12_1 = some r) ∧ Aside0 (kq ≤ k) ∧ Aside0 (Below w.heap.size w wc))
  case first =>
    have H := HC2.out
    clear HC2
    by_cases c3 : (l0.length : Int) > 8
    · rw [if_pos c3] at H
      have c3b0 : decide (8 < (l0.length : Int)) = true := decide_eq_true c3
      have c3b1 : decide (8 < l0.length) = true := decide_eq_true (by omega)
      clear c3
      (first | rw [c3b0] | (simp only [i64_w, i32_w]; rw [c3b0]) | skip)
      have H' := Aside0.mk H
      clear H
      go_wp2
      go_meet
      case rel => exact ⟨_, (true), (by first | rfl | (simp; done) | (simp [*]; done)), H', ⟨by first | omega | exact Nat.le_refl _⟩, ⟨by repeat (first | (with_reducible first | exact HB.out | apply below_alloc | apply pw_below_drewN | apply below_drew1) | exact HB.out)⟩⟩
    · rw [if_neg c3] at H
      have c3b0 : decide (8 < (l0.length : Int)) = false := decide_eq_false c3
      have c3b1 : decide (8 < l0.length) = false := decide_eq_false (by omega)
      clear c3
      (first | rw [c3b0] | (simp only [i64_w, i32_w]; rw [c3b0]) | skip)
      replace H := Option.bind_eq_some_iff.mp H
      obtain ⟨t118, A40, H⟩ := H
      replace H : (laws_headed.j0 k l0 (!t118)) = some r := H
      have A4 := Aside0.mk A40
      clear A40
      have H' := Aside0.mk H
      clear H
      go_wp2_with (first | (go_at_call 18; (with_reducible refine (spec_Fine.calls k _ _ l0 t118 _ ?side1 ?side2 A4.out).mono ?_); (case side1 => repeat (first | exact (Kd.C_below HR0.out HB.out) | (with_reducible refine Kd.C_alloc ?_ _) | (with_reducible refine Kd.C_drewN ?_ _) | (with_reducible refine Kd.C_drew ?_))); (case side2 => exact HC0.out); rintro e w' ⟨rfl, ⟨nd, rfl⟩⟩))
      go_meet
      case rel => exact ⟨_, (!t118), (by first | rfl | (simp; done) | (simp [*]; done)), H', ⟨by first | omega | exact Nat.le_refl _⟩, ⟨by repeat (first | (with_reducible first | exact HB.out | apply below_alloc | apply pw_below_drewN | apply below_drew1) | exact HB.out)⟩⟩
  case rest =>
    clear HC2
    try clear p2
    try clear c3
    try clear c3b0
    try clear c3b1
    obtain ⟨kq, x12_1, rfl, HA, HJ1, HB⟩ := hcut
    cases kq with
    | zero => exact absurd HA.out (by simp [laws_headed.j0])
    | succ kj1 =>
      have H := HA.out
      clear HA
      simp only [laws_headed.j0] at H
      by_cases c5 : x12_1 = true
      · subst c5
        have H1 : (some false) = some r := by rw [if_pos rfl] at H; exact H
        clear H
        have H := H1
        clear H1
        obtain rfl := Option.some.inj H
        go_wp2
        go_ret
        exact ⟨by first | rfl | (simp [errW_none, errW_some] <;> rfl) | (simp [*, errW_none, errW_some] <;> rfl), by repeat (first | (with_reducible first | exact HB.out | apply below_alloc | apply pw_below_drewN | apply below_drew1) | exact HB.out)⟩
      · replace c5 := Bool.eq_false_iff.mpr c5
        subst c5
        have H1 : (laws_headed.l0 kj1 l0 0) = some r := by rw [if_neg (show ¬ (false = true) by decide)] at H; exact H
        clear H
        have H := H1
        clear H1
        have H' := Aside0.mk H
        clear H
        go_wp2
        go_loopg [3] kj1 (fun kq v3 w' => ∃ (x3_2 : Int), v3 = .int .i64 x3_2 ∧ Aside0 (laws_headed.l0 kq l0 x3_2 = some r) ∧ Aside0 (kq ≤ kj1) ∧ Aside0 (Below w.heap.size w w'))
        case atStart => exact ⟨(0), (by first | rfl | (simp; done) | (simp [*]; done)), H', ⟨Nat.le_refl _⟩, ⟨by repeat (first | (with_reducible first | exact HB.out | apply below_alloc | apply pw_below_drewN | apply below_drew1) | exact HB.out)⟩⟩
        case round =>
          clear H'
          try clear p2
          try clear c3
          try clear c3b0
          try clear c3b1
          try clear c5
          try clear p2
          obtain ⟨x3_2, rfl, HA, HK2, HB⟩ := hrel
          cases gk with
          | zero => exact absurd HA.out (by simp [laws_headed.l0])
          | succ k2 =>
            have H := HA.out
            clear HA
            simp only [laws_headed.l0] at H
            by_cases c6 : x3_2 < (l0.length : Int)
            · rw [if_pos c6] at H
              have c6b0 : decide (x3_2 < (l0.length : Int)) = true := decide_eq_true c6
              clear c6
              have HC7 := Aside0.mk H
              clear H
              go_upto_region 6 with (fail)
              go_cut [34] (fun v34 wc => ∃ (kq : Nat) (x34_6 : Bool), v34 = .bool x34_6 ∧ Aside0 (laws_headed.j2 kq l0 x3_2 x34_6 = some r) ∧ Aside0 (kq ≤ k2) ∧ Aside0 (Below w.heap.size w wc))
              case first =>
                have H := HC7.out
                clear HC7
                by_cases c8 : 0 ≤ x3_2
                · rw [if_pos c8] at H
                  have c8b0 : decide (0 ≤ x3_2) = true := decide_eq_true c8
                  clear c8
                  (first | rw [c8b0] | (simp only [i64_w, i32_w]; rw [c8b0]) | skip)
                  by_cases c9 : (((rd_T34 l0 x3_2).f0).size : Int) > 40
                  · rw [if_pos c9] at H
                    have c9b0 : decide (40 < (((rd_T34 l0 x3_2).f0).size : Int)) = true := decide_eq_true c9
                    have c9b1 : decide (40 < ((rd_T34 l0 x3_2).f0).size) = true := decide_eq_true (by omega)
                    clear c9
                    have H' := Aside0.mk H
                    clear H
                    have p119 : 0 ≤ (x3_2 : Int) := of_decide_eq_true (by first | (with_reducible assumption) | assumption)
                    have q119 : x3_2 < (l0.length : Int) := of_decide_eq_true (by first | (with_reducible assumption) | assumption)
                    obtain ⟨ad119, e119, hx119_0, hx119_1⟩ := at_T34 HR0.out x3_2 p119 q119
                    cases e119
                    replace hx119_0 := (HB.out.cell (World.block_lt_of_cell? w _ hx119_0)).trans hx119_0
                    replace hx119_1 := (HB.out.cell (World.block_lt_of_cell? w _ hx119_1)).trans hx119_1
                    replace p119 := eq_true p119
                    replace q119 := eq_true q119
                    go_wp2
                    go_meet
                    case rel => exact ⟨_, (true), (by first | rfl | (simp; done) | (simp [*]; done)), H', ⟨by have := HJ1.out; have := HK2.out; first | omega | exact Nat.le_refl _⟩, ⟨by repeat (first | (with_reducible first | exact HB.out | apply below_alloc | apply pw_below_drewN | apply below_drew1) | exact HB.out)⟩⟩
                  · rw [if_neg c9] at H
                    have c9b0 : decide (40 < (((rd_T34 l0 x3_2).f0).size : Int)) = false := decide_eq_false c9
                    have c9b1 : decide (40 < ((rd_T34 l0 x3_2).f0).size) = false := decide_eq_false (by omega)
                    clear c9
                    have H' := Aside0.mk H
                    clear H
                    have p119 : 0 ≤ (x3_2 : Int) := of_decide_eq_true (by first | (with_reducible assumption) | assumption)
                    have q119 : x3_2 < (l0.length : Int) := of_decide_eq_true (by first | (with_reducible assumption) | assumption)
                    obtain ⟨ad119, e119, hx119_0, hx119_1⟩ := at_T34 HR0.out x3_2 p119 q119
                    cases e119
                    replace hx119_0 := (HB.out.cell (World.block_lt_of_cell? w _ hx119_0)).trans hx119_0
                    replace hx119_1 := (HB.out.cell (World.block_lt_of_cell? w _ hx119_1)).trans hx119_1
                    replace p119 := eq_true p119
                    replace q119 := eq_true q119
                    have p120 : 0 ≤ (x3_2 : Int) := of_decide_eq_true (by first | (with_reducible assumption) | assumption)
                    have q120 : x3_2 < (l0.length : Int) := of_decide_eq_true (by first | (with_reducible assumption) | assumption)
                    obtain ⟨ad120, e120, hx120_0, hx120_1⟩ := at_T34 HR0.out x3_2 p120 q120
                    obtain rfl : ad119 = ad120 := (by injection e120)
                    replace hx120_0 := (HB.out.cell (World.block_lt_of_cell? w _ hx120_0)).trans hx120_0
                    replace hx120_1 := (HB.out.cell (World.block_lt_of_cell? w _ hx120_1)).trans hx120_1
                    replace p120 := eq_true p120
                    replace q120 := eq_true q120
                    go_wp2
                    go_meet
                    case rel => exact ⟨_, (decide ((((rd_T34 l0 x3_2).f1).size : Int) > 60)), (by first | rfl | (simp; done) | (simp [*]; done)), H', ⟨by have := HJ1.out; have := HK2.out; first | omega | exact Nat.le_refl _⟩, ⟨by repeat (first | (with_reducible first | exact HB.out | apply below_alloc | apply pw_below_drewN | apply below_drew1) | exact HB.out)⟩⟩
                · rw [if_neg c8] at H
                  exact absurd H (by simp)
              case rest =>
                clear HC7
                try clear p1
                try clear q1
                try clear hx1
                try clear p2
                try clear c3
                try clear c3b0
                try clear c3b1
                try clear c5
                try clear c6
                try clear c6b0
                try clear c8
                try clear c8b0
                try clear c9
                try clear c9b0
                try clear c9b1
                try clear hx119_0
                try clear hx119_1
                try clear hx120_0
                try clear hx120_1
                try clear p119
                try clear p120
                try clear p2
                try clear q119
                try clear q120
                obtain ⟨kq, x34_6, rfl, HA, HJ6, HB⟩ := hcut
                cases kq with
                | zero => exact absurd HA.out (by simp [laws_headed.j2])
                | succ kj6 =>
                  have H := HA.out
                  clear HA
                  simp only [laws_headed.j2] at H
                  by_cases c10 : x34_6 = true
                  · subst c10
                    have H1 : (some false) = some r := by rw [if_pos rfl] at H; exact H
                    clear H
                    have H := H1
                    clear H1
                    obtain rfl := Option.some.inj H
                    go_wp2
                    go_ret
                    exact ⟨by first | rfl | (simp [errW_none, errW_some] <;> rfl) | (simp [*, errW_none, errW_some] <;> rfl), by repeat (first | (with_reducible first | exact HB.out | apply below_alloc | apply pw_below_drewN | apply below_drew1) | exact HB.out)⟩
                  · replace c10 := Bool.eq_false_iff.mpr c10
                    subst c10
                    have H1 : (laws_headed.l1 kj6 l0 x3_2 0) = some r := by rw [if_neg (show ¬ (false = true) by decide)] at H; exact H
                    clear H
                    have H := H1
                    clear H1
                    have H' := Aside0.mk H
                    clear H
                    go_wp2
                    go_loopg [4] kj6 (fun kq v4 w' => ∃ (x4_4 : Int), v4 = .int .i64 x4_4 ∧ Aside0 (laws_headed.l1 kq l0 x3_2 x4_4 = some r) ∧ Aside0 (kq ≤ kj6) ∧ Aside0 (Below w.heap.size w w'))
                    case atStart => exact ⟨(0), (by first | rfl | (simp; done) | (simp [*]; done)), H', ⟨Nat.le_refl _⟩, ⟨by repeat (first | (with_reducible first | exact HB.out | apply below_alloc | apply pw_below_drewN | apply below_drew1) | exact HB.out)⟩⟩
                    case round =>
                      clear H'
                      try clear c1
                      try clear p1
                      try clear q1
                      try clear hx1
                      try clear p2
                      try clear c3
                      try clear c3b0
                      try clear c3b1
                      try clear c5
                      try clear c6
                      try clear c6b0
                      try clear c8
                      try clear c8b0
                      try clear c9
                      try clear c9b0
                      try clear c9b1
                      try clear c10
                      try clear hx119_0
                      try clear hx119_1
                      try clear hx120_0
                      try clear hx120_1
                      try clear p1
                      try clear p119
                      try clear p120
                      try clear p2
                      try clear q1
                      try clear q119
                      try clear q120
                      obtain ⟨x4_4, rfl, HA, HK4, HB⟩ := hrel
                      cases gk with
                      | zero => exact absurd HA.out (by simp [laws_headed.l1])
                      | succ k4 =>
                        have H := HA.out
                        clear HA
                        simp only [laws_headed.l1] at H
                        by_cases c11 : x4_4 < x3_2
                        · rw [if_pos c11] at H
                          have c11b0 : decide (x4_4 < x3_2) = true := decide_eq_true c11
                          clear c11
                          by_cases c12 : 0 ≤ x4_4
                          · rw [if_pos c12] at H
                            have c12b0 : decide (0 ≤ x4_4) = true := decide_eq_true c12
                            clear c12
                            by_cases c13 : x4_4 < (l0.length : Int)
                            · rw [if_pos c13] at H
                              have c13b0 : decide (x4_4 < (l0.length : Int)) = true := decide_eq_true c13
                              clear c13
                              replace H := Option.bind_eq_some_iff.mp H
                              obtain ⟨t122, A140, H⟩ := H
                              replace H : (if 0 ≤ x3_2 then (if x3_2 < (l0.length : Int) then ((laws_lower.f k4 ((rd_T34 l0 x3_2).f0)).bind fun t124 => (if t122.toList = t124.toList then (some false) else (laws_headed.l1 k4 l0 x3_2 (wrap64 (x4_4 + 1))))) else (none)) else (none)) = some r := H
                              have A14 := Aside0.mk A140
                              clear A140
                              by_cases c15 : 0 ≤ x3_2
                              · rw [if_pos c15] at H
                                have c15b0 : decide (0 ≤ x3_2) = true := decide_eq_true c15
                                clear c15
                                by_cases c16 : x3_2 < (l0.length : Int)
                                · rw [if_pos c16] at H
                                  have c16b0 : decide (x3_2 < (l0.length : Int)) = true := decide_eq_true c16
                                  clear c16
                                  replace H := Option.bind_eq_some_iff.mp H
                                  obtain ⟨t124, A170, H⟩ := H
                                  replace H : (if t122.toList = t124.toList then (some false) else (laws_headed.l1 k4 l0 x3_2 (wrap64 (x4_4 + 1)))) = some r := H
                                  have A17 := Aside0.mk A170
                                  clear A170
                                  by_cases c18 : t122.toList = t124.toList
                                  · rw [if_pos c18] at H
                                    have c18b0 : (t122.toList == t124.toList) = true := beq_iff_eq.mpr c18
                                    have c18b1 : (t122.toList != t124.toList) = false := bne_eq_false_iff_eq.mpr c18
                                    clear c18
                                    obtain rfl := Option.some.inj H
                                    try go_wp2
                                    have n0_ := Aside0.mk (below_drew1 HB.out)
                                    clear HB
                                    have HB := n0_
                                    clear n0_
                                    have p121 : 0 ≤ (x4_4 : Int) := of_decide_eq_true (by first | (with_reducible assumption) | assumption)
                                    have q121 : x4_4 < (l0.length : Int) := of_decide_eq_true (by first | (with_reducible assumption) | assumption)
                                    obtain ⟨ad121, e121, hx121_0, hx121_1⟩ := at_T34 HR0.out x4_4 p121 q121
                                    have hw121_1 := hx121_1
                                    have hw121_0 := hx121_0
                                    cases e121
                                    replace hx121_0 := (HB.out.cell (World.block_lt_of_cell? w _ hx121_0)).trans hx121_0
                                    replace hx121_1 := (HB.out.cell (World.block_lt_of_cell? w _ hx121_1)).trans hx121_1
                                    replace p121 := eq_true p121
                                    replace q121 := eq_true q121
                                    have p123 : 0 ≤ (x3_2 : Int) := of_decide_eq_true (by first | (with_reducible assumption) | assumption)
                                    have q123 : x3_2 < (l0.length : Int) := of_decide_eq_true (by first | (with_reducible assumption) | assumption)
                                    obtain ⟨ad123, e123, hx123_0, hx123_1⟩ := at_T34 HR0.out x3_2 p123 q123
                                    have hw123_1 := hx123_1
                                    have hw123_0 := hx123_0
                                    obtain rfl : ad121 = ad123 := (by injection e123)
                                    replace hx123_0 := (HB.out.cell (World.block_lt_of_cell? w _ hx123_0)).trans hx123_0
                                    replace hx123_1 := (HB.out.cell (World.block_lt_of_cell? w _ hx123_1)).trans hx123_1
                                    replace p123 := eq_true p123
                                    replace q123 := eq_true q123
                                    refine start_ (n := 13) (S := fun w' => w'.cell? (ad121.add ((x4_4).toNat * 2)) = some (.string ((rd_T34 l0 x4_4).f0)) ∧ w'.cell? ⟨(ad121.add ((x4_4).toNat * 2)).block, (ad121.add ((x4_4).toNat * 2)).off + 1, none⟩ = some (.string ((rd_T34 l0 x4_4).f1)) ∧ w'.cell? (ad121.add ((x3_2).toNat * 2)) = some (.string ((rd_T34 l0 x3_2).f0)) ∧ w'.cell? ⟨(ad121.add ((x3_2).toNat * 2)).block, (ad121.add ((x3_2).toNat * 2)).off + 1, none⟩ = some (.string ((rd_T34 l0 x3_2).f1))) (ds := []) #[false, false, false, false, false, false, false, false, false, false, false, false, false] (by kernel_rfl) rfl rfl ⟨((HB.out.cell (World.block_lt_of_cell? w _ hw121_0)).trans hw121_0), ((HB.out.cell (World.block_lt_of_cell? w _ hw121_1)).trans hw121_1), ((HB.out.cell (World.block_lt_of_cell? w _ hw123_0)).trans hw123_0), ((HB.out.cell (World.block_lt_of_cell? w _ hw123_1)).trans hw123_1)⟩ (fun hHeld => ?_); refine with_tabW laws_headed.tab11 laws_headed.bits11 (fun HT_ HW_ => ?_)
                                    generalize wr.drew = w19 at HB hx121_0 hx121_1 hx123_0 hx123_1 hHeld ⊢
                                    refine pure_ (i := 0) (N := some 40) (v := ?_) (a' := ?_) #[true, false, false, false, false, false, false, false, false, false, false, false, false] rfl rfl (any_of HT_.out (by kernel_rfl)) (fun _ _ _ h => h) (Or.inl ⟨by rfl, ?_⟩) ?_ ?_
                                    rotate_left
                                    · intro w'
                                      go_simp
                                      with_reducible rfl
                                    rotate_left
                                    · simp only [Act.put, List.setIfInBounds_toArray, List.set_cons_zero, List.set_cons_succ, i64_w, i32_w]
                                      rfl
                                    refine pure_ (i := 1) (N := some 41) (v := ?_) (a' := ?_) #[true, true, false, false, false, false, false, false, false, false, false, false, false] rfl rfl (any_of HT_.out (by kernel_rfl)) (fun _ _ _ h => h) (Or.inl ⟨by rfl, ?_⟩) ?_ ?_
                                    rotate_left
                                    · intro w'
                                      go_simp
                                      with_reducible rfl
                                    rotate_left
                                    · simp only [Act.put, List.setIfInBounds_toArray, List.set_cons_zero, List.set_cons_succ, i64_w, i32_w]
                                      rfl
                                    refine pure_ (i := 2) (N := some 42) (v := ?_) (a' := ?_) #[true, true, true, false, false, false, false, false, false, false, false, false, false] rfl rfl (any_of HT_.out (by kernel_rfl)) (fun _ _ _ h => h) (Or.inl ⟨by rfl, ?_⟩) ?_ ?_
                                    rotate_left
                                    · intro w'
                                      go_simp
                                      with_reducible rfl
                                    rotate_left
                                    · simp only [Act.put, List.setIfInBounds_toArray, List.set_cons_zero, List.set_cons_succ, i64_w, i32_w]
                                      rfl
                                    refine pure_ (i := 3) (N := some 43) (v := ?_) (a' := ?_) #[true, true, true, true, false, false, false, false, false, false, false, false, false] rfl rfl (any_of HT_.out (by kernel_rfl)) (fun _ _ _ h => h) (Or.inl ⟨by rfl, ?_⟩) ?_ ?_
                                    rotate_left
                                    · intro w'
                                      go_simp
                                      with_reducible rfl
                                    rotate_left
                                    · simp only [Act.put, List.setIfInBounds_toArray, List.set_cons_zero, List.set_cons_succ, i64_w, i32_w]
                                      rfl
                                    refine pure_ (i := 6) (N := some 46) (v := ?_) (a' := ?_) #[true, true, true, true, false, false, true, false, false, false, false, false, false] rfl rfl (any_of HT_.out (by kernel_rfl)) (fun _ _ _ h => h) (Or.inl ⟨by rfl, ?_⟩) ?_ ?_
                                    rotate_left
                                    · intro w'
                                      go_simp
                                      with_reducible rfl
                                    rotate_left
                                    · simp only [Act.put, List.setIfInBounds_toArray, List.set_cons_zero, List.set_cons_succ, i64_w, i32_w]
                                      rfl
                                    refine pure_ (i := 7) (N := some 47) (v := ?_) (a' := ?_) #[true, true, true, true, false, false, true, true, false, false, false, false, false] rfl rfl (any_of HT_.out (by kernel_rfl)) (fun _ _ _ h => h) (Or.inl ⟨by rfl, ?_⟩) ?_ ?_
                                    rotate_left
                                    · intro w'
                                      go_simp
                                      with_reducible rfl
                                    rotate_left
                                    · simp only [Act.put, List.setIfInBounds_toArray, List.set_cons_zero, List.set_cons_succ, i64_w, i32_w]
                                      rfl
                                    refine pure_ (i := 8) (N := some 48) (v := ?_) (a' := ?_) #[true, true, true, true, false, false, true, true, true, false, false, false, false] rfl rfl (any_of HT_.out (by kernel_rfl)) (fun _ _ _ h => h) (Or.inl ⟨by rfl, ?_⟩) ?_ ?_
                                    rotate_left
                                    · intro w'
                                      go_simp
                                      with_reducible rfl
                                    rotate_left
                                    · simp only [Act.put, List.setIfInBounds_toArray, List.set_cons_zero, List.set_cons_succ, i64_w, i32_w]
                                      rfl
                                    refine pure_ (i := 9) (N := some 49) (v := ?_) (a' := ?_) #[true, true, true, true, false, false, true, true, true, true, false, false, false] rfl rfl (any_of HT_.out (by kernel_rfl)) (fun _ _ _ h => h) (Or.inl ⟨by rfl, ?_⟩) ?_ ?_
                                    rotate_left
                                    · intro w'
                                      go_simp
                                      with_reducible rfl
                                    rotate_left
                                    · simp only [Act.put, List.setIfInBounds_toArray, List.set_cons_zero, List.set_cons_succ, i64_w, i32_w]
                                      rfl
                                    refine take_ (i := 4) (N := some 44) (v := ?_) (a' := ?_) #[true, true, true, true, true, false, true, true, true, true, false, false, false] rfl rfl (take_ofW HT_.out HW_.out (by kernel_rfl)) (fun _ _ _ h => h) (Or.inl ⟨by rfl, ?_⟩) hHeld ?_ ?_
                                    rotate_left
                                    · rintro w' ⟨s0, s1, s2, s3⟩
                                      go_simp
                                      with_reducible rfl
                                    rotate_left
                                    · simp only [Act.put, List.setIfInBounds_toArray, List.set_cons_zero, List.set_cons_succ, i64_w, i32_w]
                                      rfl
                                    refine take_ (i := 10) (N := some 50) (v := ?_) (a' := ?_) #[true, true, true, true, true, false, true, true, true, true, true, false, false] rfl rfl (take_ofW HT_.out HW_.out (by kernel_rfl)) (fun _ _ _ h => h) (Or.inl ⟨by rfl, ?_⟩) hHeld ?_ ?_
                                    rotate_left
                                    · rintro w' ⟨s0, s1, s2, s3⟩
                                      go_simp
                                      with_reducible rfl
                                    rotate_left
                                    · simp only [Act.put, List.setIfInBounds_toArray, List.set_cons_zero, List.set_cons_succ, i64_w, i32_w]
                                      rfl
                                    refine one_ (i := 5) (N := some 45) #[true, true, true, true, true, true, true, true, true, true, true, false, false] rfl rfl (one_of HT_.out (by kernel_rfl)) (by decide) (fun K hK => ?_)
                                    refine goes_ Try.func13 (by kernel_rfl) rfl #[.string ((rd_T34 l0 x4_4).f0)] (by rfl) rfl rfl (by (try simp only [List.map_toArray, List.map_cons, List.map_nil]); first | done | rfl | (simp only [List.length_drop, List.length_take]; rfl)) ?_
                                    with_reducible refine (laws_lower.calls k4 ((rd_T34 l0 x4_4).f0) t122 _ A14.out).mono ?_
                                    rintro e w20 ⟨rfl, hb⟩
                                    refine ⟨_, rfl, ?_⟩
                                    have n0_ := Aside0.mk (below_step (by repeat (first | (with_reducible first | exact HB.out | apply below_alloc | apply pw_below_drewN | apply below_drew1) | exact HB.out)) hb)
                                    clear HB
                                    have HB := n0_
                                    clear n0_
                                    (try clear hb)
                                    (try clear hb2)
                                    (try clear hk)
                                    (try clear hi)
                                    refine hK.out _ _ ⟨((HB.out.cell (World.block_lt_of_cell? w _ hw121_0)).trans hw121_0), ((HB.out.cell (World.block_lt_of_cell? w _ hw121_1)).trans hw121_1), ((HB.out.cell (World.block_lt_of_cell? w _ hw123_0)).trans hw123_0), ((HB.out.cell (World.block_lt_of_cell? w _ hw123_1)).trans hw123_1)⟩ (fun hHeld => ?_)
                                    clear hK K
                                    refine norm_ (a' := ?_) ?_ ?_
                                    rotate_left
                                    · show Act.put _ (some 45) _ = _
                                      simp only [Act.put, List.setIfInBounds_toArray, List.set_cons_zero, List.set_cons_succ, i64_w, i32_w]
                                      rfl
                                    refine one_ (i := 11) (N := some 51) #[true, true, true, true, true, true, true, true, true, true, true, true, false] rfl rfl (one_of HT_.out (by kernel_rfl)) (by decide) (fun K hK => ?_)
                                    refine goes_ Try.func13 (by kernel_rfl) rfl #[.string ((rd_T34 l0 x3_2).f0)] (by rfl) rfl rfl (by (try simp only [List.map_toArray, List.map_cons, List.map_nil]); first | done | rfl | (simp only [List.length_drop, List.length_take]; rfl)) ?_
                                    with_reducible refine (laws_lower.calls k4 ((rd_T34 l0 x3_2).f0) t124 _ A17.out).mono ?_
                                    rintro e w21 ⟨rfl, hb⟩
                                    refine ⟨_, rfl, ?_⟩
                                    have n0_ := Aside0.mk (below_step (by repeat (first | (with_reducible first | exact HB.out | apply below_alloc | apply pw_below_drewN | apply below_drew1) | exact HB.out)) hb)
                                    clear HB
                                    have HB := n0_
                                    clear n0_
                                    (try clear hb)
                                    (try clear hb2)
                                    (try clear hk)
                                    (try clear hi)
                                    refine hK.out _ _ ⟨((HB.out.cell (World.block_lt_of_cell? w _ hw121_0)).trans hw121_0), ((HB.out.cell (World.block_lt_of_cell? w _ hw121_1)).trans hw121_1), ((HB.out.cell (World.block_lt_of_cell? w _ hw123_0)).trans hw123_0), ((HB.out.cell (World.block_lt_of_cell? w _ hw123_1)).trans hw123_1)⟩ (fun hHeld => ?_)
                                    clear hK K
                                    refine norm_ (a' := ?_) ?_ ?_
                                    rotate_left
                                    · show Act.put _ (some 51) _ = _
                                      simp only [Act.put, List.setIfInBounds_toArray, List.set_cons_zero, List.set_cons_succ, i64_w, i32_w]
                                      rfl
                                    refine pure_ (i := 12) (N := some 52) (v := ?_) (a' := ?_) #[true, true, true, true, true, true, true, true, true, true, true, true, true] rfl rfl (any_of HT_.out (by kernel_rfl)) (fun _ _ _ h => h) (Or.inl ⟨by rfl, ?_⟩) ?_ ?_
                                    rotate_left
                                    · intro w'
                                      go_simp
                                      with_reducible rfl
                                    rotate_left
                                    · simp only [Act.put, List.setIfInBounds_toArray, List.set_cons_zero, List.set_cons_succ, i64_w, i32_w]
                                      rfl
                                    refine done_ (done_of HT_.out (by kernel_rfl)) ?_
                                    try go_wp2
                                    go_ret
                                    exact ⟨by first | rfl | (simp [errW_none, errW_some] <;> rfl) | (simp [*, errW_none, errW_some] <;> rfl), by repeat (first | (with_reducible first | exact HB.out | apply below_alloc | apply pw_below_drewN | apply below_drew1) | exact HB.out)⟩
                                  · rw [if_neg c18] at H
                                    have c18b0 : (t122.toList == t124.toList) = false := beq_eq_false_iff_ne.mpr c18
                                    have c18b1 : (t122.toList != t124.toList) = true := bne_iff_ne.mpr c18
                                    have H' := Aside0.mk H
                                    clear H
                                    try go_wp2
                                    have n0_ := Aside0.mk (below_drew1 HB.out)
                                    clear HB
                                    have HB := n0_
                                    clear n0_
                                    have p121 : 0 ≤ (x4_4 : Int) := of_decide_eq_true (by first | (with_reducible assumption) | assumption)
                                    have q121 : x4_4 < (l0.length : Int) := of_decide_eq_true (by first | (with_reducible assumption) | assumption)
                                    obtain ⟨ad121, e121, hx121_0, hx121_1⟩ := at_T34 HR0.out x4_4 p121 q121
                                    have hw121_1 := hx121_1
                                    have hw121_0 := hx121_0
                                    cases e121
                                    replace hx121_0 := (HB.out.cell (World.block_lt_of_cell? w _ hx121_0)).trans hx121_0
                                    replace hx121_1 := (HB.out.cell (World.block_lt_of_cell? w _ hx121_1)).trans hx121_1
                                    replace p121 := eq_true p121
                                    replace q121 := eq_true q121
                                    have p123 : 0 ≤ (x3_2 : Int) := of_decide_eq_true (by first | (with_reducible assumption) | assumption)
                                    have q123 : x3_2 < (l0.length : Int) := of_decide_eq_true (by first | (with_reducible assumption) | assumption)
                                    obtain ⟨ad123, e123, hx123_0, hx123_1⟩ := at_T34 HR0.out x3_2 p123 q123
                                    have hw123_1 := hx123_1
                                    have hw123_0 := hx123_0
                                    obtain rfl : ad121 = ad123 := (by injection e123)
                                    replace hx123_0 := (HB.out.cell (World.block_lt_of_cell? w _ hx123_0)).trans hx123_0
                                    replace hx123_1 := (HB.out.cell (World.block_lt_of_cell? w _ hx123_1)).trans hx123_1
                                    replace p123 := eq_true p123
                                    replace q123 := eq_true q123
                                    refine start_ (n := 13) (S := fun w' => w'.cell? (ad121.add ((x4_4).toNat * 2)) = some (.string ((rd_T34 l0 x4_4).f0)) ∧ w'.cell? ⟨(ad121.add ((x4_4).toNat * 2)).block, (ad121.add ((x4_4).toNat * 2)).off + 1, none⟩ = some (.string ((rd_T34 l0 x4_4).f1)) ∧ w'.cell? (ad121.add ((x3_2).toNat * 2)) = some (.string ((rd_T34 l0 x3_2).f0)) ∧ w'.cell? ⟨(ad121.add ((x3_2).toNat * 2)).block, (ad121.add ((x3_2).toNat * 2)).off + 1, none⟩ = some (.string ((rd_T34 l0 x3_2).f1))) (ds := []) #[false, false, false, false, false, false, false, false, false, false, false, false, false] (by kernel_rfl) rfl rfl ⟨((HB.out.cell (World.block_lt_of_cell? w _ hw121_0)).trans hw121_0), ((HB.out.cell (World.block_lt_of_cell? w _ hw121_1)).trans hw121_1), ((HB.out.cell (World.block_lt_of_cell? w _ hw123_0)).trans hw123_0), ((HB.out.cell (World.block_lt_of_cell? w _ hw123_1)).trans hw123_1)⟩ (fun hHeld => ?_); refine with_tabW laws_headed.tab11 laws_headed.bits11 (fun HT_ HW_ => ?_)
                                    generalize wr.drew = w22 at HB hx121_0 hx121_1 hx123_0 hx123_1 hHeld ⊢
                                    refine pure_ (i := 0) (N := some 40) (v := ?_) (a' := ?_) #[true, false, false, false, false, false, false, false, false, false, false, false, false] rfl rfl (any_of HT_.out (by kernel_rfl)) (fun _ _ _ h => h) (Or.inl ⟨by rfl, ?_⟩) ?_ ?_
                                    rotate_left
                                    · intro w'
                                      go_simp
                                      with_reducible rfl
                                    rotate_left
                                    · simp only [Act.put, List.setIfInBounds_toArray, List.set_cons_zero, List.set_cons_succ, i64_w, i32_w]
                                      rfl
                                    refine pure_ (i := 1) (N := some 41) (v := ?_) (a' := ?_) #[true, true, false, false, false, false, false, false, false, false, false, false, false] rfl rfl (any_of HT_.out (by kernel_rfl)) (fun _ _ _ h => h) (Or.inl ⟨by rfl, ?_⟩) ?_ ?_
                                    rotate_left
                                    · intro w'
                                      go_simp
                                      with_reducible rfl
                                    rotate_left
                                    · simp only [Act.put, List.setIfInBounds_toArray, List.set_cons_zero, List.set_cons_succ, i64_w, i32_w]
                                      rfl
                                    refine pure_ (i := 2) (N := some 42) (v := ?_) (a' := ?_) #[true, true, true, false, false, false, false, false, false, false, false, false, false] rfl rfl (any_of HT_.out (by kernel_rfl)) (fun _ _ _ h => h) (Or.inl ⟨by rfl, ?_⟩) ?_ ?_
                                    rotate_left
                                    · intro w'
                                      go_simp
                                      with_reducible rfl
                                    rotate_left
                                    · simp only [Act.put, List.setIfInBounds_toArray, List.set_cons_zero, List.set_cons_succ, i64_w, i32_w]
                                      rfl
                                    refine pure_ (i := 3) (N := some 43) (v := ?_) (a' := ?_) #[true, true, true, true, false, false, false, false, false, false, false, false, false] rfl rfl (any_of HT_.out (by kernel_rfl)) (fun _ _ _ h => h) (Or.inl ⟨by rfl, ?_⟩) ?_ ?_
                                    rotate_left
                                    · intro w'
                                      go_simp
                                      with_reducible rfl
                                    rotate_left
                                    · simp only [Act.put, List.setIfInBounds_toArray, List.set_cons_zero, List.set_cons_succ, i64_w, i32_w]
                                      rfl
                                    refine pure_ (i := 6) (N := some 46) (v := ?_) (a' := ?_) #[true, true, true, true, false, false, true, false, false, false, false, false, false] rfl rfl (any_of HT_.out (by kernel_rfl)) (fun _ _ _ h => h) (Or.inl ⟨by rfl, ?_⟩) ?_ ?_
                                    rotate_left
                                    · intro w'
                                      go_simp
                                      with_reducible rfl
                                    rotate_left
                                    · simp only [Act.put, List.setIfInBounds_toArray, List.set_cons_zero, List.set_cons_succ, i64_w, i32_w]
                                      rfl
                                    refine pure_ (i := 7) (N := some 47) (v := ?_) (a' := ?_) #[true, true, true, true, false, false, true, true, false, false, false, false, false] rfl rfl (any_of HT_.out (by kernel_rfl)) (fun _ _ _ h => h) (Or.inl ⟨by rfl, ?_⟩) ?_ ?_
                                    rotate_left
                                    · intro w'
                                      go_simp
                                      with_reducible rfl
                                    rotate_left
                                    · simp only [Act.put, List.setIfInBounds_toArray, List.set_cons_zero, List.set_cons_succ, i64_w, i32_w]
                                      rfl
                                    refine pure_ (i := 8) (N := some 48) (v := ?_) (a' := ?_) #[true, true, true, true, false, false, true, true, true, false, false, false, false] rfl rfl (any_of HT_.out (by kernel_rfl)) (fun _ _ _ h => h) (Or.inl ⟨by rfl, ?_⟩) ?_ ?_
                                    rotate_left
                                    · intro w'
                                      go_simp
                                      with_reducible rfl
                                    rotate_left
                                    · simp only [Act.put, List.setIfInBounds_toArray, List.set_cons_zero, List.set_cons_succ, i64_w, i32_w]
                                      rfl
                                    refine pure_ (i := 9) (N := some 49) (v := ?_) (a' := ?_) #[true, true, true, true, false, false, true, true, true, true, false, false, false] rfl rfl (any_of HT_.out (by kernel_rfl)) (fun _ _ _ h => h) (Or.inl ⟨by rfl, ?_⟩) ?_ ?_
                                    rotate_left
                                    · intro w'
                                      go_simp
                                      with_reducible rfl
                                    rotate_left
                                    · simp only [Act.put, List.setIfInBounds_toArray, List.set_cons_zero, List.set_cons_succ, i64_w, i32_w]
                                      rfl
                                    refine take_ (i := 4) (N := some 44) (v := ?_) (a' := ?_) #[true, true, true, true, true, false, true, true, true, true, false, false, false] rfl rfl (take_ofW HT_.out HW_.out (by kernel_rfl)) (fun _ _ _ h => h) (Or.inl ⟨by rfl, ?_⟩) hHeld ?_ ?_
                                    rotate_left
                                    · rintro w' ⟨s0, s1, s2, s3⟩
                                      go_simp
                                      with_reducible rfl
                                    rotate_left
                                    · simp only [Act.put, List.setIfInBounds_toArray, List.set_cons_zero, List.set_cons_succ, i64_w, i32_w]
                                      rfl
                                    refine take_ (i := 10) (N := some 50) (v := ?_) (a' := ?_) #[true, true, true, true, true, false, true, true, true, true, true, false, false] rfl rfl (take_ofW HT_.out HW_.out (by kernel_rfl)) (fun _ _ _ h => h) (Or.inl ⟨by rfl, ?_⟩) hHeld ?_ ?_
                                    rotate_left
                                    · rintro w' ⟨s0, s1, s2, s3⟩
                                      go_simp
                                      with_reducible rfl
                                    rotate_left
                                    · simp only [Act.put, List.setIfInBounds_toArray, List.set_cons_zero, List.set_cons_succ, i64_w, i32_w]
                                      rfl
                                    refine one_ (i := 5) (N := some 45) #[true, true, true, true, true, true, true, true, true, true, true, false, false] rfl rfl (one_of HT_.out (by kernel_rfl)) (by decide) (fun K hK => ?_)
                                    refine goes_ Try.func13 (by kernel_rfl) rfl #[.string ((rd_T34 l0 x4_4).f0)] (by rfl) rfl rfl (by (try simp only [List.map_toArray, List.map_cons, List.map_nil]); first | done | rfl | (simp only [List.length_drop, List.length_take]; rfl)) ?_
                                    with_reducible refine (laws_lower.calls k4 ((rd_T34 l0 x4_4).f0) t122 _ A14.out).mono ?_
                                    rintro e w23 ⟨rfl, hb⟩
                                    refine ⟨_, rfl, ?_⟩
                                    have n0_ := Aside0.mk (below_step (by repeat (first | (with_reducible first | exact HB.out | apply below_alloc | apply pw_below_drewN | apply below_drew1) | exact HB.out)) hb)
                                    clear HB
                                    have HB := n0_
                                    clear n0_
                                    (try clear hb)
                                    (try clear hb2)
                                    (try clear hk)
                                    (try clear hi)
                                    refine hK.out _ _ ⟨((HB.out.cell (World.block_lt_of_cell? w _ hw121_0)).trans hw121_0), ((HB.out.cell (World.block_lt_of_cell? w _ hw121_1)).trans hw121_1), ((HB.out.cell (World.block_lt_of_cell? w _ hw123_0)).trans hw123_0), ((HB.out.cell (World.block_lt_of_cell? w _ hw123_1)).trans hw123_1)⟩ (fun hHeld => ?_)
                                    clear hK K
                                    refine norm_ (a' := ?_) ?_ ?_
                                    rotate_left
                                    · show Act.put _ (some 45) _ = _
                                      simp only [Act.put, List.setIfInBounds_toArray, List.set_cons_zero, List.set_cons_succ, i64_w, i32_w]
                                      rfl
                                    refine one_ (i := 11) (N := some 51) #[true, true, true, true, true, true, true, true, true, true, true, true, false] rfl rfl (one_of HT_.out (by kernel_rfl)) (by decide) (fun K hK => ?_)
                                    refine goes_ Try.func13 (by kernel_rfl) rfl #[.string ((rd_T34 l0 x3_2).f0)] (by rfl) rfl rfl (by (try simp only [List.map_toArray, List.map_cons, List.map_nil]); first | done | rfl | (simp only [List.length_drop, List.length_take]; rfl)) ?_
                                    with_reducible refine (laws_lower.calls k4 ((rd_T34 l0 x3_2).f0) t124 _ A17.out).mono ?_
                                    rintro e w24 ⟨rfl, hb⟩
                                    refine ⟨_, rfl, ?_⟩
                                    have n0_ := Aside0.mk (below_step (by repeat (first | (with_reducible first | exact HB.out | apply below_alloc | apply pw_below_drewN | apply below_drew1) | exact HB.out)) hb)
                                    clear HB
                                    have HB := n0_
                                    clear n0_
                                    (try clear hb)
                                    (try clear hb2)
                                    (try clear hk)
                                    (try clear hi)
                                    refine hK.out _ _ ⟨((HB.out.cell (World.block_lt_of_cell? w _ hw121_0)).trans hw121_0), ((HB.out.cell (World.block_lt_of_cell? w _ hw121_1)).trans hw121_1), ((HB.out.cell (World.block_lt_of_cell? w _ hw123_0)).trans hw123_0), ((HB.out.cell (World.block_lt_of_cell? w _ hw123_1)).trans hw123_1)⟩ (fun hHeld => ?_)
                                    clear hK K
                                    refine norm_ (a' := ?_) ?_ ?_
                                    rotate_left
                                    · show Act.put _ (some 51) _ = _
                                      simp only [Act.put, List.setIfInBounds_toArray, List.set_cons_zero, List.set_cons_succ, i64_w, i32_w]
                                      rfl
                                    refine pure_ (i := 12) (N := some 52) (v := ?_) (a' := ?_) #[true, true, true, true, true, true, true, true, true, true, true, true, true] rfl rfl (any_of HT_.out (by kernel_rfl)) (fun _ _ _ h => h) (Or.inl ⟨by rfl, ?_⟩) ?_ ?_
                                    rotate_left
                                    · intro w'
                                      go_simp
                                      with_reducible rfl
                                    rotate_left
                                    · simp only [Act.put, List.setIfInBounds_toArray, List.set_cons_zero, List.set_cons_succ, i64_w, i32_w]
                                      rfl
                                    refine done_ (done_of HT_.out (by kernel_rfl)) ?_
                                    try go_wp2
                                    go_roundg k4
                                    case measure => have := HJ1.out; have := HK2.out; have := HJ6.out; have := HK4.out; omega
                                    case rel => exact ⟨(wrap64 (x4_4 + 1)), (by first | rfl | (simp; done) | (simp [*]; done)), H', ⟨by have := HJ1.out; have := HK2.out; have := HJ6.out; have := HK4.out; omega⟩, ⟨by repeat (first | (with_reducible first | exact HB.out | apply below_alloc | apply pw_below_drewN | apply below_drew1) | exact HB.out)⟩⟩
                                · rw [if_neg c16] at H
                                  exact absurd H (by simp)
                              · rw [if_neg c15] at H
                                exact absurd H (by simp)
                            · rw [if_neg c13] at H
                              exact absurd H (by simp)
                          · rw [if_neg c12] at H
                            exact absurd H (by simp)
                        · rw [if_neg c11] at H
                          have c11b0 : decide (x4_4 < x3_2) = false := decide_eq_false c11
                          clear c11
                          have H' := Aside0.mk H
                          clear H
                          go_wp2
                          go_roundg k4
                          case measure => have := HJ1.out; have := HK2.out; have := HJ6.out; have := HK4.out; omega
                          case rel => exact ⟨(wrap64 (x3_2 + 1)), (by first | rfl | (simp; done) | (simp [*]; done)), H', ⟨by have := HJ1.out; have := HK2.out; have := HJ6.out; have := HK4.out; omega⟩, ⟨by repeat (first | (with_reducible first | exact HB.out | apply below_alloc | apply pw_below_drewN | apply below_drew1) | exact HB.out)⟩⟩
            · rw [if_neg c6] at H
              have c6b0 : decide (x3_2 < (l0.length : Int)) = false := decide_eq_false c6
              clear c6
              obtain rfl := Option.some.inj H
              go_wp2
              go_ret
              exact ⟨by first | rfl | (simp [errW_none, errW_some] <;> rfl) | (simp [*, errW_none, errW_some] <;> rfl), by repeat (first | (with_reducible first | exact HB.out | apply below_alloc | apply pw_below_drewN | apply below_drew1) | exact HB.out)⟩

/-! ### server_zzIndexBytes: function 28 -/
def server_zzIndexBytes.l0 : Nat → List Int → List Int → Int → Option (Int)
  | 0, _, _, _ => none
  | k + 1, x0, x1, x5 => if (wrap64 (x5 + (x1.length : Int))) ≤ (x0.length : Int) then (if 0 ≤ x5 then (if x5 ≤ (wrap64 (x5 + (x1.length : Int))) then (if (strOfNums ((x0.take ((wrap64 (x5 + (x1.length : Int))) : Int).toNat).drop (x5 : Int).toNat)).toList = (strOfNums x1).toList then (some x5) else (server_zzIndexBytes.l0 k x0 x1 (wrap64 (x5 + 1)))) else (none)) else (none)) else (some (-1))
def server_zzIndexBytes.f (k : Nat) (l0 : List Int) (l1 : List Int) : Option (Int) := server_zzIndexBytes.l0 k l0 l1 0
theorem server_zzIndexBytes.mono_l : ∀ k, (∀ y0 y1 y2, LeO (server_zzIndexBytes.l0 k y0 y1 y2) (server_zzIndexBytes.l0 (k + 1) y0 y1 y2))
  | 0 => fun _ _ _ r h => by simp [server_zzIndexBytes.l0] at h
  | k + 1 => by
    have ih0 := server_zzIndexBytes.mono_l k
    · intro y0 y1 y2
      unfold server_zzIndexBytes.l0
      repeat' first
      | (with_reducible exact ih0 _ _ _)
      | (with_reducible exact LeO.refl _)
      | (with_reducible exact LeO.none _)
      | (with_reducible refine LeO.ite ?_ ?_)
      | (with_reducible refine LeO.bind ?_ (fun _ => ?_))
      | exact ih0 _ _ _
      | exact LeO.none _
      | refine LeO.ite ?_ ?_
      | refine LeO.bind ?_ (fun _ => ?_)
theorem server_zzIndexBytes.mono : ∀ a0 a1 k, LeO (server_zzIndexBytes.f k a0 a1) (server_zzIndexBytes.f (k + 1) a0 a1) := by
  intro a0 a1 k
  have ih0 := server_zzIndexBytes.mono_l k
  unfold server_zzIndexBytes.f
  repeat' first
      | (with_reducible exact ih0 _ _ _)
      | (with_reducible exact LeO.refl _)
      | (with_reducible exact LeO.none _)
      | (with_reducible refine LeO.ite ?_ ?_)
      | (with_reducible refine LeO.bind ?_ (fun _ => ?_))
      | exact ih0 _ _ _
      | exact LeO.none _
      | refine LeO.ite ?_ ?_
      | refine LeO.bind ?_ (fun _ => ?_)
attribute [local go_sem] i64_w in
set_option maxHeartbeats 8000000 in
set_option maxRecDepth 100000 in
theorem server_zzIndexBytes.calls (k : Nat) (A0 : Option Addr) (c0 : Nat) (l0 : List Int) (A1 : Option Addr) (c1 : Nat) (l1 : List Int) (r : Int) (w : World) (hr0 : Kd.C (Kd.int .u8) w A0 l0.length l0) (hc0 : l0.length ≤ c0) (hr1 : Kd.C (Kd.int .u8) w A1 l1.length l1) (hc1 : l1.length ≤ c1) (h : server_zzIndexBytes.f k l0 l1 = some r) :
    Calls Try.prog 28 #[.slice A0 l0.length c0, .slice A1 l1.length c1] w fun e w' => e = .returned (.int .i64 r) ∧ Drawn0 w w' := by
  have HR0 := Aside0.mk hr0
  have HC0 := Aside0.mk hc0
  clear hr0 hc0
  have HR1 := Aside0.mk hr1
  have HC1 := Aside0.mk hc1
  clear hr1 hc1
  have H : (server_zzIndexBytes.l0 k l0 l1 0) = some r := h
  clear h
  have H' := Aside0.mk H
  clear H
  go_enter Try.func28, Try.ntmps28
  go_wp2
  repeat (go_quiet (fail); try go_wp2)
  go_loopg [5] k (fun kq v5 w' => ∃ (x5_1 : Int), v5 = .int .i64 x5_1 ∧ Aside0 (server_zzIndexBytes.l0 kq l0 l1 x5_1 = some r) ∧ Aside0 (kq ≤ k) ∧ Drawn0 w w')
  case atStart => exact ⟨(0), (by first | rfl | (simp; done) | (simp [*]; done)), H', ⟨Nat.le_refl _⟩, by repeat (first | exact Drawn0.refl _ | apply Drawn0.step)⟩
  case round =>
    clear H'
    try clear c1
    try clear c2
    try clear p2
    obtain ⟨x5_1, rfl, HA, HK1, ⟨m1, rfl⟩⟩ := hrel
    cases gk with
    | zero => exact absurd HA.out (by simp [server_zzIndexBytes.l0])
    | succ k1 =>
      have H := HA.out
      clear HA
      simp only [server_zzIndexBytes.l0] at H
      by_cases c3 : (wrap64 (x5_1 + (l1.length : Int))) ≤ (l0.length : Int)
      · rw [if_pos c3] at H
        have c3b0 : decide ((wrap64 (x5_1 + (l1.length : Int))) ≤ (l0.length : Int)) = true := decide_eq_true c3
        clear c3
        by_cases c4 : 0 ≤ x5_1
        · rw [if_pos c4] at H
          have c4b0 := eq_true c4
          have c4b1 : decide (0 ≤ x5_1) = true := decide_eq_true c4
          clear c4
          by_cases c5 : x5_1 ≤ (wrap64 (x5_1 + (l1.length : Int)))
          · rw [if_pos c5] at H
            have c5b0 := eq_true c5
            have c5b1 : decide (x5_1 ≤ (wrap64 (x5_1 + (l1.length : Int)))) = true := decide_eq_true c5
            have c6b0 := eq_true (of_decide_eq_true (by first | (with_reducible assumption) | assumption) : (wrap64 (x5_1 + (l1.length : Int))) ≤ (l0.length : Int))
            by_cases c7 : (strOfNums ((l0.take ((wrap64 (x5_1 + (l1.length : Int))) : Int).toNat).drop (x5_1 : Int).toNat)).toList = (strOfNums l1).toList
            · rw [if_pos c7] at H
              have c7b0 : ((strOfNums ((l0.take ((wrap64 (x5_1 + (l1.length : Int))) : Int).toNat).drop (x5_1 : Int).toNat)).toList == (strOfNums l1).toList) = true := beq_iff_eq.mpr c7
              have c7b1 : ((strOfNums ((l0.take ((wrap64 (x5_1 + (l1.length : Int))) : Int).toNat).drop (x5_1 : Int).toNat)).toList != (strOfNums l1).toList) = false := bne_eq_false_iff_eq.mpr c7
              clear c7
              obtain rfl := Option.some.inj H
              obtain ⟨i08, hi08, _, hsz8, _⟩ := info_parts info5
              obtain ⟨A8, hcut8, hA8, hC8⟩ := print_mid_of (P := Try.prog) (Value.int .u8) 0 28 5 .i64 .i64 Try.underlying28 hi08 hsz8 A0 c0 l0 x5_1 (wrap64 (x5_1 + (l1.length : Int))) (of_decide_eq_true (by first | (with_reducible assumption) | assumption)) (by first | omega | exact of_decide_eq_true (by first | (with_reducible assumption) | assumption)) (of_decide_eq_true (by first | (with_reducible assumption) | assumption)) HC0.out
              have HR125 := Aside0.mk (Kd.C_of_reads (h1 := fun _ => rfl) (hA8 _ (Kd.reads_of_C HR0.out)))
              have HC125 := Aside0.mk hC8
              clear hA8 hC8 hi08 hsz8
              have hcv9 := fun n : Nat => Kd.C_string (P := Try.prog) (w := w.drewN n) (A := A8) (c := (c0 - x5_1.toNat)) Try.underlying28 Try.underlying5 Try.underlying9 HR125.out
              have hcv9s := hcv9
              simp only [List.length_drop, List.length_take, Nat.min_eq_left (show ((wrap64 (x5_1 + (l1.length : Int))) : Int).toNat ≤ l0.length by first | omega | (have h_ := of_eq_true (by assumption : ((wrap64 (x5_1 + (l1.length : Int))) ≤ (l0.length : Int)) = True); omega))] at hcv9s
              have hcv10 := fun n : Nat => Kd.C_string (P := Try.prog) (w := w.drewN n) (A := A1) (c := c1) Try.underlying28 Try.underlying5 Try.underlying9 HR1.out
              go_wp2
              repeat (go_quiet (fail); try go_wp2)
              go_ret
              exact ⟨by first | rfl | (simp; done) | (simp [*]; done), by repeat (first | exact Drawn0.refl _ | apply Drawn0.step)⟩
            · rw [if_neg c7] at H
              have c7b0 : ((strOfNums ((l0.take ((wrap64 (x5_1 + (l1.length : Int))) : Int).toNat).drop (x5_1 : Int).toNat)).toList == (strOfNums l1).toList) = false := beq_eq_false_iff_ne.mpr c7
              have c7b1 : ((strOfNums ((l0.take ((wrap64 (x5_1 + (l1.length : Int))) : Int).toNat).drop (x5_1 : Int).toNat)).toList != (strOfNums l1).toList) = true := bne_iff_ne.mpr c7
              have H' := Aside0.mk H
              clear H
              obtain ⟨i011, hi011, _, hsz11, _⟩ := info_parts info5
              obtain ⟨A11, hcut11, hA11, hC11⟩ := print_mid_of (P := Try.prog) (Value.int .u8) 0 28 5 .i64 .i64 Try.underlying28 hi011 hsz11 A0 c0 l0 x5_1 (wrap64 (x5_1 + (l1.length : Int))) (of_decide_eq_true (by first | (with_reducible assumption) | assumption)) (by first | omega | exact of_decide_eq_true (by first | (with_reducible assumption) | assumption)) (of_decide_eq_true (by first | (with_reducible assumption) | assumption)) HC0.out
              have HR125 := Aside0.mk (Kd.C_of_reads (h1 := fun _ => rfl) (hA11 _ (Kd.reads_of_C HR0.out)))
              have HC125 := Aside0.mk hC11
              clear hA11 hC11 hi011 hsz11
              have hcv12 := fun n : Nat => Kd.C_string (P := Try.prog) (w := w.drewN n) (A := A11) (c := (c0 - x5_1.toNat)) Try.underlying28 Try.underlying5 Try.underlying9 HR125.out
              have hcv12s := hcv12
              simp only [List.length_drop, List.length_take, Nat.min_eq_left (show ((wrap64 (x5_1 + (l1.length : Int))) : Int).toNat ≤ l0.length by first | omega | (have h_ := of_eq_true (by assumption : ((wrap64 (x5_1 + (l1.length : Int))) ≤ (l0.length : Int)) = True); omega))] at hcv12s
              have hcv13 := fun n : Nat => Kd.C_string (P := Try.prog) (w := w.drewN n) (A := A1) (c := c1) Try.underlying28 Try.underlying5 Try.underlying9 HR1.out
              go_wp2
              repeat (go_quiet (fail); try go_wp2)
              go_roundg k1
              case measure => have := HK1.out; omega
              case rel => exact ⟨(wrap64 (x5_1 + 1)), (by first | rfl | (simp; done) | (simp [*]; done)), H', ⟨by have := HK1.out; omega⟩, by repeat (first | exact Drawn0.refl _ | apply Drawn0.step)⟩
          · rw [if_neg c5] at H
            exact absurd H (by simp)
        · rw [if_neg c4] at H
          exact absurd H (by simp)
      · rw [if_neg c3] at H
        have c3b0 : decide ((wrap64 (x5_1 + (l1.length : Int))) ≤ (l0.length : Int)) = false := decide_eq_false c3
        clear c3
        obtain rfl := Option.some.inj H
        go_wp2
        repeat (go_quiet (fail); try go_wp2)
        go_ret
        exact ⟨by first | rfl | (simp; done) | (simp [*]; done), by repeat (first | exact Drawn0.refl _ | apply Drawn0.step)⟩

end Go.Proofs.Ytnkioieocjgekaa.GFnHeaderRemovePrefix
