/- A walk of Go functions (plain functions of theirs, and that the machine's calls do what these say), written by a program of this session's. -/
import Derived.Test.YtnkioieocjgekaaGFnHeaderGetx0
import Derived.Test.YtnkioieocjgekaaGFnHeaderGetx1
import Derived.Test.YtnkioieocjgekaaGFnHeaderGetx3
namespace Go.Proofs.Ytnkioieocjgekaa.GFnHeaderGet
open Go.RowKit Go.Proofs.YtnkioieocjgekaaW.PrintWords Go.Proofs.YtnkioieocjgekaaW.PrintLast Go.Proofs.YtnkioieocjgekaaW.PrintMore
attribute [local go_sem] max2_int min2_int max_two min_two max_three min_three max_four min_four   -- for this text's walks alone
set_option linter.unusedVariables false
set_option linter.unusedSimpArgs false

/-! ### spec_Header: function 11 -/
def spec_Header.l0 : Nat → List (S34) → ByteArray → Int → Option (ByteArray)
  | 0, _, _, _ => none
  | k + 1, x0, x3, x4 => if x4 < (x0.length : Int) then (if 0 ≤ x4 then (if ((rd_T34 x0 x4).f0).size + 2 ≤ 9223372036854775807 then (if (((rd_T34 x0 x4).f0) ++ (⟨#[58, 32]⟩ : ByteArray)).size + ((rd_T34 x0 x4).f1).size ≤ 9223372036854775807 then (if ((((rd_T34 x0 x4).f0) ++ (⟨#[58, 32]⟩ : ByteArray)) ++ ((rd_T34 x0 x4).f1)).size + 2 ≤ 9223372036854775807 then (if x3.size + (((((rd_T34 x0 x4).f0) ++ (⟨#[58, 32]⟩ : ByteArray)) ++ ((rd_T34 x0 x4).f1)) ++ (⟨#[13, 10]⟩ : ByteArray)).size ≤ 9223372036854775807 then (spec_Header.l0 k x0 (x3 ++ (((((rd_T34 x0 x4).f0) ++ (⟨#[58, 32]⟩ : ByteArray)) ++ ((rd_T34 x0 x4).f1)) ++ (⟨#[13, 10]⟩ : ByteArray))) (wrap64 (x4 + 1))) else (none)) else (none)) else (none)) else (none)) else (none)) else (if x3.size + 2 ≤ 9223372036854775807 then (some (x3 ++ (⟨#[13, 10]⟩ : ByteArray))) else (none))
def spec_Header.f (k : Nat) (l0 : List (S34)) : Option (ByteArray) := spec_Header.l0 k l0 (⟨#[78, 65, 84, 83, 47, 49, 46, 48, 13, 10]⟩ : ByteArray) 0
theorem spec_Header.mono_l : ∀ k, (∀ y0 y1 y2, LeO (spec_Header.l0 k y0 y1 y2) (spec_Header.l0 (k + 1) y0 y1 y2))
  | 0 => fun _ _ _ r h => by simp [spec_Header.l0] at h
  | k + 1 => by
    have ih0 := spec_Header.mono_l k
    · intro y0 y1 y2
      unfold spec_Header.l0
      repeat' first
      | (with_reducible exact ih0 _ _ _)
      | (with_reducible exact LeO.refl _)
      | (with_reducible exact LeO.none _)
      | (with_reducible refine LeO.ite ?_ ?_)
      | (with_reducible refine LeO.bind ?_ (fun _ => ?_))
      | exact ih0 _ _ _
      | exact LeO.none _
      | refine LeO.ite ?_ ?_
      | refine LeO.bind ?_ (fun _ => ?_)
theorem spec_Header.mono : ∀ a0 k, LeO (spec_Header.f k a0) (spec_Header.f (k + 1) a0) := by
  intro a0 k
  have ih0 := spec_Header.mono_l k
  unfold spec_Header.f
  repeat' first
      | (with_reducible exact ih0 _ _ _)
      | (with_reducible exact LeO.refl _)
      | (with_reducible exact LeO.none _)
      | (with_reducible refine LeO.ite ?_ ?_)
      | (with_reducible refine LeO.bind ?_ (fun _ => ?_))
      | exact ih0 _ _ _
      | exact LeO.none _
      | refine LeO.ite ?_ ?_
      | refine LeO.bind ?_ (fun _ => ?_)
set_option maxHeartbeats 8000000 in
set_option maxRecDepth 100000 in
theorem spec_Header.calls (k : Nat) (A0 : Option Addr) (c0 : Nat) (l0 : List (S34)) (r : ByteArray) (w : World) (hr0 : Kd.C k34 w A0 l0.length l0) (hc0 : l0.length ≤ c0) (h : spec_Header.f k l0 = some r) :
    Calls Try.prog 11 #[.slice A0 l0.length c0] w fun e w' => e = .returned (.string r) ∧ Drawn0 w w' := by
  have HR0 := Aside0.mk hr0
  have HC0 := Aside0.mk hc0
  clear hr0 hc0
  have H : (spec_Header.l0 k l0 (⟨#[78, 65, 84, 83, 47, 49, 46, 48, 13, 10]⟩ : ByteArray) 0) = some r := h
  clear h
  have H' := Aside0.mk H
  clear H
  go_enter Try.func11, Try.ntmps11
  go_wp2
  repeat (go_quiet (fail); try go_wp2)
  go_loopg [3, 4] k (fun kq v3 v4 w' => ∃ (x3_1 : ByteArray) (x4_1 : Int), v3 = .string x3_1 ∧ v4 = .int .i64 x4_1 ∧ Aside0 (spec_Header.l0 kq l0 x3_1 x4_1 = some r) ∧ Aside0 (kq ≤ k) ∧ Drawn0 w w')
  case atStart => exact ⟨((⟨#[78, 65, 84, 83, 47, 49, 46, 48, 13, 10]⟩ : ByteArray)), (0), (by first | rfl | (simp; done) | (simp [*]; done)), (by first | rfl | (simp; done) | (simp [*]; done)), H', ⟨Nat.le_refl _⟩, by repeat (first | exact Drawn0.refl _ | apply Drawn0.step)⟩
  case round =>
    clear H'
    try clear c1
    obtain ⟨x3_1, x4_1, rfl, rfl, HA, HK1, ⟨m1, rfl⟩⟩ := hrel
    cases gk with
    | zero => exact absurd HA.out (by simp [spec_Header.l0])
    | succ k1 =>
      have H := HA.out
      clear HA
      simp only [spec_Header.l0] at H
      by_cases c2 : x4_1 < (l0.length : Int)
      · rw [if_pos c2] at H
        have c2b0 : decide (x4_1 < (l0.length : Int)) = true := decide_eq_true c2
        clear c2
        by_cases c3 : 0 ≤ x4_1
        · rw [if_pos c3] at H
          have c3b0 : decide (0 ≤ x4_1) = true := decide_eq_true c3
          clear c3
          by_cases c4 : ((rd_T34 l0 x4_1).f0).size + 2 ≤ 9223372036854775807
          · rw [if_pos c4] at H
            have c4b0 := eq_true c4
            have c4b1 : decide (((rd_T34 l0 x4_1).f0).size + 2 ≤ 9223372036854775807) = true := decide_eq_true c4
            try have c4b2 : (9223372036854775807 < ((rd_T34 l0 x4_1).f0).size + 2) = False := eq_false (Nat.not_lt.2 c4)
            by_cases c5 : (((rd_T34 l0 x4_1).f0) ++ (⟨#[58, 32]⟩ : ByteArray)).size + ((rd_T34 l0 x4_1).f1).size ≤ 9223372036854775807
            · rw [if_pos c5] at H
              have c5b0 := eq_true c5
              have c5b1 : decide ((((rd_T34 l0 x4_1).f0) ++ (⟨#[58, 32]⟩ : ByteArray)).size + ((rd_T34 l0 x4_1).f1).size ≤ 9223372036854775807) = true := decide_eq_true c5
              try have c5b2 : (9223372036854775807 < (((rd_T34 l0 x4_1).f0) ++ (⟨#[58, 32]⟩ : ByteArray)).size + ((rd_T34 l0 x4_1).f1).size) = False := eq_false (Nat.not_lt.2 c5)
              have c5z : (9223372036854775807 < ((rd_T34 l0 x4_1).f0).size + 2 + ((rd_T34 l0 x4_1).f1).size) = False := eq_false (Nat.not_lt.2 (by have h_ := c5; simp only [ByteArray.size_append] at h_; exact h_))
              by_cases c6 : ((((rd_T34 l0 x4_1).f0) ++ (⟨#[58, 32]⟩ : ByteArray)) ++ ((rd_T34 l0 x4_1).f1)).size + 2 ≤ 9223372036854775807
              · rw [if_pos c6] at H
                have c6b0 := eq_true c6
                have c6b1 : decide (((((rd_T34 l0 x4_1).f0) ++ (⟨#[58, 32]⟩ : ByteArray)) ++ ((rd_T34 l0 x4_1).f1)).size + 2 ≤ 9223372036854775807) = true := decide_eq_true c6
                try have c6b2 : (9223372036854775807 < ((((rd_T34 l0 x4_1).f0) ++ (⟨#[58, 32]⟩ : ByteArray)) ++ ((rd_T34 l0 x4_1).f1)).size + 2) = False := eq_false (Nat.not_lt.2 c6)
                have c6z : (9223372036854775807 < ((rd_T34 l0 x4_1).f0).size + 2 + ((rd_T34 l0 x4_1).f1).size + 2) = False := eq_false (Nat.not_lt.2 (by have h_ := c6; simp only [ByteArray.size_append] at h_; exact h_))
                by_cases c7 : x3_1.size + (((((rd_T34 l0 x4_1).f0) ++ (⟨#[58, 32]⟩ : ByteArray)) ++ ((rd_T34 l0 x4_1).f1)) ++ (⟨#[13, 10]⟩ : ByteArray)).size ≤ 9223372036854775807
                · rw [if_pos c7] at H
                  have c7b0 := eq_true c7
                  have c7b1 : decide (x3_1.size + (((((rd_T34 l0 x4_1).f0) ++ (⟨#[58, 32]⟩ : ByteArray)) ++ ((rd_T34 l0 x4_1).f1)) ++ (⟨#[13, 10]⟩ : ByteArray)).size ≤ 9223372036854775807) = true := decide_eq_true c7
                  try have c7b2 : (9223372036854775807 < x3_1.size + (((((rd_T34 l0 x4_1).f0) ++ (⟨#[58, 32]⟩ : ByteArray)) ++ ((rd_T34 l0 x4_1).f1)) ++ (⟨#[13, 10]⟩ : ByteArray)).size) = False := eq_false (Nat.not_lt.2 c7)
                  have c7z : (9223372036854775807 < (x3_1).size + (((rd_T34 l0 x4_1).f0).size + 2 + ((rd_T34 l0 x4_1).f1).size + 2)) = False := eq_false (Nat.not_lt.2 (by have h_ := c7; simp only [ByteArray.size_append] at h_; exact h_))
                  have H' := Aside0.mk H
                  clear H
                  have p127 : 0 ≤ (x4_1 : Int) := of_decide_eq_true (by first | (with_reducible assumption) | assumption)
                  have q127 : x4_1 < (l0.length : Int) := of_decide_eq_true (by first | (with_reducible assumption) | assumption)
                  obtain ⟨ad127, e127, hx127_0, hx127_1⟩ := at_T34 HR0.out x4_1 p127 q127
                  cases e127
                  replace p127 := eq_true p127
                  replace q127 := eq_true q127
                  have p128 : 0 ≤ (x4_1 : Int) := of_decide_eq_true (by first | (with_reducible assumption) | assumption)
                  have q128 : x4_1 < (l0.length : Int) := of_decide_eq_true (by first | (with_reducible assumption) | assumption)
                  obtain ⟨ad128, e128, hx128_0, hx128_1⟩ := at_T34 HR0.out x4_1 p128 q128
                  obtain rfl : ad127 = ad128 := (by injection e128)
                  replace p128 := eq_true p128
                  replace q128 := eq_true q128
                  go_wp2
                  repeat (go_quiet (fail); try go_wp2)
                  go_roundg k1
                  case measure => have := HK1.out; omega
                  case rel => exact ⟨(x3_1 ++ (((((rd_T34 l0 x4_1).f0) ++ (⟨#[58, 32]⟩ : ByteArray)) ++ ((rd_T34 l0 x4_1).f1)) ++ (⟨#[13, 10]⟩ : ByteArray))), (wrap64 (x4_1 + 1)), (by first | rfl | (simp; done) | (simp [*]; done)), (by first | rfl | (simp; done) | (simp [*]; done)), H', ⟨by have := HK1.out; omega⟩, by repeat (first | exact Drawn0.refl _ | apply Drawn0.step)⟩
                · rw [if_neg c7] at H
                  exact absurd H (by simp)
              · rw [if_neg c6] at H
                exact absurd H (by simp)
            · rw [if_neg c5] at H
              exact absurd H (by simp)
          · rw [if_neg c4] at H
            exact absurd H (by simp)
        · rw [if_neg c3] at H
          exact absurd H (by simp)
      · rw [if_neg c2] at H
        have c2b0 : decide (x4_1 < (l0.length : Int)) = false := decide_eq_false c2
        clear c2
        by_cases c8 : x3_1.size + 2 ≤ 9223372036854775807
        · rw [if_pos c8] at H
          have c8b0 := eq_true c8
          have c8b1 : decide (x3_1.size + 2 ≤ 9223372036854775807) = true := decide_eq_true c8
          try have c8b2 : (9223372036854775807 < x3_1.size + 2) = False := eq_false (Nat.not_lt.2 c8)
          obtain rfl := Option.some.inj H
          go_wp2
          repeat (go_quiet (fail); try go_wp2)
          go_ret
          exact ⟨by first | rfl | (simp; done) | (simp [*]; done), by repeat (first | exact Drawn0.refl _ | apply Drawn0.step)⟩
        · rw [if_neg c8] at H
          exact absurd H (by simp)

/-! ### laws_times: function 19 -/
def laws_times.l0 : Nat → ByteArray → ByteArray → Int → Int → Option (Int)
  | 0, _, _, _, _ => none
  | k + 1, x0, x1, x5, x6 => if (wrap64 (x6 + (x1.size : Int))) ≤ (x0.size : Int) then (if 0 ≤ x6 then (if x6 ≤ (wrap64 (x6 + (x1.size : Int))) then (if (x0.extract (x6 : Int).toNat ((wrap64 (x6 + (x1.size : Int))) : Int).toNat).toList = x1.toList then (laws_times.l0 k x0 x1 (wrap64 (x5 + 1)) (wrap64 (x6 + 1))) else (laws_times.l0 k x0 x1 x5 (wrap64 (x6 + 1)))) else (none)) else (none)) else (some x5)
def laws_times.f (k : Nat) (a0 : ByteArray) (a1 : ByteArray) : Option (Int) := laws_times.l0 k a0 a1 0 0
theorem laws_times.mono_l : ∀ k, (∀ y0 y1 y2 y3, LeO (laws_times.l0 k y0 y1 y2 y3) (laws_times.l0 (k + 1) y0 y1 y2 y3))
  | 0 => fun _ _ _ _ r h => by simp [laws_times.l0] at h
  | k + 1 => by
    have ih0 := laws_times.mono_l k
    · intro y0 y1 y2 y3
      unfold laws_times.l0
      repeat' first
      | (with_reducible exact ih0 _ _ _ _)
      | (with_reducible exact LeO.refl _)
      | (with_reducible exact LeO.none _)
      | (with_reducible refine LeO.ite ?_ ?_)
      | (with_reducible refine LeO.bind ?_ (fun _ => ?_))
      | exact ih0 _ _ _ _
      | exact LeO.none _
      | refine LeO.ite ?_ ?_
      | refine LeO.bind ?_ (fun _ => ?_)
theorem laws_times.mono : ∀ a0 a1 k, LeO (laws_times.f k a0 a1) (laws_times.f (k + 1) a0 a1) := by
  intro a0 a1 k
  have ih0 := laws_times.mono_l k
  unfold laws_times.f
  repeat' first
      | (with_reducible exact ih0 _ _ _ _)
      | (with_reducible exact LeO.refl _)
      | (with_reducible exact LeO.none _)
      | (with_reducible refine LeO.ite ?_ ?_)
      | (with_reducible refine LeO.bind ?_ (fun _ => ?_))
      | exact ih0 _ _ _ _
      | exact LeO.none _
      | refine LeO.ite ?_ ?_
      | refine LeO.bind ?_ (fun _ => ?_)
set_option maxHeartbeats 8000000 in
set_option maxRecDepth 100000 in
theorem laws_times.calls (k : Nat) (a0 : ByteArray) (a1 : ByteArray) (r : Int) (w : World) (h : laws_times.f k a0 a1 = some r) :
    Calls Try.prog 19 #[.string a0, .string a1] w fun e w' => e = .returned (.int .i64 r) ∧ Drawn0 w w' := by
  have H : (laws_times.l0 k a0 a1 0 0) = some r := h
  clear h
  have H' := Aside0.mk H
  clear H
  go_enter Try.func19, Try.ntmps19
  go_wp2
  go_loopg [5, 6] k (fun kq v5 v6 w' => ∃ (x5_1 : Int) (x6_1 : Int), v5 = .int .i64 x5_1 ∧ v6 = .int .i64 x6_1 ∧ Aside0 (laws_times.l0 kq a0 a1 x5_1 x6_1 = some r) ∧ Aside0 (kq ≤ k) ∧ Drawn0 w w')
  case atStart => exact ⟨(0), (0), (by first | rfl | (simp; done) | (simp [*]; done)), (by first | rfl | (simp; done) | (simp [*]; done)), H', ⟨Nat.le_refl _⟩, by repeat (first | exact Drawn0.refl _ | apply Drawn0.step)⟩
  case round =>
    clear H'
    try clear c1
    try clear p2
    obtain ⟨x5_1, x6_1, rfl, rfl, HA, HK1, ⟨m1, rfl⟩⟩ := hrel
    cases gk with
    | zero => exact absurd HA.out (by simp [laws_times.l0])
    | succ k1 =>
      have H := HA.out
      clear HA
      simp only [laws_times.l0] at H
      by_cases c3 : (wrap64 (x6_1 + (a1.size : Int))) ≤ (a0.size : Int)
      · rw [if_pos c3] at H
        have c3b0 : decide ((wrap64 (x6_1 + (a1.size : Int))) ≤ (a0.size : Int)) = true := decide_eq_true c3
        clear c3
        by_cases c4 : 0 ≤ x6_1
        · rw [if_pos c4] at H
          have c4b0 := eq_true c4
          have c4b1 : decide (0 ≤ x6_1) = true := decide_eq_true c4
          clear c4
          by_cases c5 : x6_1 ≤ (wrap64 (x6_1 + (a1.size : Int)))
          · rw [if_pos c5] at H
            have c5b0 := eq_true c5
            have c5b1 : decide (x6_1 ≤ (wrap64 (x6_1 + (a1.size : Int)))) = true := decide_eq_true c5
            have c6b0 := eq_true (of_decide_eq_true (by first | (with_reducible assumption) | assumption) : (wrap64 (x6_1 + (a1.size : Int))) ≤ (a0.size : Int))
            by_cases c7 : (a0.extract (x6_1 : Int).toNat ((wrap64 (x6_1 + (a1.size : Int))) : Int).toNat).toList = a1.toList
            · rw [if_pos c7] at H
              have c7b0 : ((a0.extract (x6_1 : Int).toNat ((wrap64 (x6_1 + (a1.size : Int))) : Int).toNat).toList == a1.toList) = true := beq_iff_eq.mpr c7
              have c7b1 : ((a0.extract (x6_1 : Int).toNat ((wrap64 (x6_1 + (a1.size : Int))) : Int).toNat).toList != a1.toList) = false := bne_eq_false_iff_eq.mpr c7
              clear c7
              have H' := Aside0.mk H
              clear H
              go_wp2
              go_roundg k1
              case measure => have := HK1.out; omega
              case rel => exact ⟨(wrap64 (x5_1 + 1)), (wrap64 (x6_1 + 1)), (by first | rfl | (simp; done) | (simp [*]; done)), (by first | rfl | (simp; done) | (simp [*]; done)), H', ⟨by have := HK1.out; omega⟩, by repeat (first | exact Drawn0.refl _ | apply Drawn0.step)⟩
            · rw [if_neg c7] at H
              have c7b0 : ((a0.extract (x6_1 : Int).toNat ((wrap64 (x6_1 + (a1.size : Int))) : Int).toNat).toList == a1.toList) = false := beq_eq_false_iff_ne.mpr c7
              have c7b1 : ((a0.extract (x6_1 : Int).toNat ((wrap64 (x6_1 + (a1.size : Int))) : Int).toNat).toList != a1.toList) = true := bne_iff_ne.mpr c7
              have H' := Aside0.mk H
              clear H
              go_wp2
              go_roundg k1
              case measure => have := HK1.out; omega
              case rel => exact ⟨(x5_1), (wrap64 (x6_1 + 1)), (by first | rfl | (simp; done) | (simp [*]; done)), (by first | rfl | (simp; done) | (simp [*]; done)), H', ⟨by have := HK1.out; omega⟩, by repeat (first | exact Drawn0.refl _ | apply Drawn0.step)⟩
          · rw [if_neg c5] at H
            exact absurd H (by simp)
        · rw [if_neg c4] at H
          exact absurd H (by simp)
      · rw [if_neg c3] at H
        have c3b0 : decide ((wrap64 (x6_1 + (a1.size : Int))) ≤ (a0.size : Int)) = false := decide_eq_false c3
        clear c3
        obtain rfl := Option.some.inj H
        go_wp2
        go_ret
        exact ⟨by first | rfl | (simp; done) | (simp [*]; done), by repeat (first | exact Drawn0.refl _ | apply Drawn0.step)⟩

/-! ### laws_knownKey: function 7 -/
mutual
def laws_knownKey.j0 : Nat → List (S34) → ByteArray → Int → Option (Bool)
  | 0, _, _, _ => none
  | k + 1, x0, x1, x5 => if (x1.size : Int) > 40 then (laws_knownKey.j1 k x0 x1 true) else ((spec_Header.f k x0).bind fun t131 => ((laws_times.f k t131 x1).bind fun t132 => (laws_knownKey.j1 k x0 x1 (t132 != x5))))
def laws_knownKey.j1 : Nat → List (S34) → ByteArray → Bool → Option (Bool)
  | 0, _, _, _ => none
  | k + 1, x0, x1, x26 => if x26 = true then (some false) else (laws_knownKey.l0 k x0 x1 0)
def laws_knownKey.l0 : Nat → List (S34) → ByteArray → Int → Option (Bool)
  | 0, _, _, _ => none
  | k + 1, x0, x1, x8 => if x8 < (x0.length : Int) then (if 0 ≤ x8 then (if ((rd_T34 x0 x8).f0).toList = x1.toList then (laws_knownKey.l0 k x0 x1 (wrap64 (x8 + 1))) else ((laws_lower.f k ((rd_T34 x0 x8).f0)).bind fun t136 => ((laws_lower.f k x1).bind fun t137 => (if t136.toList = t137.toList then (some false) else (laws_knownKey.l0 k x0 x1 (wrap64 (x8 + 1))))))) else (none)) else ((spec_Token.f k x1).bind fun t133 => (if t133 = true then (some (decide ((x1.size : Int) ≤ 40))) else (some false)))
end
def laws_knownKey.f (k : Nat) (l0 : List (S34)) (a1 : ByteArray) : Option (Bool) := (spec_Get.f k l0 a1).bind fun bt129 => (if bt129.2 = true then (laws_knownKey.j0 k l0 a1 1) else (laws_knownKey.j0 k l0 a1 0))
theorem laws_knownKey.mono_l : ∀ k, (∀ y0 y1 y2, LeO (laws_knownKey.j0 k y0 y1 y2) (laws_knownKey.j0 (k + 1) y0 y1 y2)) ∧ (∀ y0 y1 y2, LeO (laws_knownKey.j1 k y0 y1 y2) (laws_knownKey.j1 (k + 1) y0 y1 y2)) ∧ (∀ y0 y1 y2, LeO (laws_knownKey.l0 k y0 y1 y2) (laws_knownKey.l0 (k + 1) y0 y1 y2))
  | 0 => ⟨fun _ _ _ r h => by simp [laws_knownKey.j0] at h, fun _ _ _ r h => by simp [laws_knownKey.j1] at h, fun _ _ _ r h => by simp [laws_knownKey.l0] at h⟩
  | k + 1 => by
    obtain ⟨ih0, ih1, ih2⟩ := laws_knownKey.mono_l k
    refine ⟨?_, ?_, ?_⟩
    · intro y0 y1 y2
      unfold laws_knownKey.j0
      repeat' first
      | (with_reducible exact ih0 _ _ _)
      | (with_reducible exact ih1 _ _ _)
      | (with_reducible exact ih2 _ _ _)
      | (with_reducible exact laws_lower.mono _ _)
      | (with_reducible exact laws_times.mono _ _ _)
      | (with_reducible exact spec_Get.mono _ _ _)
      | (with_reducible exact spec_Header.mono _ _)
      | (with_reducible exact spec_Token.mono _ _)
      | (with_reducible exact LeO.refl _)
      | (with_reducible exact LeO.none _)
      | (with_reducible refine LeO.ite ?_ ?_)
      | (with_reducible refine LeO.bind ?_ (fun _ => ?_))
      | exact ih0 _ _ _
      | exact ih1 _ _ _
      | exact ih2 _ _ _
      | exact laws_lower.mono _ _
      | exact laws_times.mono _ _ _
      | exact spec_Get.mono _ _ _
      | exact spec_Header.mono _ _
      | exact spec_Token.mono _ _
      | exact LeO.none _
      | refine LeO.ite ?_ ?_
      | refine LeO.bind ?_ (fun _ => ?_)
    · intro y0 y1 y2
      unfold laws_knownKey.j1
      repeat' first
      | (with_reducible exact ih0 _ _ _)
      | (with_reducible exact ih1 _ _ _)
      | (with_reducible exact ih2 _ _ _)
      | (with_reducible exact laws_lower.mono _ _)
      | (with_reducible exact laws_times.mono _ _ _)
      | (with_reducible exact spec_Get.mono _ _ _)
      | (with_reducible exact spec_Header.mono _ _)
      | (with_reducible exact spec_Token.mono _ _)
      | (with_reducible exact LeO.refl _)
      | (with_reducible exact LeO.none _)
      | (with_reducible refine LeO.ite ?_ ?_)
      | (with_reducible refine LeO.bind ?_ (fun _ => ?_))
      | exact ih0 _ _ _
      | exact ih1 _ _ _
      | exact ih2 _ _ _
      | exact laws_lower.mono _ _
      | exact laws_times.mono _ _ _
      | exact spec_Get.mono _ _ _
      | exact spec_Header.mono _ _
      | exact spec_Token.mono _ _
      | exact LeO.none _
      | refine LeO.ite ?_ ?_
      | refine LeO.bind ?_ (fun _ => ?_)
    · intro y0 y1 y2
      unfold laws_knownKey.l0
      repeat' first
      | (with_reducible exact ih0 _ _ _)
      | (with_reducible exact ih1 _ _ _)
      | (with_reducible exact ih2 _ _ _)
      | (with_reducible exact laws_lower.mono _ _)
      | (with_reducible exact laws_times.mono _ _ _)
      | (with_reducible exact spec_Get.mono _ _ _)
      | (with_reducible exact spec_Header.mono _ _)
      | (with_reducible exact spec_Token.mono _ _)
      | (with_reducible exact LeO.refl _)
      | (with_reducible exact LeO.none _)
      | (with_reducible refine LeO.ite ?_ ?_)
      | (with_reducible refine LeO.bind ?_ (fun _ => ?_))
      | exact ih0 _ _ _
      | exact ih1 _ _ _
      | exact ih2 _ _ _
      | exact laws_lower.mono _ _
      | exact laws_times.mono _ _ _
      | exact spec_Get.mono _ _ _
      | exact spec_Header.mono _ _
      | exact spec_Token.mono _ _
      | exact LeO.none _
      | refine LeO.ite ?_ ?_
      | refine LeO.bind ?_ (fun _ => ?_)
theorem laws_knownKey.mono : ∀ a0 a1 k, LeO (laws_knownKey.f k a0 a1) (laws_knownKey.f (k + 1) a0 a1) := by
  intro a0 a1 k
  obtain ⟨ih0, ih1, ih2⟩ := laws_knownKey.mono_l k
  unfold laws_knownKey.f
  repeat' first
      | (with_reducible exact ih0 _ _ _)
      | (with_reducible exact ih1 _ _ _)
      | (with_reducible exact ih2 _ _ _)
      | (with_reducible exact laws_lower.mono _ _)
      | (with_reducible exact laws_times.mono _ _ _)
      | (with_reducible exact spec_Get.mono _ _ _)
      | (with_reducible exact spec_Header.mono _ _)
      | (with_reducible exact spec_Token.mono _ _)
      | (with_reducible exact LeO.refl _)
      | (with_reducible exact LeO.none _)
      | (with_reducible refine LeO.ite ?_ ?_)
      | (with_reducible refine LeO.bind ?_ (fun _ => ?_))
      | exact ih0 _ _ _
      | exact ih1 _ _ _
      | exact ih2 _ _ _
      | exact laws_lower.mono _ _
      | exact laws_times.mono _ _ _
      | exact spec_Get.mono _ _ _
      | exact spec_Header.mono _ _
      | exact spec_Token.mono _ _
      | exact LeO.none _
      | refine LeO.ite ?_ ?_
      | refine LeO.bind ?_ (fun _ => ?_)
set_option maxHeartbeats 8000000 in
set_option maxRecDepth 100000 in
theorem laws_knownKey.calls (k : Nat) (A0 : Option Addr) (c0 : Nat) (l0 : List (S34)) (a1 : ByteArray) (r : Bool) (w : World) (hr0 : Kd.C k34 w A0 l0.length l0) (hc0 : l0.length ≤ c0) (h : laws_knownKey.f k l0 a1 = some r) :
    Calls Try.prog 7 #[.slice A0 l0.length c0, .string a1] w fun e w' => e = .returned (.bool r) ∧ Below w.heap.size w w' := by
  have HR0 := Aside0.mk hr0
  have HC0 := Aside0.mk hc0
  clear hr0 hc0
  have HB := Aside0.mk (Below.refl w.heap.size w)
  have H : ((spec_Get.f k l0 a1).bind fun bt129 => (if bt129.2 = true then (laws_knownKey.j0 k l0 a1 1) else (laws_knownKey.j0 k l0 a1 0))) = some r := h
  clear h
  replace H := Option.bind_eq_some_iff.mp H
  obtain ⟨⟨t129, t130⟩, A30, H⟩ := H
  replace H : (if t130 = true then (laws_knownKey.j0 k l0 a1 1) else (laws_knownKey.j0 k l0 a1 0)) = some r := H
  have A3 := Aside0.mk A30
  clear A30
  have HC4 := Aside0.mk H
  clear H
  go_enter Try.func7, Try.ntmps7
  go_upto_if 15 with (first | ((with_reducible refine gate_callee (f := 9) rfl ?_); refine goesL_ (some 12) rfl rfl Try.func9 (by kernel_rfl) rfl #[.slice A0 l0.length c0, .string a1] rfl (by (try simp only [List.map_toArray, List.map_cons, List.map_nil]); first | done | rfl | (simp only [List.length_drop, List.length_take]; rfl)) ?_; (with_reducible refine (spec_Get.calls k _ _ l0 a1 t129 t130 _ ?side1 ?side2 A3.out).mono ?_); (case side1 => repeat (first | exact HR0.out | (with_reducible refine Kd.C_alloc ?_ _) | (with_reducible refine Kd.C_drewN ?_ _) | (with_reducible refine Kd.C_drew ?_))); (case side2 => exact HC0.out); rintro e w' ⟨rfl, ⟨nd, rfl⟩⟩; refine ⟨_, rfl, ?_⟩))
  (try simp only [Act.put, List.setIfInBounds_toArray, List.set_cons_zero, List.set_cons_succ])
  go_cut [5] (fun v5 wc => ∃ (kq : Nat) (x5_3 : Int), v5 = .int .i64 x5_3 ∧ Aside0 (laws_knownKey.j0 kq l0 a1 x5_3 = some r) ∧ Aside0 (kq ≤ k) ∧ Aside0 (Below w.heap.size w wc))
  case first =>
    have H := HC4.out
    clear HC4
    by_cases c5 : t130 = true
    · subst c5
      have H1 : (laws_knownKey.j0 k l0 a1 1) = some r := by rw [if_pos rfl] at H; exact H
      clear H
      have H := H1
      clear H1
      have H' := Aside0.mk H
      clear H
      go_wp2
      go_meet
      case rel => exact ⟨_, (1), (by first | rfl | (simp; done) | (simp [*]; done)), H', ⟨by first | omega | exact Nat.le_refl _⟩, ⟨by repeat (first | (with_reducible first | exact HB.out | apply below_alloc | apply pw_below_drewN | apply below_drew1) | exact HB.out)⟩⟩
    · replace c5 := Bool.eq_false_iff.mpr c5
      subst c5
      have H1 : (laws_knownKey.j0 k l0 a1 0) = some r := by rw [if_neg (show ¬ (false = true) by decide)] at H; exact H
      clear H
      have H := H1
      clear H1
      have H' := Aside0.mk H
      clear H
      go_wp2
      go_meet
      case rel => exact ⟨_, (0), (by first | rfl | (simp; done) | (simp [*]; done)), H', ⟨by first | omega | exact Nat.le_refl _⟩, ⟨by repeat (first | (with_reducible first | exact HB.out | apply below_alloc | apply pw_below_drewN | apply below_drew1) | exact HB.out)⟩⟩
  case rest =>
    clear HC4
    try clear p2
    try clear c5
    obtain ⟨kq, x5_3, rfl, HA, HJ3, HB⟩ := hcut
    cases kq with
    | zero => exact absurd HA.out (by simp [laws_knownKey.j0])
    | succ kj3 =>
      have H := HA.out
      clear HA
      simp only [laws_knownKey.j0] at H
      have HC6 := Aside0.mk H
      clear H
      go_upto_region 5 with (fail)
      go_cut [26] (fun v26 wc => ∃ (kq : Nat) (x26_5 : Bool), v26 = .bool x26_5 ∧ Aside0 (laws_knownKey.j1 kq l0 a1 x26_5 = some r) ∧ Aside0 (kq ≤ kj3) ∧ Aside0 (Below w.heap.size w wc))
      case first =>
        have H := HC6.out
        clear HC6
        by_cases c7 : (a1.size : Int) > 40
        · rw [if_pos c7] at H
          have c7b0 : decide (40 < (a1.size : Int)) = true := decide_eq_true c7
          have c7b1 : decide (40 < a1.size) = true := decide_eq_true (by omega)
          clear c7
          (first | rw [c7b0] | (simp only [i64_w, i32_w]; rw [c7b0]) | skip)
          have H' := Aside0.mk H
          clear H
          go_wp2
          go_meet
          case rel => exact ⟨_, (true), (by first | rfl | (simp; done) | (simp [*]; done)), H', ⟨by have := HJ3.out; first | omega | exact Nat.le_refl _⟩, ⟨by repeat (first | (with_reducible first | exact HB.out | apply below_alloc | apply pw_below_drewN | apply below_drew1) | exact HB.out)⟩⟩
        · rw [if_neg c7] at H
          have c7b0 : decide (40 < (a1.size : Int)) = false := decide_eq_false c7
          have c7b1 : decide (40 < a1.size) = false := decide_eq_false (by omega)
          clear c7
          (first | rw [c7b0] | (simp only [i64_w, i32_w]; rw [c7b0]) | skip)
          replace H := Option.bind_eq_some_iff.mp H
          obtain ⟨t131, A80, H⟩ := H
          replace H : ((laws_times.f kj3 t131 a1).bind fun t132 => (laws_knownKey.j1 kj3 l0 a1 (t132 != x5_3))) = some r := H
          have A8 := Aside0.mk A80
          clear A80
          replace H := Option.bind_eq_some_iff.mp H
          obtain ⟨t132, A90, H⟩ := H
          replace H : (laws_knownKey.j1 kj3 l0 a1 (t132 != x5_3)) = some r := H
          have A9 := Aside0.mk A90
          clear A90
          have H' := Aside0.mk H
          clear H
          go_wp2_with (first | (go_at_call 11; (with_reducible refine (spec_Header.calls kj3 _ _ l0 t131 _ ?side1 ?side2 A8.out).mono ?_); (case side1 => repeat (first | exact (Kd.C_below HR0.out HB.out) | (with_reducible refine Kd.C_alloc ?_ _) | (with_reducible refine Kd.C_drewN ?_ _) | (with_reducible refine Kd.C_drew ?_))); (case side2 => exact HC0.out); rintro e w' ⟨rfl, ⟨nd, rfl⟩⟩) | (go_at_call 19; (with_reducible refine (laws_times.calls kj3 t131 a1 t132 _ A9.out).mono ?_); rintro e w' ⟨rfl, ⟨nd, rfl⟩⟩))
          go_meet
          case rel => exact ⟨_, ((t132 != x5_3)), (by first | rfl | (simp; done) | (simp [*]; done)), H', ⟨by have := HJ3.out; first | omega | exact Nat.le_refl _⟩, ⟨by repeat (first | (with_reducible first | exact HB.out | apply below_alloc | apply pw_below_drewN | apply below_drew1) | exact HB.out)⟩⟩
      case rest =>
        clear HC6
        try clear p2
        try clear c5
        try clear c7
        try clear c7b0
        try clear c7b1
        try clear c9
        try clear p2
        obtain ⟨kq, x26_5, rfl, HA, HJ5, HB⟩ := hcut
        cases kq with
        | zero => exact absurd HA.out (by simp [laws_knownKey.j1])
        | succ kj5 =>
          have H := HA.out
          clear HA
          simp only [laws_knownKey.j1] at H
          by_cases c10 : x26_5 = true
          · subst c10
            have H1 : (some false) = some r := by rw [if_pos rfl] at H; exact H
            clear H
            have H := H1
            clear H1
            obtain rfl := Option.some.inj H
            go_wp2
            go_ret
            exact ⟨by first | rfl | (simp [errW_none, errW_some] <;> rfl) | (simp [*, errW_none, errW_some] <;> rfl), by repeat (first | (with_reducible first | exact HB.out | apply below_alloc | apply pw_below_drewN | apply below_drew1) | exact HB.out)⟩
          · replace c10 := Bool.eq_false_iff.mpr c10
            subst c10
            have H1 : (laws_knownKey.l0 kj5 l0 a1 0) = some r := by rw [if_neg (show ¬ (false = true) by decide)] at H; exact H
            clear H
            have H := H1
            clear H1
            have H' := Aside0.mk H
            clear H
            go_wp2
            go_loopg [8] kj5 (fun kq v8 w' => ∃ (x8_3 : Int), v8 = .int .i64 x8_3 ∧ Aside0 (laws_knownKey.l0 kq l0 a1 x8_3 = some r) ∧ Aside0 (kq ≤ kj5) ∧ Aside0 (Below w.heap.size w w'))
            case atStart => exact ⟨(0), (by first | rfl | (simp; done) | (simp [*]; done)), H', ⟨Nat.le_refl _⟩, ⟨by repeat (first | (with_reducible first | exact HB.out | apply below_alloc | apply pw_below_drewN | apply below_drew1) | exact HB.out)⟩⟩
            case round =>
              clear H'
              try clear c1
              try clear p2
              try clear c5
              try clear c7
              try clear c7b0
              try clear c7b1
              try clear c9
              try clear c10
              try clear p2
              obtain ⟨x8_3, rfl, HA, HK3, HB⟩ := hrel
              cases gk with
              | zero => exact absurd HA.out (by simp [laws_knownKey.l0])
              | succ k3 =>
                have H := HA.out
                clear HA
                simp only [laws_knownKey.l0] at H
                by_cases c11 : x8_3 < (l0.length : Int)
                · rw [if_pos c11] at H
                  have c11b0 : decide (x8_3 < (l0.length : Int)) = true := decide_eq_true c11
                  clear c11
                  by_cases c12 : 0 ≤ x8_3
                  · rw [if_pos c12] at H
                    have c12b0 : decide (0 ≤ x8_3) = true := decide_eq_true c12
                    clear c12
                    by_cases c13 : ((rd_T34 l0 x8_3).f0).toList = a1.toList
                    · rw [if_pos c13] at H
                      have c13b0 : (((rd_T34 l0 x8_3).f0).toList == a1.toList) = true := beq_iff_eq.mpr c13
                      have c13b1 : (((rd_T34 l0 x8_3).f0).toList != a1.toList) = false := bne_eq_false_iff_eq.mpr c13
                      clear c13
                      have H' := Aside0.mk H
                      clear H
                      have p134 : 0 ≤ (x8_3 : Int) := of_decide_eq_true (by first | (with_reducible assumption) | assumption)
                      have q134 : x8_3 < (l0.length : Int) := of_decide_eq_true (by first | (with_reducible assumption) | assumption)
                      obtain ⟨ad134, e134, hx134_0, hx134_1⟩ := at_T34 HR0.out x8_3 p134 q134
                      cases e134
                      replace hx134_0 := (HB.out.cell (World.block_lt_of_cell? w _ hx134_0)).trans hx134_0
                      replace hx134_1 := (HB.out.cell (World.block_lt_of_cell? w _ hx134_1)).trans hx134_1
                      replace p134 := eq_true p134
                      replace q134 := eq_true q134
                      go_wp2
                      go_roundg k3
                      case measure => have := HJ3.out; have := HJ5.out; have := HK3.out; omega
                      case rel => exact ⟨(wrap64 (x8_3 + 1)), (by first | rfl | (simp; done) | (simp [*]; done)), H', ⟨by have := HJ3.out; have := HJ5.out; have := HK3.out; omega⟩, ⟨by repeat (first | (with_reducible first | exact HB.out | apply below_alloc | apply pw_below_drewN | apply below_drew1) | exact HB.out)⟩⟩
                    · rw [if_neg c13] at H
                      have c13b0 : (((rd_T34 l0 x8_3).f0).toList == a1.toList) = false := beq_eq_false_iff_ne.mpr c13
                      have c13b1 : (((rd_T34 l0 x8_3).f0).toList != a1.toList) = true := bne_iff_ne.mpr c13
                      replace H := Option.bind_eq_some_iff.mp H
                      obtain ⟨t136, A140, H⟩ := H
                      replace H : ((laws_lower.f k3 a1).bind fun t137 => (if t136.toList = t137.toList then (some false) else (laws_knownKey.l0 k3 l0 a1 (wrap64 (x8_3 + 1))))) = some r := H
                      have A14 := Aside0.mk A140
                      clear A140
                      replace H := Option.bind_eq_some_iff.mp H
                      obtain ⟨t137, A150, H⟩ := H
                      replace H : (if t136.toList = t137.toList then (some false) else (laws_knownKey.l0 k3 l0 a1 (wrap64 (x8_3 + 1)))) = some r := H
                      have A15 := Aside0.mk A150
                      clear A150
                      by_cases c16 : t136.toList = t137.toList
                      · rw [if_pos c16] at H
                        have c16b0 : (t136.toList == t137.toList) = true := beq_iff_eq.mpr c16
                        have c16b1 : (t136.toList != t137.toList) = false := bne_eq_false_iff_eq.mpr c16
                        clear c16
                        obtain rfl := Option.some.inj H
                        have p134 : 0 ≤ (x8_3 : Int) := of_decide_eq_true (by first | (with_reducible assumption) | assumption)
                        have q134 : x8_3 < (l0.length : Int) := of_decide_eq_true (by first | (with_reducible assumption) | assumption)
                        obtain ⟨ad134, e134, hx134_0, hx134_1⟩ := at_T34 HR0.out x8_3 p134 q134
                        cases e134
                        replace hx134_0 := (HB.out.cell (World.block_lt_of_cell? w _ hx134_0)).trans hx134_0
                        replace hx134_1 := (HB.out.cell (World.block_lt_of_cell? w _ hx134_1)).trans hx134_1
                        replace p134 := eq_true p134
                        replace q134 := eq_true q134
                        have p135 : 0 ≤ (x8_3 : Int) := of_decide_eq_true (by first | (with_reducible assumption) | assumption)
                        have q135 : x8_3 < (l0.length : Int) := of_decide_eq_true (by first | (with_reducible assumption) | assumption)
                        obtain ⟨ad135, e135, hx135_0, hx135_1⟩ := at_T34 HR0.out x8_3 p135 q135
                        obtain rfl : ad134 = ad135 := (by injection e135)
                        replace hx135_0 := (HB.out.cell (World.block_lt_of_cell? w _ hx135_0)).trans hx135_0
                        replace hx135_1 := (HB.out.cell (World.block_lt_of_cell? w _ hx135_1)).trans hx135_1
                        replace p135 := eq_true p135
                        replace q135 := eq_true q135
                        go_wp2_with (first | (go_at_call 13; (with_reducible refine (laws_lower.calls k3 ((rd_T34 l0 x8_3).f0) t136 _ A14.out).mono ?_); rintro e w17 ⟨rfl, hb⟩; have n0_ := Aside0.mk (below_step (by repeat (first | (with_reducible first | exact HB.out | apply below_alloc | apply pw_below_drewN | apply below_drew1) | exact HB.out)) hb); clear HB; have HB := n0_; clear n0_; (try clear hb); (try clear hb2); (try clear hk); (try clear hi)) | (go_at_call 13; (with_reducible refine (laws_lower.calls k3 a1 t137 _ A15.out).mono ?_); rintro e w18 ⟨rfl, hb⟩; have n0_ := Aside0.mk (below_step (by repeat (first | (with_reducible first | exact HB.out | apply below_alloc | apply pw_below_drewN | apply below_drew1) | exact HB.out)) hb); clear HB; have HB := n0_; clear n0_; (try clear hb); (try clear hb2); (try clear hk); (try clear hi)))
                        go_ret
                        exact ⟨by first | rfl | (simp [errW_none, errW_some] <;> rfl) | (simp [*, errW_none, errW_some] <;> rfl), by repeat (first | (with_reducible first | exact HB.out | apply below_alloc | apply pw_below_drewN | apply below_drew1) | exact HB.out)⟩
                      · rw [if_neg c16] at H
                        have c16b0 : (t136.toList == t137.toList) = false := beq_eq_false_iff_ne.mpr c16
                        have c16b1 : (t136.toList != t137.toList) = true := bne_iff_ne.mpr c16
                        have H' := Aside0.mk H
                        clear H
                        have p134 : 0 ≤ (x8_3 : Int) := of_decide_eq_true (by first | (with_reducible assumption) | assumption)
                        have q134 : x8_3 < (l0.length : Int) := of_decide_eq_true (by first | (with_reducible assumption) | assumption)
                        obtain ⟨ad134, e134, hx134_0, hx134_1⟩ := at_T34 HR0.out x8_3 p134 q134
                        cases e134
                        replace hx134_0 := (HB.out.cell (World.block_lt_of_cell? w _ hx134_0)).trans hx134_0
                        replace hx134_1 := (HB.out.cell (World.block_lt_of_cell? w _ hx134_1)).trans hx134_1
                        replace p134 := eq_true p134
                        replace q134 := eq_true q134
                        have p135 : 0 ≤ (x8_3 : Int) := of_decide_eq_true (by first | (with_reducible assumption) | assumption)
                        have q135 : x8_3 < (l0.length : Int) := of_decide_eq_true (by first | (with_reducible assumption) | assumption)
                        obtain ⟨ad135, e135, hx135_0, hx135_1⟩ := at_T34 HR0.out x8_3 p135 q135
                        obtain rfl : ad134 = ad135 := (by injection e135)
                        replace hx135_0 := (HB.out.cell (World.block_lt_of_cell? w _ hx135_0)).trans hx135_0
                        replace hx135_1 := (HB.out.cell (World.block_lt_of_cell? w _ hx135_1)).trans hx135_1
                        replace p135 := eq_true p135
                        replace q135 := eq_true q135
                        go_wp2_with (first | (go_at_call 13; (with_reducible refine (laws_lower.calls k3 ((rd_T34 l0 x8_3).f0) t136 _ A14.out).mono ?_); rintro e w19 ⟨rfl, hb⟩; have n0_ := Aside0.mk (below_step (by repeat (first | (with_reducible first | exact HB.out | apply below_alloc | apply pw_below_drewN | apply below_drew1) | exact HB.out)) hb); clear HB; have HB := n0_; clear n0_; (try clear hb); (try clear hb2); (try clear hk); (try clear hi)) | (go_at_call 13; (with_reducible refine (laws_lower.calls k3 a1 t137 _ A15.out).mono ?_); rintro e w20 ⟨rfl, hb⟩; have n0_ := Aside0.mk (below_step (by repeat (first | (with_reducible first | exact HB.out | apply below_alloc | apply pw_below_drewN | apply below_drew1) | exact HB.out)) hb); clear HB; have HB := n0_; clear n0_; (try clear hb); (try clear hb2); (try clear hk); (try clear hi)))
                        go_roundg k3
                        case measure => have := HJ3.out; have := HJ5.out; have := HK3.out; omega
                        case rel => exact ⟨(wrap64 (x8_3 + 1)), (by first | rfl | (simp; done) | (simp [*]; done)), H', ⟨by have := HJ3.out; have := HJ5.out; have := HK3.out; omega⟩, ⟨by repeat (first | (with_reducible first | exact HB.out | apply below_alloc | apply pw_below_drewN | apply below_drew1) | exact HB.out)⟩⟩
                  · rw [if_neg c12] at H
                    exact absurd H (by simp)
                · rw [if_neg c11] at H
                  have c11b0 : decide (x8_3 < (l0.length : Int)) = false := decide_eq_false c11
                  clear c11
                  replace H := Option.bind_eq_some_iff.mp H
                  obtain ⟨t133, A210, H⟩ := H
                  replace H : (if t133 = true then (some (decide ((a1.size : Int) ≤ 40))) else (some false)) = some r := H
                  have A21 := Aside0.mk A210
                  clear A210
                  by_cases c22 : t133 = true
                  · subst c22
                    have H1 : (some (decide ((a1.size : Int) ≤ 40))) = some r := by rw [if_pos rfl] at H; exact H
                    clear H
                    have H := H1
                    clear H1
                    obtain rfl := Option.some.inj H
                    go_wp2_with (first | ((with_reducible refine gate_callee (f := 12) rfl ?_); refine goesL_ (some 52) rfl rfl Try.func12 (by kernel_rfl) rfl #[.string a1] rfl (by (try simp only [List.map_toArray, List.map_cons, List.map_nil]); first | done | rfl | (simp only [List.length_drop, List.length_take]; rfl)) ?_; (with_reducible refine (spec_Token.calls k3 a1 true _ A21.out).mono ?_); rintro e w' ⟨rfl, ⟨nd, rfl⟩⟩; refine ⟨_, rfl, ?_⟩))
                    go_ret
                    exact ⟨by first | rfl | (simp [errW_none, errW_some] <;> rfl) | (simp [*, errW_none, errW_some] <;> rfl), by repeat (first | (with_reducible first | exact HB.out | apply below_alloc | apply pw_below_drewN | apply below_drew1) | exact HB.out)⟩
                  · replace c22 := Bool.eq_false_iff.mpr c22
                    subst c22
                    have H1 : (some false) = some r := by rw [if_neg (show ¬ (false = true) by decide)] at H; exact H
                    clear H
                    have H := H1
                    clear H1
                    obtain rfl := Option.some.inj H
                    go_wp2_with (first | ((with_reducible refine gate_callee (f := 12) rfl ?_); refine goesL_ (some 52) rfl rfl Try.func12 (by kernel_rfl) rfl #[.string a1] rfl (by (try simp only [List.map_toArray, List.map_cons, List.map_nil]); first | done | rfl | (simp only [List.length_drop, List.length_take]; rfl)) ?_; (with_reducible refine (spec_Token.calls k3 a1 false _ A21.out).mono ?_); rintro e w' ⟨rfl, ⟨nd, rfl⟩⟩; refine ⟨_, rfl, ?_⟩))
                    go_ret
                    exact ⟨by first | rfl | (simp [errW_none, errW_some] <;> rfl) | (simp [*, errW_none, errW_some] <;> rfl), by repeat (first | (with_reducible first | exact HB.out | apply below_alloc | apply pw_below_drewN | apply below_drew1) | exact HB.out)⟩

/-! ### server_zzIndexBytes: function 28 -/
def server_zzIndexBytes.l0 : Nat → List Int → List Int → Int → Option (Int)
  | 0, _, _, _ => none
  | k + 1, x0, x1, x5 => if (wrap64 (x5 + (x1.length : Int))) ≤ (x0.length : Int) then (if 0 ≤ x5 then (if x5 ≤ (wrap64 (x5 + (x1.length : Int))) then (if (strOfNums ((x0.take ((wrap64 (x5 + (x1.length : Int))) : Int).toNat).drop (x5 : Int).toNat)).toList = (strOfNums x1).toList then (some x5) else (server_zzIndexBytes.l0 k x0 x1 (wrap64 (x5 + 1)))) else (none)) else (none)) else (some (-1))
def server_zzIndexBytes.f (k : Nat) (l0 : List Int) (l1 : List Int) : Option (Int) := server_zzIndexBytes.l0 k l0 l1 0
theorem server_zzIndexBytes.mono_l : ∀ k, (∀ y0 y1 y2, LeO (server_zzIndexBytes.l0 k y0 y1 y2) (server_zzIndexBytes.l0 (k + 1) y0 y1 y2))
  | 0 => fun _ _ _ r h => by simp [server_zzIndexBytes.l0] at h
  | k + 1 => by
    have ih0 := server_zzIndexBytes.mono_l k
    · intro y0 y1 y2
      unfold server_zzIndexBytes.l0
      repeat' first
      | (with_reducible exact ih0 _ _ _)
      | (with_reducible exact LeO.refl _)
      | (with_reducible exact LeO.none _)
      | (with_reducible refine LeO.ite ?_ ?_)
      | (with_reducible refine LeO.bind ?_ (fun _ => ?_))
      | exact ih0 _ _ _
      | exact LeO.none _
      | refine LeO.ite ?_ ?_
      | refine LeO.bind ?_ (fun _ => ?_)
theorem server_zzIndexBytes.mono : ∀ a0 a1 k, LeO (server_zzIndexBytes.f k a0 a1) (server_zzIndexBytes.f (k + 1) a0 a1) := by
  intro a0 a1 k
  have ih0 := server_zzIndexBytes.mono_l k
  unfold server_zzIndexBytes.f
  repeat' first
      | (with_reducible exact ih0 _ _ _)
      | (with_reducible exact LeO.refl _)
      | (with_reducible exact LeO.none _)
      | (with_reducible refine LeO.ite ?_ ?_)
      | (with_reducible refine LeO.bind ?_ (fun _ => ?_))
      | exact ih0 _ _ _
      | exact LeO.none _
      | refine LeO.ite ?_ ?_
      | refine LeO.bind ?_ (fun _ => ?_)
attribute [local go_sem] i64_w in
set_option maxHeartbeats 8000000 in
set_option maxRecDepth 100000 in
theorem server_zzIndexBytes.calls (k : Nat) (A0 : Option Addr) (c0 : Nat) (l0 : List Int) (A1 : Option Addr) (c1 : Nat) (l1 : List Int) (r : Int) (w : World) (hr0 : Kd.C (Kd.int .u8) w A0 l0.length l0) (hc0 : l0.length ≤ c0) (hr1 : Kd.C (Kd.int .u8) w A1 l1.length l1) (hc1 : l1.length ≤ c1) (h : server_zzIndexBytes.f k l0 l1 = some r) :
    Calls Try.prog 28 #[.slice A0 l0.length c0, .slice A1 l1.length c1] w fun e w' => e = .returned (.int .i64 r) ∧ Drawn0 w w' := by
  have HR0 := Aside0.mk hr0
  have HC0 := Aside0.mk hc0
  clear hr0 hc0
  have HR1 := Aside0.mk hr1
  have HC1 := Aside0.mk hc1
  clear hr1 hc1
  have H : (server_zzIndexBytes.l0 k l0 l1 0) = some r := h
  clear h
  have H' := Aside0.mk H
  clear H
  go_enter Try.func28, Try.ntmps28
  go_wp2
  repeat (go_quiet (fail); try go_wp2)
  go_loopg [5] k (fun kq v5 w' => ∃ (x5_1 : Int), v5 = .int .i64 x5_1 ∧ Aside0 (server_zzIndexBytes.l0 kq l0 l1 x5_1 = some r) ∧ Aside0 (kq ≤ k) ∧ Drawn0 w w')
  case atStart => exact ⟨(0), (by first | rfl | (simp; done) | (simp [*]; done)), H', ⟨Nat.le_refl _⟩, by repeat (first | exact Drawn0.refl _ | apply Drawn0.step)⟩
  case round =>
    clear H'
    try clear c1
    try clear c2
    try clear p2
    obtain ⟨x5_1, rfl, HA, HK1, ⟨m1, rfl⟩⟩ := hrel
    cases gk with
    | zero => exact absurd HA.out (by simp [server_zzIndexBytes.l0])
    | succ k1 =>
      have H := HA.out
      clear HA
      simp only [server_zzIndexBytes.l0] at H
      by_cases c3 : (wrap64 (x5_1 + (l1.length : Int))) ≤ (l0.length : Int)
      · rw [if_pos c3] at H
        have c3b0 : decide ((wrap64 (x5_1 + (l1.length : Int))) ≤ (l0.length : Int)) = true := decide_eq_true c3
        clear c3
        by_cases c4 : 0 ≤ x5_1
        · rw [if_pos c4] at H
          have c4b0 := eq_true c4
          have c4b1 : decide (0 ≤ x5_1) = true := decide_eq_true c4
          clear c4
          by_cases c5 : x5_1 ≤ (wrap64 (x5_1 + (l1.length : Int)))
          · rw [if_pos c5] at H
            have c5b0 := eq_true c5
            have c5b1 : decide (x5_1 ≤ (wrap64 (x5_1 + (l1.length : Int)))) = true := decide_eq_true c5
            have c6b0 := eq_true (of_decide_eq_true (by first | (with_reducible assumption) | assumption) : (wrap64 (x5_1 + (l1.length : Int))) ≤ (l0.length : Int))
            by_cases c7 : (strOfNums ((l0.take ((wrap64 (x5_1 + (l1.length : Int))) : Int).toNat).drop (x5_1 : Int).toNat)).toList = (strOfNums l1).toList
            · rw [if_pos c7] at H
              have c7b0 : ((strOfNums ((l0.take ((wrap64 (x5_1 + (l1.length : Int))) : Int).toNat).drop (x5_1 : Int).toNat)).toList == (strOfNums l1).toList) = true := beq_iff_eq.mpr c7
              have c7b1 : ((strOfNums ((l0.take ((wrap64 (x5_1 + (l1.length : Int))) : Int).toNat).drop (x5_1 : Int).toNat)).toList != (strOfNums l1).toList) = false := bne_eq_false_iff_eq.mpr c7
              clear c7
              obtain rfl := Option.some.inj H
              obtain ⟨i08, hi08, _, hsz8, _⟩ := info_parts info5
              obtain ⟨A8, hcut8, hA8, hC8⟩ := print_mid_of (P := Try.prog) (Value.int .u8) 0 28 5 .i64 .i64 Try.underlying28 hi08 hsz8 A0 c0 l0 x5_1 (wrap64 (x5_1 + (l1.length : Int))) (of_decide_eq_true (by first | (with_reducible assumption) | assumption)) (by first | omega | exact of_decide_eq_true (by first | (with_reducible assumption) | assumption)) (of_decide_eq_true (by first | (with_reducible assumption) | assumption)) HC0.out
              have HR138 := Aside0.mk (Kd.C_of_reads (h1 := fun _ => rfl) (hA8 _ (Kd.reads_of_C HR0.out)))
              have HC138 := Aside0.mk hC8
              clear hA8 hC8 hi08 hsz8
              have hcv9 := fun n : Nat => Kd.C_string (P := Try.prog) (w := w.drewN n) (A := A8) (c := (c0 - x5_1.toNat)) Try.underlying28 Try.underlying5 Try.underlying9 HR138.out
              have hcv9s := hcv9
              simp only [List.length_drop, List.length_take, Nat.min_eq_left (show ((wrap64 (x5_1 + (l1.length : Int))) : Int).toNat ≤ l0.length by first | omega | (have h_ := of_eq_true (by assumption : ((wrap64 (x5_1 + (l1.length : Int))) ≤ (l0.length : Int)) = True); omega))] at hcv9s
              have hcv10 := fun n : Nat => Kd.C_string (P := Try.prog) (w := w.drewN n) (A := A1) (c := c1) Try.underlying28 Try.underlying5 Try.underlying9 HR1.out
              go_wp2
              repeat (go_quiet (fail); try go_wp2)
              go_ret
              exact ⟨by first | rfl | (simp; done) | (simp [*]; done), by repeat (first | exact Drawn0.refl _ | apply Drawn0.step)⟩
            · rw [if_neg c7] at H
              have c7b0 : ((strOfNums ((l0.take ((wrap64 (x5_1 + (l1.length : Int))) : Int).toNat).drop (x5_1 : Int).toNat)).toList == (strOfNums l1).toList) = false := beq_eq_false_iff_ne.mpr c7
              have c7b1 : ((strOfNums ((l0.take ((wrap64 (x5_1 + (l1.length : Int))) : Int).toNat).drop (x5_1 : Int).toNat)).toList != (strOfNums l1).toList) = true := bne_iff_ne.mpr c7
              have H' := Aside0.mk H
              clear H
              obtain ⟨i011, hi011, _, hsz11, _⟩ := info_parts info5
              obtain ⟨A11, hcut11, hA11, hC11⟩ := print_mid_of (P := Try.prog) (Value.int .u8) 0 28 5 .i64 .i64 Try.underlying28 hi011 hsz11 A0 c0 l0 x5_1 (wrap64 (x5_1 + (l1.length : Int))) (of_decide_eq_true (by first | (with_reducible assumption) | assumption)) (by first | omega | exact of_decide_eq_true (by first | (with_reducible assumption) | assumption)) (of_decide_eq_true (by first | (with_reducible assumption) | assumption)) HC0.out
              have HR138 := Aside0.mk (Kd.C_of_reads (h1 := fun _ => rfl) (hA11 _ (Kd.reads_of_C HR0.out)))
              have HC138 := Aside0.mk hC11
              clear hA11 hC11 hi011 hsz11
              have hcv12 := fun n : Nat => Kd.C_string (P := Try.prog) (w := w.drewN n) (A := A11) (c := (c0 - x5_1.toNat)) Try.underlying28 Try.underlying5 Try.underlying9 HR138.out
              have hcv12s := hcv12
              simp only [List.length_drop, List.length_take, Nat.min_eq_left (show ((wrap64 (x5_1 + (l1.length : Int))) : Int).toNat ≤ l0.length by first | omega | (have h_ := of_eq_true (by assumption : ((wrap64 (x5_1 + (l1.length : Int))) ≤ (l0.length : Int)) = True); omega))] at hcv12s
              have hcv13 := fun n : Nat => Kd.C_string (P := Try.prog) (w := w.drewN n) (A := A1) (c := c1) Try.underlying28 Try.underlying5 Try.underlying9 HR1.out
              go_wp2
              repeat (go_quiet (fail); try go_wp2)
              go_roundg k1
              case measure => have := HK1.out; omega
              case rel => exact ⟨(wrap64 (x5_1 + 1)), (by first | rfl | (simp; done) | (simp [*]; done)), H', ⟨by have := HK1.out; omega⟩, by repeat (first | exact Drawn0.refl _ | apply Drawn0.step)⟩
          · rw [if_neg c5] at H
            exact absurd H (by simp)
        · rw [if_neg c4] at H
          exact absurd H (by simp)
      · rw [if_neg c3] at H
        have c3b0 : decide ((wrap64 (x5_1 + (l1.length : Int))) ≤ (l0.length : Int)) = false := decide_eq_false c3
        clear c3
        obtain rfl := Option.some.inj H
        go_wp2
        repeat (go_quiet (fail); try go_wp2)
        go_ret
        exact ⟨by first | rfl | (simp; done) | (simp [*]; done), by repeat (first | exact Drawn0.refl _ | apply Drawn0.step)⟩

/-! ### server_stringToBytes: function 30 (by hand) -/
def server_stringToBytes.f (a0 : ByteArray) : Option (List Int) := if a0.size ≤ 140737488351232 then some (bytesOf a0) else none
set_option maxHeartbeats 8000000 in
set_option maxRecDepth 100000 in
theorem server_stringToBytes.calls (a0 : ByteArray) (r : List Int) (w : World) (h : server_stringToBytes.f a0 = some r) :
    Calls Try.prog 30 #[.string a0] w fun e w' => ∃ v0_, e = .returned v0_ ∧ Kd.V (Kd.int .u8) 5 w' w.heap.size (fun k_ => w.heap.size ≤ k_) v0_ r ∧ Below w.heap.size w w' := by
  by_cases hl : a0.size ≤ 140737488351232
  · rw [server_stringToBytes.f, if_pos hl] at h
    obtain rfl := Option.some.inj h
    obtain ⟨c, w1, hrun, hv, -, hb⟩ := Hg.conv_V (w := w) a0 hl
    have HV := Aside0.mk hv
    have HB := Aside0.mk hb
    clear h hl hv hb
    go_enter Try.func30, Try.ntmps30
    go_wp2
    go_ret
    exact ⟨_, rfl, HV.out, HB.out⟩
  · rw [server_stringToBytes.f, if_neg hl] at h
    cases h

end Go.Proofs.Ytnkioieocjgekaa.GFnHeaderGet
