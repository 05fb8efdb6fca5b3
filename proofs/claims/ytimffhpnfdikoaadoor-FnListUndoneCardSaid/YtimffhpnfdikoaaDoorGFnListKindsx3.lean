/- A walk of Go functions (plain functions of theirs, and that the machine's calls do what these say), written by a program of this session's. -/
import Derived.Test.YtimffhpnfdikoaaDoorGFnListKindsx0
import Derived.Test.YtimffhpnfdikoaaDoorGFnListKindsx1
import Derived.Test.YtimffhpnfdikoaaDoorGFnListKindsx2
namespace Go.Proofs.YtimffhpnfdikoaaDoor.GFnListKinds
open Go.RowKit Go.Proofs.YtimffhpnfdikoaaDoorW.PrintWords Go.Proofs.YtimffhpnfdikoaaDoorW.PrintLast Go.Proofs.YtimffhpnfdikoaaDoorW.PrintMore
attribute [local go_sem] max2_int min2_int max_two min_two max_three min_three max_four min_four   -- for this text's walks alone
set_option linter.unusedVariables false
set_option linter.unusedSimpArgs false

/-! ### spec_Formed: function 31 -/
def spec_Formed.l0 : Nat → List ByteArray → Int → Option (Bool)
  | 0, _, _ => none
  | k + 1, x0, x3 => if x3 < (x0.length : Int) then (if 0 ≤ x3 then (if (rdOf ByteArray.empty x0 x3).toList = ([] : List UInt8) then (some false) else (if (rdOf ByteArray.empty x0 x3).toList = ([62] : List UInt8) then (if (wrap64 (x3 + 1)) < (x0.length : Int) then (some false) else (spec_Formed.l0 k x0 (wrap64 (x3 + 1)))) else (spec_Formed.l0 k x0 (wrap64 (x3 + 1))))) else (none)) else (some true)
def spec_Formed.f (k : Nat) (l0 : List ByteArray) : Option (Bool) := spec_Formed.l0 k l0 0
theorem spec_Formed.mono_l : ∀ k, (∀ y0 y1, LeO (spec_Formed.l0 k y0 y1) (spec_Formed.l0 (k + 1) y0 y1))
  | 0 => fun _ _ r h => by simp [spec_Formed.l0] at h
  | k + 1 => by
    have ih0 := spec_Formed.mono_l k
    · intro y0 y1
      unfold spec_Formed.l0
      repeat' first
      | (with_reducible exact ih0 _ _)
      | (with_reducible exact LeO.refl _)
      | (with_reducible exact LeO.none _)
      | (with_reducible refine LeO.ite ?_ ?_)
      | (with_reducible refine LeO.bind ?_ (fun _ => ?_))
      | exact ih0 _ _
      | exact LeO.none _
      | refine LeO.ite ?_ ?_
      | refine LeO.bind ?_ (fun _ => ?_)
theorem spec_Formed.mono : ∀ a0 k, LeO (spec_Formed.f k a0) (spec_Formed.f (k + 1) a0) := by
  intro a0 k
  have ih0 := spec_Formed.mono_l k
  unfold spec_Formed.f
  repeat' first
      | (with_reducible exact ih0 _ _)
      | (with_reducible exact LeO.refl _)
      | (with_reducible exact LeO.none _)
      | (with_reducible refine LeO.ite ?_ ?_)
      | (with_reducible refine LeO.bind ?_ (fun _ => ?_))
      | exact ih0 _ _
      | exact LeO.none _
      | refine LeO.ite ?_ ?_
      | refine LeO.bind ?_ (fun _ => ?_)
set_option maxHeartbeats 8000000 in
set_option maxRecDepth 100000 in
theorem spec_Formed.calls (k : Nat) (A0 : Option Addr) (c0 : Nat) (l0 : List ByteArray) (r : Bool) (w : World) (hr0 : Kd.C Kd.string w A0 l0.length l0) (hc0 : l0.length ≤ c0) (h : spec_Formed.f k l0 = some r) :
    Calls Tryd.prog 31 #[.slice A0 l0.length c0] w fun e w' => e = .returned (.bool r) ∧ Drawn0 w w' := by
  have HR0 := Aside0.mk hr0
  have HC0 := Aside0.mk hc0
  clear hr0 hc0
  have H : (spec_Formed.l0 k l0 0) = some r := h
  clear h
  have H' := Aside0.mk H
  clear H
  go_enter Tryd.func31, Tryd.ntmps31
  go_wp2
  go_loopg [3] k (fun kq v3 w' => ∃ (x3_1 : Int), v3 = .int .i64 x3_1 ∧ Aside0 (spec_Formed.l0 kq l0 x3_1 = some r) ∧ Aside0 (kq ≤ k) ∧ Drawn0 w w')
  case atStart => exact ⟨(0), (by first | rfl | (simp; done) | (simp [*]; done)), H', ⟨Nat.le_refl _⟩, by repeat (first | exact Drawn0.refl _ | apply Drawn0.step)⟩
  case round =>
    clear H'
    obtain ⟨x3_1, rfl, HA, HK1, ⟨m1, rfl⟩⟩ := hrel
    cases gk with
    | zero => exact absurd HA.out (by simp [spec_Formed.l0])
    | succ k1 =>
      have H := HA.out
      clear HA
      simp only [spec_Formed.l0] at H
      by_cases c2 : x3_1 < (l0.length : Int)
      · rw [if_pos c2] at H
        have c2b0 : decide (x3_1 < (l0.length : Int)) = true := decide_eq_true c2
        clear c2
        by_cases c3 : 0 ≤ x3_1
        · rw [if_pos c3] at H
          have c3b0 : decide (0 ≤ x3_1) = true := decide_eq_true c3
          clear c3
          by_cases c4 : (rdOf ByteArray.empty l0 x3_1).toList = ([] : List UInt8)
          · rw [if_pos c4] at H
            have c4b0 : ((rdOf ByteArray.empty l0 x3_1).toList == ([] : List UInt8)) = true := beq_iff_eq.mpr c4
            have c4b1 : ((rdOf ByteArray.empty l0 x3_1).toList != ([] : List UInt8)) = false := bne_eq_false_iff_eq.mpr c4
            clear c4
            obtain rfl := Option.some.inj H
            have p137 : 0 ≤ (x3_1 : Int) := of_decide_eq_true (by first | (with_reducible assumption) | assumption)
            have q137 : x3_1 < (l0.length : Int) := of_decide_eq_true (by first | (with_reducible assumption) | assumption)
            obtain ⟨ad137, e137, hx137_0⟩ := Kd.at_string HR0.out x3_1 p137 q137
            cases e137
            replace p137 := eq_true p137
            replace q137 := eq_true q137
            go_wp2
            go_ret
            exact ⟨by first | rfl | (simp; done) | (simp [*]; done) | (simp; cases a0.toList <;> rfl) /- isEmpty -/, by repeat (first | exact Drawn0.refl _ | apply Drawn0.step)⟩
          · rw [if_neg c4] at H
            have c4b0 : ((rdOf ByteArray.empty l0 x3_1).toList == ([] : List UInt8)) = false := beq_eq_false_iff_ne.mpr c4
            have c4b1 : ((rdOf ByteArray.empty l0 x3_1).toList != ([] : List UInt8)) = true := bne_iff_ne.mpr c4
            by_cases c5 : (rdOf ByteArray.empty l0 x3_1).toList = ([62] : List UInt8)
            · rw [if_pos c5] at H
              have c5b0 : ((rdOf ByteArray.empty l0 x3_1).toList == ([62] : List UInt8)) = true := beq_iff_eq.mpr c5
              have c5b1 : ((rdOf ByteArray.empty l0 x3_1).toList != ([62] : List UInt8)) = false := bne_eq_false_iff_eq.mpr c5
              clear c5
              by_cases c6 : (wrap64 (x3_1 + 1)) < (l0.length : Int)
              · rw [if_pos c6] at H
                have c6b0 : decide ((wrap64 (x3_1 + 1)) < (l0.length : Int)) = true := decide_eq_true c6
                clear c6
                obtain rfl := Option.some.inj H
                have p137 : 0 ≤ (x3_1 : Int) := of_decide_eq_true (by first | (with_reducible assumption) | assumption)
                have q137 : x3_1 < (l0.length : Int) := of_decide_eq_true (by first | (with_reducible assumption) | assumption)
                obtain ⟨ad137, e137, hx137_0⟩ := Kd.at_string HR0.out x3_1 p137 q137
                cases e137
                replace p137 := eq_true p137
                replace q137 := eq_true q137
                have p138 : 0 ≤ (x3_1 : Int) := of_decide_eq_true (by first | (with_reducible assumption) | assumption)
                have q138 : x3_1 < (l0.length : Int) := of_decide_eq_true (by first | (with_reducible assumption) | assumption)
                obtain ⟨ad138, e138, hx138_0⟩ := Kd.at_string HR0.out x3_1 p138 q138
                obtain rfl : ad137 = ad138 := (by injection e138)
                replace p138 := eq_true p138
                replace q138 := eq_true q138
                go_wp2
                go_ret
                exact ⟨by first | rfl | (simp; done) | (simp [*]; done) | (simp; cases a0.toList <;> rfl) /- isEmpty -/, by repeat (first | exact Drawn0.refl _ | apply Drawn0.step)⟩
              · rw [if_neg c6] at H
                have c6b0 : decide ((wrap64 (x3_1 + 1)) < (l0.length : Int)) = false := decide_eq_false c6
                clear c6
                have H' := Aside0.mk H
                clear H
                have p137 : 0 ≤ (x3_1 : Int) := of_decide_eq_true (by first | (with_reducible assumption) | assumption)
                have q137 : x3_1 < (l0.length : Int) := of_decide_eq_true (by first | (with_reducible assumption) | assumption)
                obtain ⟨ad137, e137, hx137_0⟩ := Kd.at_string HR0.out x3_1 p137 q137
                cases e137
                replace p137 := eq_true p137
                replace q137 := eq_true q137
                have p138 : 0 ≤ (x3_1 : Int) := of_decide_eq_true (by first | (with_reducible assumption) | assumption)
                have q138 : x3_1 < (l0.length : Int) := of_decide_eq_true (by first | (with_reducible assumption) | assumption)
                obtain ⟨ad138, e138, hx138_0⟩ := Kd.at_string HR0.out x3_1 p138 q138
                obtain rfl : ad137 = ad138 := (by injection e138)
                replace p138 := eq_true p138
                replace q138 := eq_true q138
                go_wp2
                go_roundg k1
                case measure => have := HK1.out; omega
                case rel => exact ⟨(wrap64 (x3_1 + 1)), (by first | rfl | (simp; done) | (simp [*]; done)), H', ⟨by have := HK1.out; omega⟩, by repeat (first | exact Drawn0.refl _ | apply Drawn0.step)⟩
            · rw [if_neg c5] at H
              have c5b0 : ((rdOf ByteArray.empty l0 x3_1).toList == ([62] : List UInt8)) = false := beq_eq_false_iff_ne.mpr c5
              have c5b1 : ((rdOf ByteArray.empty l0 x3_1).toList != ([62] : List UInt8)) = true := bne_iff_ne.mpr c5
              have H' := Aside0.mk H
              clear H
              have p137 : 0 ≤ (x3_1 : Int) := of_decide_eq_true (by first | (with_reducible assumption) | assumption)
              have q137 : x3_1 < (l0.length : Int) := of_decide_eq_true (by first | (with_reducible assumption) | assumption)
              obtain ⟨ad137, e137, hx137_0⟩ := Kd.at_string HR0.out x3_1 p137 q137
              cases e137
              replace p137 := eq_true p137
              replace q137 := eq_true q137
              have p138 : 0 ≤ (x3_1 : Int) := of_decide_eq_true (by first | (with_reducible assumption) | assumption)
              have q138 : x3_1 < (l0.length : Int) := of_decide_eq_true (by first | (with_reducible assumption) | assumption)
              obtain ⟨ad138, e138, hx138_0⟩ := Kd.at_string HR0.out x3_1 p138 q138
              obtain rfl : ad137 = ad138 := (by injection e138)
              replace p138 := eq_true p138
              replace q138 := eq_true q138
              go_wp2
              go_roundg k1
              case measure => have := HK1.out; omega
              case rel => exact ⟨(wrap64 (x3_1 + 1)), (by first | rfl | (simp; done) | (simp [*]; done)), H', ⟨by have := HK1.out; omega⟩, by repeat (first | exact Drawn0.refl _ | apply Drawn0.step)⟩
        · rw [if_neg c3] at H
          exact absurd H (by simp)
      · rw [if_neg c2] at H
        have c2b0 : decide (x3_1 < (l0.length : Int)) = false := decide_eq_false c2
        clear c2
        obtain rfl := Option.some.inj H
        go_wp2
        go_ret
        exact ⟨by first | rfl | (simp; done) | (simp [*]; done) | (simp; cases a0.toList <;> rfl) /- isEmpty -/, by repeat (first | exact Drawn0.refl _ | apply Drawn0.step)⟩

-- NOT PRINTED: function 12 (spec_List)

/-! ### spec_Twice: function 11 -/
def spec_Twice.l0 : Nat → List (S46) → Int → Option (Bool)
  | 0, _, _ => none
  | k + 1, x0, x3 => if x3 < (x0.length : Int) then (if 0 ≤ x3 then (if x3 ≤ (x0.length : Int) then (none) else (none)) else (none)) else (some false)
def spec_Twice.f (k : Nat) (l0 : List (S46)) : Option (Bool) := spec_Twice.l0 k l0 0
theorem spec_Twice.mono_l : ∀ k, (∀ y0 y1, LeO (spec_Twice.l0 k y0 y1) (spec_Twice.l0 (k + 1) y0 y1))
  | 0 => fun _ _ r h => by simp [spec_Twice.l0] at h
  | k + 1 => by
    have ih0 := spec_Twice.mono_l k
    · intro y0 y1
      unfold spec_Twice.l0
      repeat' first
      | (with_reducible exact ih0 _ _)
      | (with_reducible exact LeO.refl _)
      | (with_reducible exact LeO.none _)
      | (with_reducible refine LeO.ite ?_ ?_)
      | (with_reducible refine LeO.bind ?_ (fun _ => ?_))
      | exact ih0 _ _
      | exact LeO.none _
      | refine LeO.ite ?_ ?_
      | refine LeO.bind ?_ (fun _ => ?_)
theorem spec_Twice.mono : ∀ a0 k, LeO (spec_Twice.f k a0) (spec_Twice.f (k + 1) a0) := by
  intro a0 k
  have ih0 := spec_Twice.mono_l k
  unfold spec_Twice.f
  repeat' first
      | (with_reducible exact ih0 _ _)
      | (with_reducible exact LeO.refl _)
      | (with_reducible exact LeO.none _)
      | (with_reducible refine LeO.ite ?_ ?_)
      | (with_reducible refine LeO.bind ?_ (fun _ => ?_))
      | exact ih0 _ _
      | exact LeO.none _
      | refine LeO.ite ?_ ?_
      | refine LeO.bind ?_ (fun _ => ?_)
set_option maxHeartbeats 8000000 in
set_option maxRecDepth 100000 in
theorem spec_Twice.calls (k : Nat) (A0 : Option Addr) (c0 : Nat) (l0 : List (S46)) (r : Bool) (w : World) (hr0 : Kd.C k46 w A0 l0.length l0) (hc0 : l0.length ≤ c0) (h : spec_Twice.f k l0 = some r) :
    Calls Tryd.prog 11 #[.slice A0 l0.length c0] w fun e w' => e = .returned (.bool r) ∧ Drawn0 w w' := by
  have HR0 := Aside0.mk hr0
  have HC0 := Aside0.mk hc0
  clear hr0 hc0
  have H : (spec_Twice.l0 k l0 0) = some r := h
  clear h
  have H' := Aside0.mk H
  clear H
  go_enter Tryd.func11, Tryd.ntmps11
  go_wp2
  repeat (go_quiet (fail); try go_wp2)
  go_loopg [3] k (fun kq v3 w' => ∃ (x3_1 : Int), v3 = .int .i64 x3_1 ∧ Aside0 (spec_Twice.l0 kq l0 x3_1 = some r) ∧ Aside0 (kq ≤ k) ∧ Drawn0 w w')
  case atStart => exact ⟨(0), (by first | rfl | (simp; done) | (simp [*]; done)), H', ⟨Nat.le_refl _⟩, by repeat (first | exact Drawn0.refl _ | apply Drawn0.step)⟩
  case round =>
    clear H'
    try clear c1
    obtain ⟨x3_1, rfl, HA, HK1, ⟨m1, rfl⟩⟩ := hrel
    cases gk with
    | zero => exact absurd HA.out (by simp [spec_Twice.l0])
    | succ k1 =>
      have H := HA.out
      clear HA
      simp only [spec_Twice.l0] at H
      by_cases c2 : x3_1 < (l0.length : Int)
      · rw [if_pos c2] at H
        have c2b0 : decide (x3_1 < (l0.length : Int)) = true := decide_eq_true c2
        clear c2
        by_cases c3 : 0 ≤ x3_1
        · rw [if_pos c3] at H
          have c3b0 := eq_true c3
          have c3b1 : decide (0 ≤ x3_1) = true := decide_eq_true c3
          clear c3
          by_cases c4 : x3_1 ≤ (l0.length : Int)
          · rw [if_pos c4] at H
            have c4b0 := eq_true c4
            have c4b1 : decide (x3_1 ≤ (l0.length : Int)) = true := decide_eq_true c4
            clear c4
            obtain ⟨y263, hy263⟩ : ∃ y_ : List (S46), y_ = (l0.take (x3_1 : Int).toNat) := ⟨_, rfl⟩
            replace H : (none) = some r := by first | (rw [hy263]; with_reducible exact H) | (have H2_ := (Option.bind_some _ _).symm.trans H; rw [hy263]; with_reducible exact H2_) | (have H2_ := (Option.bind_some _ _).symm.trans H; with_reducible exact H2_) | with_reducible exact H | (rw [hy263]; exact H) | exact H
            have Ny263 := Aside0.mk hy263
            clear hy263
            exact absurd H (by simp)
          · rw [if_neg c4] at H
            exact absurd H (by simp)
        · rw [if_neg c3] at H
          exact absurd H (by simp)
      · rw [if_neg c2] at H
        have c2b0 : decide (x3_1 < (l0.length : Int)) = false := decide_eq_false c2
        clear c2
        obtain rfl := Option.some.inj H
        go_wp2
        repeat (go_quiet (fail); try go_wp2)
        go_ret
        exact ⟨by first | rfl | (simp; done) | (simp [*]; done) | (simp; cases a0.toList <;> rfl) /- isEmpty -/, by repeat (first | exact Drawn0.refl _ | apply Drawn0.step)⟩

/-! ### laws_sameInts: function 14 -/
def laws_sameInts.l0 : Nat → List Int → List Int → Int → Option (Bool)
  | 0, _, _, _ => none
  | k + 1, x0, x1, x5 => if x5 < (x0.length : Int) then (if 0 ≤ x5 then (if x5 < (x1.length : Int) then (if (rd x0 x5) = (rd x1 x5) then (laws_sameInts.l0 k x0 x1 (wrap64 (x5 + 1))) else (some false)) else (none)) else (none)) else (some true)
def laws_sameInts.f (k : Nat) (l0 : List Int) (l1 : List Int) : Option (Bool) := if (l0.length : Int) = (l1.length : Int) then (laws_sameInts.l0 k l0 l1 0) else (some false)
theorem laws_sameInts.mono_l : ∀ k, (∀ y0 y1 y2, LeO (laws_sameInts.l0 k y0 y1 y2) (laws_sameInts.l0 (k + 1) y0 y1 y2))
  | 0 => fun _ _ _ r h => by simp [laws_sameInts.l0] at h
  | k + 1 => by
    have ih0 := laws_sameInts.mono_l k
    · intro y0 y1 y2
      unfold laws_sameInts.l0
      repeat' first
      | (with_reducible exact ih0 _ _ _)
      | (with_reducible exact LeO.refl _)
      | (with_reducible exact LeO.none _)
      | (with_reducible refine LeO.ite ?_ ?_)
      | (with_reducible refine LeO.bind ?_ (fun _ => ?_))
      | exact ih0 _ _ _
      | exact LeO.none _
      | refine LeO.ite ?_ ?_
      | refine LeO.bind ?_ (fun _ => ?_)
theorem laws_sameInts.mono : ∀ a0 a1 k, LeO (laws_sameInts.f k a0 a1) (laws_sameInts.f (k + 1) a0 a1) := by
  intro a0 a1 k
  have ih0 := laws_sameInts.mono_l k
  unfold laws_sameInts.f
  repeat' first
      | (with_reducible exact ih0 _ _ _)
      | (with_reducible exact LeO.refl _)
      | (with_reducible exact LeO.none _)
      | (with_reducible refine LeO.ite ?_ ?_)
      | (with_reducible refine LeO.bind ?_ (fun _ => ?_))
      | exact ih0 _ _ _
      | exact LeO.none _
      | refine LeO.ite ?_ ?_
      | refine LeO.bind ?_ (fun _ => ?_)
set_option maxHeartbeats 8000000 in
set_option maxRecDepth 100000 in
theorem laws_sameInts.calls (k : Nat) (A0 : Option Addr) (c0 : Nat) (l0 : List Int) (A1 : Option Addr) (c1 : Nat) (l1 : List Int) (r : Bool) (w : World) (hr0 : Kd.C (Kd.int .i64) w A0 l0.length l0) (hc0 : l0.length ≤ c0) (hr1 : Kd.C (Kd.int .i64) w A1 l1.length l1) (hc1 : l1.length ≤ c1) (h : laws_sameInts.f k l0 l1 = some r) :
    Calls Tryd.prog 14 #[.slice A0 l0.length c0, .slice A1 l1.length c1] w fun e w' => e = .returned (.bool r) ∧ Drawn0 w w' := by
  have HR0 := Aside0.mk hr0
  have HC0 := Aside0.mk hc0
  clear hr0 hc0
  have HR1 := Aside0.mk hr1
  have HC1 := Aside0.mk hc1
  clear hr1 hc1
  have H : (if (l0.length : Int) = (l1.length : Int) then (laws_sameInts.l0 k l0 l1 0) else (some false)) = some r := h
  clear h
  by_cases c3 : (l0.length : Int) = (l1.length : Int)
  · rw [if_pos c3] at H
    have c3b0 : ((l0.length : Int) == (l1.length : Int)) = true := beq_iff_eq.mpr c3
    have c3b1 : ((l0.length : Int) != (l1.length : Int)) = false := bne_eq_false_iff_eq.mpr c3
    have c3b2 : (l0.length == l1.length) = true := by first | simpa using c3 | (simp at c3 ⊢; omega)
    clear c3
    have H' := Aside0.mk H
    clear H
    go_enter Tryd.func14, Tryd.ntmps14
    go_wp2
    repeat (go_quiet (fail); try go_wp2)
    go_loopg [5] k (fun kq v5 w' => ∃ (x5_1 : Int), v5 = .int .i64 x5_1 ∧ Aside0 (laws_sameInts.l0 kq l0 l1 x5_1 = some r) ∧ Aside0 (kq ≤ k) ∧ Drawn0 w w')
    case atStart => exact ⟨(0), (by first | rfl | (simp; done) | (simp [*]; done)), H', ⟨Nat.le_refl _⟩, by repeat (first | exact Drawn0.refl _ | apply Drawn0.step)⟩
    case round =>
      clear H'
      try clear c1
      try clear p2
      try clear c3
      try clear c3b0
      try clear c3b1
      try clear c3b2
      obtain ⟨x5_1, rfl, HA, HK1, ⟨m1, rfl⟩⟩ := hrel
      cases gk with
      | zero => exact absurd HA.out (by simp [laws_sameInts.l0])
      | succ k1 =>
        have H := HA.out
        clear HA
        simp only [laws_sameInts.l0] at H
        by_cases c4 : x5_1 < (l0.length : Int)
        · rw [if_pos c4] at H
          have c4b0 : decide (x5_1 < (l0.length : Int)) = true := decide_eq_true c4
          clear c4
          by_cases c5 : 0 ≤ x5_1
          · rw [if_pos c5] at H
            have c5b0 : decide (0 ≤ x5_1) = true := decide_eq_true c5
            clear c5
            by_cases c6 : x5_1 < (l1.length : Int)
            · rw [if_pos c6] at H
              have c6b0 : decide (x5_1 < (l1.length : Int)) = true := decide_eq_true c6
              clear c6
              by_cases c7 : (rd l0 x5_1) = (rd l1 x5_1)
              · rw [if_pos c7] at H
                have c7b0 : ((rd l0 x5_1) == (rd l1 x5_1)) = true := beq_iff_eq.mpr c7
                have c7b1 : ((rd l0 x5_1) != (rd l1 x5_1)) = false := bne_eq_false_iff_eq.mpr c7
                clear c7
                have H' := Aside0.mk H
                clear H
                have p267 : 0 ≤ (x5_1 : Int) := of_decide_eq_true (by first | (with_reducible assumption) | assumption)
                have q267 : x5_1 < (l0.length : Int) := of_decide_eq_true (by first | (with_reducible assumption) | assumption)
                obtain ⟨ad267, e267, hx267_0⟩ := Kd.at_int HR0.out x5_1 p267 q267
                cases e267
                replace p267 := eq_true p267
                replace q267 := eq_true q267
                have p268 : 0 ≤ (x5_1 : Int) := of_decide_eq_true (by first | (with_reducible assumption) | assumption)
                have q268 : x5_1 < (l1.length : Int) := of_decide_eq_true (by first | (with_reducible assumption) | assumption)
                obtain ⟨ad268, e268, hx268_0⟩ := Kd.at_int HR1.out x5_1 p268 q268
                cases e268
                replace p268 := eq_true p268
                replace q268 := eq_true q268
                go_wp2
                repeat (go_quiet (fail); try go_wp2)
                go_roundg k1
                case measure => have := HK1.out; omega
                case rel => exact ⟨(wrap64 (x5_1 + 1)), (by first | rfl | (simp; done) | (simp [*]; done)), H', ⟨by have := HK1.out; omega⟩, by repeat (first | exact Drawn0.refl _ | apply Drawn0.step)⟩
              · rw [if_neg c7] at H
                have c7b0 : ((rd l0 x5_1) == (rd l1 x5_1)) = false := beq_eq_false_iff_ne.mpr c7
                have c7b1 : ((rd l0 x5_1) != (rd l1 x5_1)) = true := bne_iff_ne.mpr c7
                obtain rfl := Option.some.inj H
                have p267 : 0 ≤ (x5_1 : Int) := of_decide_eq_true (by first | (with_reducible assumption) | assumption)
                have q267 : x5_1 < (l0.length : Int) := of_decide_eq_true (by first | (with_reducible assumption) | assumption)
                obtain ⟨ad267, e267, hx267_0⟩ := Kd.at_int HR0.out x5_1 p267 q267
                cases e267
                replace p267 := eq_true p267
                replace q267 := eq_true q267
                have p268 : 0 ≤ (x5_1 : Int) := of_decide_eq_true (by first | (with_reducible assumption) | assumption)
                have q268 : x5_1 < (l1.length : Int) := of_decide_eq_true (by first | (with_reducible assumption) | assumption)
                obtain ⟨ad268, e268, hx268_0⟩ := Kd.at_int HR1.out x5_1 p268 q268
                cases e268
                replace p268 := eq_true p268
                replace q268 := eq_true q268
                go_wp2
                repeat (go_quiet (fail); try go_wp2)
                go_ret
                exact ⟨by first | rfl | (simp; done) | (simp [*]; done) | (simp; cases a0.toList <;> rfl) /- isEmpty -/, by repeat (first | exact Drawn0.refl _ | apply Drawn0.step)⟩
            · rw [if_neg c6] at H
              exact absurd H (by simp)
          · rw [if_neg c5] at H
            exact absurd H (by simp)
        · rw [if_neg c4] at H
          have c4b0 : decide (x5_1 < (l0.length : Int)) = false := decide_eq_false c4
          clear c4
          obtain rfl := Option.some.inj H
          go_wp2
          repeat (go_quiet (fail); try go_wp2)
          go_ret
          exact ⟨by first | rfl | (simp; done) | (simp [*]; done) | (simp; cases a0.toList <;> rfl) /- isEmpty -/, by repeat (first | exact Drawn0.refl _ | apply Drawn0.step)⟩
  · rw [if_neg c3] at H
    have c3b0 : ((l0.length : Int) == (l1.length : Int)) = false := beq_eq_false_iff_ne.mpr c3
    have c3b1 : ((l0.length : Int) != (l1.length : Int)) = true := bne_iff_ne.mpr c3
    have c3b2 : (l0.length == l1.length) = false := by first | simpa using c3 | (simp at c3 ⊢; omega)
    obtain rfl := Option.some.inj H
    go_enter Tryd.func14, Tryd.ntmps14
    go_wp2
    repeat (go_quiet (fail); try go_wp2)
    go_ret
    exact ⟨by first | rfl | (simp; done) | (simp [*]; done) | (simp; cases a0.toList <;> rfl) /- isEmpty -/, by repeat (first | exact Drawn0.refl _ | apply Drawn0.step)⟩

/-! ### laws_FnListKinds: function 3 -/
def laws_FnListKinds.j0 : Nat → Bool → Option (Bool)
  | 0, _ => none
  | k + 1, x18 => if x18 = true then (some true) else (none)
def laws_FnListKinds.f (k : Nat) (l0 : List (S46)) : Option (Bool) := (laws_zzFits5.f k l0).bind fun t269 => (if t269 = true then ((laws_awakeList.f).bind fun t270 => (if t270 = true then ((laws_deeds.f k l0).bind fun t271 => (if t271 = true then ((spec_Twice.f k l0).bind fun t272 => (laws_FnListKinds.j0 k t272)) else (laws_FnListKinds.j0 k true))) else (some false))) else (some true))
theorem laws_FnListKinds.mono_l : ∀ k, (∀ y0, LeO (laws_FnListKinds.j0 k y0) (laws_FnListKinds.j0 (k + 1) y0))
  | 0 => fun _ r h => by simp [laws_FnListKinds.j0] at h
  | k + 1 => by
    have ih0 := laws_FnListKinds.mono_l k
    · intro y0
      unfold laws_FnListKinds.j0
      repeat' first
      | (with_reducible exact ih0 _)
      | (with_reducible exact laws_deeds.mono _ _)
      | (with_reducible exact laws_zzFits5.mono _ _)
      | (with_reducible exact spec_Twice.mono _ _)
      | (with_reducible exact LeO.refl _)
      | (with_reducible exact LeO.none _)
      | (with_reducible refine LeO.ite ?_ ?_)
      | (with_reducible refine LeO.bind ?_ (fun _ => ?_))
      | exact ih0 _
      | exact laws_deeds.mono _ _
      | exact laws_zzFits5.mono _ _
      | exact spec_Twice.mono _ _
      | exact LeO.none _
      | refine LeO.ite ?_ ?_
      | refine LeO.bind ?_ (fun _ => ?_)
theorem laws_FnListKinds.mono : ∀ a0 k, LeO (laws_FnListKinds.f k a0) (laws_FnListKinds.f (k + 1) a0) := by
  intro a0 k
  have ih0 := laws_FnListKinds.mono_l k
  unfold laws_FnListKinds.f
  repeat' first
      | (with_reducible exact ih0 _)
      | (with_reducible exact laws_deeds.mono _ _)
      | (with_reducible exact laws_zzFits5.mono _ _)
      | (with_reducible exact spec_Twice.mono _ _)
      | (with_reducible exact LeO.refl _)
      | (with_reducible exact LeO.none _)
      | (with_reducible refine LeO.ite ?_ ?_)
      | (with_reducible refine LeO.bind ?_ (fun _ => ?_))
      | exact ih0 _
      | exact laws_deeds.mono _ _
      | exact laws_zzFits5.mono _ _
      | exact spec_Twice.mono _ _
      | exact LeO.none _
      | refine LeO.ite ?_ ?_
      | refine LeO.bind ?_ (fun _ => ?_)
set_option maxHeartbeats 8000000 in
set_option maxRecDepth 100000 in
theorem laws_FnListKinds.calls (k : Nat) (A0 : Option Addr) (c0 : Nat) (l0 : List (S46)) (r : Bool) (w : World) (hr0 : Kd.C k46 w A0 l0.length l0) (hc0 : l0.length ≤ c0) (h : laws_FnListKinds.f k l0 = some r) :
    Calls Tryd.prog 3 #[.slice A0 l0.length c0] w fun e w' => e = .returned (.bool r) ∧ Below w.heap.size w w' := by
  have HR0 := Aside0.mk hr0
  have HC0 := Aside0.mk hc0
  clear hr0 hc0
  have HB := Aside0.mk (Below.refl w.heap.size w)
  have H : ((laws_zzFits5.f k l0).bind fun t269 => (if t269 = true then ((laws_awakeList.f).bind fun t270 => (if t270 = true then ((laws_deeds.f k l0).bind fun t271 => (if t271 = true then ((spec_Twice.f k l0).bind fun t272 => (laws_FnListKinds.j0 k t272)) else (laws_FnListKinds.j0 k true))) else (some false))) else (some true))) = some r := h
  clear h
  replace H := Option.bind_eq_some_iff.mp H
  obtain ⟨t269, A20, H⟩ := H
  replace H : (if t269 = true then ((laws_awakeList.f).bind fun t270 => (if t270 = true then ((laws_deeds.f k l0).bind fun t271 => (if t271 = true then ((spec_Twice.f k l0).bind fun t272 => (laws_FnListKinds.j0 k t272)) else (laws_FnListKinds.j0 k true))) else (some false))) else (some true)) = some r := H
  have A2 := Aside0.mk A20
  clear A20
  by_cases c3 : t269 = true
  · subst c3
    have H1 : ((laws_awakeList.f).bind fun t270 => (if t270 = true then ((laws_deeds.f k l0).bind fun t271 => (if t271 = true then ((spec_Twice.f k l0).bind fun t272 => (laws_FnListKinds.j0 k t272)) else (laws_FnListKinds.j0 k true))) else (some false))) = some r := by rw [if_pos rfl] at H; exact H
    clear H
    have H := H1
    clear H1
    replace H := Option.bind_eq_some_iff.mp H
    obtain ⟨t270, A40, H⟩ := H
    replace H : (if t270 = true then ((laws_deeds.f k l0).bind fun t271 => (if t271 = true then ((spec_Twice.f k l0).bind fun t272 => (laws_FnListKinds.j0 k t272)) else (laws_FnListKinds.j0 k true))) else (some false)) = some r := H
    have A4 := Aside0.mk A40
    clear A40
    by_cases c5 : t270 = true
    · subst c5
      have H1 : ((laws_deeds.f k l0).bind fun t271 => (if t271 = true then ((spec_Twice.f k l0).bind fun t272 => (laws_FnListKinds.j0 k t272)) else (laws_FnListKinds.j0 k true))) = some r := by rw [if_pos rfl] at H; exact H
      clear H
      have H := H1
      clear H1
      have HC6 := Aside0.mk H
      clear H
      go_enter Tryd.func3, Tryd.ntmps3
      go_upto_region 5 with (first | ((with_reducible refine gate_callee (f := 8) rfl ?_); refine goesL_ (some 8) rfl rfl Tryd.func8 (by kernel_rfl) rfl #[.slice A0 l0.length c0] rfl (by (try simp only [List.map_toArray, List.map_cons, List.map_nil]); first | done | rfl | (simp only [List.length_drop, List.length_take]; rfl)) ?_; (with_reducible refine (laws_zzFits5.calls k _ _ l0 true _ ?side1 ?side2 A2.out).mono ?_); (case side1 => repeat (first | exact HR0.out | (with_reducible refine Kd.C_alloc ?_ _) | (with_reducible refine Kd.C_drewN ?_ _) | (with_reducible refine Kd.C_drew ?_))); (case side2 => exact HC0.out); rintro e w7 ⟨rfl, hb⟩; refine ⟨_, rfl, ?_⟩; have n0_ := Aside0.mk (below_step (by repeat (first | (with_reducible first | exact HB.out | apply below_alloc | apply pw_below_drewN | apply below_drew1) | exact HB.out)) hb); clear HB; have HB := n0_; clear n0_; (try clear hb); (try clear hb2); (try clear hk); (try clear hi)) | ((with_reducible refine gate_callee (f := 9) rfl ?_); refine goesL_ (some 10) rfl rfl Tryd.func9 (by kernel_rfl) rfl #[] rfl (by (try simp only [List.map_toArray, List.map_cons, List.map_nil]); first | done | rfl | (simp only [List.length_drop, List.length_take]; rfl)) ?_; (with_reducible refine (laws_awakeList.calls  true _ A4.out).mono ?_); rintro e w8 ⟨rfl, hb⟩; refine ⟨_, rfl, ?_⟩; have n0_ := Aside0.mk (below_step (by repeat (first | (with_reducible first | exact HB.out | apply below_alloc | apply pw_below_drewN | apply below_drew1) | exact HB.out)) hb); clear HB; have HB := n0_; clear n0_; (try clear hb); (try clear hb2); (try clear hk); (try clear hi)))
      (try simp only [Act.put, List.setIfInBounds_toArray, List.set_cons_zero, List.set_cons_succ])
      go_cut [18] (fun v18 wc => ∃ (kq : Nat) (x18_5 : Bool), v18 = .bool x18_5 ∧ Aside0 (laws_FnListKinds.j0 kq x18_5 = some r) ∧ Aside0 (kq ≤ k) ∧ Aside0 (Below w.heap.size w wc))
      case first =>
        have H := HC6.out
        clear HC6
        replace H := Option.bind_eq_some_iff.mp H
        obtain ⟨t271, A90, H⟩ := H
        replace H : (if t271 = true then ((spec_Twice.f k l0).bind fun t272 => (laws_FnListKinds.j0 k t272)) else (laws_FnListKinds.j0 k true)) = some r := H
        have A9 := Aside0.mk A90
        clear A90
        by_cases c10 : t271 = true
        · subst c10
          have H1 : ((spec_Twice.f k l0).bind fun t272 => (laws_FnListKinds.j0 k t272)) = some r := by rw [if_pos rfl] at H; exact H
          clear H
          have H := H1
          clear H1
          replace H := Option.bind_eq_some_iff.mp H
          obtain ⟨t272, A110, H⟩ := H
          replace H : (laws_FnListKinds.j0 k t272) = some r := H
          have A11 := Aside0.mk A110
          clear A110
          have H' := Aside0.mk H
          clear H
          go_wp2_with (first | ((with_reducible refine gate_callee (f := 10) rfl ?_); refine goesL_ (some 13) rfl rfl Tryd.func10 (by kernel_rfl) rfl #[.slice A0 l0.length c0] rfl (by (try simp only [List.map_toArray, List.map_cons, List.map_nil]); first | done | rfl | (simp only [List.length_drop, List.length_take]; rfl)) ?_; (with_reducible refine (laws_deeds.calls k _ _ l0 true _ ?side1 ?side2 A9.out).mono ?_); (case side1 => repeat (first | exact (Kd.C_below HR0.out HB.out) | (with_reducible refine Kd.C_alloc ?_ _) | (with_reducible refine Kd.C_drewN ?_ _) | (with_reducible refine Kd.C_drew ?_))); (case side2 => exact HC0.out); rintro e w12 ⟨rfl, hb⟩; refine ⟨_, rfl, ?_⟩; have n0_ := Aside0.mk (below_step (by repeat (first | (with_reducible first | exact HB.out | apply below_alloc | apply pw_below_drewN | apply below_drew1) | exact HB.out)) hb); clear HB; have HB := n0_; clear n0_; (try clear hb); (try clear hb2); (try clear hk); (try clear hi)) | (go_at_call 11; (with_reducible refine (spec_Twice.calls k _ _ l0 t272 _ ?side1 ?side2 A11.out).mono ?_); (case side1 => repeat (first | exact (Kd.C_below HR0.out HB.out) | (with_reducible refine Kd.C_alloc ?_ _) | (with_reducible refine Kd.C_drewN ?_ _) | (with_reducible refine Kd.C_drew ?_))); (case side2 => exact HC0.out); rintro e w' ⟨rfl, ⟨nd, rfl⟩⟩))
          go_meet
          case rel => exact ⟨_, (t272), (by first | rfl | (simp; done) | (simp [*]; done)), H', ⟨by first | omega | exact Nat.le_refl _⟩, ⟨by repeat (first | (with_reducible first | exact HB.out | apply below_alloc | apply pw_below_drewN | apply below_drew1) | exact HB.out)⟩⟩
        · replace c10 := Bool.eq_false_iff.mpr c10
          subst c10
          have H1 : (laws_FnListKinds.j0 k true) = some r := by rw [if_neg (show ¬ (false = true) by decide)] at H; exact H
          clear H
          have H := H1
          clear H1
          have H' := Aside0.mk H
          clear H
          go_wp2_with (first | ((with_reducible refine gate_callee (f := 10) rfl ?_); refine goesL_ (some 13) rfl rfl Tryd.func10 (by kernel_rfl) rfl #[.slice A0 l0.length c0] rfl (by (try simp only [List.map_toArray, List.map_cons, List.map_nil]); first | done | rfl | (simp only [List.length_drop, List.length_take]; rfl)) ?_; (with_reducible refine (laws_deeds.calls k _ _ l0 false _ ?side1 ?side2 A9.out).mono ?_); (case side1 => repeat (first | exact (Kd.C_below HR0.out HB.out) | (with_reducible refine Kd.C_alloc ?_ _) | (with_reducible refine Kd.C_drewN ?_ _) | (with_reducible refine Kd.C_drew ?_))); (case side2 => exact HC0.out); rintro e w13 ⟨rfl, hb⟩; refine ⟨_, rfl, ?_⟩; have n0_ := Aside0.mk (below_step (by repeat (first | (with_reducible first | exact HB.out | apply below_alloc | apply pw_below_drewN | apply below_drew1) | exact HB.out)) hb); clear HB; have HB := n0_; clear n0_; (try clear hb); (try clear hb2); (try clear hk); (try clear hi)))
          go_meet
          case rel => exact ⟨_, (true), (by first | rfl | (simp; done) | (simp [*]; done)), H', ⟨by first | omega | exact Nat.le_refl _⟩, ⟨by repeat (first | (with_reducible first | exact HB.out | apply below_alloc | apply pw_below_drewN | apply below_drew1) | exact HB.out)⟩⟩
      case rest =>
        clear HC6
        try clear c1
        try clear p2
        try clear c3
        try clear c5
        try clear c8
        try clear c9
        try clear c10
        obtain ⟨kq, x18_5, rfl, HA, HJ5, HB⟩ := hcut
        cases kq with
        | zero => exact absurd HA.out (by simp [laws_FnListKinds.j0])
        | succ kj5 =>
          have H := HA.out
          clear HA
          simp only [laws_FnListKinds.j0] at H
          by_cases c14 : x18_5 = true
          · subst c14
            have H1 : (some true) = some r := by rw [if_pos rfl] at H; exact H
            clear H
            have H := H1
            clear H1
            obtain rfl := Option.some.inj H
            go_wp2
            go_ret
            exact ⟨by first | rfl | (simp [errW_none, errW_some] <;> rfl) | (simp [*, errW_none, errW_some] <;> rfl), by repeat (first | (with_reducible first | exact HB.out | apply below_alloc | apply pw_below_drewN | apply below_drew1) | exact HB.out)⟩
          · replace c14 := Bool.eq_false_iff.mpr c14
            subst c14
            have H1 : (none) = some r := by rw [if_neg (show ¬ (false = true) by decide)] at H; exact H
            clear H
            have H := H1
            clear H1
            exact absurd H (by simp)
    · replace c5 := Bool.eq_false_iff.mpr c5
      subst c5
      have H1 : (some false) = some r := by rw [if_neg (show ¬ (false = true) by decide)] at H; exact H
      clear H
      have H := H1
      clear H1
      obtain rfl := Option.some.inj H
      go_enter Tryd.func3, Tryd.ntmps3
      go_wp2_with (first | ((with_reducible refine gate_callee (f := 8) rfl ?_); refine goesL_ (some 8) rfl rfl Tryd.func8 (by kernel_rfl) rfl #[.slice A0 l0.length c0] rfl (by (try simp only [List.map_toArray, List.map_cons, List.map_nil]); first | done | rfl | (simp only [List.length_drop, List.length_take]; rfl)) ?_; (with_reducible refine (laws_zzFits5.calls k _ _ l0 true _ ?side1 ?side2 A2.out).mono ?_); (case side1 => repeat (first | exact HR0.out | (with_reducible refine Kd.C_alloc ?_ _) | (with_reducible refine Kd.C_drewN ?_ _) | (with_reducible refine Kd.C_drew ?_))); (case side2 => exact HC0.out); rintro e w15 ⟨rfl, hb⟩; refine ⟨_, rfl, ?_⟩; have n0_ := Aside0.mk (below_step (by repeat (first | (with_reducible first | exact HB.out | apply below_alloc | apply pw_below_drewN | apply below_drew1) | exact HB.out)) hb); clear HB; have HB := n0_; clear n0_; (try clear hb); (try clear hb2); (try clear hk); (try clear hi)) | ((with_reducible refine gate_callee (f := 9) rfl ?_); refine goesL_ (some 10) rfl rfl Tryd.func9 (by kernel_rfl) rfl #[] rfl (by (try simp only [List.map_toArray, List.map_cons, List.map_nil]); first | done | rfl | (simp only [List.length_drop, List.length_take]; rfl)) ?_; (with_reducible refine (laws_awakeList.calls  false _ A4.out).mono ?_); rintro e w16 ⟨rfl, hb⟩; refine ⟨_, rfl, ?_⟩; have n0_ := Aside0.mk (below_step (by repeat (first | (with_reducible first | exact HB.out | apply below_alloc | apply pw_below_drewN | apply below_drew1) | exact HB.out)) hb); clear HB; have HB := n0_; clear n0_; (try clear hb); (try clear hb2); (try clear hk); (try clear hi)))
      go_ret
      exact ⟨by first | rfl | (simp [errW_none, errW_some] <;> rfl) | (simp [*, errW_none, errW_some] <;> rfl), by repeat (first | (with_reducible first | exact HB.out | apply below_alloc | apply pw_below_drewN | apply below_drew1) | exact HB.out)⟩
  · replace c3 := Bool.eq_false_iff.mpr c3
    subst c3
    have H1 : (some true) = some r := by rw [if_neg (show ¬ (false = true) by decide)] at H; exact H
    clear H
    have H := H1
    clear H1
    obtain rfl := Option.some.inj H
    go_enter Tryd.func3, Tryd.ntmps3
    go_wp2_with (first | ((with_reducible refine gate_callee (f := 8) rfl ?_); refine goesL_ (some 8) rfl rfl Tryd.func8 (by kernel_rfl) rfl #[.slice A0 l0.length c0] rfl (by (try simp only [List.map_toArray, List.map_cons, List.map_nil]); first | done | rfl | (simp only [List.length_drop, List.length_take]; rfl)) ?_; (with_reducible refine (laws_zzFits5.calls k _ _ l0 false _ ?side1 ?side2 A2.out).mono ?_); (case side1 => repeat (first | exact HR0.out | (with_reducible refine Kd.C_alloc ?_ _) | (with_reducible refine Kd.C_drewN ?_ _) | (with_reducible refine Kd.C_drew ?_))); (case side2 => exact HC0.out); rintro e w17 ⟨rfl, hb⟩; refine ⟨_, rfl, ?_⟩; have n0_ := Aside0.mk (below_step (by repeat (first | (with_reducible first | exact HB.out | apply below_alloc | apply pw_below_drewN | apply below_drew1) | exact HB.out)) hb); clear HB; have HB := n0_; clear n0_; (try clear hb); (try clear hb2); (try clear hk); (try clear hi)))
    go_ret
    exact ⟨by first | rfl | (simp [errW_none, errW_some] <;> rfl) | (simp [*, errW_none, errW_some] <;> rfl), by repeat (first | (with_reducible first | exact HB.out | apply below_alloc | apply pw_below_drewN | apply below_drew1) | exact HB.out)⟩

end Go.Proofs.YtimffhpnfdikoaaDoor.GFnListKinds
