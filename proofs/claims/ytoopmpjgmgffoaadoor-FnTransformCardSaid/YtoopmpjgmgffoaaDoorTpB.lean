/- A walk of Go functions (plain functions of theirs, and that the machine's calls do what these say), written by a program of this session's. -/
import Derived.Test.YtoopmpjgmgffoaaDoorTpA
namespace Go.Proofs.YtoopmpjgmgffoaaDoor.GFnTransformBack
open Go.RowKit Go.Proofs.YtoopmpjgmgffoaaDoorW.PrintWords Go.Proofs.YtoopmpjgmgffoaaDoorW.PrintLast Go.Proofs.YtoopmpjgmgffoaaDoorW.PrintMore
set_option linter.unusedVariables false
set_option linter.unusedSimpArgs false
def spec_Wilds.l0 : Nat → Int → List ByteArray → Int → Option (Int)
 | 0, _, _, _ => none
 | k + 1, x3, x4, x5 => if x5 < (x4.length : Int) then (if 0 ≤ x5 then (if (rdOf ByteArray.empty x4 x5).toList = ([42] : List UInt8) then (spec_Wilds.l0 k (wrap64 (x3 + 1)) x4 (wrap64 (x5 + 1))) else (spec_Wilds.l0 k x3 x4 (wrap64 (x5 + 1)))) else (none)) else (some x3)
def spec_Wilds.f (k : Nat) (a0 : ByteArray) : Option (Int) := (spec_Tokens.f k a0).bind fun t123 => (spec_Wilds.l0 k 0 t123 0)
set_option maxHeartbeats 8000000 in
set_option maxRecDepth 100000 in
theorem spec_Wilds.calls (k : Nat) (a0 : ByteArray) (r : Int) (w : World) (h : spec_Wilds.f k a0 = some r) :
  Calls Tryd.prog 38 #[.string a0] w fun e w' => e = .returned (.int .i64 r) ∧ Below w.heap.size w w' := by
 have HB := Aside0.mk (Below.refl w.heap.size w)
 have H : ((spec_Tokens.f k a0).bind fun t123 => (spec_Wilds.l0 k 0 t123 0)) = some r := h
 clear h
 replace H := Option.bind_eq_some_iff.mp H
 obtain ⟨t123, A20, H⟩ := H
 replace H : (spec_Wilds.l0 k 0 t123 0) = some r := H
 have A2 := Aside0.mk A20
 clear A20
 have H' := Aside0.mk H
 clear H
 go_enter Tryd.func38, Tryd.ntmps38
 go_wp2_with (first | ((with_reducible refine gate_callee (f := 25) rfl ?_); refine goesL_ (some 7) rfl rfl Tryd.func25 (by kernel_rfl) rfl #[.string a0] rfl (by (try simp only [List.map_toArray, List.map_cons, List.map_nil]); first | done | rfl | (simp only [List.length_drop, List.length_take]; rfl)) ?_; (with_reducible refine (spec_Tokens.calls k a0 t123 _ A2.out).mono ?_); rintro e w3 ⟨v124, rfl, ho0, hb⟩; refine ⟨_, rfl, ?_⟩; have n0_ := Aside0.mk (Kd.R_lower ho0 (below_size (by repeat (first | (with_reducible first | exact HB.out | apply below_alloc | apply pw_below_drewN | apply below_drew1) | exact HB.out)))); have n1_ := Aside0.mk (below_step (by repeat (first | (with_reducible first | exact HB.out | apply below_alloc | apply pw_below_drewN | apply below_drew1) | exact HB.out)) hb); clear HB; have HO125 := n0_; have HB := n1_; clear n0_ n1_; (try clear hb); (try clear hb2); (try clear hk); (try clear hi); (try clear ho0)))
 go_loopg [3, 5] k (fun kq v3 v5 w' => ∃ (x3_1 : Int) (x5_1 : Int), v3 = .int .i64 x3_1 ∧ v5 = .int .i64 x5_1 ∧ Aside0 (spec_Wilds.l0 kq x3_1 t123 x5_1 = some r) ∧ Aside0 (kq ≤ k) ∧ Aside0 (Kd.R Kd.string 9 w' w.heap.size (fun _ => True) v124 t123) ∧ Aside0 (Below w.heap.size w w'))
 case atStart => exact ⟨(0), (0), (by first | rfl | (simp; done) | (simp [*]; done)), (by first | rfl | (simp; done) | (simp [*]; done)), H', ⟨Nat.le_refl _⟩, ⟨by (with_reducible repeat (first | apply Kd.R_alloc | apply Kd.R_drewN | apply Kd.R_drew)); exact HO125.out⟩, ⟨by repeat (first | (with_reducible first | exact HB.out | apply below_alloc | apply pw_below_drewN | apply below_drew1) | exact HB.out)⟩⟩
 case round =>
  clear H'
  try clear c2
  try clear p2
  try clear c3
  obtain ⟨x3_1, x5_1, rfl, rfl, HA, HK1, HO_4, HB⟩ := hrel
  cases gk with
  | zero => exact absurd HA.out (by simp [spec_Wilds.l0])
  | succ k1 =>
   have H := HA.out
   clear HA
   simp only [spec_Wilds.l0] at H
   by_cases c4 : x5_1 < (t123.length : Int)
   ·
    rw [if_pos c4] at H
    have c4b0 : decide (x5_1 < (t123.length : Int)) = true := decide_eq_true c4
    clear c4
    by_cases c5 : 0 ≤ x5_1
    ·
     rw [if_pos c5] at H
     have c5b0 : decide (0 ≤ x5_1) = true := decide_eq_true c5
     clear c5
     by_cases c6 : (rdOf ByteArray.empty t123 x5_1).toList = ([42] : List UInt8)
     ·
      rw [if_pos c6] at H
      have c6b0 : ((rdOf ByteArray.empty t123 x5_1).toList == ([42] : List UInt8)) = true := beq_iff_eq.mpr c6
      have c6b1 : ((rdOf ByteArray.empty t123 x5_1).toList != ([42] : List UInt8)) = false := bne_eq_false_iff_eq.mpr c6
      clear c6
      have H' := Aside0.mk H
      clear H
      obtain ⟨Ao7, co7, eo7⟩ := Kd.R_slice HO_4.out
      subst eo7
      have p126 : 0 ≤ (x5_1 : Int) := of_decide_eq_true (by first | (with_reducible assumption) | assumption)
      have q126 : x5_1 < (t123.length : Int) := of_decide_eq_true (by first | (with_reducible assumption) | assumption)
      obtain ⟨ad126, e126, hx126_0⟩ := Kd.at_string (Kd.R_reads' HO_4.out).2.2 x5_1 p126 q126
      cases e126
      replace p126 := eq_true p126
      replace q126 := eq_true q126
      go_wp2
      go_roundg k1
      case measure => have := HK1.out; omega
      case rel => exact ⟨(wrap64 (x3_1 + 1)), (wrap64 (x5_1 + 1)), (by first | rfl | (simp; done) | (simp [*]; done)), (by first | rfl | (simp; done) | (simp [*]; done)), H', ⟨by have := HK1.out; omega⟩, ⟨by (with_reducible repeat (first | apply Kd.R_alloc | apply Kd.R_drewN | apply Kd.R_drew)); exact HO_4.out⟩, ⟨by repeat (first | (with_reducible first | exact HB.out | apply below_alloc | apply pw_below_drewN | apply below_drew1) | exact HB.out)⟩⟩
     rw [if_neg c6] at H
     have c6b0 : ((rdOf ByteArray.empty t123 x5_1).toList == ([42] : List UInt8)) = false := beq_eq_false_iff_ne.mpr c6
     have c6b1 : ((rdOf ByteArray.empty t123 x5_1).toList != ([42] : List UInt8)) = true := bne_iff_ne.mpr c6
     have H' := Aside0.mk H
     clear H
     obtain ⟨Ao8, co8, eo8⟩ := Kd.R_slice HO_4.out
     subst eo8
     have p126 : 0 ≤ (x5_1 : Int) := of_decide_eq_true (by first | (with_reducible assumption) | assumption)
     have q126 : x5_1 < (t123.length : Int) := of_decide_eq_true (by first | (with_reducible assumption) | assumption)
     obtain ⟨ad126, e126, hx126_0⟩ := Kd.at_string (Kd.R_reads' HO_4.out).2.2 x5_1 p126 q126
     cases e126
     replace p126 := eq_true p126
     replace q126 := eq_true q126
     go_wp2
     go_roundg k1
     case measure => have := HK1.out; omega
     case rel => exact ⟨(x3_1), (wrap64 (x5_1 + 1)), (by first | rfl | (simp; done) | (simp [*]; done)), (by first | rfl | (simp; done) | (simp [*]; done)), H', ⟨by have := HK1.out; omega⟩, ⟨by (with_reducible repeat (first | apply Kd.R_alloc | apply Kd.R_drewN | apply Kd.R_drew)); exact HO_4.out⟩, ⟨by repeat (first | (with_reducible first | exact HB.out | apply below_alloc | apply pw_below_drewN | apply below_drew1) | exact HB.out)⟩⟩
    rw [if_neg c5] at H
    exact absurd H (by simp)
   rw [if_neg c4] at H
   have c4b0 : decide (x5_1 < (t123.length : Int)) = false := decide_eq_false c4
   clear c4
   obtain rfl := Option.some.inj H
   obtain ⟨Ao9, co9, eo9⟩ := Kd.R_slice HO_4.out
   subst eo9
   go_wp2
   go_ret
   exact ⟨by first | rfl | (simp [errW_none, errW_some] <;> rfl) | (simp [*, errW_none, errW_some] <;> rfl), by repeat (first | (with_reducible first | exact HB.out | apply below_alloc | apply pw_below_drewN | apply below_drew1) | exact HB.out)⟩
def spec_Formed.l0 : Nat → List ByteArray → Int → Option (Bool)
 | 0, _, _ => none
 | k + 1, x0, x3 => if x3 < (x0.length : Int) then (if 0 ≤ x3 then (if (rdOf ByteArray.empty x0 x3).toList = ([] : List UInt8) then (some false) else (if (rdOf ByteArray.empty x0 x3).toList = ([62] : List UInt8) then (if (wrap64 (x3 + 1)) < (x0.length : Int) then (some false) else (spec_Formed.l0 k x0 (wrap64 (x3 + 1)))) else (spec_Formed.l0 k x0 (wrap64 (x3 + 1))))) else (none)) else (some true)
def spec_Formed.f (k : Nat) (l0 : List ByteArray) : Option (Bool) := spec_Formed.l0 k l0 0
set_option maxHeartbeats 8000000 in
set_option maxRecDepth 100000 in
theorem spec_Formed.calls (k : Nat) (A0 : Option Addr) (c0 : Nat) (l0 : List ByteArray) (r : Bool) (w : World) (hr0 : Kd.C Kd.string w A0 l0.length l0) (hc0 : l0.length ≤ c0) (h : spec_Formed.f k l0 = some r) :
  Calls Tryd.prog 57 #[.slice A0 l0.length c0] w fun e w' => e = .returned (.bool r) ∧ Drawn0 w w' := by
 have HR0 := Aside0.mk hr0
 have HC0 := Aside0.mk hc0
 clear hr0 hc0
 have H : (spec_Formed.l0 k l0 0) = some r := h
 clear h
 have H' := Aside0.mk H
 clear H
 go_enter Tryd.func57, Tryd.ntmps57
 go_wp2
 go_loopg [3] k (fun kq v3 w' => ∃ (x3_1 : Int), v3 = .int .i64 x3_1 ∧ Aside0 (spec_Formed.l0 kq l0 x3_1 = some r) ∧ Aside0 (kq ≤ k) ∧ Drawn0 w w')
 case atStart => exact ⟨(0), (by first | rfl | (simp; done) | (simp [*]; done)), H', ⟨Nat.le_refl _⟩, by repeat (first | exact Drawn0.refl _ | apply Drawn0.step)⟩
 case round =>
  clear H'
  obtain ⟨x3_1, rfl, HA, HK1, ⟨m1, rfl⟩⟩ := hrel
  cases gk with
  | zero => exact absurd HA.out (by simp [spec_Formed.l0])
  | succ k1 =>
   have H := HA.out
   clear HA
   simp only [spec_Formed.l0] at H
   by_cases c2 : x3_1 < (l0.length : Int)
   ·
    rw [if_pos c2] at H
    have c2b0 : decide (x3_1 < (l0.length : Int)) = true := decide_eq_true c2
    clear c2
    by_cases c3 : 0 ≤ x3_1
    ·
     rw [if_pos c3] at H
     have c3b0 : decide (0 ≤ x3_1) = true := decide_eq_true c3
     clear c3
     by_cases c4 : (rdOf ByteArray.empty l0 x3_1).toList = ([] : List UInt8)
     ·
      rw [if_pos c4] at H
      have c4b0 : ((rdOf ByteArray.empty l0 x3_1).toList == ([] : List UInt8)) = true := beq_iff_eq.mpr c4
      have c4b1 : ((rdOf ByteArray.empty l0 x3_1).toList != ([] : List UInt8)) = false := bne_eq_false_iff_eq.mpr c4
      clear c4
      obtain rfl := Option.some.inj H
      have p127 : 0 ≤ (x3_1 : Int) := of_decide_eq_true (by first | (with_reducible assumption) | assumption)
      have q127 : x3_1 < (l0.length : Int) := of_decide_eq_true (by first | (with_reducible assumption) | assumption)
      obtain ⟨ad127, e127, hx127_0⟩ := Kd.at_string HR0.out x3_1 p127 q127
      cases e127
      replace p127 := eq_true p127
      replace q127 := eq_true q127
      go_wp2
      go_ret
      exact ⟨by first | rfl | (simp; done) | (simp [*]; done) | (simp; cases a0.toList <;> rfl) , by repeat (first | exact Drawn0.refl _ | apply Drawn0.step)⟩
     rw [if_neg c4] at H
     have c4b0 : ((rdOf ByteArray.empty l0 x3_1).toList == ([] : List UInt8)) = false := beq_eq_false_iff_ne.mpr c4
     have c4b1 : ((rdOf ByteArray.empty l0 x3_1).toList != ([] : List UInt8)) = true := bne_iff_ne.mpr c4
     by_cases c5 : (rdOf ByteArray.empty l0 x3_1).toList = ([62] : List UInt8)
     ·
      rw [if_pos c5] at H
      have c5b0 : ((rdOf ByteArray.empty l0 x3_1).toList == ([62] : List UInt8)) = true := beq_iff_eq.mpr c5
      have c5b1 : ((rdOf ByteArray.empty l0 x3_1).toList != ([62] : List UInt8)) = false := bne_eq_false_iff_eq.mpr c5
      clear c5
      by_cases c6 : (wrap64 (x3_1 + 1)) < (l0.length : Int)
      ·
       rw [if_pos c6] at H
       have c6b0 : decide ((wrap64 (x3_1 + 1)) < (l0.length : Int)) = true := decide_eq_true c6
       clear c6
       obtain rfl := Option.some.inj H
       have p127 : 0 ≤ (x3_1 : Int) := of_decide_eq_true (by first | (with_reducible assumption) | assumption)
       have q127 : x3_1 < (l0.length : Int) := of_decide_eq_true (by first | (with_reducible assumption) | assumption)
       obtain ⟨ad127, e127, hx127_0⟩ := Kd.at_string HR0.out x3_1 p127 q127
       cases e127
       replace p127 := eq_true p127
       replace q127 := eq_true q127
       have p128 : 0 ≤ (x3_1 : Int) := of_decide_eq_true (by first | (with_reducible assumption) | assumption)
       have q128 : x3_1 < (l0.length : Int) := of_decide_eq_true (by first | (with_reducible assumption) | assumption)
       obtain ⟨ad128, e128, hx128_0⟩ := Kd.at_string HR0.out x3_1 p128 q128
       obtain rfl : ad127 = ad128 := (by injection e128)
       replace p128 := eq_true p128
       replace q128 := eq_true q128
       go_wp2
       go_ret
       exact ⟨by first | rfl | (simp; done) | (simp [*]; done) | (simp; cases a0.toList <;> rfl) , by repeat (first | exact Drawn0.refl _ | apply Drawn0.step)⟩
      rw [if_neg c6] at H
      have c6b0 : decide ((wrap64 (x3_1 + 1)) < (l0.length : Int)) = false := decide_eq_false c6
      clear c6
      have H' := Aside0.mk H
      clear H
      have p127 : 0 ≤ (x3_1 : Int) := of_decide_eq_true (by first | (with_reducible assumption) | assumption)
      have q127 : x3_1 < (l0.length : Int) := of_decide_eq_true (by first | (with_reducible assumption) | assumption)
      obtain ⟨ad127, e127, hx127_0⟩ := Kd.at_string HR0.out x3_1 p127 q127
      cases e127
      replace p127 := eq_true p127
      replace q127 := eq_true q127
      have p128 : 0 ≤ (x3_1 : Int) := of_decide_eq_true (by first | (with_reducible assumption) | assumption)
      have q128 : x3_1 < (l0.length : Int) := of_decide_eq_true (by first | (with_reducible assumption) | assumption)
      obtain ⟨ad128, e128, hx128_0⟩ := Kd.at_string HR0.out x3_1 p128 q128
      obtain rfl : ad127 = ad128 := (by injection e128)
      replace p128 := eq_true p128
      replace q128 := eq_true q128
      go_wp2
      go_roundg k1
      case measure => have := HK1.out; omega
      case rel => exact ⟨(wrap64 (x3_1 + 1)), (by first | rfl | (simp; done) | (simp [*]; done)), H', ⟨by have := HK1.out; omega⟩, by repeat (first | exact Drawn0.refl _ | apply Drawn0.step)⟩
     rw [if_neg c5] at H
     have c5b0 : ((rdOf ByteArray.empty l0 x3_1).toList == ([62] : List UInt8)) = false := beq_eq_false_iff_ne.mpr c5
     have c5b1 : ((rdOf ByteArray.empty l0 x3_1).toList != ([62] : List UInt8)) = true := bne_iff_ne.mpr c5
     have H' := Aside0.mk H
     clear H
     have p127 : 0 ≤ (x3_1 : Int) := of_decide_eq_true (by first | (with_reducible assumption) | assumption)
     have q127 : x3_1 < (l0.length : Int) := of_decide_eq_true (by first | (with_reducible assumption) | assumption)
     obtain ⟨ad127, e127, hx127_0⟩ := Kd.at_string HR0.out x3_1 p127 q127
     cases e127
     replace p127 := eq_true p127
     replace q127 := eq_true q127
     have p128 : 0 ≤ (x3_1 : Int) := of_decide_eq_true (by first | (with_reducible assumption) | assumption)
     have q128 : x3_1 < (l0.length : Int) := of_decide_eq_true (by first | (with_reducible assumption) | assumption)
     obtain ⟨ad128, e128, hx128_0⟩ := Kd.at_string HR0.out x3_1 p128 q128
     obtain rfl : ad127 = ad128 := (by injection e128)
     replace p128 := eq_true p128
     replace q128 := eq_true q128
     go_wp2
     go_roundg k1
     case measure => have := HK1.out; omega
     case rel => exact ⟨(wrap64 (x3_1 + 1)), (by first | rfl | (simp; done) | (simp [*]; done)), H', ⟨by have := HK1.out; omega⟩, by repeat (first | exact Drawn0.refl _ | apply Drawn0.step)⟩
    rw [if_neg c3] at H
    exact absurd H (by simp)
   rw [if_neg c2] at H
   have c2b0 : decide (x3_1 < (l0.length : Int)) = false := decide_eq_false c2
   clear c2
   obtain rfl := Option.some.inj H
   go_wp2
   go_ret
   exact ⟨by first | rfl | (simp; done) | (simp [*]; done) | (simp; cases a0.toList <;> rfl) , by repeat (first | exact Drawn0.refl _ | apply Drawn0.step)⟩
def spec_Blank.f (a0 : Int) : Option (Bool) := if a0 = 32 then (some true) else (if a0 = 9 then (some true) else (if a0 = 10 then (some true) else (if a0 = 13 then (some true) else (some (a0 == 12)))))
set_option maxHeartbeats 8000000 in
set_option maxRecDepth 100000 in
theorem spec_Blank.calls (a0 : Int) (r : Bool) (w : World) (h : spec_Blank.f a0 = some r) :
  Calls Tryd.prog 70 #[.int .u8 a0] w fun e w' => e = .returned (.bool r) ∧ Drawn0 w w' := by
 have H : (if a0 = 32 then (some true) else (if a0 = 9 then (some true) else (if a0 = 10 then (some true) else (if a0 = 13 then (some true) else (some (a0 == 12)))))) = some r := h
 clear h
 by_cases c2 : a0 = 32
 ·
  rw [if_pos c2] at H
  have c2b0 : (a0 == 32) = true := beq_iff_eq.mpr c2
  have c2b1 : (a0 != 32) = false := bne_eq_false_iff_eq.mpr c2
  clear c2
  obtain rfl := Option.some.inj H
  go_enter Tryd.func70, Tryd.ntmps70
  go_wp2
  go_ret
  exact ⟨by first | rfl | (simp; done) | (simp [*]; done) | (simp; cases a0.toList <;> rfl) , by repeat (first | exact Drawn0.refl _ | apply Drawn0.step)⟩
 rw [if_neg c2] at H
 have c2b0 : (a0 == 32) = false := beq_eq_false_iff_ne.mpr c2
 have c2b1 : (a0 != 32) = true := bne_iff_ne.mpr c2
 by_cases c3 : a0 = 9
 ·
  rw [if_pos c3] at H
  have c3b0 : (a0 == 9) = true := beq_iff_eq.mpr c3
  have c3b1 : (a0 != 9) = false := bne_eq_false_iff_eq.mpr c3
  clear c3
  obtain rfl := Option.some.inj H
  go_enter Tryd.func70, Tryd.ntmps70
  go_wp2
  go_ret
  exact ⟨by first | rfl | (simp; done) | (simp [*]; done) | (simp; cases a0.toList <;> rfl) , by repeat (first | exact Drawn0.refl _ | apply Drawn0.step)⟩
 rw [if_neg c3] at H
 have c3b0 : (a0 == 9) = false := beq_eq_false_iff_ne.mpr c3
 have c3b1 : (a0 != 9) = true := bne_iff_ne.mpr c3
 by_cases c4 : a0 = 10
 ·
  rw [if_pos c4] at H
  have c4b0 : (a0 == 10) = true := beq_iff_eq.mpr c4
  have c4b1 : (a0 != 10) = false := bne_eq_false_iff_eq.mpr c4
  clear c4
  obtain rfl := Option.some.inj H
  go_enter Tryd.func70, Tryd.ntmps70
  go_wp2
  go_ret
  exact ⟨by first | rfl | (simp; done) | (simp [*]; done) | (simp; cases a0.toList <;> rfl) , by repeat (first | exact Drawn0.refl _ | apply Drawn0.step)⟩
 rw [if_neg c4] at H
 have c4b0 : (a0 == 10) = false := beq_eq_false_iff_ne.mpr c4
 have c4b1 : (a0 != 10) = true := bne_iff_ne.mpr c4
 by_cases c5 : a0 = 13
 ·
  rw [if_pos c5] at H
  have c5b0 : (a0 == 13) = true := beq_iff_eq.mpr c5
  have c5b1 : (a0 != 13) = false := bne_eq_false_iff_eq.mpr c5
  clear c5
  obtain rfl := Option.some.inj H
  go_enter Tryd.func70, Tryd.ntmps70
  go_wp2
  go_ret
  exact ⟨by first | rfl | (simp; done) | (simp [*]; done) | (simp; cases a0.toList <;> rfl) , by repeat (first | exact Drawn0.refl _ | apply Drawn0.step)⟩
 rw [if_neg c5] at H
 have c5b0 : (a0 == 13) = false := beq_eq_false_iff_ne.mpr c5
 have c5b1 : (a0 != 13) = true := bne_iff_ne.mpr c5
 obtain rfl := Option.some.inj H
 go_enter Tryd.func70, Tryd.ntmps70
 go_wp2
 go_ret
 exact ⟨by first | rfl | (simp; done) | (simp [*]; done) | (simp; cases a0.toList <;> rfl) , by repeat (first | exact Drawn0.refl _ | apply Drawn0.step)⟩
def spec_Spaced.l0 : Nat → ByteArray → Int → Option (Bool)
 | 0, _, _ => none
 | k + 1, x0, x3 => if x3 < (x0.size : Int) then (if 0 ≤ x3 then ((spec_Blank.f (bt x0 x3)).bind fun t129 => (if t129 = true then (some true) else (spec_Spaced.l0 k x0 (wrap64 (x3 + 1))))) else (none)) else (some false)
def spec_Spaced.f (k : Nat) (a0 : ByteArray) : Option (Bool) := spec_Spaced.l0 k a0 0
set_option maxHeartbeats 8000000 in
set_option maxRecDepth 100000 in
theorem spec_Spaced.calls (k : Nat) (a0 : ByteArray) (r : Bool) (w : World) (h : spec_Spaced.f k a0 = some r) :
  Calls Tryd.prog 58 #[.string a0] w fun e w' => e = .returned (.bool r) ∧ Drawn0 w w' := by
 have H : (spec_Spaced.l0 k a0 0) = some r := h
 clear h
 have H' := Aside0.mk H
 clear H
 go_enter Tryd.func58, Tryd.ntmps58
 go_wp2
 go_loopg [3] k (fun kq v3 w' => ∃ (x3_1 : Int), v3 = .int .i64 x3_1 ∧ Aside0 (spec_Spaced.l0 kq a0 x3_1 = some r) ∧ Aside0 (kq ≤ k) ∧ Drawn0 w w')
 case atStart => exact ⟨(0), (by first | rfl | (simp; done) | (simp [*]; done)), H', ⟨Nat.le_refl _⟩, by repeat (first | exact Drawn0.refl _ | apply Drawn0.step)⟩
 case round =>
  clear H'
  obtain ⟨x3_1, rfl, HA, HK1, ⟨m1, rfl⟩⟩ := hrel
  cases gk with
  | zero => exact absurd HA.out (by simp [spec_Spaced.l0])
  | succ k1 =>
   have H := HA.out
   clear HA
   simp only [spec_Spaced.l0] at H
   by_cases c2 : x3_1 < (a0.size : Int)
   ·
    rw [if_pos c2] at H
    have c2b0 : decide (x3_1 < (a0.size : Int)) = true := decide_eq_true c2
    clear c2
    by_cases c3 : 0 ≤ x3_1
    ·
     rw [if_pos c3] at H
     have c3b0 : decide (0 ≤ x3_1) = true := decide_eq_true c3
     clear c3
     replace H := Option.bind_eq_some_iff.mp H
     obtain ⟨t129, A50, H⟩ := H
     replace H : (if t129 = true then (some true) else (spec_Spaced.l0 k1 a0 (wrap64 (x3_1 + 1)))) = some r := H
     have A5 := Aside0.mk A50
     clear A50
     by_cases c6 : t129 = true
     ·
      subst c6
      have H1 : (some true) = some r := by rw [if_pos rfl] at H; exact H
      clear H
      have H := H1
      clear H1
      obtain rfl := Option.some.inj H
      have p4 : 0 ≤ (x3_1 : Int) := of_decide_eq_true (by first | (with_reducible assumption) | assumption)
      have q4 : x3_1 < (a0.size : Int) := of_decide_eq_true (by first | (with_reducible assumption) | assumption)
      have hx4 := bt_at a0 x3_1
      replace p4 := eq_true p4
      replace q4 := eq_true q4
      go_wp2_with (first | ((with_reducible refine gate_callee (f := 70) rfl ?_); refine goesL_ (some 13) rfl rfl Tryd.func70 (by kernel_rfl) rfl #[.int .u8 (bt a0 x3_1)] rfl (by (try simp only [List.map_toArray, List.map_cons, List.map_nil]); first | done | rfl | (simp only [List.length_drop, List.length_take]; rfl)) ?_; (with_reducible refine (spec_Blank.calls (bt a0 x3_1) true _ A5.out).mono ?_); rintro e w' ⟨rfl, ⟨nd, rfl⟩⟩; refine ⟨_, rfl, ?_⟩))
      go_ret
      exact ⟨by first | rfl | (simp; done) | (simp [*]; done) | (simp; cases a0.toList <;> rfl) , by repeat (first | exact Drawn0.refl _ | apply Drawn0.step)⟩
     replace c6 := Bool.eq_false_iff.mpr c6
     subst c6
     have H1 : (spec_Spaced.l0 k1 a0 (wrap64 (x3_1 + 1))) = some r := by rw [if_neg (show ¬ (false = true) by decide)] at H; exact H
     clear H
     have H := H1
     clear H1
     have H' := Aside0.mk H
     clear H
     have p4 : 0 ≤ (x3_1 : Int) := of_decide_eq_true (by first | (with_reducible assumption) | assumption)
     have q4 : x3_1 < (a0.size : Int) := of_decide_eq_true (by first | (with_reducible assumption) | assumption)
     have hx4 := bt_at a0 x3_1
     replace p4 := eq_true p4
     replace q4 := eq_true q4
     go_wp2_with (first | ((with_reducible refine gate_callee (f := 70) rfl ?_); refine goesL_ (some 13) rfl rfl Tryd.func70 (by kernel_rfl) rfl #[.int .u8 (bt a0 x3_1)] rfl (by (try simp only [List.map_toArray, List.map_cons, List.map_nil]); first | done | rfl | (simp only [List.length_drop, List.length_take]; rfl)) ?_; (with_reducible refine (spec_Blank.calls (bt a0 x3_1) false _ A5.out).mono ?_); rintro e w' ⟨rfl, ⟨nd, rfl⟩⟩; refine ⟨_, rfl, ?_⟩))
     go_roundg k1
     case measure => have := HK1.out; omega
     case rel => exact ⟨(wrap64 (x3_1 + 1)), (by first | rfl | (simp; done) | (simp [*]; done)), H', ⟨by have := HK1.out; omega⟩, by repeat (first | exact Drawn0.refl _ | apply Drawn0.step)⟩
    rw [if_neg c3] at H
    exact absurd H (by simp)
   rw [if_neg c2] at H
   have c2b0 : decide (x3_1 < (a0.size : Int)) = false := decide_eq_false c2
   clear c2
   obtain rfl := Option.some.inj H
   go_wp2
   go_ret
   exact ⟨by first | rfl | (simp; done) | (simp [*]; done) | (simp; cases a0.toList <;> rfl) , by repeat (first | exact Drawn0.refl _ | apply Drawn0.step)⟩
def spec_Valid.f (k : Nat) (a0 : ByteArray) : Option (Bool) := (spec_Tokens.f k a0).bind fun t130 => ((spec_Formed.f k t130).bind fun t133 => (if t133 = true then ((spec_Spaced.f k a0).bind fun t134 => (some (!t134))) else (some false)))
set_option maxHeartbeats 8000000 in
set_option maxRecDepth 100000 in
theorem spec_Valid.calls (k : Nat) (a0 : ByteArray) (r : Bool) (w : World) (h : spec_Valid.f k a0 = some r) :
  Calls Tryd.prog 42 #[.string a0] w fun e w' => e = .returned (.bool r) ∧ Below w.heap.size w w' := by
 have HB := Aside0.mk (Below.refl w.heap.size w)
 have H : ((spec_Tokens.f k a0).bind fun t130 => ((spec_Formed.f k t130).bind fun t133 => (if t133 = true then ((spec_Spaced.f k a0).bind fun t134 => (some (!t134))) else (some false)))) = some r := h
 clear h
 replace H := Option.bind_eq_some_iff.mp H
 obtain ⟨t130, A20, H⟩ := H
 replace H : ((spec_Formed.f k t130).bind fun t133 => (if t133 = true then ((spec_Spaced.f k a0).bind fun t134 => (some (!t134))) else (some false))) = some r := H
 have A2 := Aside0.mk A20
 clear A20
 replace H := Option.bind_eq_some_iff.mp H
 obtain ⟨t133, A30, H⟩ := H
 replace H : (if t133 = true then ((spec_Spaced.f k a0).bind fun t134 => (some (!t134))) else (some false)) = some r := H
 have A3 := Aside0.mk A30
 clear A30
 by_cases c4 : t133 = true
 ·
  subst c4
  have H1 : ((spec_Spaced.f k a0).bind fun t134 => (some (!t134))) = some r := by rw [if_pos rfl] at H; exact H
  clear H
  have H := H1
  clear H1
  replace H := Option.bind_eq_some_iff.mp H
  obtain ⟨t134, A50, H⟩ := H
  replace H : (some (!t134)) = some r := H
  have A5 := Aside0.mk A50
  clear A50
  obtain rfl := Option.some.inj H
  go_enter Tryd.func42, Tryd.ntmps42
  go_wp2_with (first | ((with_reducible refine gate_callee (f := 25) rfl ?_); refine goesL_ (some 4) rfl rfl Tryd.func25 (by kernel_rfl) rfl #[.string a0] rfl (by (try simp only [List.map_toArray, List.map_cons, List.map_nil]); first | done | rfl | (simp only [List.length_drop, List.length_take]; rfl)) ?_; (with_reducible refine (spec_Tokens.calls k a0 t130 _ A2.out).mono ?_); rintro e w6 ⟨v131, rfl, ho0, hb⟩; refine ⟨_, rfl, ?_⟩; have n0_ := Aside0.mk (Kd.R_lower ho0 (below_size (by repeat (first | (with_reducible first | exact HB.out | apply below_alloc | apply pw_below_drewN | apply below_drew1) | exact HB.out)))); have n1_ := Aside0.mk (below_step (by repeat (first | (with_reducible first | exact HB.out | apply below_alloc | apply pw_below_drewN | apply below_drew1) | exact HB.out)) hb); clear HB; have HO132 := n0_; have HB := n1_; clear n0_ n1_; (try clear hb); (try clear hb2); (try clear hk); (try clear hi); (try clear ho0); obtain ⟨Ao7, co7, eo7⟩ := Kd.R_slice HO132.out; subst eo7) | ((with_reducible refine gate_callee (f := 57) rfl ?_); refine goesL_ (some 5) rfl rfl Tryd.func57 (by kernel_rfl) rfl #[.slice Ao7 t130.length co7] rfl (by (try simp only [List.map_toArray, List.map_cons, List.map_nil]); first | done | rfl | (simp only [List.length_drop, List.length_take]; rfl)) ?_; (with_reducible refine (spec_Formed.calls k _ _ t130 true _ ?side1 ?side2 A3.out).mono ?_); (case side1 => repeat (first | exact (Kd.R_reads' HO132.out).2.2 | (with_reducible refine Kd.C_alloc ?_ _) | (with_reducible refine Kd.C_drewN ?_ _) | (with_reducible refine Kd.C_drew ?_))); (case side2 => exact (Kd.R_reads' HO132.out).2.1); rintro e w' ⟨rfl, ⟨nd, rfl⟩⟩; refine ⟨_, rfl, ?_⟩) | (go_at_call 58; (with_reducible refine (spec_Spaced.calls k a0 t134 _ A5.out).mono ?_); rintro e w' ⟨rfl, ⟨nd, rfl⟩⟩))
  go_ret
  exact ⟨by first | rfl | (simp [errW_none, errW_some] <;> rfl) | (simp [*, errW_none, errW_some] <;> rfl), by repeat (first | (with_reducible first | exact HB.out | apply below_alloc | apply pw_below_drewN | apply below_drew1) | exact HB.out)⟩
 replace c4 := Bool.eq_false_iff.mpr c4
 subst c4
 have H1 : (some false) = some r := by rw [if_neg (show ¬ (false = true) by decide)] at H; exact H
 clear H
 have H := H1
 clear H1
 obtain rfl := Option.some.inj H
 go_enter Tryd.func42, Tryd.ntmps42
 go_wp2_with (first | ((with_reducible refine gate_callee (f := 25) rfl ?_); refine goesL_ (some 4) rfl rfl Tryd.func25 (by kernel_rfl) rfl #[.string a0] rfl (by (try simp only [List.map_toArray, List.map_cons, List.map_nil]); first | done | rfl | (simp only [List.length_drop, List.length_take]; rfl)) ?_; (with_reducible refine (spec_Tokens.calls k a0 t130 _ A2.out).mono ?_); rintro e w8 ⟨v131, rfl, ho0, hb⟩; refine ⟨_, rfl, ?_⟩; have n0_ := Aside0.mk (Kd.R_lower ho0 (below_size (by repeat (first | (with_reducible first | exact HB.out | apply below_alloc | apply pw_below_drewN | apply below_drew1) | exact HB.out)))); have n1_ := Aside0.mk (below_step (by repeat (first | (with_reducible first | exact HB.out | apply below_alloc | apply pw_below_drewN | apply below_drew1) | exact HB.out)) hb); clear HB; have HO132 := n0_; have HB := n1_; clear n0_ n1_; (try clear hb); (try clear hb2); (try clear hk); (try clear hi); (try clear ho0); obtain ⟨Ao9, co9, eo9⟩ := Kd.R_slice HO132.out; subst eo9) | ((with_reducible refine gate_callee (f := 57) rfl ?_); refine goesL_ (some 5) rfl rfl Tryd.func57 (by kernel_rfl) rfl #[.slice Ao9 t130.length co9] rfl (by (try simp only [List.map_toArray, List.map_cons, List.map_nil]); first | done | rfl | (simp only [List.length_drop, List.length_take]; rfl)) ?_; (with_reducible refine (spec_Formed.calls k _ _ t130 false _ ?side1 ?side2 A3.out).mono ?_); (case side1 => repeat (first | exact (Kd.R_reads' HO132.out).2.2 | (with_reducible refine Kd.C_alloc ?_ _) | (with_reducible refine Kd.C_drewN ?_ _) | (with_reducible refine Kd.C_drew ?_))); (case side2 => exact (Kd.R_reads' HO132.out).2.1); rintro e w' ⟨rfl, ⟨nd, rfl⟩⟩; refine ⟨_, rfl, ?_⟩))
 go_ret
 exact ⟨by first | rfl | (simp [errW_none, errW_some] <;> rfl) | (simp [*, errW_none, errW_some] <;> rfl), by repeat (first | (with_reducible first | exact HB.out | apply below_alloc | apply pw_below_drewN | apply below_drew1) | exact HB.out)⟩
def spec_Rest.f (k : Nat) (a0 : ByteArray) : Option (Bool) := (spec_Tokens.f k a0).bind fun t135 => (if 0 ≤ (wrap64 ((t135.length : Int) - 1)) then (if (wrap64 ((t135.length : Int) - 1)) < (t135.length : Int) then (some ((rdOf ByteArray.empty t135 (wrap64 ((t135.length : Int) - 1))).toList == ([62] : List UInt8))) else (none)) else (none))
set_option maxHeartbeats 8000000 in
set_option maxRecDepth 100000 in
theorem spec_Rest.calls (k : Nat) (a0 : ByteArray) (r : Bool) (w : World) (h : spec_Rest.f k a0 = some r) :
  Calls Tryd.prog 43 #[.string a0] w fun e w' => e = .returned (.bool r) ∧ Below w.heap.size w w' := by
 have HB := Aside0.mk (Below.refl w.heap.size w)
 have H : ((spec_Tokens.f k a0).bind fun t135 => (if 0 ≤ (wrap64 ((t135.length : Int) - 1)) then (if (wrap64 ((t135.length : Int) - 1)) < (t135.length : Int) then (some ((rdOf ByteArray.empty t135 (wrap64 ((t135.length : Int) - 1))).toList == ([62] : List UInt8))) else (none)) else (none))) = some r := h
 clear h
 replace H := Option.bind_eq_some_iff.mp H
 obtain ⟨t135, A20, H⟩ := H
 replace H : (if 0 ≤ (wrap64 ((t135.length : Int) - 1)) then (if (wrap64 ((t135.length : Int) - 1)) < (t135.length : Int) then (some ((rdOf ByteArray.empty t135 (wrap64 ((t135.length : Int) - 1))).toList == ([62] : List UInt8))) else (none)) else (none)) = some r := H
 have A2 := Aside0.mk A20
 clear A20
 obtain ⟨ji3, hji3⟩ : ∃ j_ : Int, (wrap64 ((t135.length : Int) - 1)) = j_ := ⟨_, rfl⟩
 replace H : (if 0 ≤ (ji3) then (if (ji3) < (t135.length : Int) then (some ((rdOf ByteArray.empty t135 (ji3)).toList == ([62] : List UInt8))) else (none)) else (none)) = some r := by first | (rw [hji3] at H; exact H) | (simp only [hji3] at H ⊢; exact H)
 (try rw [hji3] at A2)
 have hji3w : (IntKind.i64.wrap ((t135.length : Int) - 1)) = ji3 := (i64_w _).trans hji3
 by_cases c4 : 0 ≤ (ji3)
 ·
  rw [if_pos c4] at H
  have c4b0 : decide (0 ≤ (ji3)) = true := decide_eq_true c4
  clear c4
  by_cases c5 : (ji3) < (t135.length : Int)
  ·
   rw [if_pos c5] at H
   have c5b0 : decide ((ji3) < (t135.length : Int)) = true := decide_eq_true c5
   clear c5
   obtain rfl := Option.some.inj H
   go_enter Tryd.func43, Tryd.ntmps43
   go_wp2_with (first | ((with_reducible refine gate_callee (f := 25) rfl ?_); refine goesL_ (some 5) rfl rfl Tryd.func25 (by kernel_rfl) rfl #[.string a0] rfl (by (try simp only [List.map_toArray, List.map_cons, List.map_nil]); first | done | rfl | (simp only [List.length_drop, List.length_take]; rfl)) ?_; (with_reducible refine (spec_Tokens.calls k a0 t135 _ A2.out).mono ?_); rintro e w6 ⟨v136, rfl, ho0, hb⟩; refine ⟨_, rfl, ?_⟩; have n0_ := Aside0.mk (Kd.R_lower ho0 (below_size (by repeat (first | (with_reducible first | exact HB.out | apply below_alloc | apply pw_below_drewN | apply below_drew1) | exact HB.out)))); have n1_ := Aside0.mk (below_step (by repeat (first | (with_reducible first | exact HB.out | apply below_alloc | apply pw_below_drewN | apply below_drew1) | exact HB.out)) hb); clear HB; have HO137 := n0_; have HB := n1_; clear n0_ n1_; (try clear hb); (try clear hb2); (try clear hk); (try clear hi); (try clear ho0); obtain ⟨Ao7, co7, eo7⟩ := Kd.R_slice HO137.out; subst eo7; have p138 : 0 ≤ ((ji3) : Int) := of_decide_eq_true (by first | (with_reducible assumption) | assumption); have q138 : (ji3) < (t135.length : Int) := of_decide_eq_true (by first | (with_reducible assumption) | assumption); obtain ⟨ad138, e138, hx138_0⟩ := Kd.at_string (Kd.R_reads' HO137.out).2.2 (ji3) p138 q138; cases e138; replace p138 := eq_true p138; replace q138 := eq_true q138))
   go_ret
   exact ⟨by first | rfl | (simp [errW_none, errW_some] <;> rfl) | (simp only [← hji3]; first | rfl | (simp [errW_none, errW_some] <;> rfl)) | (simp [*, errW_none, errW_some] <;> rfl), by repeat (first | (with_reducible first | exact HB.out | apply below_alloc | apply pw_below_drewN | apply below_drew1) | exact HB.out)⟩
  rw [if_neg c5] at H
  exact absurd H (by simp)
 rw [if_neg c4] at H
 exact absurd H (by simp)
mutual
def spec_Sound.j0 : Nat → ByteArray → List (S42) → Bool → Option (Bool)
 | 0, _, _, _ => none
 | k + 1, x0, x1, x24 => if x24 = true then (some false) else ((spec_Wilds.f k x0).bind fun t142 => (spec_Sound.l0 k x1 t142 0))
def spec_Sound.l0 : Nat → List (S42) → Int → Int → Option (Bool)
 | 0, _, _, _ => none
 | k + 1, x1, x5, x6 => if x6 < (x1.length : Int) then (if 0 ≤ x6 then (if ((rd_T42 x1 x6).f0) = 0 then (spec_Sound.j2 k x1 x5 x6 false ((rd_T42 x1 x6).f0) ((rd_T42 x1 x6).f1) ((rd_T42 x1 x6).f2) ((rd_T42 x1 x6).f3) ((rd_T42 x1 x6).f4)) else (if ((rd_T42 x1 x6).f0) = 11 then (spec_Sound.j2 k x1 x5 x6 false ((rd_T42 x1 x6).f0) ((rd_T42 x1 x6).f1) ((rd_T42 x1 x6).f2) ((rd_T42 x1 x6).f3) ((rd_T42 x1 x6).f4)) else (if ((rd_T42 x1 x6).f0) = 10 then (spec_Sound.j2 k x1 x5 x6 false ((rd_T42 x1 x6).f0) ((rd_T42 x1 x6).f1) ((rd_T42 x1 x6).f2) ((rd_T42 x1 x6).f3) ((rd_T42 x1 x6).f4)) else (if ((rd_T42 x1 x6).f2) < 1 then (spec_Sound.j2 k x1 x5 x6 true ((rd_T42 x1 x6).f0) ((rd_T42 x1 x6).f1) ((rd_T42 x1 x6).f2) ((rd_T42 x1 x6).f3) ((rd_T42 x1 x6).f4)) else (spec_Sound.j2 k x1 x5 x6 (decide (((rd_T42 x1 x6).f2) > x5)) ((rd_T42 x1 x6).f0) ((rd_T42 x1 x6).f1) ((rd_T42 x1 x6).f2) ((rd_T42 x1 x6).f3) ((rd_T42 x1 x6).f4)))))) else (none)) else (some true)
def spec_Sound.j2 : Nat → List (S42) → Int → Int → Bool → Int → ByteArray → Int → Int → List Int → Option (Bool)
 | 0, _, _, _, _, _, _, _, _, _ => none
 | k + 1, x1, x5, x6, x60, x145000, x145001, x145002, x145003, x145004 => if x60 = true then (some false) else (spec_Sound.l1 k x1 x5 x6 0 x145000 x145001 x145002 x145003 x145004)
def spec_Sound.l1 : Nat → List (S42) → Int → Int → Int → Int → ByteArray → Int → Int → List Int → Option (Bool)
 | 0, _, _, _, _, _, _, _, _, _ => none
 | k + 1, x1, x5, x6, x8, x145000, x145001, x145002, x145003, x145004 => if x8 < (x145004.length : Int) then (spec_Sound.j4 k x1 x5 x6 x8 (x145000 == 10) x145000 x145001 x145002 x145003 x145004) else (spec_Sound.j4 k x1 x5 x6 x8 false x145000 x145001 x145002 x145003 x145004)
def spec_Sound.j4 : Nat → List (S42) → Int → Int → Int → Bool → Int → ByteArray → Int → Int → List Int → Option (Bool)
 | 0, _, _, _, _, _, _, _, _, _, _ => none
 | k + 1, x1, x5, x6, x8, x70, x145000, x145001, x145002, x145003, x145004 => if x70 = true then (if 0 ≤ x8 then (if x8 < (x145004.length : Int) then (if (rd x145004 x8) < 1 then (some false) else (if (rd x145004 x8) > x5 then (some false) else (spec_Sound.l1 k x1 x5 x6 (wrap64 (x8 + 1)) x145000 x145001 x145002 x145003 x145004))) else (none)) else (none)) else (spec_Sound.l0 k x1 x5 (wrap64 (x6 + 1)))
end
def spec_Sound.f (k : Nat) (a0 : ByteArray) (l1 : List (S42)) : Option (Bool) := (spec_Valid.f k a0).bind fun t139 => (if t139 = true then ((spec_Rest.f k a0).bind fun t140 => (if 0 ≤ (wrap64 ((l1.length : Int) - 1)) then (if (wrap64 ((l1.length : Int) - 1)) < (l1.length : Int) then (spec_Sound.j0 k a0 l1 (t140 != (((rd_T42 l1 (wrap64 ((l1.length : Int) - 1))).f0) == 11))) else (none)) else (none))) else (spec_Sound.j0 k a0 l1 true))
def spec_Sound.T1 : Bool × List (List Nat × List Nat) := (true, [([], []), ([0], [0]), ([1], [1]), ([2, 1], [2]), ([3], [3]), ([4, 3, 3], [3, 4]), ([3], [3]), ([3], [3]), ([7, 3], [3, 7]), ([8, 3], [3, 8]), ([6, 9, 3], [3, 6, 9]), ([10, 3], [3, 10]), ([11, 3], [3, 11]), ([12, 3], [3, 12]), ([5, 13, 3], [3, 5, 13]), ([3, 14], [3, 14])])
def spec_Sound.B1 : List Nat := [0, 1, 3, 7, 15, 31, 15, 15, 143, 399, 975, 1999, 4047, 8143, 16383, 32767]
theorem spec_Sound.tab1 : rtab .any (opsOf Tryd.f22 1) = spec_Sound.T1 := by kernel_rfl
theorem spec_Sound.bits1 : waitsOk spec_Sound.T1.2 spec_Sound.B1 = true := by kernel_rfl
set_option maxHeartbeats 8000000 in
set_option maxRecDepth 100000 in
theorem spec_Sound.calls (k : Nat) (a0 : ByteArray) (A1 : Option Addr) (c1 : Nat) (l1 : List (S42)) (r : Bool) (w : World) (hr1 : Kd.C k42 w A1 l1.length l1) (hc1 : l1.length ≤ c1) (h : spec_Sound.f k a0 l1 = some r) :
  Calls Tryd.prog 22 #[.string a0, .slice A1 l1.length c1] w fun e w' => e = .returned (.bool r) ∧ Below w.heap.size w w' := by
 have hu42 := Tryd.underlying42
 have HR1 := Aside0.mk hr1
 have HC1 := Aside0.mk hc1
 clear hr1 hc1
 have HB := Aside0.mk (Below.refl w.heap.size w)
 have H : ((spec_Valid.f k a0).bind fun t139 => (if t139 = true then ((spec_Rest.f k a0).bind fun t140 => (if 0 ≤ (wrap64 ((l1.length : Int) - 1)) then (if (wrap64 ((l1.length : Int) - 1)) < (l1.length : Int) then (spec_Sound.j0 k a0 l1 (t140 != (((rd_T42 l1 (wrap64 ((l1.length : Int) - 1))).f0) == 11))) else (none)) else (none))) else (spec_Sound.j0 k a0 l1 true))) = some r := h
 clear h
 have HC3 := Aside0.mk H
 clear H
 go_enter Tryd.func22, Tryd.ntmps22
 go_upto_region 1 with (fail)
 go_cut [24] (fun v24 wc => ∃ (kq : Nat) (x24_2 : Bool), v24 = .bool x24_2 ∧ Aside0 (spec_Sound.j0 kq a0 l1 x24_2 = some r) ∧ Aside0 (kq ≤ k) ∧ Aside0 (Below w.heap.size w wc))
 case first =>
  have H := HC3.out
  clear HC3
  replace H := Option.bind_eq_some_iff.mp H
  obtain ⟨t139, A40, H⟩ := H
  replace H : (if t139 = true then ((spec_Rest.f k a0).bind fun t140 => (if 0 ≤ (wrap64 ((l1.length : Int) - 1)) then (if (wrap64 ((l1.length : Int) - 1)) < (l1.length : Int) then (spec_Sound.j0 k a0 l1 (t140 != (((rd_T42 l1 (wrap64 ((l1.length : Int) - 1))).f0) == 11))) else (none)) else (none))) else (spec_Sound.j0 k a0 l1 true)) = some r := H
  have A4 := Aside0.mk A40
  clear A40
  by_cases c5 : t139 = true
  ·
   subst c5
   have H1 : ((spec_Rest.f k a0).bind fun t140 => (if 0 ≤ (wrap64 ((l1.length : Int) - 1)) then (if (wrap64 ((l1.length : Int) - 1)) < (l1.length : Int) then (spec_Sound.j0 k a0 l1 (t140 != (((rd_T42 l1 (wrap64 ((l1.length : Int) - 1))).f0) == 11))) else (none)) else (none))) = some r := by rw [if_pos rfl] at H; exact H
   clear H
   have H := H1
   clear H1
   replace H := Option.bind_eq_some_iff.mp H
   obtain ⟨t140, A60, H⟩ := H
   replace H : (if 0 ≤ (wrap64 ((l1.length : Int) - 1)) then (if (wrap64 ((l1.length : Int) - 1)) < (l1.length : Int) then (spec_Sound.j0 k a0 l1 (t140 != (((rd_T42 l1 (wrap64 ((l1.length : Int) - 1))).f0) == 11))) else (none)) else (none)) = some r := H
   have A6 := Aside0.mk A60
   clear A60
   obtain ⟨ji7, hji7⟩ : ∃ j_ : Int, (wrap64 ((l1.length : Int) - 1)) = j_ := ⟨_, rfl⟩
   replace H : (if 0 ≤ (ji7) then (if (ji7) < (l1.length : Int) then (spec_Sound.j0 k a0 l1 (t140 != (((rd_T42 l1 (ji7)).f0) == 11))) else (none)) else (none)) = some r := by first | (rw [hji7] at H; exact H) | (simp only [hji7] at H ⊢; exact H)
   (try rw [hji7] at A4)
   (try rw [hji7] at A6)
   have hji7w : (IntKind.i64.wrap ((l1.length : Int) - 1)) = ji7 := (i64_w _).trans hji7
   by_cases c8 : 0 ≤ (ji7)
   ·
    rw [if_pos c8] at H
    have c8b0 : decide (0 ≤ (ji7)) = true := decide_eq_true c8
    clear c8
    (first | rw [c8b0] | (simp only [i64_w, i32_w]; rw [c8b0]) | skip)
    by_cases c9 : (ji7) < (l1.length : Int)
    ·
     rw [if_pos c9] at H
     have c9b0 : decide ((ji7) < (l1.length : Int)) = true := decide_eq_true c9
     clear c9
     have H' := Aside0.mk H
     clear H
     try go_wp2
     have n0_ := Aside0.mk (below_drew1 HB.out)
     clear HB
     have HB := n0_
     clear n0_
     have p141 : 0 ≤ ((ji7) : Int) := of_decide_eq_true (by first | (with_reducible assumption) | assumption)
     have q141 : (ji7) < (l1.length : Int) := of_decide_eq_true (by first | (with_reducible assumption) | assumption)
     obtain ⟨ad141, A141_4, c141_4, e141, hx141_0, hx141_1, hx141_2, hx141_3, hx141_4, hl141_4, hi141_4⟩ := at_T42 HR1.out (ji7) p141 q141
     have hw141_4 := hx141_4
     have hw141_3 := hx141_3
     have hw141_2 := hx141_2
     have hw141_1 := hx141_1
     have hw141_0 := hx141_0
     cases e141
     replace hx141_0 := (HB.out.cell (World.block_lt_of_cell? w _ hx141_0)).trans hx141_0
     replace hx141_1 := (HB.out.cell (World.block_lt_of_cell? w _ hx141_1)).trans hx141_1
     replace hx141_2 := (HB.out.cell (World.block_lt_of_cell? w _ hx141_2)).trans hx141_2
     replace hx141_3 := (HB.out.cell (World.block_lt_of_cell? w _ hx141_3)).trans hx141_3
     replace hx141_4 := (HB.out.cell (World.block_lt_of_cell? w _ hx141_4)).trans hx141_4
     have HR141_4 := Aside0.mk hi141_4
     have HC141_4 := Aside0.mk hl141_4
     clear hi141_4 hl141_4
     replace p141 := eq_true p141
     replace q141 := eq_true q141
     refine start_ (n := 16) (S := fun w' => w'.cell? (ad141.add (((ji7)).toNat * 5)) = some (.int .i64 ((rd_T42 l1 (ji7)).f0)) ∧ w'.cell? ⟨(ad141.add (((ji7)).toNat * 5)).block, (ad141.add (((ji7)).toNat * 5)).off + 1, none⟩ = some (.string ((rd_T42 l1 (ji7)).f1)) ∧ w'.cell? ⟨(ad141.add (((ji7)).toNat * 5)).block, (ad141.add (((ji7)).toNat * 5)).off + 2, none⟩ = some (.int .i64 ((rd_T42 l1 (ji7)).f2)) ∧ w'.cell? ⟨(ad141.add (((ji7)).toNat * 5)).block, (ad141.add (((ji7)).toNat * 5)).off + 3, none⟩ = some (.int .i64 ((rd_T42 l1 (ji7)).f3)) ∧ w'.cell? ⟨(ad141.add (((ji7)).toNat * 5)).block, (ad141.add (((ji7)).toNat * 5)).off + 4, none⟩ = some (.slice A141_4 ((rd_T42 l1 (ji7)).f4).length c141_4)) (ds := []) #[false, false, false, false, false, false, false, false, false, false, false, false, false, false, false, false] (by kernel_rfl) rfl rfl ⟨((HB.out.cell (World.block_lt_of_cell? w _ hw141_0)).trans hw141_0), ((HB.out.cell (World.block_lt_of_cell? w _ hw141_1)).trans hw141_1), ((HB.out.cell (World.block_lt_of_cell? w _ hw141_2)).trans hw141_2), ((HB.out.cell (World.block_lt_of_cell? w _ hw141_3)).trans hw141_3), ((HB.out.cell (World.block_lt_of_cell? w _ hw141_4)).trans hw141_4)⟩ (fun hHeld => ?_); refine with_tabW spec_Sound.tab1 spec_Sound.bits1 (fun HT_ HW_ => ?_)
     generalize w.drew = w10 at HB HR141_4 hx141_0 hx141_1 hx141_2 hx141_3 hx141_4 hHeld ⊢
     refine pure_ (i := 0) (N := some 9) (v := ?_) (a' := ?_) #[true, false, false, false, false, false, false, false, false, false, false, false, false, false, false, false] rfl rfl (any_of HT_.out (by kernel_rfl)) (fun _ _ _ h => h) (Or.inl ⟨by rfl, ?_⟩) ?_ ?_
     rotate_left
     ·
      intro w'
      go_simp
      with_reducible rfl
     rotate_left
     ·
      simp only [Act.put, List.setIfInBounds_toArray, List.set_cons_zero, List.set_cons_succ, i64_w, i32_w]
      rfl
     refine one_ (i := 1) (N := some 10) #[true, true, false, false, false, false, false, false, false, false, false, false, false, false, false, false] rfl rfl (one_of HT_.out (by kernel_rfl)) (by decide) (fun K hK => ?_)
     refine goes_ Tryd.func42 (by kernel_rfl) rfl #[.string a0] (by rfl) rfl rfl (by (try simp only [List.map_toArray, List.map_cons, List.map_nil]); first | done | rfl | (simp only [List.length_drop, List.length_take]; rfl)) ?_
     with_reducible refine (spec_Valid.calls k a0 true _ A4.out).mono ?_
     rintro e w11 ⟨rfl, hb⟩
     refine ⟨_, rfl, ?_⟩
     have n0_ := Aside0.mk (below_step (by repeat (first | (with_reducible first | exact HB.out | apply below_alloc | apply pw_below_drewN | apply below_drew1) | exact HB.out)) hb)
     clear HB
     have HB := n0_
     clear n0_
     (try clear hb)
     (try clear hb2)
     (try clear hk)
     (try clear hi)
     refine hK.out _ _ ⟨((HB.out.cell (World.block_lt_of_cell? w _ hw141_0)).trans hw141_0), ((HB.out.cell (World.block_lt_of_cell? w _ hw141_1)).trans hw141_1), ((HB.out.cell (World.block_lt_of_cell? w _ hw141_2)).trans hw141_2), ((HB.out.cell (World.block_lt_of_cell? w _ hw141_3)).trans hw141_3), ((HB.out.cell (World.block_lt_of_cell? w _ hw141_4)).trans hw141_4)⟩ (fun hHeld => ?_)
     clear hK K
     refine norm_ (a' := ?_) ?_ ?_
     rotate_left
     ·
      show Act.put _ (some 10) _ = _
      simp only [Act.put, List.setIfInBounds_toArray, List.set_cons_zero, List.set_cons_succ, i64_w, i32_w]
      rfl
     refine pure_ (i := 2) (N := some 11) (v := ?_) (a' := ?_) #[true, true, true, false, false, false, false, false, false, false, false, false, false, false, false, false] rfl rfl (any_of HT_.out (by kernel_rfl)) (fun _ _ _ h => h) (Or.inl ⟨by rfl, ?_⟩) ?_ ?_
     rotate_left
     ·
      intro w'
      go_simp
      with_reducible rfl
     rotate_left
     ·
      simp only [Act.put, List.setIfInBounds_toArray, List.set_cons_zero, List.set_cons_succ, i64_w, i32_w]
      rfl
     refine pure_ (i := 3) (N := some 12) (v := ?_) (a' := ?_) #[true, true, true, true, false, false, false, false, false, false, false, false, false, false, false, false] rfl rfl (any_of HT_.out (by kernel_rfl)) (fun _ _ _ h => h) (Or.inl ⟨by rfl, ?_⟩) ?_ ?_
     rotate_left
     ·
      intro w'
      go_simp
      with_reducible rfl
     rotate_left
     ·
      simp only [Act.put, List.setIfInBounds_toArray, List.set_cons_zero, List.set_cons_succ, i64_w, i32_w]
      rfl
     refine pure_ (i := 4) (N := some 13) (v := ?_) (a' := ?_) #[true, true, true, true, true, false, false, false, false, false, false, false, false, false, false, false] rfl rfl (any_of HT_.out (by kernel_rfl)) (fun _ _ _ h => h) (Or.inl ⟨by rfl, ?_⟩) ?_ ?_
     rotate_left
     ·
      intro w'
      go_simp
      with_reducible rfl
     rotate_left
     ·
      simp only [Act.put, List.setIfInBounds_toArray, List.set_cons_zero, List.set_cons_succ, i64_w, i32_w]
      rfl
     refine pure_ (i := 6) (N := some 15) (v := ?_) (a' := ?_) #[true, true, true, true, true, false, true, false, false, false, false, false, false, false, false, false] rfl rfl (any_of HT_.out (by kernel_rfl)) (fun _ _ _ h => h) (Or.inl ⟨by rfl, ?_⟩) ?_ ?_
     rotate_left
     ·
      intro w'
      go_simp
      with_reducible rfl
     rotate_left
     ·
      simp only [Act.put, List.setIfInBounds_toArray, List.set_cons_zero, List.set_cons_succ, i64_w, i32_w]
      rfl
     refine pure_ (i := 7) (N := some 16) (v := ?_) (a' := ?_) #[true, true, true, true, true, false, true, true, false, false, false, false, false, false, false, false] rfl rfl (any_of HT_.out (by kernel_rfl)) (fun _ _ _ h => h) (Or.inl ⟨by rfl, ?_⟩) ?_ ?_
     rotate_left
     ·
      intro w'
      go_simp
      with_reducible rfl
     rotate_left
     ·
      simp only [Act.put, List.setIfInBounds_toArray, List.set_cons_zero, List.set_cons_succ, i64_w, i32_w]
      rfl
     refine pure_ (i := 8) (N := some 17) (v := ?_) (a' := ?_) #[true, true, true, true, true, false, true, true, true, false, false, false, false, false, false, false] rfl rfl (any_of HT_.out (by kernel_rfl)) (fun _ _ _ h => h) (Or.inl ⟨by rfl, ?_⟩) ?_ ?_
     rotate_left
     ·
      intro w'
      go_simp
      with_reducible rfl
     rotate_left
     ·
      simp only [Act.put, List.setIfInBounds_toArray, List.set_cons_zero, List.set_cons_succ, i64_w, i32_w]
      rfl
     refine pure_ (i := 9) (N := some 18) (v := ?_) (a' := ?_) #[true, true, true, true, true, false, true, true, true, true, false, false, false, false, false, false] rfl rfl (any_of HT_.out (by kernel_rfl)) (fun _ _ _ h => h) (Or.inl ⟨by rfl, ?_⟩) ?_ ?_
     rotate_left
     ·
      intro w'
      go_simp
      with_reducible rfl
     rotate_left
     ·
      simp only [Act.put, List.setIfInBounds_toArray, List.set_cons_zero, List.set_cons_succ, i64_w, i32_w]
      rfl
     refine pure_ (i := 10) (N := some 19) (v := ?_) (a' := ?_) #[true, true, true, true, true, false, true, true, true, true, true, false, false, false, false, false] rfl rfl (any_of HT_.out (by kernel_rfl)) (fun _ _ _ h => h) (Or.inl ⟨by rfl, ?_⟩) ?_ ?_
     rotate_left
     ·
      intro w'
      go_simp
      with_reducible rfl
     rotate_left
     ·
      simp only [Act.put, List.setIfInBounds_toArray, List.set_cons_zero, List.set_cons_succ, i64_w, i32_w]
      rfl
     refine pure_ (i := 11) (N := some 20) (v := ?_) (a' := ?_) #[true, true, true, true, true, false, true, true, true, true, true, true, false, false, false, false] rfl rfl (any_of HT_.out (by kernel_rfl)) (fun _ _ _ h => h) (Or.inl ⟨by rfl, ?_⟩) ?_ ?_
     rotate_left
     ·
      intro w'
      go_simp
      with_reducible rfl
     rotate_left
     ·
      simp only [Act.put, List.setIfInBounds_toArray, List.set_cons_zero, List.set_cons_succ, i64_w, i32_w]
      rfl
     refine take_ (i := 12) (N := some 21) (v := ?_) (a' := ?_) #[true, true, true, true, true, false, true, true, true, true, true, true, true, false, false, false] rfl rfl (take_ofW HT_.out HW_.out (by kernel_rfl)) (fun _ _ _ h => h) (Or.inl ⟨by rfl, ?_⟩) hHeld ?_ ?_
     rotate_left
     ·
      rintro w' ⟨s0, s1, s2, s3, s4⟩
      go_simp
      with_reducible rfl
     rotate_left
     ·
      simp only [Act.put, List.setIfInBounds_toArray, List.set_cons_zero, List.set_cons_succ, i64_w, i32_w]
      rfl
     refine pure_ (i := 13) (N := some 22) (v := ?_) (a' := ?_) #[true, true, true, true, true, false, true, true, true, true, true, true, true, true, false, false] rfl rfl (any_of HT_.out (by kernel_rfl)) (fun _ _ _ h => h) (Or.inl ⟨by rfl, ?_⟩) ?_ ?_
     rotate_left
     ·
      intro w'
      go_simp
      with_reducible rfl
     rotate_left
     ·
      simp only [Act.put, List.setIfInBounds_toArray, List.set_cons_zero, List.set_cons_succ, i64_w, i32_w]
      rfl
     refine one_ (i := 5) (N := some 14) #[true, true, true, true, true, true, true, true, true, true, true, true, true, true, false, false] rfl rfl (one_of HT_.out (by kernel_rfl)) (by decide) (fun K hK => ?_)
     refine goes_ Tryd.func43 (by kernel_rfl) rfl #[.string a0] (by rfl) rfl rfl (by (try simp only [List.map_toArray, List.map_cons, List.map_nil]); first | done | rfl | (simp only [List.length_drop, List.length_take]; rfl)) ?_
     with_reducible refine (spec_Rest.calls k a0 t140 _ A6.out).mono ?_
     rintro e w12 ⟨rfl, hb⟩
     refine ⟨_, rfl, ?_⟩
     have n0_ := Aside0.mk (below_step (by repeat (first | (with_reducible first | exact HB.out | apply below_alloc | apply pw_below_drewN | apply below_drew1) | exact HB.out)) hb)
     clear HB
     have HB := n0_
     clear n0_
     (try clear hb)
     (try clear hb2)
     (try clear hk)
     (try clear hi)
     refine hK.out _ _ ⟨((HB.out.cell (World.block_lt_of_cell? w _ hw141_0)).trans hw141_0), ((HB.out.cell (World.block_lt_of_cell? w _ hw141_1)).trans hw141_1), ((HB.out.cell (World.block_lt_of_cell? w _ hw141_2)).trans hw141_2), ((HB.out.cell (World.block_lt_of_cell? w _ hw141_3)).trans hw141_3), ((HB.out.cell (World.block_lt_of_cell? w _ hw141_4)).trans hw141_4)⟩ (fun hHeld => ?_)
     clear hK K
     refine norm_ (a' := ?_) ?_ ?_
     rotate_left
     ·
      show Act.put _ (some 14) _ = _
      simp only [Act.put, List.setIfInBounds_toArray, List.set_cons_zero, List.set_cons_succ, i64_w, i32_w]
      rfl
     refine pure_ (i := 14) (N := some 23) (v := ?_) (a' := ?_) #[true, true, true, true, true, true, true, true, true, true, true, true, true, true, true, false] rfl rfl (any_of HT_.out (by kernel_rfl)) (fun _ _ _ h => h) (Or.inl ⟨by rfl, ?_⟩) ?_ ?_
     rotate_left
     ·
      intro w'
      go_simp
      with_reducible rfl
     rotate_left
     ·
      simp only [Act.put, List.setIfInBounds_toArray, List.set_cons_zero, List.set_cons_succ, i64_w, i32_w]
      rfl
     refine pure_ (i := 15) (N := some 24) (v := ?_) (a' := ?_) #[true, true, true, true, true, true, true, true, true, true, true, true, true, true, true, true] rfl rfl (any_of HT_.out (by kernel_rfl)) (fun _ _ _ h => h) (Or.inl ⟨by rfl, ?_⟩) ?_ ?_
     rotate_left
     ·
      intro w'
      go_simp
      with_reducible rfl
     rotate_left
     ·
      simp only [Act.put, List.setIfInBounds_toArray, List.set_cons_zero, List.set_cons_succ, i64_w, i32_w]
      rfl
     refine done_ (done_of HT_.out (by kernel_rfl)) ?_
     try go_wp2
     go_meet
     case rel => exact ⟨_, ((t140 != (((rd_T42 l1 (ji7)).f0) == 11))), (by first | rfl | (simp; done) | (simp only [← hji7] <;> (first | rfl | simp)) | (simp [*]; done)), H', ⟨by first | omega | exact Nat.le_refl _⟩, ⟨by repeat (first | (with_reducible first | exact HB.out | apply below_alloc | apply pw_below_drewN | apply below_drew1) | exact HB.out)⟩⟩
    rw [if_neg c9] at H
    exact absurd H (by simp)
   rw [if_neg c8] at H
   exact absurd H (by simp)
  replace c5 := Bool.eq_false_iff.mpr c5
  subst c5
  have H1 : (spec_Sound.j0 k a0 l1 true) = some r := by rw [if_neg (show ¬ (false = true) by decide)] at H; exact H
  clear H
  have H := H1
  clear H1
  have H' := Aside0.mk H
  clear H
  try go_wp2
  have n0_ := Aside0.mk (below_drew1 HB.out)
  clear HB
  have HB := n0_
  clear n0_
  refine start_ (n := 16) (S := fun w' => True) (ds := []) #[false, false, false, false, false, false, false, false, false, false, false, false, false, false, false, false] (by kernel_rfl) rfl rfl trivial (fun hHeld => ?_); refine with_tabW spec_Sound.tab1 spec_Sound.bits1 (fun HT_ HW_ => ?_)
  generalize w.drew = w13 at HB hHeld ⊢
  refine pure_ (i := 0) (N := some 9) (v := ?_) (a' := ?_) #[true, false, false, false, false, false, false, false, false, false, false, false, false, false, false, false] rfl rfl (any_of HT_.out (by kernel_rfl)) (fun _ _ _ h => h) (Or.inl ⟨by rfl, ?_⟩) ?_ ?_
  rotate_left
  ·
   intro w'
   go_simp
   with_reducible rfl
  rotate_left
  ·
   simp only [Act.put, List.setIfInBounds_toArray, List.set_cons_zero, List.set_cons_succ, i64_w, i32_w]
   rfl
  refine one_ (i := 1) (N := some 10) #[true, true, false, false, false, false, false, false, false, false, false, false, false, false, false, false] rfl rfl (one_of HT_.out (by kernel_rfl)) (by decide) (fun K hK => ?_)
  refine goes_ Tryd.func42 (by kernel_rfl) rfl #[.string a0] (by rfl) rfl rfl (by (try simp only [List.map_toArray, List.map_cons, List.map_nil]); first | done | rfl | (simp only [List.length_drop, List.length_take]; rfl)) ?_
  with_reducible refine (spec_Valid.calls k a0 false _ A4.out).mono ?_
  rintro e w14 ⟨rfl, hb⟩
  refine ⟨_, rfl, ?_⟩
  have n0_ := Aside0.mk (below_step (by repeat (first | (with_reducible first | exact HB.out | apply below_alloc | apply pw_below_drewN | apply below_drew1) | exact HB.out)) hb)
  clear HB
  have HB := n0_
  clear n0_
  (try clear hb)
  (try clear hb2)
  (try clear hk)
  (try clear hi)
  refine hK.out _ _ trivial (fun hHeld => ?_)
  clear hK K
  refine norm_ (a' := ?_) ?_ ?_
  rotate_left
  ·
   show Act.put _ (some 10) _ = _
   simp only [Act.put, List.setIfInBounds_toArray, List.set_cons_zero, List.set_cons_succ, i64_w, i32_w]
   rfl
  refine pure_ (i := 2) (N := some 11) (v := ?_) (a' := ?_) #[true, true, true, false, false, false, false, false, false, false, false, false, false, false, false, false] rfl rfl (any_of HT_.out (by kernel_rfl)) (fun _ _ _ h => h) (Or.inl ⟨by rfl, ?_⟩) ?_ ?_
  rotate_left
  ·
   intro w'
   go_simp
   with_reducible rfl
  rotate_left
  ·
   simp only [Act.put, List.setIfInBounds_toArray, List.set_cons_zero, List.set_cons_succ, i64_w, i32_w]
   rfl
  refine pure_ (i := 3) (N := some 12) (v := ?_) (a' := ?_) #[true, true, true, true, false, false, false, false, false, false, false, false, false, false, false, false] rfl rfl (any_of HT_.out (by kernel_rfl)) (fun _ _ _ h => h) (Or.inl ⟨by rfl, ?_⟩) ?_ ?_
  rotate_left
  ·
   intro w'
   go_simp
   with_reducible rfl
  rotate_left
  ·
   simp only [Act.put, List.setIfInBounds_toArray, List.set_cons_zero, List.set_cons_succ, i64_w, i32_w]
   rfl
  refine pure_ (i := 4) (N := some 13) (v := undef) (a' := ?_) #[true, true, true, true, true, false, false, false, false, false, false, false, false, false, false, false] rfl rfl (any_of HT_.out (by kernel_rfl)) (fun _ _ _ h => h) (Or.inr ⟨by rfl, rfl⟩) ?_ ?_
  rotate_left
  ·
   simp only [Act.put, List.setIfInBounds_toArray, List.set_cons_zero, List.set_cons_succ, i64_w, i32_w]
   rfl
  refine pure_ (i := 5) (N := some 14) (v := undef) (a' := ?_) #[true, true, true, true, true, true, false, false, false, false, false, false, false, false, false, false] rfl rfl (any_of HT_.out (by kernel_rfl)) (fun _ _ _ h => h) (Or.inr ⟨by rfl, rfl⟩) ?_ ?_
  rotate_left
  ·
   simp only [Act.put, List.setIfInBounds_toArray, List.set_cons_zero, List.set_cons_succ, i64_w, i32_w]
   rfl
  refine pure_ (i := 6) (N := some 15) (v := undef) (a' := ?_) #[true, true, true, true, true, true, true, false, false, false, false, false, false, false, false, false] rfl rfl (any_of HT_.out (by kernel_rfl)) (fun _ _ _ h => h) (Or.inr ⟨by rfl, rfl⟩) ?_ ?_
  rotate_left
  ·
   simp only [Act.put, List.setIfInBounds_toArray, List.set_cons_zero, List.set_cons_succ, i64_w, i32_w]
   rfl
  refine pure_ (i := 7) (N := some 16) (v := undef) (a' := ?_) #[true, true, true, true, true, true, true, true, false, false, false, false, false, false, false, false] rfl rfl (any_of HT_.out (by kernel_rfl)) (fun _ _ _ h => h) (Or.inr ⟨by rfl, rfl⟩) ?_ ?_
  rotate_left
  ·
   simp only [Act.put, List.setIfInBounds_toArray, List.set_cons_zero, List.set_cons_succ, i64_w, i32_w]
   rfl
  refine pure_ (i := 8) (N := some 17) (v := undef) (a' := ?_) #[true, true, true, true, true, true, true, true, true, false, false, false, false, false, false, false] rfl rfl (any_of HT_.out (by kernel_rfl)) (fun _ _ _ h => h) (Or.inr ⟨by rfl, rfl⟩) ?_ ?_
  rotate_left
  ·
   simp only [Act.put, List.setIfInBounds_toArray, List.set_cons_zero, List.set_cons_succ, i64_w, i32_w]
   rfl
  refine pure_ (i := 9) (N := some 18) (v := undef) (a' := ?_) #[true, true, true, true, true, true, true, true, true, true, false, false, false, false, false, false] rfl rfl (any_of HT_.out (by kernel_rfl)) (fun _ _ _ h => h) (Or.inr ⟨by rfl, rfl⟩) ?_ ?_
  rotate_left
  ·
   simp only [Act.put, List.setIfInBounds_toArray, List.set_cons_zero, List.set_cons_succ, i64_w, i32_w]
   rfl
  refine pure_ (i := 10) (N := some 19) (v := undef) (a' := ?_) #[true, true, true, true, true, true, true, true, true, true, true, false, false, false, false, false] rfl rfl (any_of HT_.out (by kernel_rfl)) (fun _ _ _ h => h) (Or.inr ⟨by rfl, rfl⟩) ?_ ?_
  rotate_left
  ·
   simp only [Act.put, List.setIfInBounds_toArray, List.set_cons_zero, List.set_cons_succ, i64_w, i32_w]
   rfl
  refine pure_ (i := 11) (N := some 20) (v := undef) (a' := ?_) #[true, true, true, true, true, true, true, true, true, true, true, true, false, false, false, false] rfl rfl (any_of HT_.out (by kernel_rfl)) (fun _ _ _ h => h) (Or.inr ⟨by rfl, rfl⟩) ?_ ?_
  rotate_left
  ·
   simp only [Act.put, List.setIfInBounds_toArray, List.set_cons_zero, List.set_cons_succ, i64_w, i32_w]
   rfl
  refine pure_ (i := 12) (N := some 21) (v := undef) (a' := ?_) #[true, true, true, true, true, true, true, true, true, true, true, true, true, false, false, false] rfl rfl (any_of HT_.out (by kernel_rfl)) (fun _ _ _ h => h) (Or.inr ⟨by rfl, rfl⟩) ?_ ?_
  rotate_left
  ·
   simp only [Act.put, List.setIfInBounds_toArray, List.set_cons_zero, List.set_cons_succ, i64_w, i32_w]
   rfl
  refine pure_ (i := 13) (N := some 22) (v := undef) (a' := ?_) #[true, true, true, true, true, true, true, true, true, true, true, true, true, true, false, false] rfl rfl (any_of HT_.out (by kernel_rfl)) (fun _ _ _ h => h) (Or.inr ⟨by rfl, rfl⟩) ?_ ?_
  rotate_left
  ·
   simp only [Act.put, List.setIfInBounds_toArray, List.set_cons_zero, List.set_cons_succ, i64_w, i32_w]
   rfl
  refine pure_ (i := 14) (N := some 23) (v := undef) (a' := ?_) #[true, true, true, true, true, true, true, true, true, true, true, true, true, true, true, false] rfl rfl (any_of HT_.out (by kernel_rfl)) (fun _ _ _ h => h) (Or.inr ⟨by rfl, rfl⟩) ?_ ?_
  rotate_left
  ·
   simp only [Act.put, List.setIfInBounds_toArray, List.set_cons_zero, List.set_cons_succ, i64_w, i32_w]
   rfl
  refine pure_ (i := 15) (N := some 24) (v := ?_) (a' := ?_) #[true, true, true, true, true, true, true, true, true, true, true, true, true, true, true, true] rfl rfl (any_of HT_.out (by kernel_rfl)) (fun _ _ _ h => h) (Or.inl ⟨by rfl, ?_⟩) ?_ ?_
  rotate_left
  ·
   intro w'
   go_simp
   with_reducible rfl
  rotate_left
  ·
   simp only [Act.put, List.setIfInBounds_toArray, List.set_cons_zero, List.set_cons_succ, i64_w, i32_w]
   rfl
  refine done_ (done_of HT_.out (by kernel_rfl)) ?_
  try go_wp2
  go_meet
  case rel => exact ⟨_, (true), (by first | rfl | (simp; done) | (simp [*]; done)), H', ⟨by first | omega | exact Nat.le_refl _⟩, ⟨by repeat (first | (with_reducible first | exact HB.out | apply below_alloc | apply pw_below_drewN | apply below_drew1) | exact HB.out)⟩⟩
 case rest =>
  clear HC3
  try clear c1
  try clear p1
  try clear q1
  try clear hx1
  try clear c2
  try clear p2
  try clear c4
  try clear c5
  try clear p6
  try clear c8
  try clear c8b0
  try clear c9
  try clear c9b0
  try clear c14
  try clear p14
  try clear q14
  try clear hx14
  try clear hx141_0
  try clear hx141_1
  try clear hx141_2
  try clear hx141_3
  try clear hx141_4
  try clear p141
  try clear q141
  obtain ⟨kq, x24_2, rfl, HA, HJ2, HB⟩ := hcut
  cases kq with
  | zero => exact absurd HA.out (by simp [spec_Sound.j0])
  | succ kj2 =>
   have H := HA.out
   clear HA
   simp only [spec_Sound.j0] at H
   by_cases c15 : x24_2 = true
   ·
    subst c15
    have H1 : (some false) = some r := by rw [if_pos rfl] at H; exact H
    clear H
    have H := H1
    clear H1
    obtain rfl := Option.some.inj H
    go_wp2
    go_ret
    exact ⟨by first | rfl | (simp [errW_none, errW_some] <;> rfl) | (simp [*, errW_none, errW_some] <;> rfl), by repeat (first | (with_reducible first | exact HB.out | apply below_alloc | apply pw_below_drewN | apply below_drew1) | exact HB.out)⟩
   replace c15 := Bool.eq_false_iff.mpr c15
   subst c15
   have H1 : ((spec_Wilds.f kj2 a0).bind fun t142 => (spec_Sound.l0 kj2 l1 t142 0)) = some r := by rw [if_neg (show ¬ (false = true) by decide)] at H; exact H
   clear H
   have H := H1
   clear H1
   replace H := Option.bind_eq_some_iff.mp H
   obtain ⟨t142, A160, H⟩ := H
   replace H : (spec_Sound.l0 kj2 l1 t142 0) = some r := H
   have A16 := Aside0.mk A160
   clear A160
   have H' := Aside0.mk H
   clear H
   go_wp2_with (first | ((with_reducible refine gate_callee (f := 38) rfl ?_); refine goesL_ (some 26) rfl rfl Tryd.func38 (by kernel_rfl) rfl #[.string a0] rfl (by (try simp only [List.map_toArray, List.map_cons, List.map_nil]); first | done | rfl | (simp only [List.length_drop, List.length_take]; rfl)) ?_; (with_reducible refine (spec_Wilds.calls kj2 a0 t142 _ A16.out).mono ?_); rintro e w17 ⟨rfl, hb⟩; refine ⟨_, rfl, ?_⟩; have n0_ := Aside0.mk (below_step (by repeat (first | (with_reducible first | exact HB.out | apply below_alloc | apply pw_below_drewN | apply below_drew1) | exact HB.out)) hb); clear HB; have HB := n0_; clear n0_; (try clear hb); (try clear hb2); (try clear hk); (try clear hi)))
   go_loopg [6] kj2 (fun kq v6 w' => ∃ (x6_2 : Int), v6 = .int .i64 x6_2 ∧ Aside0 (spec_Sound.l0 kq l1 t142 x6_2 = some r) ∧ Aside0 (kq ≤ kj2) ∧ Aside0 (Below w.heap.size w w'))
   case atStart => exact ⟨(0), (by first | rfl | (simp; done) | (simp [*]; done)), H', ⟨Nat.le_refl _⟩, ⟨by repeat (first | (with_reducible first | exact HB.out | apply below_alloc | apply pw_below_drewN | apply below_drew1) | exact HB.out)⟩⟩
   case round =>
    clear H'
    try clear c1
    try clear p1
    try clear q1
    try clear hx1
    try clear c2
    try clear p2
    try clear c3
    try clear c4
    try clear c5
    try clear p6
    try clear c8
    try clear c8b0
    try clear c9
    try clear c9b0
    try clear c14
    try clear p14
    try clear q14
    try clear hx14
    try clear c15
    try clear hx141_0
    try clear hx141_1
    try clear hx141_2
    try clear hx141_3
    try clear hx141_4
    try clear p1
    try clear p14
    try clear p141
    try clear p2
    try clear p6
    try clear q1
    try clear q14
    try clear q141
    obtain ⟨x6_2, rfl, HA, HK2, HB⟩ := hrel
    cases gk with
    | zero => exact absurd HA.out (by simp [spec_Sound.l0])
    | succ k2 =>
     have H := HA.out
     clear HA
     simp only [spec_Sound.l0] at H
     by_cases c18 : x6_2 < (l1.length : Int)
     ·
      rw [if_pos c18] at H
      have c18b0 : decide (x6_2 < (l1.length : Int)) = true := decide_eq_true c18
      clear c18
      by_cases c19 : 0 ≤ x6_2
      ·
       rw [if_pos c19] at H
       have c19b0 : decide (0 ≤ x6_2) = true := decide_eq_true c19
       clear c19
       have HC20 := Aside0.mk H
       clear H
       have p143 : 0 ≤ (x6_2 : Int) := of_decide_eq_true (by first | (with_reducible assumption) | assumption)
       have q143 : x6_2 < (l1.length : Int) := of_decide_eq_true (by first | (with_reducible assumption) | assumption)
       obtain ⟨ad143, A143_4, c143_4, e143, hx143_0, hx143_1, hx143_2, hx143_3, hx143_4, hl143_4, hi143_4⟩ := at_T42 HR1.out x6_2 p143 q143
       cases e143
       replace hx143_0 := (HB.out.cell (World.block_lt_of_cell? w _ hx143_0)).trans hx143_0
       replace hx143_1 := (HB.out.cell (World.block_lt_of_cell? w _ hx143_1)).trans hx143_1
       replace hx143_2 := (HB.out.cell (World.block_lt_of_cell? w _ hx143_2)).trans hx143_2
       replace hx143_3 := (HB.out.cell (World.block_lt_of_cell? w _ hx143_3)).trans hx143_3
       replace hx143_4 := (HB.out.cell (World.block_lt_of_cell? w _ hx143_4)).trans hx143_4
       have HR143_4 := Aside0.mk hi143_4
       have HC143_4 := Aside0.mk hl143_4
       clear hi143_4 hl143_4
       replace p143 := eq_true p143
       replace q143 := eq_true q143
       go_upto_region 8 with (first | ((with_reducible refine gate_dst (N := 7) rfl ?_); (try (refine gate_guard (by rfl) ?_; dsimp only)); refine box_event ?hg (N := 7) ?hd (cs := #[.int .i64 0, .string (⟨#[]⟩ : ByteArray), .int .i64 0, .int .i64 0, .slice none 0 0]) (t := 42) ?hr ?_; (case hd => rfl); (case hg => rfl); (case hr => first | (go_simp; done) | (go_simp; rfl)); intro gb144 hg w21 hbox hb; have n0_ := Aside0.mk (below_step (by repeat (first | (with_reducible first | exact HB.out | apply below_alloc | apply pw_below_drewN | apply below_drew1) | exact HB.out)) hb); have n1_ := Aside0.mk (hbox); have n2_ := Aside0.mk ((by rw [hg]; exact (below_size (by repeat (first | (with_reducible first | exact HB.out | apply below_alloc | apply pw_below_drewN | apply below_drew1) | exact HB.out))) : w.heap.size ≤ gb144)); have n3_ := Aside0.mk ((by rw [hg]; exact (below_size (by repeat (first | (with_reducible first | exact HB.out | apply below_alloc | apply pw_below_drewN | apply below_drew1) | exact HB.out))) : w.heap.size ≤ gb144)); clear HB; have HB := n0_; have BK144 := n1_; have GW144 := n2_; have GE144 := n3_; clear n0_ n1_ n2_ n3_; clear hb hbox hg; have hcz22_0 : w21.cell? ⟨gb144, 0, none⟩ = some (.int .i64 0) := (blk_cell BK144.out 0).trans rfl; have hcz22_1 : w21.cell? ⟨gb144, 1, none⟩ = some (.string (⟨#[]⟩ : ByteArray)) := (blk_cell BK144.out 1).trans rfl; have hcz22_2 : w21.cell? ⟨gb144, 2, none⟩ = some (.int .i64 0) := (blk_cell BK144.out 2).trans rfl; have hcz22_3 : w21.cell? ⟨gb144, 3, none⟩ = some (.int .i64 0) := (blk_cell BK144.out 3).trans rfl; have hcz22_4 : w21.cell? ⟨gb144, 4, none⟩ = some (.slice none 0 0) := (blk_cell BK144.out 4).trans rfl; have hfz22_0 := blk_frozen BK144.out 0; have hfz22_1 := blk_frozen BK144.out 1; have hfz22_2 := blk_frozen BK144.out 2; have hfz22_3 := blk_frozen BK144.out 3; have hfz22_4 := blk_frozen BK144.out 4))
       (try simp only [Act.put, List.setIfInBounds_toArray, List.set_cons_zero, List.set_cons_succ])
       go_cut [60] (fun v60 wc => ∃ (kq : Nat) (x60_19 : Bool), v60 = .bool x60_19 ∧ Aside0 (spec_Sound.j2 kq l1 t142 x6_2 x60_19 ((rd_T42 l1 x6_2).f0) ((rd_T42 l1 x6_2).f1) ((rd_T42 l1 x6_2).f2) ((rd_T42 l1 x6_2).f3) ((rd_T42 l1 x6_2).f4) = some r) ∧ Aside0 (kq ≤ k2) ∧ Aside0 (wc.heap[gb144]? = some (.cells #[.int .i64 ((rd_T42 l1 x6_2).f0), .string ((rd_T42 l1 x6_2).f1), .int .i64 ((rd_T42 l1 x6_2).f2), .int .i64 ((rd_T42 l1 x6_2).f3), (.slice A143_4 ((rd_T42 l1 x6_2).f4).length c143_4)] 42 (0, 0))) ∧ Aside0 (Below w.heap.size w wc))
       case first =>
        have H := HC20.out
        clear HC20
        by_cases c23 : ((rd_T42 l1 x6_2).f0) = 0
        ·
         rw [if_pos c23] at H
         have c23b0 : (((rd_T42 l1 x6_2).f0) == 0) = true := beq_iff_eq.mpr c23
         have c23b1 : (((rd_T42 l1 x6_2).f0) != 0) = false := bne_eq_false_iff_eq.mpr c23
         clear c23
         (first | rw [c23b0] | (simp only [i64_w, i32_w]; rw [c23b0]) | skip)
         have H' := Aside0.mk H
         clear H
         have hcz24_0 : w21.cell? ⟨gb144, 0, none⟩ = some (.int .i64 0) := (blk_cell BK144.out 0).trans rfl
         have hcz24_1 : w21.cell? ⟨gb144, 1, none⟩ = some (.string (⟨#[]⟩ : ByteArray)) := (blk_cell BK144.out 1).trans rfl
         have hcz24_2 : w21.cell? ⟨gb144, 2, none⟩ = some (.int .i64 0) := (blk_cell BK144.out 2).trans rfl
         have hcz24_3 : w21.cell? ⟨gb144, 3, none⟩ = some (.int .i64 0) := (blk_cell BK144.out 3).trans rfl
         have hcz24_4 : w21.cell? ⟨gb144, 4, none⟩ = some (.slice none 0 0) := (blk_cell BK144.out 4).trans rfl
         go_wp2
         go_meet
         case rel => exact ⟨_, (false), (by first | rfl | (simp; done) | (simp [*]; done)), H', ⟨by have := HJ2.out; have := HK2.out; first | omega | exact Nat.le_refl _⟩, ⟨by (with_reducible repeat (first | refine blk_drewN ?_ _ | refine blk_drew ?_ | refine blk_alloc ?_ _)); refine blk_put (cs := #[.int .i64 ((rd_T42 l1 x6_2).f0), .string ((rd_T42 l1 x6_2).f1), .int .i64 ((rd_T42 l1 x6_2).f2), .int .i64 ((rd_T42 l1 x6_2).f3), .slice none 0 0]) ?_ 4 _ rfl; (with_reducible repeat (first | refine blk_drewN ?_ _ | refine blk_drew ?_ | refine blk_alloc ?_ _)); refine blk_put (cs := #[.int .i64 ((rd_T42 l1 x6_2).f0), .string ((rd_T42 l1 x6_2).f1), .int .i64 ((rd_T42 l1 x6_2).f2), .int .i64 0, .slice none 0 0]) ?_ 3 _ rfl; (with_reducible repeat (first | refine blk_drewN ?_ _ | refine blk_drew ?_ | refine blk_alloc ?_ _)); refine blk_put (cs := #[.int .i64 ((rd_T42 l1 x6_2).f0), .string ((rd_T42 l1 x6_2).f1), .int .i64 0, .int .i64 0, .slice none 0 0]) ?_ 2 _ rfl; (with_reducible repeat (first | refine blk_drewN ?_ _ | refine blk_drew ?_ | refine blk_alloc ?_ _)); refine blk_put (cs := #[.int .i64 ((rd_T42 l1 x6_2).f0), .string (⟨#[]⟩ : ByteArray), .int .i64 0, .int .i64 0, .slice none 0 0]) ?_ 1 _ rfl; (with_reducible repeat (first | refine blk_drewN ?_ _ | refine blk_drew ?_ | refine blk_alloc ?_ _)); refine blk_put (cs := #[.int .i64 0, .string (⟨#[]⟩ : ByteArray), .int .i64 0, .int .i64 0, .slice none 0 0]) ?_ 0 _ rfl; (with_reducible repeat (first | refine blk_drewN ?_ _ | refine blk_drew ?_ | refine blk_alloc ?_ _)); exact BK144.out⟩, ⟨by repeat (first | (with_reducible first | exact HB.out | apply below_alloc | apply pw_below_drewN | apply below_drew1 | refine below_set ?_ GE144.out) | exact HB.out)⟩⟩
        rw [if_neg c23] at H
        have c23b0 : (((rd_T42 l1 x6_2).f0) == 0) = false := beq_eq_false_iff_ne.mpr c23
        have c23b1 : (((rd_T42 l1 x6_2).f0) != 0) = true := bne_iff_ne.mpr c23
        (first | rw [c23b0] | (simp only [i64_w, i32_w]; rw [c23b0]) | skip)
        by_cases c25 : ((rd_T42 l1 x6_2).f0) = 11
        ·
         rw [if_pos c25] at H
         have c25b0 : (((rd_T42 l1 x6_2).f0) == 11) = true := beq_iff_eq.mpr c25
         have c25b1 : (((rd_T42 l1 x6_2).f0) != 11) = false := bne_eq_false_iff_eq.mpr c25
         clear c25
         have H' := Aside0.mk H
         clear H
         have hcz26_0 : w21.cell? ⟨gb144, 0, none⟩ = some (.int .i64 0) := (blk_cell BK144.out 0).trans rfl
         have hcz26_1 : w21.cell? ⟨gb144, 1, none⟩ = some (.string (⟨#[]⟩ : ByteArray)) := (blk_cell BK144.out 1).trans rfl
         have hcz26_2 : w21.cell? ⟨gb144, 2, none⟩ = some (.int .i64 0) := (blk_cell BK144.out 2).trans rfl
         have hcz26_3 : w21.cell? ⟨gb144, 3, none⟩ = some (.int .i64 0) := (blk_cell BK144.out 3).trans rfl
         have hcz26_4 : w21.cell? ⟨gb144, 4, none⟩ = some (.slice none 0 0) := (blk_cell BK144.out 4).trans rfl
         go_wp2
         go_meet
         case rel => exact ⟨_, (false), (by first | rfl | (simp; done) | (simp [*]; done)), H', ⟨by have := HJ2.out; have := HK2.out; first | omega | exact Nat.le_refl _⟩, ⟨by (with_reducible repeat (first | refine blk_drewN ?_ _ | refine blk_drew ?_ | refine blk_alloc ?_ _)); refine blk_put (cs := #[.int .i64 ((rd_T42 l1 x6_2).f0), .string ((rd_T42 l1 x6_2).f1), .int .i64 ((rd_T42 l1 x6_2).f2), .int .i64 ((rd_T42 l1 x6_2).f3), .slice none 0 0]) ?_ 4 _ rfl; (with_reducible repeat (first | refine blk_drewN ?_ _ | refine blk_drew ?_ | refine blk_alloc ?_ _)); refine blk_put (cs := #[.int .i64 ((rd_T42 l1 x6_2).f0), .string ((rd_T42 l1 x6_2).f1), .int .i64 ((rd_T42 l1 x6_2).f2), .int .i64 0, .slice none 0 0]) ?_ 3 _ rfl; (with_reducible repeat (first | refine blk_drewN ?_ _ | refine blk_drew ?_ | refine blk_alloc ?_ _)); refine blk_put (cs := #[.int .i64 ((rd_T42 l1 x6_2).f0), .string ((rd_T42 l1 x6_2).f1), .int .i64 0, .int .i64 0, .slice none 0 0]) ?_ 2 _ rfl; (with_reducible repeat (first | refine blk_drewN ?_ _ | refine blk_drew ?_ | refine blk_alloc ?_ _)); refine blk_put (cs := #[.int .i64 ((rd_T42 l1 x6_2).f0), .string (⟨#[]⟩ : ByteArray), .int .i64 0, .int .i64 0, .slice none 0 0]) ?_ 1 _ rfl; (with_reducible repeat (first | refine blk_drewN ?_ _ | refine blk_drew ?_ | refine blk_alloc ?_ _)); refine blk_put (cs := #[.int .i64 0, .string (⟨#[]⟩ : ByteArray), .int .i64 0, .int .i64 0, .slice none 0 0]) ?_ 0 _ rfl; (with_reducible repeat (first | refine blk_drewN ?_ _ | refine blk_drew ?_ | refine blk_alloc ?_ _)); exact BK144.out⟩, ⟨by repeat (first | (with_reducible first | exact HB.out | apply below_alloc | apply pw_below_drewN | apply below_drew1 | refine below_set ?_ GE144.out) | exact HB.out)⟩⟩
        rw [if_neg c25] at H
        have c25b0 : (((rd_T42 l1 x6_2).f0) == 11) = false := beq_eq_false_iff_ne.mpr c25
        have c25b1 : (((rd_T42 l1 x6_2).f0) != 11) = true := bne_iff_ne.mpr c25
        by_cases c27 : ((rd_T42 l1 x6_2).f0) = 10
        ·
         rw [if_pos c27] at H
         have c27b0 : (((rd_T42 l1 x6_2).f0) == 10) = true := beq_iff_eq.mpr c27
         have c27b1 : (((rd_T42 l1 x6_2).f0) != 10) = false := bne_eq_false_iff_eq.mpr c27
         clear c27
         have H' := Aside0.mk H
         clear H
         have hcz28_0 : w21.cell? ⟨gb144, 0, none⟩ = some (.int .i64 0) := (blk_cell BK144.out 0).trans rfl
         have hcz28_1 : w21.cell? ⟨gb144, 1, none⟩ = some (.string (⟨#[]⟩ : ByteArray)) := (blk_cell BK144.out 1).trans rfl
         have hcz28_2 : w21.cell? ⟨gb144, 2, none⟩ = some (.int .i64 0) := (blk_cell BK144.out 2).trans rfl
         have hcz28_3 : w21.cell? ⟨gb144, 3, none⟩ = some (.int .i64 0) := (blk_cell BK144.out 3).trans rfl
         have hcz28_4 : w21.cell? ⟨gb144, 4, none⟩ = some (.slice none 0 0) := (blk_cell BK144.out 4).trans rfl
         go_wp2
         go_meet
         case rel => exact ⟨_, (false), (by first | rfl | (simp; done) | (simp [*]; done)), H', ⟨by have := HJ2.out; have := HK2.out; first | omega | exact Nat.le_refl _⟩, ⟨by (with_reducible repeat (first | refine blk_drewN ?_ _ | refine blk_drew ?_ | refine blk_alloc ?_ _)); refine blk_put (cs := #[.int .i64 ((rd_T42 l1 x6_2).f0), .string ((rd_T42 l1 x6_2).f1), .int .i64 ((rd_T42 l1 x6_2).f2), .int .i64 ((rd_T42 l1 x6_2).f3), .slice none 0 0]) ?_ 4 _ rfl; (with_reducible repeat (first | refine blk_drewN ?_ _ | refine blk_drew ?_ | refine blk_alloc ?_ _)); refine blk_put (cs := #[.int .i64 ((rd_T42 l1 x6_2).f0), .string ((rd_T42 l1 x6_2).f1), .int .i64 ((rd_T42 l1 x6_2).f2), .int .i64 0, .slice none 0 0]) ?_ 3 _ rfl; (with_reducible repeat (first | refine blk_drewN ?_ _ | refine blk_drew ?_ | refine blk_alloc ?_ _)); refine blk_put (cs := #[.int .i64 ((rd_T42 l1 x6_2).f0), .string ((rd_T42 l1 x6_2).f1), .int .i64 0, .int .i64 0, .slice none 0 0]) ?_ 2 _ rfl; (with_reducible repeat (first | refine blk_drewN ?_ _ | refine blk_drew ?_ | refine blk_alloc ?_ _)); refine blk_put (cs := #[.int .i64 ((rd_T42 l1 x6_2).f0), .string (⟨#[]⟩ : ByteArray), .int .i64 0, .int .i64 0, .slice none 0 0]) ?_ 1 _ rfl; (with_reducible repeat (first | refine blk_drewN ?_ _ | refine blk_drew ?_ | refine blk_alloc ?_ _)); refine blk_put (cs := #[.int .i64 0, .string (⟨#[]⟩ : ByteArray), .int .i64 0, .int .i64 0, .slice none 0 0]) ?_ 0 _ rfl; (with_reducible repeat (first | refine blk_drewN ?_ _ | refine blk_drew ?_ | refine blk_alloc ?_ _)); exact BK144.out⟩, ⟨by repeat (first | (with_reducible first | exact HB.out | apply below_alloc | apply pw_below_drewN | apply below_drew1 | refine below_set ?_ GE144.out) | exact HB.out)⟩⟩
        rw [if_neg c27] at H
        have c27b0 : (((rd_T42 l1 x6_2).f0) == 10) = false := beq_eq_false_iff_ne.mpr c27
        have c27b1 : (((rd_T42 l1 x6_2).f0) != 10) = true := bne_iff_ne.mpr c27
        by_cases c29 : ((rd_T42 l1 x6_2).f2) < 1
        ·
         rw [if_pos c29] at H
         have c29b0 : decide (((rd_T42 l1 x6_2).f2) < 1) = true := decide_eq_true c29
         clear c29
         have H' := Aside0.mk H
         clear H
         have hcz30_0 : w21.cell? ⟨gb144, 0, none⟩ = some (.int .i64 0) := (blk_cell BK144.out 0).trans rfl
         have hcz30_1 : w21.cell? ⟨gb144, 1, none⟩ = some (.string (⟨#[]⟩ : ByteArray)) := (blk_cell BK144.out 1).trans rfl
         have hcz30_2 : w21.cell? ⟨gb144, 2, none⟩ = some (.int .i64 0) := (blk_cell BK144.out 2).trans rfl
         have hcz30_3 : w21.cell? ⟨gb144, 3, none⟩ = some (.int .i64 0) := (blk_cell BK144.out 3).trans rfl
         have hcz30_4 : w21.cell? ⟨gb144, 4, none⟩ = some (.slice none 0 0) := (blk_cell BK144.out 4).trans rfl
         go_wp2
         go_meet
         case rel => exact ⟨_, (true), (by first | rfl | (simp; done) | (simp [*]; done)), H', ⟨by have := HJ2.out; have := HK2.out; first | omega | exact Nat.le_refl _⟩, ⟨by (with_reducible repeat (first | refine blk_drewN ?_ _ | refine blk_drew ?_ | refine blk_alloc ?_ _)); refine blk_put (cs := #[.int .i64 ((rd_T42 l1 x6_2).f0), .string ((rd_T42 l1 x6_2).f1), .int .i64 ((rd_T42 l1 x6_2).f2), .int .i64 ((rd_T42 l1 x6_2).f3), .slice none 0 0]) ?_ 4 _ rfl; (with_reducible repeat (first | refine blk_drewN ?_ _ | refine blk_drew ?_ | refine blk_alloc ?_ _)); refine blk_put (cs := #[.int .i64 ((rd_T42 l1 x6_2).f0), .string ((rd_T42 l1 x6_2).f1), .int .i64 ((rd_T42 l1 x6_2).f2), .int .i64 0, .slice none 0 0]) ?_ 3 _ rfl; (with_reducible repeat (first | refine blk_drewN ?_ _ | refine blk_drew ?_ | refine blk_alloc ?_ _)); refine blk_put (cs := #[.int .i64 ((rd_T42 l1 x6_2).f0), .string ((rd_T42 l1 x6_2).f1), .int .i64 0, .int .i64 0, .slice none 0 0]) ?_ 2 _ rfl; (with_reducible repeat (first | refine blk_drewN ?_ _ | refine blk_drew ?_ | refine blk_alloc ?_ _)); refine blk_put (cs := #[.int .i64 ((rd_T42 l1 x6_2).f0), .string (⟨#[]⟩ : ByteArray), .int .i64 0, .int .i64 0, .slice none 0 0]) ?_ 1 _ rfl; (with_reducible repeat (first | refine blk_drewN ?_ _ | refine blk_drew ?_ | refine blk_alloc ?_ _)); refine blk_put (cs := #[.int .i64 0, .string (⟨#[]⟩ : ByteArray), .int .i64 0, .int .i64 0, .slice none 0 0]) ?_ 0 _ rfl; (with_reducible repeat (first | refine blk_drewN ?_ _ | refine blk_drew ?_ | refine blk_alloc ?_ _)); exact BK144.out⟩, ⟨by repeat (first | (with_reducible first | exact HB.out | apply below_alloc | apply pw_below_drewN | apply below_drew1 | refine below_set ?_ GE144.out) | exact HB.out)⟩⟩
        rw [if_neg c29] at H
        have c29b0 : decide (((rd_T42 l1 x6_2).f2) < 1) = false := decide_eq_false c29
        clear c29
        have H' := Aside0.mk H
        clear H
        have hcz31_0 : w21.cell? ⟨gb144, 0, none⟩ = some (.int .i64 0) := (blk_cell BK144.out 0).trans rfl
        have hcz31_1 : w21.cell? ⟨gb144, 1, none⟩ = some (.string (⟨#[]⟩ : ByteArray)) := (blk_cell BK144.out 1).trans rfl
        have hcz31_2 : w21.cell? ⟨gb144, 2, none⟩ = some (.int .i64 0) := (blk_cell BK144.out 2).trans rfl
        have hcz31_3 : w21.cell? ⟨gb144, 3, none⟩ = some (.int .i64 0) := (blk_cell BK144.out 3).trans rfl
        have hcz31_4 : w21.cell? ⟨gb144, 4, none⟩ = some (.slice none 0 0) := (blk_cell BK144.out 4).trans rfl
        go_wp2
        go_meet
        case rel => exact ⟨_, (decide (((rd_T42 l1 x6_2).f2) > t142)), (by first | rfl | (simp; done) | (simp [*]; done)), H', ⟨by have := HJ2.out; have := HK2.out; first | omega | exact Nat.le_refl _⟩, ⟨by (with_reducible repeat (first | refine blk_drewN ?_ _ | refine blk_drew ?_ | refine blk_alloc ?_ _)); refine blk_put (cs := #[.int .i64 ((rd_T42 l1 x6_2).f0), .string ((rd_T42 l1 x6_2).f1), .int .i64 ((rd_T42 l1 x6_2).f2), .int .i64 ((rd_T42 l1 x6_2).f3), .slice none 0 0]) ?_ 4 _ rfl; (with_reducible repeat (first | refine blk_drewN ?_ _ | refine blk_drew ?_ | refine blk_alloc ?_ _)); refine blk_put (cs := #[.int .i64 ((rd_T42 l1 x6_2).f0), .string ((rd_T42 l1 x6_2).f1), .int .i64 ((rd_T42 l1 x6_2).f2), .int .i64 0, .slice none 0 0]) ?_ 3 _ rfl; (with_reducible repeat (first | refine blk_drewN ?_ _ | refine blk_drew ?_ | refine blk_alloc ?_ _)); refine blk_put (cs := #[.int .i64 ((rd_T42 l1 x6_2).f0), .string ((rd_T42 l1 x6_2).f1), .int .i64 0, .int .i64 0, .slice none 0 0]) ?_ 2 _ rfl; (with_reducible repeat (first | refine blk_drewN ?_ _ | refine blk_drew ?_ | refine blk_alloc ?_ _)); refine blk_put (cs := #[.int .i64 ((rd_T42 l1 x6_2).f0), .string (⟨#[]⟩ : ByteArray), .int .i64 0, .int .i64 0, .slice none 0 0]) ?_ 1 _ rfl; (with_reducible repeat (first | refine blk_drewN ?_ _ | refine blk_drew ?_ | refine blk_alloc ?_ _)); refine blk_put (cs := #[.int .i64 0, .string (⟨#[]⟩ : ByteArray), .int .i64 0, .int .i64 0, .slice none 0 0]) ?_ 0 _ rfl; (with_reducible repeat (first | refine blk_drewN ?_ _ | refine blk_drew ?_ | refine blk_alloc ?_ _)); exact BK144.out⟩, ⟨by repeat (first | (with_reducible first | exact HB.out | apply below_alloc | apply pw_below_drewN | apply below_drew1 | refine below_set ?_ GE144.out) | exact HB.out)⟩⟩
       case rest =>
        clear HC20
        try clear c1
        try clear p1
        try clear q1
        try clear hx1
        try clear c2
        try clear p2
        try clear c3
        try clear c4
        try clear c5
        try clear p6
        try clear c8
        try clear c8b0
        try clear c9
        try clear c9b0
        try clear c14
        try clear p14
        try clear q14
        try clear hx14
        try clear c15
        try clear c18
        try clear c18b0
        try clear c19
        try clear c19b0
        try clear c22
        try clear c23
        try clear c23b0
        try clear c23b1
        try clear c25
        try clear c25b0
        try clear c25b1
        try clear c27
        try clear c27b0
        try clear c27b1
        try clear c29
        try clear c29b0
        try clear hcz22_0 hcz22_1 hcz22_2 hcz22_3 hcz22_4 hcz24_0 hcz24_1 hcz24_2 hcz24_3 hcz24_4 hcz26_0 hcz26_1 hcz26_2 hcz26_3 hcz26_4 hcz28_0 hcz28_1 hcz28_2 hcz28_3 hcz28_4 hcz30_0 hcz30_1 hcz30_2 hcz30_3 hcz30_4 hcz31_0 hcz31_1 hcz31_2 hcz31_3 hcz31_4
        try clear hx141_0
        try clear hx141_1
        try clear hx141_2
        try clear hx141_3
        try clear hx141_4
        try clear hx143_0
        try clear hx143_1
        try clear hx143_2
        try clear hx143_3
        try clear hx143_4
        try clear p1
        try clear p14
        try clear p141
        try clear p143
        try clear p2
        try clear p6
        try clear q1
        try clear q14
        try clear q141
        try clear q143
        obtain ⟨kq, x60_19, rfl, HA, HJ19, BK144, HB⟩ := hcut
        cases kq with
        | zero => exact absurd HA.out (by simp [spec_Sound.j2])
        | succ kj19 =>
         have H := HA.out
         clear HA
         simp only [spec_Sound.j2] at H
         by_cases c32 : x60_19 = true
         ·
          subst c32
          have H1 : (some false) = some r := by rw [if_pos rfl] at H; exact H
          clear H
          have H := H1
          clear H1
          obtain rfl := Option.some.inj H
          go_wp2
          go_ret
          exact ⟨by first | rfl | (simp [errW_none, errW_some] <;> rfl) | (simp [*, errW_none, errW_some] <;> rfl), by repeat (first | (with_reducible first | exact HB.out | apply below_alloc | apply pw_below_drewN | apply below_drew1 | refine below_set ?_ GE144.out) | exact HB.out)⟩
         replace c32 := Bool.eq_false_iff.mpr c32
         subst c32
         have H1 : (spec_Sound.l1 kj19 l1 t142 x6_2 0 ((rd_T42 l1 x6_2).f0) ((rd_T42 l1 x6_2).f1) ((rd_T42 l1 x6_2).f2) ((rd_T42 l1 x6_2).f3) ((rd_T42 l1 x6_2).f4)) = some r := by rw [if_neg (show ¬ (false = true) by decide)] at H; exact H
         clear H
         have H := H1
         clear H1
         have H' := Aside0.mk H
         clear H
         go_wp2
         go_loopg [8] kj19 (fun kq v8 w' => ∃ (x8_4 : Int), v8 = .int .i64 x8_4 ∧ Aside0 (spec_Sound.l1 kq l1 t142 x6_2 x8_4 ((rd_T42 l1 x6_2).f0) ((rd_T42 l1 x6_2).f1) ((rd_T42 l1 x6_2).f2) ((rd_T42 l1 x6_2).f3) ((rd_T42 l1 x6_2).f4) = some r) ∧ Aside0 (kq ≤ kj19) ∧ Aside0 (w'.heap[gb144]? = some (.cells #[.int .i64 ((rd_T42 l1 x6_2).f0), .string ((rd_T42 l1 x6_2).f1), .int .i64 ((rd_T42 l1 x6_2).f2), .int .i64 ((rd_T42 l1 x6_2).f3), (.slice A143_4 ((rd_T42 l1 x6_2).f4).length c143_4)] 42 (0, 0))) ∧ Aside0 (Below w.heap.size w w'))
         case atStart => exact ⟨(0), (by first | rfl | (simp; done) | (simp [*]; done)), H', ⟨Nat.le_refl _⟩, ⟨by (with_reducible repeat (first | refine blk_drewN ?_ _ | refine blk_drew ?_ | refine blk_alloc ?_ _)); exact BK144.out⟩, ⟨by repeat (first | (with_reducible first | exact HB.out | apply below_alloc | apply pw_below_drewN | apply below_drew1 | refine below_set ?_ GE144.out) | exact HB.out)⟩⟩
         case round =>
          clear H'
          try clear c1
          try clear p1
          try clear q1
          try clear hx1
          try clear c2
          try clear p2
          try clear c3
          try clear c4
          try clear c5
          try clear p6
          try clear c8
          try clear c8b0
          try clear c9
          try clear c9b0
          try clear c14
          try clear p14
          try clear q14
          try clear hx14
          try clear c15
          try clear c18
          try clear c18b0
          try clear c19
          try clear c19b0
          try clear c22
          try clear c23
          try clear c23b0
          try clear c23b1
          try clear c25
          try clear c25b0
          try clear c25b1
          try clear c27
          try clear c27b0
          try clear c27b1
          try clear c29
          try clear c29b0
          try clear c32
          try clear hcz22_0 hcz22_1 hcz22_2 hcz22_3 hcz22_4 hcz24_0 hcz24_1 hcz24_2 hcz24_3 hcz24_4 hcz26_0 hcz26_1 hcz26_2 hcz26_3 hcz26_4 hcz28_0 hcz28_1 hcz28_2 hcz28_3 hcz28_4 hcz30_0 hcz30_1 hcz30_2 hcz30_3 hcz30_4 hcz31_0 hcz31_1 hcz31_2 hcz31_3 hcz31_4
          try clear hx141_0
          try clear hx141_1
          try clear hx141_2
          try clear hx141_3
          try clear hx141_4
          try clear hx143_0
          try clear hx143_1
          try clear hx143_2
          try clear hx143_3
          try clear hx143_4
          try clear p1
          try clear p14
          try clear p141
          try clear p143
          try clear p2
          try clear p6
          try clear q1
          try clear q14
          try clear q141
          try clear q143
          obtain ⟨x8_4, rfl, HA, HK4, BK144, HB⟩ := hrel
          cases gk with
          | zero => exact absurd HA.out (by simp [spec_Sound.l1])
          | succ k4 =>
           have H := HA.out
           clear HA
           simp only [spec_Sound.l1] at H
           have HC33 := Aside0.mk H
           clear H
           go_upto_region 11 with (fail)
           go_cut [70] (fun v70 wc => ∃ (kq : Nat) (x70_32 : Bool), v70 = .bool x70_32 ∧ Aside0 (spec_Sound.j4 kq l1 t142 x6_2 x8_4 x70_32 ((rd_T42 l1 x6_2).f0) ((rd_T42 l1 x6_2).f1) ((rd_T42 l1 x6_2).f2) ((rd_T42 l1 x6_2).f3) ((rd_T42 l1 x6_2).f4) = some r) ∧ Aside0 (kq ≤ k4) ∧ Aside0 (wc.heap[gb144]? = some (.cells #[.int .i64 ((rd_T42 l1 x6_2).f0), .string ((rd_T42 l1 x6_2).f1), .int .i64 ((rd_T42 l1 x6_2).f2), .int .i64 ((rd_T42 l1 x6_2).f3), (.slice A143_4 ((rd_T42 l1 x6_2).f4).length c143_4)] 42 (0, 0))) ∧ Aside0 (Below w.heap.size w wc))
           case first =>
            have H := HC33.out
            clear HC33
            by_cases c34 : x8_4 < (((rd_T42 l1 x6_2).f4).length : Int)
            ·
             rw [if_pos c34] at H
             have c34b0 : decide (x8_4 < (((rd_T42 l1 x6_2).f4).length : Int)) = true := decide_eq_true c34
             clear c34
             (first | rw [c34b0] | (simp only [i64_w, i32_w]; rw [c34b0]) | skip)
             have H' := Aside0.mk H
             clear H
             have hcz35_0 : wr.cell? ⟨gb144, 0, none⟩ = some (.int .i64 ((rd_T42 l1 x6_2).f0)) := (blk_cell BK144.out 0).trans rfl
             have hcz35_1 : wr.cell? ⟨gb144, 1, none⟩ = some (.string ((rd_T42 l1 x6_2).f1)) := (blk_cell BK144.out 1).trans rfl
             have hcz35_2 : wr.cell? ⟨gb144, 2, none⟩ = some (.int .i64 ((rd_T42 l1 x6_2).f2)) := (blk_cell BK144.out 2).trans rfl
             have hcz35_3 : wr.cell? ⟨gb144, 3, none⟩ = some (.int .i64 ((rd_T42 l1 x6_2).f3)) := (blk_cell BK144.out 3).trans rfl
             have hcz35_4 : wr.cell? ⟨gb144, 4, none⟩ = some (.slice A143_4 ((rd_T42 l1 x6_2).f4).length c143_4) := (blk_cell BK144.out 4).trans rfl
             go_wp2
             go_meet
             case rel => exact ⟨_, ((((rd_T42 l1 x6_2).f0) == 10)), (by first | rfl | (simp; done) | (simp [*]; done)), H', ⟨by have := HJ2.out; have := HK2.out; have := HJ19.out; have := HK4.out; first | omega | exact Nat.le_refl _⟩, ⟨by (with_reducible repeat (first | refine blk_drewN ?_ _ | refine blk_drew ?_ | refine blk_alloc ?_ _)); exact BK144.out⟩, ⟨by repeat (first | (with_reducible first | exact HB.out | apply below_alloc | apply pw_below_drewN | apply below_drew1 | refine below_set ?_ GE144.out) | exact HB.out)⟩⟩
            rw [if_neg c34] at H
            have c34b0 : decide (x8_4 < (((rd_T42 l1 x6_2).f4).length : Int)) = false := decide_eq_false c34
            clear c34
            (first | rw [c34b0] | (simp only [i64_w, i32_w]; rw [c34b0]) | skip)
            have H' := Aside0.mk H
            clear H
            have hcz36_0 : wr.cell? ⟨gb144, 0, none⟩ = some (.int .i64 ((rd_T42 l1 x6_2).f0)) := (blk_cell BK144.out 0).trans rfl
            have hcz36_1 : wr.cell? ⟨gb144, 1, none⟩ = some (.string ((rd_T42 l1 x6_2).f1)) := (blk_cell BK144.out 1).trans rfl
            have hcz36_2 : wr.cell? ⟨gb144, 2, none⟩ = some (.int .i64 ((rd_T42 l1 x6_2).f2)) := (blk_cell BK144.out 2).trans rfl
            have hcz36_3 : wr.cell? ⟨gb144, 3, none⟩ = some (.int .i64 ((rd_T42 l1 x6_2).f3)) := (blk_cell BK144.out 3).trans rfl
            have hcz36_4 : wr.cell? ⟨gb144, 4, none⟩ = some (.slice A143_4 ((rd_T42 l1 x6_2).f4).length c143_4) := (blk_cell BK144.out 4).trans rfl
            go_wp2
            go_meet
            case rel => exact ⟨_, (false), (by first | rfl | (simp; done) | (simp [*]; done)), H', ⟨by have := HJ2.out; have := HK2.out; have := HJ19.out; have := HK4.out; first | omega | exact Nat.le_refl _⟩, ⟨by (with_reducible repeat (first | refine blk_drewN ?_ _ | refine blk_drew ?_ | refine blk_alloc ?_ _)); exact BK144.out⟩, ⟨by repeat (first | (with_reducible first | exact HB.out | apply below_alloc | apply pw_below_drewN | apply below_drew1 | refine below_set ?_ GE144.out) | exact HB.out)⟩⟩
           case rest =>
            clear HC33
            try clear c1
            try clear p1
            try clear q1
            try clear hx1
            try clear c2
            try clear p2
            try clear c3
            try clear c4
            try clear c5
            try clear p6
            try clear c8
            try clear c8b0
            try clear c9
            try clear c9b0
            try clear c14
            try clear p14
            try clear q14
            try clear hx14
            try clear c15
            try clear c18
            try clear c18b0
            try clear c19
            try clear c19b0
            try clear c22
            try clear c23
            try clear c23b0
            try clear c23b1
            try clear c25
            try clear c25b0
            try clear c25b1
            try clear c27
            try clear c27b0
            try clear c27b1
            try clear c29
            try clear c29b0
            try clear c32
            try clear c34
            try clear c34b0
            try clear hcz22_0 hcz22_1 hcz22_2 hcz22_3 hcz22_4 hcz24_0 hcz24_1 hcz24_2 hcz24_3 hcz24_4 hcz26_0 hcz26_1 hcz26_2 hcz26_3 hcz26_4 hcz28_0 hcz28_1 hcz28_2 hcz28_3 hcz28_4 hcz30_0 hcz30_1 hcz30_2 hcz30_3 hcz30_4 hcz31_0 hcz31_1 hcz31_2 hcz31_3 hcz31_4 hcz35_0 hcz35_1 hcz35_2 hcz35_3 hcz35_4 hcz36_0 hcz36_1 hcz36_2 hcz36_3 hcz36_4
            try clear hx141_0
            try clear hx141_1
            try clear hx141_2
            try clear hx141_3
            try clear hx141_4
            try clear hx143_0
            try clear hx143_1
            try clear hx143_2
            try clear hx143_3
            try clear hx143_4
            try clear p1
            try clear p14
            try clear p141
            try clear p143
            try clear p2
            try clear p6
            try clear q1
            try clear q14
            try clear q141
            try clear q143
            obtain ⟨kq, x70_32, rfl, HA, HJ32, BK144, HB⟩ := hcut
            cases kq with
            | zero => exact absurd HA.out (by simp [spec_Sound.j4])
            | succ kj32 =>
             have H := HA.out
             clear HA
             simp only [spec_Sound.j4] at H
             by_cases c37 : x70_32 = true
             ·
              subst c37
              have H1 : (if 0 ≤ x8_4 then (if x8_4 < (((rd_T42 l1 x6_2).f4).length : Int) then (if (rd ((rd_T42 l1 x6_2).f4) x8_4) < 1 then (some false) else (if (rd ((rd_T42 l1 x6_2).f4) x8_4) > t142 then (some false) else (spec_Sound.l1 kj32 l1 t142 x6_2 (wrap64 (x8_4 + 1)) ((rd_T42 l1 x6_2).f0) ((rd_T42 l1 x6_2).f1) ((rd_T42 l1 x6_2).f2) ((rd_T42 l1 x6_2).f3) ((rd_T42 l1 x6_2).f4)))) else (none)) else (none)) = some r := by rw [if_pos rfl] at H; exact H
              clear H
              have H := H1
              clear H1
              by_cases c38 : 0 ≤ x8_4
              ·
               rw [if_pos c38] at H
               have c38b0 : decide (0 ≤ x8_4) = true := decide_eq_true c38
               clear c38
               by_cases c39 : x8_4 < (((rd_T42 l1 x6_2).f4).length : Int)
               ·
                rw [if_pos c39] at H
                have c39b0 : decide (x8_4 < (((rd_T42 l1 x6_2).f4).length : Int)) = true := decide_eq_true c39
                clear c39
                by_cases c40 : (rd ((rd_T42 l1 x6_2).f4) x8_4) < 1
                ·
                 rw [if_pos c40] at H
                 have c40b0 : decide ((rd ((rd_T42 l1 x6_2).f4) x8_4) < 1) = true := decide_eq_true c40
                 clear c40
                 obtain rfl := Option.some.inj H
                 have hcz41_0 : wc.cell? ⟨gb144, 0, none⟩ = some (.int .i64 ((rd_T42 l1 x6_2).f0)) := (blk_cell BK144.out 0).trans rfl
                 have hcz41_1 : wc.cell? ⟨gb144, 1, none⟩ = some (.string ((rd_T42 l1 x6_2).f1)) := (blk_cell BK144.out 1).trans rfl
                 have hcz41_2 : wc.cell? ⟨gb144, 2, none⟩ = some (.int .i64 ((rd_T42 l1 x6_2).f2)) := (blk_cell BK144.out 2).trans rfl
                 have hcz41_3 : wc.cell? ⟨gb144, 3, none⟩ = some (.int .i64 ((rd_T42 l1 x6_2).f3)) := (blk_cell BK144.out 3).trans rfl
                 have hcz41_4 : wc.cell? ⟨gb144, 4, none⟩ = some (.slice A143_4 ((rd_T42 l1 x6_2).f4).length c143_4) := (blk_cell BK144.out 4).trans rfl
                 have p145 : 0 ≤ (x8_4 : Int) := of_decide_eq_true (by first | (with_reducible assumption) | assumption)
                 have q145 : x8_4 < (((rd_T42 l1 x6_2).f4).length : Int) := of_decide_eq_true (by first | (with_reducible assumption) | assumption)
                 obtain ⟨ad145, e145, hx145_0⟩ := Kd.at_int HR143_4.out x8_4 p145 q145
                 cases e145
                 replace hx145_0 := (HB.out.cell (World.block_lt_of_cell? w _ hx145_0)).trans hx145_0
                 replace p145 := eq_true p145
                 replace q145 := eq_true q145
                 go_wp2
                 go_ret
                 exact ⟨by first | rfl | (simp [errW_none, errW_some] <;> rfl) | (simp [*, errW_none, errW_some] <;> rfl), by repeat (first | (with_reducible first | exact HB.out | apply below_alloc | apply pw_below_drewN | apply below_drew1 | refine below_set ?_ GE144.out) | exact HB.out)⟩
                rw [if_neg c40] at H
                have c40b0 : decide ((rd ((rd_T42 l1 x6_2).f4) x8_4) < 1) = false := decide_eq_false c40
                clear c40
                by_cases c42 : (rd ((rd_T42 l1 x6_2).f4) x8_4) > t142
                ·
                 rw [if_pos c42] at H
                 have c42b0 : decide (t142 < (rd ((rd_T42 l1 x6_2).f4) x8_4)) = true := decide_eq_true c42
                 clear c42
                 obtain rfl := Option.some.inj H
                 have hcz43_0 : wc.cell? ⟨gb144, 0, none⟩ = some (.int .i64 ((rd_T42 l1 x6_2).f0)) := (blk_cell BK144.out 0).trans rfl
                 have hcz43_1 : wc.cell? ⟨gb144, 1, none⟩ = some (.string ((rd_T42 l1 x6_2).f1)) := (blk_cell BK144.out 1).trans rfl
                 have hcz43_2 : wc.cell? ⟨gb144, 2, none⟩ = some (.int .i64 ((rd_T42 l1 x6_2).f2)) := (blk_cell BK144.out 2).trans rfl
                 have hcz43_3 : wc.cell? ⟨gb144, 3, none⟩ = some (.int .i64 ((rd_T42 l1 x6_2).f3)) := (blk_cell BK144.out 3).trans rfl
                 have hcz43_4 : wc.cell? ⟨gb144, 4, none⟩ = some (.slice A143_4 ((rd_T42 l1 x6_2).f4).length c143_4) := (blk_cell BK144.out 4).trans rfl
                 have p145 : 0 ≤ (x8_4 : Int) := of_decide_eq_true (by first | (with_reducible assumption) | assumption)
                 have q145 : x8_4 < (((rd_T42 l1 x6_2).f4).length : Int) := of_decide_eq_true (by first | (with_reducible assumption) | assumption)
                 obtain ⟨ad145, e145, hx145_0⟩ := Kd.at_int HR143_4.out x8_4 p145 q145
                 cases e145
                 replace hx145_0 := (HB.out.cell (World.block_lt_of_cell? w _ hx145_0)).trans hx145_0
                 replace p145 := eq_true p145
                 replace q145 := eq_true q145
                 have p146 : 0 ≤ (x8_4 : Int) := of_decide_eq_true (by first | (with_reducible assumption) | assumption)
                 have q146 : x8_4 < (((rd_T42 l1 x6_2).f4).length : Int) := of_decide_eq_true (by first | (with_reducible assumption) | assumption)
                 obtain ⟨ad146, e146, hx146_0⟩ := Kd.at_int HR143_4.out x8_4 p146 q146
                 obtain rfl : ad145 = ad146 := (by injection e146)
                 replace hx146_0 := (HB.out.cell (World.block_lt_of_cell? w _ hx146_0)).trans hx146_0
                 replace p146 := eq_true p146
                 replace q146 := eq_true q146
                 go_wp2
                 go_ret
                 exact ⟨by first | rfl | (simp [errW_none, errW_some] <;> rfl) | (simp [*, errW_none, errW_some] <;> rfl), by repeat (first | (with_reducible first | exact HB.out | apply below_alloc | apply pw_below_drewN | apply below_drew1 | refine below_set ?_ GE144.out) | exact HB.out)⟩
                rw [if_neg c42] at H
                have c42b0 : decide (t142 < (rd ((rd_T42 l1 x6_2).f4) x8_4)) = false := decide_eq_false c42
                clear c42
                have H' := Aside0.mk H
                clear H
                have hcz44_0 : wc.cell? ⟨gb144, 0, none⟩ = some (.int .i64 ((rd_T42 l1 x6_2).f0)) := (blk_cell BK144.out 0).trans rfl
                have hcz44_1 : wc.cell? ⟨gb144, 1, none⟩ = some (.string ((rd_T42 l1 x6_2).f1)) := (blk_cell BK144.out 1).trans rfl
                have hcz44_2 : wc.cell? ⟨gb144, 2, none⟩ = some (.int .i64 ((rd_T42 l1 x6_2).f2)) := (blk_cell BK144.out 2).trans rfl
                have hcz44_3 : wc.cell? ⟨gb144, 3, none⟩ = some (.int .i64 ((rd_T42 l1 x6_2).f3)) := (blk_cell BK144.out 3).trans rfl
                have hcz44_4 : wc.cell? ⟨gb144, 4, none⟩ = some (.slice A143_4 ((rd_T42 l1 x6_2).f4).length c143_4) := (blk_cell BK144.out 4).trans rfl
                have p145 : 0 ≤ (x8_4 : Int) := of_decide_eq_true (by first | (with_reducible assumption) | assumption)
                have q145 : x8_4 < (((rd_T42 l1 x6_2).f4).length : Int) := of_decide_eq_true (by first | (with_reducible assumption) | assumption)
                obtain ⟨ad145, e145, hx145_0⟩ := Kd.at_int HR143_4.out x8_4 p145 q145
                cases e145
                replace hx145_0 := (HB.out.cell (World.block_lt_of_cell? w _ hx145_0)).trans hx145_0
                replace p145 := eq_true p145
                replace q145 := eq_true q145
                have p146 : 0 ≤ (x8_4 : Int) := of_decide_eq_true (by first | (with_reducible assumption) | assumption)
                have q146 : x8_4 < (((rd_T42 l1 x6_2).f4).length : Int) := of_decide_eq_true (by first | (with_reducible assumption) | assumption)
                obtain ⟨ad146, e146, hx146_0⟩ := Kd.at_int HR143_4.out x8_4 p146 q146
                obtain rfl : ad145 = ad146 := (by injection e146)
                replace hx146_0 := (HB.out.cell (World.block_lt_of_cell? w _ hx146_0)).trans hx146_0
                replace p146 := eq_true p146
                replace q146 := eq_true q146
                go_wp2
                go_roundg kj32
                case measure => have := HJ2.out; have := HK2.out; have := HJ19.out; have := HK4.out; have := HJ32.out; omega
                case rel => exact ⟨(wrap64 (x8_4 + 1)), (by first | rfl | (simp; done) | (simp [*]; done)), H', ⟨by have := HJ2.out; have := HK2.out; have := HJ19.out; have := HK4.out; have := HJ32.out; omega⟩, ⟨by (with_reducible repeat (first | refine blk_drewN ?_ _ | refine blk_drew ?_ | refine blk_alloc ?_ _)); exact BK144.out⟩, ⟨by repeat (first | (with_reducible first | exact HB.out | apply below_alloc | apply pw_below_drewN | apply below_drew1 | refine below_set ?_ GE144.out) | exact HB.out)⟩⟩
               rw [if_neg c39] at H
               exact absurd H (by simp)
              rw [if_neg c38] at H
              exact absurd H (by simp)
             replace c37 := Bool.eq_false_iff.mpr c37
             subst c37
             have H1 : (spec_Sound.l0 kj32 l1 t142 (wrap64 (x6_2 + 1))) = some r := by rw [if_neg (show ¬ (false = true) by decide)] at H; exact H
             clear H
             have H := H1
             clear H1
             have H' := Aside0.mk H
             clear H
             go_wp2
             go_roundg kj32
             case measure => have := HJ2.out; have := HK2.out; have := HJ19.out; have := HK4.out; have := HJ32.out; omega
             case rel => exact ⟨(wrap64 (x6_2 + 1)), (by first | rfl | (simp; done) | (simp [*]; done)), H', ⟨by have := HJ2.out; have := HK2.out; have := HJ19.out; have := HK4.out; have := HJ32.out; omega⟩, ⟨by repeat (first | (with_reducible first | exact HB.out | apply below_alloc | apply pw_below_drewN | apply below_drew1 | refine below_set ?_ GE144.out) | exact HB.out)⟩⟩
      rw [if_neg c19] at H
      exact absurd H (by simp)
     rw [if_neg c18] at H
     have c18b0 : decide (x6_2 < (l1.length : Int)) = false := decide_eq_false c18
     clear c18
     obtain rfl := Option.some.inj H
     go_wp2
     go_ret
     exact ⟨by first | rfl | (simp [errW_none, errW_some] <;> rfl) | (simp [*, errW_none, errW_some] <;> rfl), by repeat (first | (with_reducible first | exact HB.out | apply below_alloc | apply pw_below_drewN | apply below_drew1) | exact HB.out)⟩
def laws_mapping.f (k : Nat) (a0 : ByteArray) (l1 : List (S42)) : Option (Bool) := if (a0.size : Int) ≤ 100 then ((laws_clean.f k a0).bind fun t147 => (if t147 = true then ((laws_tame.f k a0).bind fun t148 => (if t148 = true then (if (l1.length : Int) ≤ 10 then ((spec_Known.f k l1).bind fun t149 => (if t149 = true then ((spec_Sound.f k a0 l1).bind fun t150 => (some t150)) else (some false))) else (some false)) else (some false))) else (some false))) else (some false)
set_option maxHeartbeats 8000000 in
set_option maxRecDepth 100000 in
theorem laws_mapping.calls (k : Nat) (a0 : ByteArray) (A1 : Option Addr) (c1 : Nat) (l1 : List (S42)) (r : Bool) (w : World) (hr1 : Kd.C k42 w A1 l1.length l1) (hc1 : l1.length ≤ c1) (h : laws_mapping.f k a0 l1 = some r) :
  Calls Tryd.prog 6 #[.string a0, .slice A1 l1.length c1] w fun e w' => e = .returned (.bool r) ∧ Below w.heap.size w w' := by
 have HR1 := Aside0.mk hr1
 have HC1 := Aside0.mk hc1
 clear hr1 hc1
 have HB := Aside0.mk (Below.refl w.heap.size w)
 have H : (if (a0.size : Int) ≤ 100 then ((laws_clean.f k a0).bind fun t147 => (if t147 = true then ((laws_tame.f k a0).bind fun t148 => (if t148 = true then (if (l1.length : Int) ≤ 10 then ((spec_Known.f k l1).bind fun t149 => (if t149 = true then ((spec_Sound.f k a0 l1).bind fun t150 => (some t150)) else (some false))) else (some false)) else (some false))) else (some false))) else (some false)) = some r := h
 clear h
 by_cases c3 : (a0.size : Int) ≤ 100
 ·
  rw [if_pos c3] at H
  have c3b0 : decide ((a0.size : Int) ≤ 100) = true := decide_eq_true c3
  have c3b1 : decide (a0.size ≤ 100) = true := decide_eq_true (by omega)
  clear c3
  replace H := Option.bind_eq_some_iff.mp H
  obtain ⟨t147, A40, H⟩ := H
  replace H : (if t147 = true then ((laws_tame.f k a0).bind fun t148 => (if t148 = true then (if (l1.length : Int) ≤ 10 then ((spec_Known.f k l1).bind fun t149 => (if t149 = true then ((spec_Sound.f k a0 l1).bind fun t150 => (some t150)) else (some false))) else (some false)) else (some false))) else (some false)) = some r := H
  have A4 := Aside0.mk A40
  clear A40
  by_cases c5 : t147 = true
  ·
   subst c5
   have H1 : ((laws_tame.f k a0).bind fun t148 => (if t148 = true then (if (l1.length : Int) ≤ 10 then ((spec_Known.f k l1).bind fun t149 => (if t149 = true then ((spec_Sound.f k a0 l1).bind fun t150 => (some t150)) else (some false))) else (some false)) else (some false))) = some r := by rw [if_pos rfl] at H; exact H
   clear H
   have H := H1
   clear H1
   replace H := Option.bind_eq_some_iff.mp H
   obtain ⟨t148, A60, H⟩ := H
   replace H : (if t148 = true then (if (l1.length : Int) ≤ 10 then ((spec_Known.f k l1).bind fun t149 => (if t149 = true then ((spec_Sound.f k a0 l1).bind fun t150 => (some t150)) else (some false))) else (some false)) else (some false)) = some r := H
   have A6 := Aside0.mk A60
   clear A60
   by_cases c7 : t148 = true
   ·
    subst c7
    have H1 : (if (l1.length : Int) ≤ 10 then ((spec_Known.f k l1).bind fun t149 => (if t149 = true then ((spec_Sound.f k a0 l1).bind fun t150 => (some t150)) else (some false))) else (some false)) = some r := by rw [if_pos rfl] at H; exact H
    clear H
    have H := H1
    clear H1
    by_cases c8 : (l1.length : Int) ≤ 10
    ·
     rw [if_pos c8] at H
     have c8b0 : decide ((l1.length : Int) ≤ 10) = true := decide_eq_true c8
     have c8b1 : decide (l1.length ≤ 10) = true := decide_eq_true (by omega)
     clear c8
     replace H := Option.bind_eq_some_iff.mp H
     obtain ⟨t149, A90, H⟩ := H
     replace H : (if t149 = true then ((spec_Sound.f k a0 l1).bind fun t150 => (some t150)) else (some false)) = some r := H
     have A9 := Aside0.mk A90
     clear A90
     by_cases c10 : t149 = true
     ·
      subst c10
      have H1 : ((spec_Sound.f k a0 l1).bind fun t150 => (some t150)) = some r := by rw [if_pos rfl] at H; exact H
      clear H
      have H := H1
      clear H1
      replace H := Option.bind_eq_some_iff.mp H
      obtain ⟨t150, A110, H⟩ := H
      replace H : (some t150) = some r := H
      have A11 := Aside0.mk A110
      clear A110
      obtain rfl := Option.some.inj H
      go_enter Tryd.func6, Tryd.ntmps6
      go_wp2_with (first | (go_at_call 19; (with_reducible refine (laws_clean.calls k a0 true _ A4.out).mono ?_); rintro e w' ⟨rfl, ⟨nd, rfl⟩⟩) | (go_at_call 20; (with_reducible refine (laws_tame.calls k a0 true _ A6.out).mono ?_); rintro e w12 ⟨rfl, hb⟩; have n0_ := Aside0.mk (below_step (by repeat (first | (with_reducible first | exact HB.out | apply below_alloc | apply pw_below_drewN | apply below_drew1) | exact HB.out)) hb); clear HB; have HB := n0_; clear n0_; (try clear hb); (try clear hb2); (try clear hk); (try clear hi)) | (go_at_call 21; (with_reducible refine (spec_Known.calls k _ _ l1 true _ ?side1 ?side2 A9.out).mono ?_); (case side1 => repeat (first | exact (Kd.C_below HR1.out HB.out) | (with_reducible refine Kd.C_alloc ?_ _) | (with_reducible refine Kd.C_drewN ?_ _) | (with_reducible refine Kd.C_drew ?_))); (case side2 => exact HC1.out); rintro e w13 ⟨rfl, hb⟩; have n0_ := Aside0.mk (below_step (by repeat (first | (with_reducible first | exact HB.out | apply below_alloc | apply pw_below_drewN | apply below_drew1) | exact HB.out)) hb); clear HB; have HB := n0_; clear n0_; (try clear hb); (try clear hb2); (try clear hk); (try clear hi)) | (go_at_call 22; (with_reducible refine (spec_Sound.calls k a0 _ _ l1 t150 _ ?side1 ?side2 A11.out).mono ?_); (case side1 => repeat (first | exact (Kd.C_below HR1.out HB.out) | (with_reducible refine Kd.C_alloc ?_ _) | (with_reducible refine Kd.C_drewN ?_ _) | (with_reducible refine Kd.C_drew ?_))); (case side2 => exact HC1.out); rintro e w14 ⟨rfl, hb⟩; have n0_ := Aside0.mk (below_step (by repeat (first | (with_reducible first | exact HB.out | apply below_alloc | apply pw_below_drewN | apply below_drew1) | exact HB.out)) hb); clear HB; have HB := n0_; clear n0_; (try clear hb); (try clear hb2); (try clear hk); (try clear hi)))
      go_ret
      exact ⟨by first | rfl | (simp [errW_none, errW_some] <;> rfl) | (simp [*, errW_none, errW_some] <;> rfl), by repeat (first | (with_reducible first | exact HB.out | apply below_alloc | apply pw_below_drewN | apply below_drew1) | exact HB.out)⟩
     replace c10 := Bool.eq_false_iff.mpr c10
     subst c10
     have H1 : (some false) = some r := by rw [if_neg (show ¬ (false = true) by decide)] at H; exact H
     clear H
     have H := H1
     clear H1
     obtain rfl := Option.some.inj H
     go_enter Tryd.func6, Tryd.ntmps6
     go_wp2_with (first | (go_at_call 19; (with_reducible refine (laws_clean.calls k a0 true _ A4.out).mono ?_); rintro e w' ⟨rfl, ⟨nd, rfl⟩⟩) | (go_at_call 20; (with_reducible refine (laws_tame.calls k a0 true _ A6.out).mono ?_); rintro e w15 ⟨rfl, hb⟩; have n0_ := Aside0.mk (below_step (by repeat (first | (with_reducible first | exact HB.out | apply below_alloc | apply pw_below_drewN | apply below_drew1) | exact HB.out)) hb); clear HB; have HB := n0_; clear n0_; (try clear hb); (try clear hb2); (try clear hk); (try clear hi)) | (go_at_call 21; (with_reducible refine (spec_Known.calls k _ _ l1 false _ ?side1 ?side2 A9.out).mono ?_); (case side1 => repeat (first | exact (Kd.C_below HR1.out HB.out) | (with_reducible refine Kd.C_alloc ?_ _) | (with_reducible refine Kd.C_drewN ?_ _) | (with_reducible refine Kd.C_drew ?_))); (case side2 => exact HC1.out); rintro e w16 ⟨rfl, hb⟩; have n0_ := Aside0.mk (below_step (by repeat (first | (with_reducible first | exact HB.out | apply below_alloc | apply pw_below_drewN | apply below_drew1) | exact HB.out)) hb); clear HB; have HB := n0_; clear n0_; (try clear hb); (try clear hb2); (try clear hk); (try clear hi)))
     go_ret
     exact ⟨by first | rfl | (simp [errW_none, errW_some] <;> rfl) | (simp [*, errW_none, errW_some] <;> rfl), by repeat (first | (with_reducible first | exact HB.out | apply below_alloc | apply pw_below_drewN | apply below_drew1) | exact HB.out)⟩
    rw [if_neg c8] at H
    have c8b0 : decide ((l1.length : Int) ≤ 10) = false := decide_eq_false c8
    have c8b1 : decide (l1.length ≤ 10) = false := decide_eq_false (by omega)
    clear c8
    obtain rfl := Option.some.inj H
    go_enter Tryd.func6, Tryd.ntmps6
    go_wp2_with (first | (go_at_call 19; (with_reducible refine (laws_clean.calls k a0 true _ A4.out).mono ?_); rintro e w' ⟨rfl, ⟨nd, rfl⟩⟩) | (go_at_call 20; (with_reducible refine (laws_tame.calls k a0 true _ A6.out).mono ?_); rintro e w17 ⟨rfl, hb⟩; have n0_ := Aside0.mk (below_step (by repeat (first | (with_reducible first | exact HB.out | apply below_alloc | apply pw_below_drewN | apply below_drew1) | exact HB.out)) hb); clear HB; have HB := n0_; clear n0_; (try clear hb); (try clear hb2); (try clear hk); (try clear hi)))
    go_ret
    exact ⟨by first | rfl | (simp [errW_none, errW_some] <;> rfl) | (simp [*, errW_none, errW_some] <;> rfl), by repeat (first | (with_reducible first | exact HB.out | apply below_alloc | apply pw_below_drewN | apply below_drew1) | exact HB.out)⟩
   replace c7 := Bool.eq_false_iff.mpr c7
   subst c7
   have H1 : (some false) = some r := by rw [if_neg (show ¬ (false = true) by decide)] at H; exact H
   clear H
   have H := H1
   clear H1
   obtain rfl := Option.some.inj H
   go_enter Tryd.func6, Tryd.ntmps6
   go_wp2_with (first | (go_at_call 19; (with_reducible refine (laws_clean.calls k a0 true _ A4.out).mono ?_); rintro e w' ⟨rfl, ⟨nd, rfl⟩⟩) | (go_at_call 20; (with_reducible refine (laws_tame.calls k a0 false _ A6.out).mono ?_); rintro e w18 ⟨rfl, hb⟩; have n0_ := Aside0.mk (below_step (by repeat (first | (with_reducible first | exact HB.out | apply below_alloc | apply pw_below_drewN | apply below_drew1) | exact HB.out)) hb); clear HB; have HB := n0_; clear n0_; (try clear hb); (try clear hb2); (try clear hk); (try clear hi)))
   go_ret
   exact ⟨by first | rfl | (simp [errW_none, errW_some] <;> rfl) | (simp [*, errW_none, errW_some] <;> rfl), by repeat (first | (with_reducible first | exact HB.out | apply below_alloc | apply pw_below_drewN | apply below_drew1) | exact HB.out)⟩
  replace c5 := Bool.eq_false_iff.mpr c5
  subst c5
  have H1 : (some false) = some r := by rw [if_neg (show ¬ (false = true) by decide)] at H; exact H
  clear H
  have H := H1
  clear H1
  obtain rfl := Option.some.inj H
  go_enter Tryd.func6, Tryd.ntmps6
  go_wp2_with (first | (go_at_call 19; (with_reducible refine (laws_clean.calls k a0 false _ A4.out).mono ?_); rintro e w' ⟨rfl, ⟨nd, rfl⟩⟩))
  go_ret
  exact ⟨by first | rfl | (simp [errW_none, errW_some] <;> rfl) | (simp [*, errW_none, errW_some] <;> rfl), by repeat (first | (with_reducible first | exact HB.out | apply below_alloc | apply pw_below_drewN | apply below_drew1) | exact HB.out)⟩
 rw [if_neg c3] at H
 have c3b0 : decide ((a0.size : Int) ≤ 100) = false := decide_eq_false c3
 have c3b1 : decide (a0.size ≤ 100) = false := decide_eq_false (by omega)
 clear c3
 obtain rfl := Option.some.inj H
 go_enter Tryd.func6, Tryd.ntmps6
 go_wp2
 go_ret
 exact ⟨by first | rfl | (simp [errW_none, errW_some] <;> rfl) | (simp [*, errW_none, errW_some] <;> rfl), by repeat (first | (with_reducible first | exact HB.out | apply below_alloc | apply pw_below_drewN | apply below_drew1) | exact HB.out)⟩
def laws_valid.f (k : Nat) (a0 : ByteArray) : Option (Bool) := (laws_clean.f k a0).bind fun t151 => (if t151 = true then ((spec_Valid.f k a0).bind fun t152 => (if t152 = true then ((laws_tame.f k a0).bind fun t153 => (some t153)) else (some false))) else (some false))
set_option maxHeartbeats 8000000 in
set_option maxRecDepth 100000 in
theorem laws_valid.calls (k : Nat) (a0 : ByteArray) (r : Bool) (w : World) (h : laws_valid.f k a0 = some r) :
  Calls Tryd.prog 23 #[.string a0] w fun e w' => e = .returned (.bool r) ∧ Below w.heap.size w w' := by
 have HB := Aside0.mk (Below.refl w.heap.size w)
 have H : ((laws_clean.f k a0).bind fun t151 => (if t151 = true then ((spec_Valid.f k a0).bind fun t152 => (if t152 = true then ((laws_tame.f k a0).bind fun t153 => (some t153)) else (some false))) else (some false))) = some r := h
 clear h
 replace H := Option.bind_eq_some_iff.mp H
 obtain ⟨t151, A20, H⟩ := H
 replace H : (if t151 = true then ((spec_Valid.f k a0).bind fun t152 => (if t152 = true then ((laws_tame.f k a0).bind fun t153 => (some t153)) else (some false))) else (some false)) = some r := H
 have A2 := Aside0.mk A20
 clear A20
 by_cases c3 : t151 = true
 ·
  subst c3
  have H1 : ((spec_Valid.f k a0).bind fun t152 => (if t152 = true then ((laws_tame.f k a0).bind fun t153 => (some t153)) else (some false))) = some r := by rw [if_pos rfl] at H; exact H
  clear H
  have H := H1
  clear H1
  replace H := Option.bind_eq_some_iff.mp H
  obtain ⟨t152, A40, H⟩ := H
  replace H : (if t152 = true then ((laws_tame.f k a0).bind fun t153 => (some t153)) else (some false)) = some r := H
  have A4 := Aside0.mk A40
  clear A40
  by_cases c5 : t152 = true
  ·
   subst c5
   have H1 : ((laws_tame.f k a0).bind fun t153 => (some t153)) = some r := by rw [if_pos rfl] at H; exact H
   clear H
   have H := H1
   clear H1
   replace H := Option.bind_eq_some_iff.mp H
   obtain ⟨t153, A60, H⟩ := H
   replace H : (some t153) = some r := H
   have A6 := Aside0.mk A60
   clear A60
   obtain rfl := Option.some.inj H
   go_enter Tryd.func23, Tryd.ntmps23
   go_wp2_with (first | ((with_reducible refine gate_callee (f := 19) rfl ?_); refine goesL_ (some 4) rfl rfl Tryd.func19 (by kernel_rfl) rfl #[.string a0] rfl (by (try simp only [List.map_toArray, List.map_cons, List.map_nil]); first | done | rfl | (simp only [List.length_drop, List.length_take]; rfl)) ?_; (with_reducible refine (laws_clean.calls k a0 true _ A2.out).mono ?_); rintro e w' ⟨rfl, ⟨nd, rfl⟩⟩; refine ⟨_, rfl, ?_⟩) | (go_at_call 42; (with_reducible refine (spec_Valid.calls k a0 true _ A4.out).mono ?_); rintro e w7 ⟨rfl, hb⟩; have n0_ := Aside0.mk (below_step (by repeat (first | (with_reducible first | exact HB.out | apply below_alloc | apply pw_below_drewN | apply below_drew1) | exact HB.out)) hb); clear HB; have HB := n0_; clear n0_; (try clear hb); (try clear hb2); (try clear hk); (try clear hi)) | (go_at_call 20; (with_reducible refine (laws_tame.calls k a0 t153 _ A6.out).mono ?_); rintro e w8 ⟨rfl, hb⟩; have n0_ := Aside0.mk (below_step (by repeat (first | (with_reducible first | exact HB.out | apply below_alloc | apply pw_below_drewN | apply below_drew1) | exact HB.out)) hb); clear HB; have HB := n0_; clear n0_; (try clear hb); (try clear hb2); (try clear hk); (try clear hi)))
   go_ret
   exact ⟨by first | rfl | (simp [errW_none, errW_some] <;> rfl) | (simp [*, errW_none, errW_some] <;> rfl), by repeat (first | (with_reducible first | exact HB.out | apply below_alloc | apply pw_below_drewN | apply below_drew1) | exact HB.out)⟩
  replace c5 := Bool.eq_false_iff.mpr c5
  subst c5
  have H1 : (some false) = some r := by rw [if_neg (show ¬ (false = true) by decide)] at H; exact H
  clear H
  have H := H1
  clear H1
  obtain rfl := Option.some.inj H
  go_enter Tryd.func23, Tryd.ntmps23
  go_wp2_with (first | ((with_reducible refine gate_callee (f := 19) rfl ?_); refine goesL_ (some 4) rfl rfl Tryd.func19 (by kernel_rfl) rfl #[.string a0] rfl (by (try simp only [List.map_toArray, List.map_cons, List.map_nil]); first | done | rfl | (simp only [List.length_drop, List.length_take]; rfl)) ?_; (with_reducible refine (laws_clean.calls k a0 true _ A2.out).mono ?_); rintro e w' ⟨rfl, ⟨nd, rfl⟩⟩; refine ⟨_, rfl, ?_⟩) | (go_at_call 42; (with_reducible refine (spec_Valid.calls k a0 false _ A4.out).mono ?_); rintro e w9 ⟨rfl, hb⟩; have n0_ := Aside0.mk (below_step (by repeat (first | (with_reducible first | exact HB.out | apply below_alloc | apply pw_below_drewN | apply below_drew1) | exact HB.out)) hb); clear HB; have HB := n0_; clear n0_; (try clear hb); (try clear hb2); (try clear hk); (try clear hi)))
  go_ret
  exact ⟨by first | rfl | (simp [errW_none, errW_some] <;> rfl) | (simp [*, errW_none, errW_some] <;> rfl), by repeat (first | (with_reducible first | exact HB.out | apply below_alloc | apply pw_below_drewN | apply below_drew1) | exact HB.out)⟩
 replace c3 := Bool.eq_false_iff.mpr c3
 subst c3
 have H1 : (some false) = some r := by rw [if_neg (show ¬ (false = true) by decide)] at H; exact H
 clear H
 have H := H1
 clear H1
 obtain rfl := Option.some.inj H
 go_enter Tryd.func23, Tryd.ntmps23
 go_wp2_with (first | ((with_reducible refine gate_callee (f := 19) rfl ?_); refine goesL_ (some 4) rfl rfl Tryd.func19 (by kernel_rfl) rfl #[.string a0] rfl (by (try simp only [List.map_toArray, List.map_cons, List.map_nil]); first | done | rfl | (simp only [List.length_drop, List.length_take]; rfl)) ?_; (with_reducible refine (laws_clean.calls k a0 false _ A2.out).mono ?_); rintro e w' ⟨rfl, ⟨nd, rfl⟩⟩; refine ⟨_, rfl, ?_⟩))
 go_ret
 exact ⟨by first | rfl | (simp [errW_none, errW_some] <;> rfl) | (simp [*, errW_none, errW_some] <;> rfl), by repeat (first | (with_reducible first | exact HB.out | apply below_alloc | apply pw_below_drewN | apply below_drew1) | exact HB.out)⟩
def spec_Literal.l0 : Nat → List ByteArray → Int → Option (Bool)
 | 0, _, _ => none
 | k + 1, x3, x4 => if x4 < (x3.length : Int) then (if 0 ≤ x4 then (if (rdOf ByteArray.empty x3 x4).toList = ([42] : List UInt8) then (some false) else (if (rdOf ByteArray.empty x3 x4).toList = ([62] : List UInt8) then (some false) else (spec_Literal.l0 k x3 (wrap64 (x4 + 1))))) else (none)) else (some true)
def spec_Literal.f (k : Nat) (a0 : ByteArray) : Option (Bool) := (spec_Tokens.f k a0).bind fun t154 => (spec_Literal.l0 k t154 0)
set_option maxHeartbeats 8000000 in
set_option maxRecDepth 100000 in
theorem spec_Literal.calls (k : Nat) (a0 : ByteArray) (r : Bool) (w : World) (h : spec_Literal.f k a0 = some r) :
  Calls Tryd.prog 24 #[.string a0] w fun e w' => e = .returned (.bool r) ∧ Below w.heap.size w w' := by
 have HB := Aside0.mk (Below.refl w.heap.size w)
 have H : ((spec_Tokens.f k a0).bind fun t154 => (spec_Literal.l0 k t154 0)) = some r := h
 clear h
 replace H := Option.bind_eq_some_iff.mp H
 obtain ⟨t154, A20, H⟩ := H
 replace H : (spec_Literal.l0 k t154 0) = some r := H
 have A2 := Aside0.mk A20
 clear A20
 have H' := Aside0.mk H
 clear H
 go_enter Tryd.func24, Tryd.ntmps24
 go_wp2_with (first | ((with_reducible refine gate_callee (f := 25) rfl ?_); refine goesL_ (some 6) rfl rfl Tryd.func25 (by kernel_rfl) rfl #[.string a0] rfl (by (try simp only [List.map_toArray, List.map_cons, List.map_nil]); first | done | rfl | (simp only [List.length_drop, List.length_take]; rfl)) ?_; (with_reducible refine (spec_Tokens.calls k a0 t154 _ A2.out).mono ?_); rintro e w3 ⟨v155, rfl, ho0, hb⟩; refine ⟨_, rfl, ?_⟩; have n0_ := Aside0.mk (Kd.R_lower ho0 (below_size (by repeat (first | (with_reducible first | exact HB.out | apply below_alloc | apply pw_below_drewN | apply below_drew1) | exact HB.out)))); have n1_ := Aside0.mk (below_step (by repeat (first | (with_reducible first | exact HB.out | apply below_alloc | apply pw_below_drewN | apply below_drew1) | exact HB.out)) hb); clear HB; have HO156 := n0_; have HB := n1_; clear n0_ n1_; (try clear hb); (try clear hb2); (try clear hk); (try clear hi); (try clear ho0)))
 go_loopg [4] k (fun kq v4 w' => ∃ (x4_1 : Int), v4 = .int .i64 x4_1 ∧ Aside0 (spec_Literal.l0 kq t154 x4_1 = some r) ∧ Aside0 (kq ≤ k) ∧ Aside0 (Kd.R Kd.string 9 w' w.heap.size (fun _ => True) v155 t154) ∧ Aside0 (Below w.heap.size w w'))
 case atStart => exact ⟨(0), (by first | rfl | (simp; done) | (simp [*]; done)), H', ⟨Nat.le_refl _⟩, ⟨by (with_reducible repeat (first | apply Kd.R_alloc | apply Kd.R_drewN | apply Kd.R_drew)); exact HO156.out⟩, ⟨by repeat (first | (with_reducible first | exact HB.out | apply below_alloc | apply pw_below_drewN | apply below_drew1) | exact HB.out)⟩⟩
 case round =>
  clear H'
  try clear c2
  try clear p2
  obtain ⟨x4_1, rfl, HA, HK1, HO_3, HB⟩ := hrel
  cases gk with
  | zero => exact absurd HA.out (by simp [spec_Literal.l0])
  | succ k1 =>
   have H := HA.out
   clear HA
   simp only [spec_Literal.l0] at H
   by_cases c4 : x4_1 < (t154.length : Int)
   ·
    rw [if_pos c4] at H
    have c4b0 : decide (x4_1 < (t154.length : Int)) = true := decide_eq_true c4
    clear c4
    by_cases c5 : 0 ≤ x4_1
    ·
     rw [if_pos c5] at H
     have c5b0 : decide (0 ≤ x4_1) = true := decide_eq_true c5
     clear c5
     by_cases c6 : (rdOf ByteArray.empty t154 x4_1).toList = ([42] : List UInt8)
     ·
      rw [if_pos c6] at H
      have c6b0 : ((rdOf ByteArray.empty t154 x4_1).toList == ([42] : List UInt8)) = true := beq_iff_eq.mpr c6
      have c6b1 : ((rdOf ByteArray.empty t154 x4_1).toList != ([42] : List UInt8)) = false := bne_eq_false_iff_eq.mpr c6
      clear c6
      obtain rfl := Option.some.inj H
      obtain ⟨Ao7, co7, eo7⟩ := Kd.R_slice HO_3.out
      subst eo7
      have p157 : 0 ≤ (x4_1 : Int) := of_decide_eq_true (by first | (with_reducible assumption) | assumption)
      have q157 : x4_1 < (t154.length : Int) := of_decide_eq_true (by first | (with_reducible assumption) | assumption)
      obtain ⟨ad157, e157, hx157_0⟩ := Kd.at_string (Kd.R_reads' HO_3.out).2.2 x4_1 p157 q157
      cases e157
      replace p157 := eq_true p157
      replace q157 := eq_true q157
      go_wp2
      go_ret
      exact ⟨by first | rfl | (simp [errW_none, errW_some] <;> rfl) | (simp [*, errW_none, errW_some] <;> rfl), by repeat (first | (with_reducible first | exact HB.out | apply below_alloc | apply pw_below_drewN | apply below_drew1) | exact HB.out)⟩
     rw [if_neg c6] at H
     have c6b0 : ((rdOf ByteArray.empty t154 x4_1).toList == ([42] : List UInt8)) = false := beq_eq_false_iff_ne.mpr c6
     have c6b1 : ((rdOf ByteArray.empty t154 x4_1).toList != ([42] : List UInt8)) = true := bne_iff_ne.mpr c6
     by_cases c8 : (rdOf ByteArray.empty t154 x4_1).toList = ([62] : List UInt8)
     ·
      rw [if_pos c8] at H
      have c8b0 : ((rdOf ByteArray.empty t154 x4_1).toList == ([62] : List UInt8)) = true := beq_iff_eq.mpr c8
      have c8b1 : ((rdOf ByteArray.empty t154 x4_1).toList != ([62] : List UInt8)) = false := bne_eq_false_iff_eq.mpr c8
      clear c8
      obtain rfl := Option.some.inj H
      obtain ⟨Ao9, co9, eo9⟩ := Kd.R_slice HO_3.out
      subst eo9
      have p157 : 0 ≤ (x4_1 : Int) := of_decide_eq_true (by first | (with_reducible assumption) | assumption)
      have q157 : x4_1 < (t154.length : Int) := of_decide_eq_true (by first | (with_reducible assumption) | assumption)
      obtain ⟨ad157, e157, hx157_0⟩ := Kd.at_string (Kd.R_reads' HO_3.out).2.2 x4_1 p157 q157
      cases e157
      replace p157 := eq_true p157
      replace q157 := eq_true q157
      have p158 : 0 ≤ (x4_1 : Int) := of_decide_eq_true (by first | (with_reducible assumption) | assumption)
      have q158 : x4_1 < (t154.length : Int) := of_decide_eq_true (by first | (with_reducible assumption) | assumption)
      obtain ⟨ad158, e158, hx158_0⟩ := Kd.at_string (Kd.R_reads' HO_3.out).2.2 x4_1 p158 q158
      obtain rfl : ad157 = ad158 := (by injection e158)
      replace p158 := eq_true p158
      replace q158 := eq_true q158
      go_wp2
      go_ret
      exact ⟨by first | rfl | (simp [errW_none, errW_some] <;> rfl) | (simp [*, errW_none, errW_some] <;> rfl), by repeat (first | (with_reducible first | exact HB.out | apply below_alloc | apply pw_below_drewN | apply below_drew1) | exact HB.out)⟩
     rw [if_neg c8] at H
     have c8b0 : ((rdOf ByteArray.empty t154 x4_1).toList == ([62] : List UInt8)) = false := beq_eq_false_iff_ne.mpr c8
     have c8b1 : ((rdOf ByteArray.empty t154 x4_1).toList != ([62] : List UInt8)) = true := bne_iff_ne.mpr c8
     have H' := Aside0.mk H
     clear H
     obtain ⟨Ao10, co10, eo10⟩ := Kd.R_slice HO_3.out
     subst eo10
     have p157 : 0 ≤ (x4_1 : Int) := of_decide_eq_true (by first | (with_reducible assumption) | assumption)
     have q157 : x4_1 < (t154.length : Int) := of_decide_eq_true (by first | (with_reducible assumption) | assumption)
     obtain ⟨ad157, e157, hx157_0⟩ := Kd.at_string (Kd.R_reads' HO_3.out).2.2 x4_1 p157 q157
     cases e157
     replace p157 := eq_true p157
     replace q157 := eq_true q157
     have p158 : 0 ≤ (x4_1 : Int) := of_decide_eq_true (by first | (with_reducible assumption) | assumption)
     have q158 : x4_1 < (t154.length : Int) := of_decide_eq_true (by first | (with_reducible assumption) | assumption)
     obtain ⟨ad158, e158, hx158_0⟩ := Kd.at_string (Kd.R_reads' HO_3.out).2.2 x4_1 p158 q158
     obtain rfl : ad157 = ad158 := (by injection e158)
     replace p158 := eq_true p158
     replace q158 := eq_true q158
     go_wp2
     go_roundg k1
     case measure => have := HK1.out; omega
     case rel => exact ⟨(wrap64 (x4_1 + 1)), (by first | rfl | (simp; done) | (simp [*]; done)), H', ⟨by have := HK1.out; omega⟩, ⟨by (with_reducible repeat (first | apply Kd.R_alloc | apply Kd.R_drewN | apply Kd.R_drew)); exact HO_3.out⟩, ⟨by repeat (first | (with_reducible first | exact HB.out | apply below_alloc | apply pw_below_drewN | apply below_drew1) | exact HB.out)⟩⟩
    rw [if_neg c5] at H
    exact absurd H (by simp)
   rw [if_neg c4] at H
   have c4b0 : decide (x4_1 < (t154.length : Int)) = false := decide_eq_false c4
   clear c4
   obtain rfl := Option.some.inj H
   obtain ⟨Ao11, co11, eo11⟩ := Kd.R_slice HO_3.out
   subst eo11
   go_wp2
   go_ret
   exact ⟨by first | rfl | (simp [errW_none, errW_some] <;> rfl) | (simp [*, errW_none, errW_some] <;> rfl), by repeat (first | (with_reducible first | exact HB.out | apply below_alloc | apply pw_below_drewN | apply below_drew1) | exact HB.out)⟩
def laws_plain.f (k : Nat) (a0 : ByteArray) : Option (Bool) := (laws_valid.f k a0).bind fun t159 => (if t159 = true then ((spec_Literal.f k a0).bind fun t160 => (some t160)) else (some false))
set_option maxHeartbeats 8000000 in
set_option maxRecDepth 100000 in
theorem laws_plain.calls (k : Nat) (a0 : ByteArray) (r : Bool) (w : World) (h : laws_plain.f k a0 = some r) :
  Calls Tryd.prog 7 #[.string a0] w fun e w' => e = .returned (.bool r) ∧ Below w.heap.size w w' := by
 have HB := Aside0.mk (Below.refl w.heap.size w)
 have H : ((laws_valid.f k a0).bind fun t159 => (if t159 = true then ((spec_Literal.f k a0).bind fun t160 => (some t160)) else (some false))) = some r := h
 clear h
 replace H := Option.bind_eq_some_iff.mp H
 obtain ⟨t159, A20, H⟩ := H
 replace H : (if t159 = true then ((spec_Literal.f k a0).bind fun t160 => (some t160)) else (some false)) = some r := H
 have A2 := Aside0.mk A20
 clear A20
 by_cases c3 : t159 = true
 ·
  subst c3
  have H1 : ((spec_Literal.f k a0).bind fun t160 => (some t160)) = some r := by rw [if_pos rfl] at H; exact H
  clear H
  have H := H1
  clear H1
  replace H := Option.bind_eq_some_iff.mp H
  obtain ⟨t160, A40, H⟩ := H
  replace H : (some t160) = some r := H
  have A4 := Aside0.mk A40
  clear A40
  obtain rfl := Option.some.inj H
  go_enter Tryd.func7, Tryd.ntmps7
  go_wp2_with (first | ((with_reducible refine gate_callee (f := 23) rfl ?_); refine goesL_ (some 4) rfl rfl Tryd.func23 (by kernel_rfl) rfl #[.string a0] rfl (by (try simp only [List.map_toArray, List.map_cons, List.map_nil]); first | done | rfl | (simp only [List.length_drop, List.length_take]; rfl)) ?_; (with_reducible refine (laws_valid.calls k a0 true _ A2.out).mono ?_); rintro e w5 ⟨rfl, hb⟩; refine ⟨_, rfl, ?_⟩; have n0_ := Aside0.mk (below_step (by repeat (first | (with_reducible first | exact HB.out | apply below_alloc | apply pw_below_drewN | apply below_drew1) | exact HB.out)) hb); clear HB; have HB := n0_; clear n0_; (try clear hb); (try clear hb2); (try clear hk); (try clear hi)) | (go_at_call 24; (with_reducible refine (spec_Literal.calls k a0 t160 _ A4.out).mono ?_); rintro e w6 ⟨rfl, hb⟩; have n0_ := Aside0.mk (below_step (by repeat (first | (with_reducible first | exact HB.out | apply below_alloc | apply pw_below_drewN | apply below_drew1) | exact HB.out)) hb); clear HB; have HB := n0_; clear n0_; (try clear hb); (try clear hb2); (try clear hk); (try clear hi)))
  go_ret
  exact ⟨by first | rfl | (simp [errW_none, errW_some] <;> rfl) | (simp [*, errW_none, errW_some] <;> rfl), by repeat (first | (with_reducible first | exact HB.out | apply below_alloc | apply pw_below_drewN | apply below_drew1) | exact HB.out)⟩
 replace c3 := Bool.eq_false_iff.mpr c3
 subst c3
 have H1 : (some false) = some r := by rw [if_neg (show ¬ (false = true) by decide)] at H; exact H
 clear H
 have H := H1
 clear H1
 obtain rfl := Option.some.inj H
 go_enter Tryd.func7, Tryd.ntmps7
 go_wp2_with (first | ((with_reducible refine gate_callee (f := 23) rfl ?_); refine goesL_ (some 4) rfl rfl Tryd.func23 (by kernel_rfl) rfl #[.string a0] rfl (by (try simp only [List.map_toArray, List.map_cons, List.map_nil]); first | done | rfl | (simp only [List.length_drop, List.length_take]; rfl)) ?_; (with_reducible refine (laws_valid.calls k a0 false _ A2.out).mono ?_); rintro e w7 ⟨rfl, hb⟩; refine ⟨_, rfl, ?_⟩; have n0_ := Aside0.mk (below_step (by repeat (first | (with_reducible first | exact HB.out | apply below_alloc | apply pw_below_drewN | apply below_drew1) | exact HB.out)) hb); clear HB; have HB := n0_; clear n0_; (try clear hb); (try clear hb2); (try clear hk); (try clear hi)))
 go_ret
 exact ⟨by first | rfl | (simp [errW_none, errW_some] <;> rfl) | (simp [*, errW_none, errW_some] <;> rfl), by repeat (first | (with_reducible first | exact HB.out | apply below_alloc | apply pw_below_drewN | apply below_drew1) | exact HB.out)⟩
def IsS69 (w0 W : World) (g : Nat) (f0 : ByteArray) (f1 : ByteArray) (f2 : List ByteArray) (f3 : List ByteArray) (f4 : List Int) (f5 : List (List Int)) (f6 : List Int) (f7 : List ByteArray) : Prop := ∃ A2 c2, ∃ A3 c3, ∃ A4 c4, ∃ A5 c5, ∃ A6 c6, ∃ A7 c7, W.heap[g]? = some (.cells #[.string f0, .string f1, .slice A2 f2.length c2, .slice A3 f3.length c3, .slice A4 f4.length c4, .slice A5 f5.length c5, .slice A6 f6.length c6, .slice A7 f7.length c7] 69 (0, 0)) ∧ w0.heap.size ≤ g ∧ Kd.C Kd.string w0 A2 f2.length f2 ∧ Kd.C Kd.string w0 A3 f3.length f3 ∧ Kd.C (Kd.int .i16) w0 A4 f4.length f4 ∧ Kd.C (Kd.slice 3 (Kd.int .i64)) w0 A5 f5.length f5 ∧ Kd.C (Kd.int .i32) w0 A6 f6.length f6 ∧ Kd.C Kd.string w0 A7 f7.length f7
theorem IsS69.grown {w0 W : World} {g : Nat} {f0 : ByteArray} {f1 : ByteArray} {f2 : List ByteArray} {f3 : List ByteArray} {f4 : List Int} {f5 : List (List Int)} {f6 : List Int} {f7 : List ByteArray} {W1 : World} {row : Option Nat} (h : IsS69 w0 W g f0 f1 f2 f3 f4 f5 f6 f7) (hw : W.grownBy W1 row) (hne : some g ≠ row) : IsS69 w0 W1 g f0 f1 f2 f3 f4 f5 f6 f7 := by
 obtain ⟨A2, c2, A3, c3, A4, c4, A5, c5, A6, c6, A7, c7, hb, hg, hr2, hr3, hr4, hr5, hr6, hr7⟩ := h
 exact ⟨A2, c2, A3, c3, A4, c4, A5, c5, A6, c6, A7, c7, blk_grown hb hw hne, hg, hr2, hr3, hr4, hr5, hr6, hr7⟩
theorem IsS69.kept {w0 W : World} {g : Nat} {f0 : ByteArray} {f1 : ByteArray} {f2 : List ByteArray} {f3 : List ByteArray} {f4 : List Int} {f5 : List (List Int)} {f6 : List Int} {f7 : List ByteArray} {W1 : World} {S : Nat → Prop} (h : IsS69 w0 W g f0 f1 f2 f3 f4 f5 f6 f7) (hk : Kept W W1 S) (hne : ¬ S g) : IsS69 w0 W1 g f0 f1 f2 f3 f4 f5 f6 f7 := by
 obtain ⟨A2, c2, A3, c3, A4, c4, A5, c5, A6, c6, A7, c7, hb, hg, hr2, hr3, hr4, hr5, hr6, hr7⟩ := h
 exact ⟨A2, c2, A3, c3, A4, c4, A5, c5, A6, c6, A7, c7, blk_kept hb hk hne, hg, hr2, hr3, hr4, hr5, hr6, hr7⟩
theorem IsS69.below {w0 W : World} {g : Nat} {f0 : ByteArray} {f1 : ByteArray} {f2 : List ByteArray} {f3 : List ByteArray} {f4 : List Int} {f5 : List (List Int)} {f6 : List Int} {f7 : List ByteArray} {W1 : World} (h : IsS69 w0 W g f0 f1 f2 f3 f4 f5 f6 f7) (hw : Below W.heap.size W W1) : IsS69 w0 W1 g f0 f1 f2 f3 f4 f5 f6 f7 := h.grown (grown_of_below hw none) (by simp)
theorem IsS69.alloc {w0 W : World} {g : Nat} {f0 : ByteArray} {f1 : ByteArray} {f2 : List ByteArray} {f3 : List ByteArray} {f4 : List Int} {f5 : List (List Int)} {f6 : List Int} {f7 : List ByteArray} (h : IsS69 w0 W g f0 f1 f2 f3 f4 f5 f6 f7) (o : Obj) : IsS69 w0 (W.alloc o) g f0 f1 f2 f3 f4 f5 f6 f7 := h.below (below_alloc (Below.refl _ _) o)
theorem IsS69.drewN {w0 W : World} {g : Nat} {f0 : ByteArray} {f1 : ByteArray} {f2 : List ByteArray} {f3 : List ByteArray} {f4 : List Int} {f5 : List (List Int)} {f6 : List Int} {f7 : List ByteArray} (h : IsS69 w0 W g f0 f1 f2 f3 f4 f5 f6 f7) (m : Nat) : IsS69 w0 (W.drewN m) g f0 f1 f2 f3 f4 f5 f6 f7 := h
theorem IsS69.drew {w0 W : World} {g : Nat} {f0 : ByteArray} {f1 : ByteArray} {f2 : List ByteArray} {f3 : List ByteArray} {f4 : List Int} {f5 : List (List Int)} {f6 : List Int} {f7 : List ByteArray} (h : IsS69 w0 W g f0 f1 f2 f3 f4 f5 f6 f7) : IsS69 w0 W.drew g f0 f1 f2 f3 f4 f5 f6 f7 := h
theorem IsS69.at_ {w0 W : World} {g : Nat} {f0 : ByteArray} {f1 : ByteArray} {f2 : List ByteArray} {f3 : List ByteArray} {f4 : List Int} {f5 : List (List Int)} {f6 : List Int} {f7 : List ByteArray} {w' : World} {m : Nat} (hq : W.drewN m = w') (h : IsS69 w0 W g f0 f1 f2 f3 f4 f5 f6 f7) : IsS69 w0 w' g f0 f1 f2 f3 f4 f5 f6 f7 := by subst hq; exact IsS69.drewN h m
theorem IsS69.apart {w0 W : World} {g : Nat} {f0 : ByteArray} {f1 : ByteArray} {f2 : List ByteArray} {f3 : List ByteArray} {f4 : List Int} {f5 : List (List Int)} {f6 : List Int} {f7 : List ByteArray} {α : Type} {d : Kd α} {e : Nat} {base : Nat} {ok : Nat → Prop} {v : Value} {xs : List α} (h : IsS69 w0 W g f0 f1 f2 f3 f4 f5 f6 f7) (ho : d.R e W base ok v xs) (ht : ∀ q, q ∈ e :: d.E → q ≠ 69) : d.R e W base (fun k => ok k ∧ k ≠ g) v xs := by
 obtain ⟨A2, c2, A3, c3, A4, c4, A5, c5, A6, c6, A7, c7, hb, hg, hr2, hr3, hr4, hr5, hr6, hr7⟩ := h
 exact Kd.R_types ho hb ht
theorem IsS69.own_ne {w0 W : World} {g : Nat} {f0 : ByteArray} {f1 : ByteArray} {f2 : List ByteArray} {f3 : List ByteArray} {f4 : List Int} {f5 : List (List Int)} {f6 : List Int} {f7 : List ByteArray} {α : Type} {d : Kd α} {e : Nat} {base : Nat} {ok : Nat → Prop} {v : Value} {xs : List α} (h : IsS69 w0 W g f0 f1 f2 f3 f4 f5 f6 f7) (ho : d.R e W base ok v xs) (ht : e ≠ 69) : some g ≠ v.ownBlock := by
 obtain ⟨A2, c2, A3, c3, A4, c4, A5, c5, A6, c6, A7, c7, hb, hg, hr2, hr3, hr4, hr5, hr6, hr7⟩ := h
 exact Kd.R_ne ho hb ht
theorem IsS69.lt {w0 W : World} {g : Nat} {f0 : ByteArray} {f1 : ByteArray} {f2 : List ByteArray} {f3 : List ByteArray} {f4 : List Int} {f5 : List (List Int)} {f6 : List Int} {f7 : List ByteArray} (h : IsS69 w0 W g f0 f1 f2 f3 f4 f5 f6 f7) : g < W.heap.size := by
 obtain ⟨A2, c2, A3, c3, A4, c4, A5, c5, A6, c6, A7, c7, hb, hg, hr2, hr3, hr4, hr5, hr6, hr7⟩ := h
 exact blk_lt hb
theorem IsS69.ge {w0 W : World} {g : Nat} {f0 : ByteArray} {f1 : ByteArray} {f2 : List ByteArray} {f3 : List ByteArray} {f4 : List Int} {f5 : List (List Int)} {f6 : List Int} {f7 : List ByteArray} (h : IsS69 w0 W g f0 f1 f2 f3 f4 f5 f6 f7) : w0.heap.size ≤ g := by
 obtain ⟨A2, c2, A3, c3, A4, c4, A5, c5, A6, c6, A7, c7, hb, hg, hr2, hr3, hr4, hr5, hr6, hr7⟩ := h
 exact hg
theorem IsS69.far {w0 W : World} {g : Nat} {f0 : ByteArray} {f1 : ByteArray} {f2 : List ByteArray} {f3 : List ByteArray} {f4 : List Int} {f5 : List (List Int)} {f6 : List Int} {f7 : List ByteArray} {p : Addr} (h : IsS69 w0 W g f0 f1 f2 f3 f4 f5 f6 f7) (hne : g ≠ p.block) (u : Value) : IsS69 w0 (W.setCell p u) g f0 f1 f2 f3 f4 f5 f6 f7 := by
 obtain ⟨A2, c2, A3, c3, A4, c4, A5, c5, A6, c6, A7, c7, hb, hg, hr2, hr3, hr4, hr5, hr6, hr7⟩ := h
 exact ⟨A2, c2, A3, c3, A4, c4, A5, c5, A6, c6, A7, c7, blk_far hb hne u, hg, hr2, hr3, hr4, hr5, hr6, hr7⟩
theorem IsS69.new (w0 W : World) (A2 : Option Addr) (c2 : Nat) (A3 : Option Addr) (c3 : Nat) (A4 : Option Addr) (c4 : Nat) (A5 : Option Addr) (c5 : Nat) (A6 : Option Addr) (c6 : Nat) (A7 : Option Addr) (c7 : Nat) (f0 : ByteArray) (f1 : ByteArray) (f2 : List ByteArray) (f3 : List ByteArray) (f4 : List Int) (f5 : List (List Int)) (f6 : List Int) (f7 : List ByteArray) (hB : Below w0.heap.size w0 W) (hr2 : Kd.C Kd.string w0 A2 f2.length f2) (hr3 : Kd.C Kd.string w0 A3 f3.length f3) (hr4 : Kd.C (Kd.int .i16) w0 A4 f4.length f4) (hr5 : Kd.C (Kd.slice 3 (Kd.int .i64)) w0 A5 f5.length f5) (hr6 : Kd.C (Kd.int .i32) w0 A6 f6.length f6) (hr7 : Kd.C Kd.string w0 A7 f7.length f7) : IsS69 w0 (W.alloc (.cells #[.string f0, .string f1, .slice A2 f2.length c2, .slice A3 f3.length c3, .slice A4 f4.length c4, .slice A5 f5.length c5, .slice A6 f6.length c6, .slice A7 f7.length c7] 69)) W.heap.size f0 f1 f2 f3 f4 f5 f6 f7 := ⟨A2, c2, A3, c3, A4, c4, A5, c5, A6, c6, A7, c7, by simpa using heap_alloc_new W _, hB.size, hr2, hr3, hr4, hr5, hr6, hr7⟩
end Go.Proofs.YtoopmpjgmgffoaaDoor.GFnTransformBack
