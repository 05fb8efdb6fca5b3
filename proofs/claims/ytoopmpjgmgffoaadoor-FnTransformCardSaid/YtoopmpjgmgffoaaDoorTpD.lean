/- A walk of Go functions (plain functions of theirs, and that the machine's calls do what these say), written by a program of this session's. -/
import Derived.Test.YtoopmpjgmgffoaaDoorTpC
namespace Go.Proofs.YtoopmpjgmgffoaaDoor.GFnTransformBack
open Go.RowKit Go.Proofs.YtoopmpjgmgffoaaDoorW.PrintWords Go.Proofs.YtoopmpjgmgffoaaDoorW.PrintLast Go.Proofs.YtoopmpjgmgffoaaDoorW.PrintMore
set_option linter.unusedVariables false
set_option linter.unusedSimpArgs false
def spec_Digits.l0 : Nat → Int → ByteArray → Option (ByteArray)
 | 0, _, _ => none
 | k + 1, x0, x3 => if x0 ≥ 10 then ((some (([(wrap64 (48 + (Int.tmod (wrap64 (Int.tdiv x0 10)) 10))) % 256] : List Int) : List Int)).bind fun y261 => (if (strOfNums y261).size + x3.size ≤ 9223372036854775807 then (spec_Digits.l0 k (wrap64 (Int.tdiv x0 10)) ((strOfNums y261) ++ x3)) else (none))) else (some x3)
def spec_Digits.f (k : Nat) (a0 : Int) : Option (ByteArray) := spec_Digits.l0 k a0 (strOfNums (([(wrap64 (48 + (Int.tmod a0 10))) % 256] : List Int)))
set_option maxHeartbeats 8000000 in
set_option maxRecDepth 100000 in
theorem spec_Digits.calls (k : Nat) (a0 : Int) (r : ByteArray) (w : World) (h : spec_Digits.f k a0 = some r) :
  Calls Tryd.prog 34 #[.int .i64 a0] w fun e w' => e = .returned (.string r) ∧ Below w.heap.size w w' := by
 have HB := Aside0.mk (Below.refl w.heap.size w)
 have H : (spec_Digits.l0 k a0 (strOfNums (([(wrap64 (48 + (Int.tmod a0 10))) % 256] : List Int)))) = some r := h
 clear h
 obtain ⟨y258, hy258⟩ : ∃ y_ : List Int, y_ = (([(wrap64 (48 + (Int.tmod a0 10))) % 256] : List Int)) := ⟨_, rfl⟩
 replace H : (spec_Digits.l0 k a0 (strOfNums y258)) = some r := by first | (rw [hy258]; with_reducible exact H) | (have H2_ := (Option.bind_some _ _).symm.trans H; rw [hy258]; with_reducible exact H2_) | (have H2_ := (Option.bind_some _ _).symm.trans H; with_reducible exact H2_) | with_reducible exact H | (rw [hy258]; exact H) | exact H
 have Ny258 := Aside0.mk hy258
 clear hy258
 have H' := Aside0.mk H
 clear H
 go_enter Tryd.func34, Tryd.ntmps34
 go_wp2_with (first | ((with_reducible refine gate_dst (N := 8) rfl ?_); refine Kd.R_lit (Kd.int .u8) _ 5 ?hg (N := 8) ?hd (xs := ([(wrap64 (48 + (Int.tmod a0 10))) % 256] : List Int)) (inner := [.int .u8 ((wrap64 (48 + (Int.tmod a0 10))) % 256)]) (ok := fun _ => True) (okp := fun _ => True) ?hr ?hp (fun _ hk => hk) trivial (Below.refl _ _) (Nat.le_refl _) (by simp) ?_; (case hd => rfl); (case hg => rfl); (case hr => first | (go_simp; done) | (go_simp; rfl)); (case hp => exact (Reps.one (show Kd.M (Kd.int .u8) _ _ _ ((wrap64 (48 + (Int.tmod a0 10))) % 256) [.int .u8 ((wrap64 (48 + (Int.tmod a0 10))) % 256)] from rfl) (Reps.none _ _))); intro v259 w2 ho3 hb hg_ hnew_; clear hg_ hnew_; (first | rw [← Ny258.out] at ho3 | (simp only [Int.reduceToNat] at ho3; rw [← Ny258.out] at ho3)); have n0_ := Aside0.mk (Kd.R_lower ho3 (below_size (by repeat (first | (with_reducible first | exact HB.out | apply below_alloc | apply pw_below_drewN | apply below_drew1) | exact HB.out)))); have n1_ := Aside0.mk (below_step (by repeat (first | (with_reducible first | exact HB.out | apply below_alloc | apply pw_below_drewN | apply below_drew1) | exact HB.out)) hb); clear HB; have HO260 := n0_; have HB := n1_; clear n0_ n1_; clear hb ho3; have hcv4 := own_string (P := Tryd.prog) Tryd.underlying76 Tryd.underlying5 Tryd.underlying9 (Kd.own_of_R HO260.out)))
 go_loopg [0, 3] k (fun kq v0 v3 w' => ∃ (x0_1 : Int) (x3_1 : ByteArray), v0 = .int .i64 x0_1 ∧ v3 = .string x3_1 ∧ Aside0 (spec_Digits.l0 kq x0_1 x3_1 = some r) ∧ Aside0 (kq ≤ k) ∧ Aside0 (Below w.heap.size w w'))
 case atStart => exact ⟨(a0), (strOfNums y258), (by first | rfl | (simp; done) | (simp [*]; done)), (by first | rfl | (simp; done) | (simp [*]; done)), H', ⟨Nat.le_refl _⟩, ⟨by repeat (first | (with_reducible first | exact HB.out | apply below_alloc | apply pw_below_drewN | apply below_drew1) | exact HB.out)⟩⟩
 case round =>
  clear H'
  try clear p2
  try clear c3
  try clear hcv4
  obtain ⟨x0_1, x3_1, rfl, rfl, HA, HK1, HB⟩ := hrel
  cases gk with
  | zero => exact absurd HA.out (by simp [spec_Digits.l0])
  | succ k1 =>
   have H := HA.out
   clear HA
   simp only [spec_Digits.l0] at H
   by_cases c5 : x0_1 ≥ 10
   ·
    rw [if_pos c5] at H
    have c5b0 : decide (10 ≤ x0_1) = true := decide_eq_true c5
    clear c5
    obtain ⟨y261, hy261⟩ : ∃ y_ : List Int, y_ = (([(wrap64 (48 + (Int.tmod (wrap64 (Int.tdiv x0_1 10)) 10))) % 256] : List Int)) := ⟨_, rfl⟩
    replace H : (if (strOfNums y261).size + x3_1.size ≤ 9223372036854775807 then (spec_Digits.l0 k1 (wrap64 (Int.tdiv x0_1 10)) ((strOfNums y261) ++ x3_1)) else (none)) = some r := by first | (rw [hy261]; with_reducible exact H) | (have H2_ := (Option.bind_some _ _).symm.trans H; rw [hy261]; with_reducible exact H2_) | (have H2_ := (Option.bind_some _ _).symm.trans H; with_reducible exact H2_) | with_reducible exact H | (rw [hy261]; exact H) | exact H
    have Ny261 := Aside0.mk hy261
    clear hy261
    by_cases c6 : (strOfNums y261).size + x3_1.size ≤ 9223372036854775807
    ·
     rw [if_pos c6] at H
     have c6b0 := eq_true c6
     have c6b1 : decide ((strOfNums y261).size + x3_1.size ≤ 9223372036854775807) = true := decide_eq_true c6
     try have c6b2 : (9223372036854775807 < (strOfNums y261).size + x3_1.size) = False := eq_false (Nat.not_lt.2 c6)
     have H' := Aside0.mk H
     clear H
     go_wp2_with (first | ((with_reducible refine gate_dst (N := 18) rfl ?_); refine Kd.R_lit (Kd.int .u8) _ 5 ?hg (N := 18) ?hd (xs := ([(wrap64 (48 + (Int.tmod (wrap64 (Int.tdiv x0_1 10)) 10))) % 256] : List Int)) (inner := [.int .u8 ((wrap64 (48 + (Int.tmod (wrap64 (Int.tdiv x0_1 10)) 10))) % 256)]) (ok := fun _ => True) (okp := fun _ => True) ?hr ?hp (fun _ hk => hk) trivial (Below.refl _ _) (Nat.le_refl _) (by simp) ?_; (case hd => rfl); (case hg => rfl); (case hr => first | (go_simp; done) | (go_simp; rfl)); (case hp => exact (Reps.one (show Kd.M (Kd.int .u8) _ _ _ ((wrap64 (48 + (Int.tmod (wrap64 (Int.tdiv x0_1 10)) 10))) % 256) [.int .u8 ((wrap64 (48 + (Int.tmod (wrap64 (Int.tdiv x0_1 10)) 10))) % 256)] from rfl) (Reps.none _ _))); intro v262 w7 ho8 hb hg_ hnew_; clear hg_ hnew_; (first | rw [← Ny261.out] at ho8 | (simp only [Int.reduceToNat] at ho8; rw [← Ny261.out] at ho8)); have n0_ := Aside0.mk (Kd.R_lower ho8 (below_size (by repeat (first | (with_reducible first | exact HB.out | apply below_alloc | apply pw_below_drewN | apply below_drew1) | exact HB.out)))); have n1_ := Aside0.mk (below_step (by repeat (first | (with_reducible first | exact HB.out | apply below_alloc | apply pw_below_drewN | apply below_drew1) | exact HB.out)) hb); clear HB; have HO263 := n0_; have HB := n1_; clear n0_ n1_; clear hb ho8; have hcv9 := own_string (P := Tryd.prog) Tryd.underlying76 Tryd.underlying5 Tryd.underlying9 (Kd.own_of_R HO263.out)))
     go_roundg k1
     case measure => have := HK1.out; omega
     case rel => exact ⟨(wrap64 (Int.tdiv x0_1 10)), ((strOfNums y261) ++ x3_1), (by first | rfl | (simp; done) | (simp [*]; done)), (by first | rfl | (simp; done) | (simp [*]; done)), H', ⟨by have := HK1.out; omega⟩, ⟨by repeat (first | (with_reducible first | exact HB.out | apply below_alloc | apply pw_below_drewN | apply below_drew1) | exact HB.out)⟩⟩
    rw [if_neg c6] at H
    exact absurd H (by simp)
   rw [if_neg c5] at H
   have c5b0 : decide (10 ≤ x0_1) = false := decide_eq_false c5
   clear c5
   obtain rfl := Option.some.inj H
   go_wp2
   go_ret
   exact ⟨by first | rfl | (simp [errW_none, errW_some] <;> rfl) | (simp [*, errW_none, errW_some] <;> rfl), by repeat (first | (with_reducible first | exact HB.out | apply below_alloc | apply pw_below_drewN | apply below_drew1) | exact HB.out)⟩
def spec_name.f (a0 : Int) : Option (ByteArray) := if a0 = 2 then (some (⟨#[119, 105, 108, 100, 99, 97, 114, 100]⟩ : ByteArray)) else (if a0 = 3 then (some (⟨#[115, 112, 108, 105, 116]⟩ : ByteArray)) else (if a0 = 4 then (some (⟨#[115, 112, 108, 105, 116, 102, 114, 111, 109, 108, 101, 102, 116]⟩ : ByteArray)) else (if a0 = 5 then (some (⟨#[115, 112, 108, 105, 116, 102, 114, 111, 109, 114, 105, 103, 104, 116]⟩ : ByteArray)) else (if a0 = 6 then (some (⟨#[115, 108, 105, 99, 101, 102, 114, 111, 109, 108, 101, 102, 116]⟩ : ByteArray)) else (if a0 = 7 then (some (⟨#[115, 108, 105, 99, 101, 102, 114, 111, 109, 114, 105, 103, 104, 116]⟩ : ByteArray)) else (if a0 = 8 then (some (⟨#[108, 101, 102, 116]⟩ : ByteArray)) else (if a0 = 9 then (some (⟨#[114, 105, 103, 104, 116]⟩ : ByteArray)) else (some (⟨#[112, 97, 114, 116, 105, 116, 105, 111, 110]⟩ : ByteArray)))))))))
set_option maxHeartbeats 8000000 in
set_option maxRecDepth 100000 in
theorem spec_name.calls (a0 : Int) (r : ByteArray) (w : World) (h : spec_name.f a0 = some r) :
  Calls Tryd.prog 68 #[.int .i64 a0] w fun e w' => e = .returned (.string r) ∧ Drawn0 w w' := by
 have H : (if a0 = 2 then (some (⟨#[119, 105, 108, 100, 99, 97, 114, 100]⟩ : ByteArray)) else (if a0 = 3 then (some (⟨#[115, 112, 108, 105, 116]⟩ : ByteArray)) else (if a0 = 4 then (some (⟨#[115, 112, 108, 105, 116, 102, 114, 111, 109, 108, 101, 102, 116]⟩ : ByteArray)) else (if a0 = 5 then (some (⟨#[115, 112, 108, 105, 116, 102, 114, 111, 109, 114, 105, 103, 104, 116]⟩ : ByteArray)) else (if a0 = 6 then (some (⟨#[115, 108, 105, 99, 101, 102, 114, 111, 109, 108, 101, 102, 116]⟩ : ByteArray)) else (if a0 = 7 then (some (⟨#[115, 108, 105, 99, 101, 102, 114, 111, 109, 114, 105, 103, 104, 116]⟩ : ByteArray)) else (if a0 = 8 then (some (⟨#[108, 101, 102, 116]⟩ : ByteArray)) else (if a0 = 9 then (some (⟨#[114, 105, 103, 104, 116]⟩ : ByteArray)) else (some (⟨#[112, 97, 114, 116, 105, 116, 105, 111, 110]⟩ : ByteArray)))))))))) = some r := h
 clear h
 by_cases c2 : a0 = 2
 ·
  rw [if_pos c2] at H
  have c2b0 : (a0 == 2) = true := beq_iff_eq.mpr c2
  have c2b1 : (a0 != 2) = false := bne_eq_false_iff_eq.mpr c2
  clear c2
  obtain rfl := Option.some.inj H
  go_enter Tryd.func68, Tryd.ntmps68
  go_wp2
  go_ret
  exact ⟨by first | rfl | (simp; done) | (simp [*]; done) | (simp; cases a0.toList <;> rfl) , by repeat (first | exact Drawn0.refl _ | apply Drawn0.step)⟩
 rw [if_neg c2] at H
 have c2b0 : (a0 == 2) = false := beq_eq_false_iff_ne.mpr c2
 have c2b1 : (a0 != 2) = true := bne_iff_ne.mpr c2
 by_cases c3 : a0 = 3
 ·
  rw [if_pos c3] at H
  have c3b0 : (a0 == 3) = true := beq_iff_eq.mpr c3
  have c3b1 : (a0 != 3) = false := bne_eq_false_iff_eq.mpr c3
  clear c3
  obtain rfl := Option.some.inj H
  go_enter Tryd.func68, Tryd.ntmps68
  go_wp2
  go_ret
  exact ⟨by first | rfl | (simp; done) | (simp [*]; done) | (simp; cases a0.toList <;> rfl) , by repeat (first | exact Drawn0.refl _ | apply Drawn0.step)⟩
 rw [if_neg c3] at H
 have c3b0 : (a0 == 3) = false := beq_eq_false_iff_ne.mpr c3
 have c3b1 : (a0 != 3) = true := bne_iff_ne.mpr c3
 by_cases c4 : a0 = 4
 ·
  rw [if_pos c4] at H
  have c4b0 : (a0 == 4) = true := beq_iff_eq.mpr c4
  have c4b1 : (a0 != 4) = false := bne_eq_false_iff_eq.mpr c4
  clear c4
  obtain rfl := Option.some.inj H
  go_enter Tryd.func68, Tryd.ntmps68
  go_wp2
  go_ret
  exact ⟨by first | rfl | (simp; done) | (simp [*]; done) | (simp; cases a0.toList <;> rfl) , by repeat (first | exact Drawn0.refl _ | apply Drawn0.step)⟩
 rw [if_neg c4] at H
 have c4b0 : (a0 == 4) = false := beq_eq_false_iff_ne.mpr c4
 have c4b1 : (a0 != 4) = true := bne_iff_ne.mpr c4
 by_cases c5 : a0 = 5
 ·
  rw [if_pos c5] at H
  have c5b0 : (a0 == 5) = true := beq_iff_eq.mpr c5
  have c5b1 : (a0 != 5) = false := bne_eq_false_iff_eq.mpr c5
  clear c5
  obtain rfl := Option.some.inj H
  go_enter Tryd.func68, Tryd.ntmps68
  go_wp2
  go_ret
  exact ⟨by first | rfl | (simp; done) | (simp [*]; done) | (simp; cases a0.toList <;> rfl) , by repeat (first | exact Drawn0.refl _ | apply Drawn0.step)⟩
 rw [if_neg c5] at H
 have c5b0 : (a0 == 5) = false := beq_eq_false_iff_ne.mpr c5
 have c5b1 : (a0 != 5) = true := bne_iff_ne.mpr c5
 by_cases c6 : a0 = 6
 ·
  rw [if_pos c6] at H
  have c6b0 : (a0 == 6) = true := beq_iff_eq.mpr c6
  have c6b1 : (a0 != 6) = false := bne_eq_false_iff_eq.mpr c6
  clear c6
  obtain rfl := Option.some.inj H
  go_enter Tryd.func68, Tryd.ntmps68
  go_wp2
  go_ret
  exact ⟨by first | rfl | (simp; done) | (simp [*]; done) | (simp; cases a0.toList <;> rfl) , by repeat (first | exact Drawn0.refl _ | apply Drawn0.step)⟩
 rw [if_neg c6] at H
 have c6b0 : (a0 == 6) = false := beq_eq_false_iff_ne.mpr c6
 have c6b1 : (a0 != 6) = true := bne_iff_ne.mpr c6
 by_cases c7 : a0 = 7
 ·
  rw [if_pos c7] at H
  have c7b0 : (a0 == 7) = true := beq_iff_eq.mpr c7
  have c7b1 : (a0 != 7) = false := bne_eq_false_iff_eq.mpr c7
  clear c7
  obtain rfl := Option.some.inj H
  go_enter Tryd.func68, Tryd.ntmps68
  go_wp2
  go_ret
  exact ⟨by first | rfl | (simp; done) | (simp [*]; done) | (simp; cases a0.toList <;> rfl) , by repeat (first | exact Drawn0.refl _ | apply Drawn0.step)⟩
 rw [if_neg c7] at H
 have c7b0 : (a0 == 7) = false := beq_eq_false_iff_ne.mpr c7
 have c7b1 : (a0 != 7) = true := bne_iff_ne.mpr c7
 by_cases c8 : a0 = 8
 ·
  rw [if_pos c8] at H
  have c8b0 : (a0 == 8) = true := beq_iff_eq.mpr c8
  have c8b1 : (a0 != 8) = false := bne_eq_false_iff_eq.mpr c8
  clear c8
  obtain rfl := Option.some.inj H
  go_enter Tryd.func68, Tryd.ntmps68
  go_wp2
  go_ret
  exact ⟨by first | rfl | (simp; done) | (simp [*]; done) | (simp; cases a0.toList <;> rfl) , by repeat (first | exact Drawn0.refl _ | apply Drawn0.step)⟩
 rw [if_neg c8] at H
 have c8b0 : (a0 == 8) = false := beq_eq_false_iff_ne.mpr c8
 have c8b1 : (a0 != 8) = true := bne_iff_ne.mpr c8
 by_cases c9 : a0 = 9
 ·
  rw [if_pos c9] at H
  have c9b0 : (a0 == 9) = true := beq_iff_eq.mpr c9
  have c9b1 : (a0 != 9) = false := bne_eq_false_iff_eq.mpr c9
  clear c9
  obtain rfl := Option.some.inj H
  go_enter Tryd.func68, Tryd.ntmps68
  go_wp2
  go_ret
  exact ⟨by first | rfl | (simp; done) | (simp [*]; done) | (simp; cases a0.toList <;> rfl) , by repeat (first | exact Drawn0.refl _ | apply Drawn0.step)⟩
 rw [if_neg c9] at H
 have c9b0 : (a0 == 9) = false := beq_eq_false_iff_ne.mpr c9
 have c9b1 : (a0 != 9) = true := bne_iff_ne.mpr c9
 obtain rfl := Option.some.inj H
 go_enter Tryd.func68, Tryd.ntmps68
 go_wp2
 go_ret
 exact ⟨by first | rfl | (simp; done) | (simp [*]; done) | (simp; cases a0.toList <;> rfl) , by repeat (first | exact Drawn0.refl _ | apply Drawn0.step)⟩
def spec_text.l0 : Nat → ByteArray → Int → Int → ByteArray → Int → Int → List Int → Option (ByteArray)
 | 0, _, _, _, _, _, _, _ => none
 | k + 1, x3, x4, x265000, x265001, x265002, x265003, x265004 => if x4 < (x265004.length : Int) then (if 0 ≤ x4 then ((spec_Digits.f k (rd x265004 x4)).bind fun t270 => (if 1 + t270.size ≤ 9223372036854775807 then (if x3.size + ((⟨#[44]⟩ : ByteArray) ++ t270).size ≤ 9223372036854775807 then (spec_text.l0 k (x3 ++ ((⟨#[44]⟩ : ByteArray) ++ t270)) (wrap64 (x4 + 1)) x265000 x265001 x265002 x265003 x265004) else (none)) else (none))) else (none)) else (if x3.size + 3 ≤ 9223372036854775807 then (some (x3 ++ (⟨#[41, 125, 125]⟩ : ByteArray))) else (none))
def spec_text.f (k : Nat) (a0_0 : Int) (a0_1 : ByteArray) (a0_2 : Int) (a0_3 : Int) (l0_4 : List Int) : Option (ByteArray) := if a0_0 = 0 then (some a0_1) else (if a0_0 = 1 then ((spec_Digits.f k a0_2).bind fun t265 => (if 1 + t265.size ≤ 9223372036854775807 then (some ((⟨#[36]⟩ : ByteArray) ++ t265)) else (none))) else (if a0_0 = 11 then (some (⟨#[62]⟩ : ByteArray)) else (if a0_0 = 2 then ((spec_Digits.f k a0_2).bind fun t266 => (if 11 + t266.size ≤ 9223372036854775807 then (if ((⟨#[123, 123, 119, 105, 108, 100, 99, 97, 114, 100, 40]⟩ : ByteArray) ++ t266).size + 3 ≤ 9223372036854775807 then (some (((⟨#[123, 123, 119, 105, 108, 100, 99, 97, 114, 100, 40]⟩ : ByteArray) ++ t266) ++ (⟨#[41, 125, 125]⟩ : ByteArray))) else (none)) else (none))) else (if a0_0 = 3 then ((spec_Digits.f k a0_2).bind fun t267 => (if 8 + t267.size ≤ 9223372036854775807 then (if ((⟨#[123, 123, 115, 112, 108, 105, 116, 40]⟩ : ByteArray) ++ t267).size + 1 ≤ 9223372036854775807 then (if (((⟨#[123, 123, 115, 112, 108, 105, 116, 40]⟩ : ByteArray) ++ t267) ++ (⟨#[44]⟩ : ByteArray)).size + a0_1.size ≤ 9223372036854775807 then (if ((((⟨#[123, 123, 115, 112, 108, 105, 116, 40]⟩ : ByteArray) ++ t267) ++ (⟨#[44]⟩ : ByteArray)) ++ a0_1).size + 3 ≤ 9223372036854775807 then (some (((((⟨#[123, 123, 115, 112, 108, 105, 116, 40]⟩ : ByteArray) ++ t267) ++ (⟨#[44]⟩ : ByteArray)) ++ a0_1) ++ (⟨#[41, 125, 125]⟩ : ByteArray))) else (none)) else (none)) else (none)) else (none))) else (if a0_0 = 10 then ((spec_Digits.f k a0_3).bind fun t268 => (if 12 + t268.size ≤ 9223372036854775807 then (spec_text.l0 k ((⟨#[123, 123, 112, 97, 114, 116, 105, 116, 105, 111, 110, 40]⟩ : ByteArray) ++ t268) 0 a0_0 a0_1 a0_2 a0_3 l0_4) else (none))) else ((spec_name.f a0_0).bind fun t271 => (if 2 + t271.size ≤ 9223372036854775807 then (if ((⟨#[123, 123]⟩ : ByteArray) ++ t271).size + 1 ≤ 9223372036854775807 then ((spec_Digits.f k a0_2).bind fun t272 => (if (((⟨#[123, 123]⟩ : ByteArray) ++ t271) ++ (⟨#[40]⟩ : ByteArray)).size + t272.size ≤ 9223372036854775807 then (if ((((⟨#[123, 123]⟩ : ByteArray) ++ t271) ++ (⟨#[40]⟩ : ByteArray)) ++ t272).size + 1 ≤ 9223372036854775807 then ((spec_Digits.f k a0_3).bind fun t273 => (if (((((⟨#[123, 123]⟩ : ByteArray) ++ t271) ++ (⟨#[40]⟩ : ByteArray)) ++ t272) ++ (⟨#[44]⟩ : ByteArray)).size + t273.size ≤ 9223372036854775807 then (if ((((((⟨#[123, 123]⟩ : ByteArray) ++ t271) ++ (⟨#[40]⟩ : ByteArray)) ++ t272) ++ (⟨#[44]⟩ : ByteArray)) ++ t273).size + 3 ≤ 9223372036854775807 then (some (((((((⟨#[123, 123]⟩ : ByteArray) ++ t271) ++ (⟨#[40]⟩ : ByteArray)) ++ t272) ++ (⟨#[44]⟩ : ByteArray)) ++ t273) ++ (⟨#[41, 125, 125]⟩ : ByteArray))) else (none)) else (none))) else (none)) else (none))) else (none)) else (none))))))))
def spec_text.T11 : Bool × List (List Nat × List Nat) := (true, [([], []), ([0], [0]), ([1], [1]), ([2], [2]), ([3], [3]), ([], []), ([5], [5]), ([4, 6], [4, 6]), ([7], [7]), ([8, 2, 0, 1, 2, 3, 4, 5, 6, 7, 8], [8])])
def spec_text.B11 : List Nat := [0, 1, 3, 7, 15, 0, 32, 127, 255, 511]
theorem spec_text.tab11 : rtab .any (opsOf Tryd.f51 11) = spec_text.T11 := by kernel_rfl
theorem spec_text.bits11 : waitsOk spec_text.T11.2 spec_text.B11 = true := by kernel_rfl
def spec_text.T19 : Bool × List (List Nat × List Nat) := (true, [([], []), ([0], [0]), ([1], [1]), ([2], [2]), ([3], [3]), ([], []), ([5], [5]), ([6, 2], [6]), ([4, 7], [4, 7]), ([8], [8]), ([], []), ([10], [10]), ([11, 7], [11]), ([9, 12], [9, 12]), ([13], [13]), ([14, 12, 0, 1, 2, 3, 4, 5, 6, 7, 8, 9, 10, 11, 12, 13, 14], [14])])
def spec_text.B19 : List Nat := [0, 1, 3, 7, 15, 0, 32, 103, 255, 511, 0, 1024, 3303, 8191, 16383, 32767]
theorem spec_text.tab19 : rtab .any (opsOf Tryd.f51 19) = spec_text.T19 := by kernel_rfl
theorem spec_text.bits19 : waitsOk spec_text.T19.2 spec_text.B19 = true := by kernel_rfl
set_option maxHeartbeats 8000000 in
set_option maxRecDepth 100000 in
theorem spec_text.calls (k : Nat) (a0_0 : Int) (a0_1 : ByteArray) (a0_2 : Int) (a0_3 : Int) (A0_4 : Option Addr) (c0_4 : Nat) (l0_4 : List Int) (r : ByteArray) (w : World) (hr0_4 : Kd.C (Kd.int .i64) w A0_4 l0_4.length l0_4) (hc0_4 : l0_4.length ≤ c0_4) (h : spec_text.f k a0_0 a0_1 a0_2 a0_3 l0_4 = some r) :
  Calls Tryd.prog 51 #[.agg #[.int .i64 a0_0, .string a0_1, .int .i64 a0_2, .int .i64 a0_3, .slice A0_4 l0_4.length c0_4]] w fun e w' => e = .returned (.string r) ∧ Below w.heap.size w w' := by
 have hu42 := Tryd.underlying42
 have HR0_4 := Aside0.mk hr0_4
 have HC0_4 := Aside0.mk hc0_4
 clear hr0_4 hc0_4
 have HB := Aside0.mk (Below.refl w.heap.size w)
 have H : (if a0_0 = 0 then (some a0_1) else (if a0_0 = 1 then ((spec_Digits.f k a0_2).bind fun t265 => (if 1 + t265.size ≤ 9223372036854775807 then (some ((⟨#[36]⟩ : ByteArray) ++ t265)) else (none))) else (if a0_0 = 11 then (some (⟨#[62]⟩ : ByteArray)) else (if a0_0 = 2 then ((spec_Digits.f k a0_2).bind fun t266 => (if 11 + t266.size ≤ 9223372036854775807 then (if ((⟨#[123, 123, 119, 105, 108, 100, 99, 97, 114, 100, 40]⟩ : ByteArray) ++ t266).size + 3 ≤ 9223372036854775807 then (some (((⟨#[123, 123, 119, 105, 108, 100, 99, 97, 114, 100, 40]⟩ : ByteArray) ++ t266) ++ (⟨#[41, 125, 125]⟩ : ByteArray))) else (none)) else (none))) else (if a0_0 = 3 then ((spec_Digits.f k a0_2).bind fun t267 => (if 8 + t267.size ≤ 9223372036854775807 then (if ((⟨#[123, 123, 115, 112, 108, 105, 116, 40]⟩ : ByteArray) ++ t267).size + 1 ≤ 9223372036854775807 then (if (((⟨#[123, 123, 115, 112, 108, 105, 116, 40]⟩ : ByteArray) ++ t267) ++ (⟨#[44]⟩ : ByteArray)).size + a0_1.size ≤ 9223372036854775807 then (if ((((⟨#[123, 123, 115, 112, 108, 105, 116, 40]⟩ : ByteArray) ++ t267) ++ (⟨#[44]⟩ : ByteArray)) ++ a0_1).size + 3 ≤ 9223372036854775807 then (some (((((⟨#[123, 123, 115, 112, 108, 105, 116, 40]⟩ : ByteArray) ++ t267) ++ (⟨#[44]⟩ : ByteArray)) ++ a0_1) ++ (⟨#[41, 125, 125]⟩ : ByteArray))) else (none)) else (none)) else (none)) else (none))) else (if a0_0 = 10 then ((spec_Digits.f k a0_3).bind fun t268 => (if 12 + t268.size ≤ 9223372036854775807 then (spec_text.l0 k ((⟨#[123, 123, 112, 97, 114, 116, 105, 116, 105, 111, 110, 40]⟩ : ByteArray) ++ t268) 0 a0_0 a0_1 a0_2 a0_3 l0_4) else (none))) else ((spec_name.f a0_0).bind fun t271 => (if 2 + t271.size ≤ 9223372036854775807 then (if ((⟨#[123, 123]⟩ : ByteArray) ++ t271).size + 1 ≤ 9223372036854775807 then ((spec_Digits.f k a0_2).bind fun t272 => (if (((⟨#[123, 123]⟩ : ByteArray) ++ t271) ++ (⟨#[40]⟩ : ByteArray)).size + t272.size ≤ 9223372036854775807 then (if ((((⟨#[123, 123]⟩ : ByteArray) ++ t271) ++ (⟨#[40]⟩ : ByteArray)) ++ t272).size + 1 ≤ 9223372036854775807 then ((spec_Digits.f k a0_3).bind fun t273 => (if (((((⟨#[123, 123]⟩ : ByteArray) ++ t271) ++ (⟨#[40]⟩ : ByteArray)) ++ t272) ++ (⟨#[44]⟩ : ByteArray)).size + t273.size ≤ 9223372036854775807 then (if ((((((⟨#[123, 123]⟩ : ByteArray) ++ t271) ++ (⟨#[40]⟩ : ByteArray)) ++ t272) ++ (⟨#[44]⟩ : ByteArray)) ++ t273).size + 3 ≤ 9223372036854775807 then (some (((((((⟨#[123, 123]⟩ : ByteArray) ++ t271) ++ (⟨#[40]⟩ : ByteArray)) ++ t272) ++ (⟨#[44]⟩ : ByteArray)) ++ t273) ++ (⟨#[41, 125, 125]⟩ : ByteArray))) else (none)) else (none))) else (none)) else (none))) else (none)) else (none))))))))) = some r := h
 clear h
 by_cases c2 : a0_0 = 0
 ·
  rw [if_pos c2] at H
  have c2b0 : (a0_0 == 0) = true := beq_iff_eq.mpr c2
  have c2b1 : (a0_0 != 0) = false := bne_eq_false_iff_eq.mpr c2
  clear c2
  obtain rfl := Option.some.inj H
  go_enter Tryd.func51, Tryd.ntmps51
  go_wp2_with (first | ((with_reducible refine gate_dst (N := 1) rfl ?_); refine box_event ?hg (N := 1) ?hd (cs := #[.int .i64 a0_0, .string a0_1, .int .i64 a0_2, .int .i64 a0_3, .slice A0_4 l0_4.length c0_4]) (t := 42) ?hr ?_; (case hd => rfl); (case hg => rfl); (case hr => first | (go_simp; done) | (go_simp; rfl)); intro gb264 hg w3 hbox hb; have n0_ := Aside0.mk (below_step (by repeat (first | (with_reducible first | exact HB.out | apply below_alloc | apply pw_below_drewN | apply below_drew1) | exact HB.out)) hb); have n1_ := Aside0.mk (hbox); have n2_ := Aside0.mk ((by rw [hg]; exact (below_size (by repeat (first | (with_reducible first | exact HB.out | apply below_alloc | apply pw_below_drewN | apply below_drew1) | exact HB.out))) : w.heap.size ≤ gb264)); have n3_ := Aside0.mk ((by rw [hg]; exact (below_size (by repeat (first | (with_reducible first | exact HB.out | apply below_alloc | apply pw_below_drewN | apply below_drew1) | exact HB.out))) : w.heap.size ≤ gb264)); clear HB; have HB := n0_; have BK264 := n1_; have GW264 := n2_; have GE264 := n3_; clear n0_ n1_ n2_ n3_; clear hb hbox hg; have hcz4_0 : w3.cell? ⟨gb264, 0, none⟩ = some (.int .i64 a0_0) := (blk_cell BK264.out 0).trans rfl; have hcz4_1 : w3.cell? ⟨gb264, 1, none⟩ = some (.string a0_1) := (blk_cell BK264.out 1).trans rfl; have hcz4_2 : w3.cell? ⟨gb264, 2, none⟩ = some (.int .i64 a0_2) := (blk_cell BK264.out 2).trans rfl; have hcz4_3 : w3.cell? ⟨gb264, 3, none⟩ = some (.int .i64 a0_3) := (blk_cell BK264.out 3).trans rfl; have hcz4_4 : w3.cell? ⟨gb264, 4, none⟩ = some (.slice A0_4 l0_4.length c0_4) := (blk_cell BK264.out 4).trans rfl; have hfz4_0 := blk_frozen BK264.out 0; have hfz4_1 := blk_frozen BK264.out 1; have hfz4_2 := blk_frozen BK264.out 2; have hfz4_3 := blk_frozen BK264.out 3; have hfz4_4 := blk_frozen BK264.out 4))
  go_ret
  exact ⟨by first | rfl | (simp [errW_none, errW_some] <;> rfl) | (simp [*, errW_none, errW_some] <;> rfl), by repeat (first | (with_reducible first | exact HB.out | apply below_alloc | apply pw_below_drewN | apply below_drew1 | refine below_set ?_ GE264.out) | exact HB.out)⟩
 rw [if_neg c2] at H
 have c2b0 : (a0_0 == 0) = false := beq_eq_false_iff_ne.mpr c2
 have c2b1 : (a0_0 != 0) = true := bne_iff_ne.mpr c2
 by_cases c5 : a0_0 = 1
 ·
  rw [if_pos c5] at H
  have c5b0 : (a0_0 == 1) = true := beq_iff_eq.mpr c5
  have c5b1 : (a0_0 != 1) = false := bne_eq_false_iff_eq.mpr c5
  clear c5
  replace H := Option.bind_eq_some_iff.mp H
  obtain ⟨t265, A60, H⟩ := H
  replace H : (if 1 + t265.size ≤ 9223372036854775807 then (some ((⟨#[36]⟩ : ByteArray) ++ t265)) else (none)) = some r := H
  have A6 := Aside0.mk A60
  clear A60
  by_cases c7 : 1 + t265.size ≤ 9223372036854775807
  ·
   rw [if_pos c7] at H
   have c7b0 := eq_true c7
   have c7b1 : decide (1 + t265.size ≤ 9223372036854775807) = true := decide_eq_true c7
   try have c7b2 : (9223372036854775807 < 1 + t265.size) = False := eq_false (Nat.not_lt.2 c7)
   obtain rfl := Option.some.inj H
   go_enter Tryd.func51, Tryd.ntmps51
   go_wp2_with (first | ((with_reducible refine gate_dst (N := 1) rfl ?_); refine box_event ?hg (N := 1) ?hd (cs := #[.int .i64 a0_0, .string a0_1, .int .i64 a0_2, .int .i64 a0_3, .slice A0_4 l0_4.length c0_4]) (t := 42) ?hr ?_; (case hd => rfl); (case hg => rfl); (case hr => first | (go_simp; done) | (go_simp; rfl)); intro gb264 hg w8 hbox hb; have n0_ := Aside0.mk (below_step (by repeat (first | (with_reducible first | exact HB.out | apply below_alloc | apply pw_below_drewN | apply below_drew1) | exact HB.out)) hb); have n1_ := Aside0.mk (hbox); have n2_ := Aside0.mk ((by rw [hg]; exact (below_size (by repeat (first | (with_reducible first | exact HB.out | apply below_alloc | apply pw_below_drewN | apply below_drew1) | exact HB.out))) : w.heap.size ≤ gb264)); have n3_ := Aside0.mk ((by rw [hg]; exact (below_size (by repeat (first | (with_reducible first | exact HB.out | apply below_alloc | apply pw_below_drewN | apply below_drew1) | exact HB.out))) : w.heap.size ≤ gb264)); clear HB; have HB := n0_; have BK264 := n1_; have GW264 := n2_; have GE264 := n3_; clear n0_ n1_ n2_ n3_; clear hb hbox hg; have hcz9_0 : w8.cell? ⟨gb264, 0, none⟩ = some (.int .i64 a0_0) := (blk_cell BK264.out 0).trans rfl; have hcz9_1 : w8.cell? ⟨gb264, 1, none⟩ = some (.string a0_1) := (blk_cell BK264.out 1).trans rfl; have hcz9_2 : w8.cell? ⟨gb264, 2, none⟩ = some (.int .i64 a0_2) := (blk_cell BK264.out 2).trans rfl; have hcz9_3 : w8.cell? ⟨gb264, 3, none⟩ = some (.int .i64 a0_3) := (blk_cell BK264.out 3).trans rfl; have hcz9_4 : w8.cell? ⟨gb264, 4, none⟩ = some (.slice A0_4 l0_4.length c0_4) := (blk_cell BK264.out 4).trans rfl; have hfz9_0 := blk_frozen BK264.out 0; have hfz9_1 := blk_frozen BK264.out 1; have hfz9_2 := blk_frozen BK264.out 2; have hfz9_3 := blk_frozen BK264.out 3; have hfz9_4 := blk_frozen BK264.out 4) | ((with_reducible refine gate_callee (f := 34) rfl ?_); refine goesL_ (some 15) rfl rfl Tryd.func34 (by kernel_rfl) rfl #[.int .i64 a0_2] rfl (by (try simp only [List.map_toArray, List.map_cons, List.map_nil]); first | done | rfl | (simp only [List.length_drop, List.length_take]; rfl)) ?_; (with_reducible refine (spec_Digits.calls k a0_2 t265 _ A6.out).mono ?_); rintro e w10 ⟨rfl, hb⟩; refine ⟨_, rfl, ?_⟩; have n0_ := Aside0.mk (blk_below (g := gb264) (o := .cells #[.int .i64 a0_0, .string a0_1, .int .i64 a0_2, .int .i64 a0_3, .slice A0_4 l0_4.length c0_4] 42 (0, 0)) (by (with_reducible repeat (first | refine blk_drewN ?_ _ | refine blk_drew ?_ | refine blk_alloc ?_ _)); exact BK264.out) hb); have n1_ := Aside0.mk (below_step (by repeat (first | (with_reducible first | exact HB.out | apply below_alloc | apply pw_below_drewN | apply below_drew1 | refine below_set ?_ GE264.out) | exact HB.out)) hb); clear BK264; clear HB; have BK264 := n0_; have HB := n1_; clear n0_ n1_; (try clear hb); (try clear hb2); (try clear hk); (try clear hi)))
   go_ret
   exact ⟨by first | rfl | (simp [errW_none, errW_some] <;> rfl) | (simp [*, errW_none, errW_some] <;> rfl), by repeat (first | (with_reducible first | exact HB.out | apply below_alloc | apply pw_below_drewN | apply below_drew1 | refine below_set ?_ GE264.out) | exact HB.out)⟩
  rw [if_neg c7] at H
  exact absurd H (by simp)
 rw [if_neg c5] at H
 have c5b0 : (a0_0 == 1) = false := beq_eq_false_iff_ne.mpr c5
 have c5b1 : (a0_0 != 1) = true := bne_iff_ne.mpr c5
 by_cases c11 : a0_0 = 11
 ·
  rw [if_pos c11] at H
  have c11b0 : (a0_0 == 11) = true := beq_iff_eq.mpr c11
  have c11b1 : (a0_0 != 11) = false := bne_eq_false_iff_eq.mpr c11
  clear c11
  obtain rfl := Option.some.inj H
  go_enter Tryd.func51, Tryd.ntmps51
  go_wp2_with (first | ((with_reducible refine gate_dst (N := 1) rfl ?_); refine box_event ?hg (N := 1) ?hd (cs := #[.int .i64 a0_0, .string a0_1, .int .i64 a0_2, .int .i64 a0_3, .slice A0_4 l0_4.length c0_4]) (t := 42) ?hr ?_; (case hd => rfl); (case hg => rfl); (case hr => first | (go_simp; done) | (go_simp; rfl)); intro gb264 hg w12 hbox hb; have n0_ := Aside0.mk (below_step (by repeat (first | (with_reducible first | exact HB.out | apply below_alloc | apply pw_below_drewN | apply below_drew1) | exact HB.out)) hb); have n1_ := Aside0.mk (hbox); have n2_ := Aside0.mk ((by rw [hg]; exact (below_size (by repeat (first | (with_reducible first | exact HB.out | apply below_alloc | apply pw_below_drewN | apply below_drew1) | exact HB.out))) : w.heap.size ≤ gb264)); have n3_ := Aside0.mk ((by rw [hg]; exact (below_size (by repeat (first | (with_reducible first | exact HB.out | apply below_alloc | apply pw_below_drewN | apply below_drew1) | exact HB.out))) : w.heap.size ≤ gb264)); clear HB; have HB := n0_; have BK264 := n1_; have GW264 := n2_; have GE264 := n3_; clear n0_ n1_ n2_ n3_; clear hb hbox hg; have hcz13_0 : w12.cell? ⟨gb264, 0, none⟩ = some (.int .i64 a0_0) := (blk_cell BK264.out 0).trans rfl; have hcz13_1 : w12.cell? ⟨gb264, 1, none⟩ = some (.string a0_1) := (blk_cell BK264.out 1).trans rfl; have hcz13_2 : w12.cell? ⟨gb264, 2, none⟩ = some (.int .i64 a0_2) := (blk_cell BK264.out 2).trans rfl; have hcz13_3 : w12.cell? ⟨gb264, 3, none⟩ = some (.int .i64 a0_3) := (blk_cell BK264.out 3).trans rfl; have hcz13_4 : w12.cell? ⟨gb264, 4, none⟩ = some (.slice A0_4 l0_4.length c0_4) := (blk_cell BK264.out 4).trans rfl; have hfz13_0 := blk_frozen BK264.out 0; have hfz13_1 := blk_frozen BK264.out 1; have hfz13_2 := blk_frozen BK264.out 2; have hfz13_3 := blk_frozen BK264.out 3; have hfz13_4 := blk_frozen BK264.out 4))
  go_ret
  exact ⟨by first | rfl | (simp [errW_none, errW_some] <;> rfl) | (simp [*, errW_none, errW_some] <;> rfl), by repeat (first | (with_reducible first | exact HB.out | apply below_alloc | apply pw_below_drewN | apply below_drew1 | refine below_set ?_ GE264.out) | exact HB.out)⟩
 rw [if_neg c11] at H
 have c11b0 : (a0_0 == 11) = false := beq_eq_false_iff_ne.mpr c11
 have c11b1 : (a0_0 != 11) = true := bne_iff_ne.mpr c11
 by_cases c14 : a0_0 = 2
 ·
  rw [if_pos c14] at H
  have c14b0 : (a0_0 == 2) = true := beq_iff_eq.mpr c14
  have c14b1 : (a0_0 != 2) = false := bne_eq_false_iff_eq.mpr c14
  clear c14
  replace H := Option.bind_eq_some_iff.mp H
  obtain ⟨t266, A150, H⟩ := H
  replace H : (if 11 + t266.size ≤ 9223372036854775807 then (if ((⟨#[123, 123, 119, 105, 108, 100, 99, 97, 114, 100, 40]⟩ : ByteArray) ++ t266).size + 3 ≤ 9223372036854775807 then (some (((⟨#[123, 123, 119, 105, 108, 100, 99, 97, 114, 100, 40]⟩ : ByteArray) ++ t266) ++ (⟨#[41, 125, 125]⟩ : ByteArray))) else (none)) else (none)) = some r := H
  have A15 := Aside0.mk A150
  clear A150
  by_cases c16 : 11 + t266.size ≤ 9223372036854775807
  ·
   rw [if_pos c16] at H
   have c16b0 := eq_true c16
   have c16b1 : decide (11 + t266.size ≤ 9223372036854775807) = true := decide_eq_true c16
   try have c16b2 : (9223372036854775807 < 11 + t266.size) = False := eq_false (Nat.not_lt.2 c16)
   by_cases c17 : ((⟨#[123, 123, 119, 105, 108, 100, 99, 97, 114, 100, 40]⟩ : ByteArray) ++ t266).size + 3 ≤ 9223372036854775807
   ·
    rw [if_pos c17] at H
    have c17b0 := eq_true c17
    have c17b1 : decide (((⟨#[123, 123, 119, 105, 108, 100, 99, 97, 114, 100, 40]⟩ : ByteArray) ++ t266).size + 3 ≤ 9223372036854775807) = true := decide_eq_true c17
    try have c17b2 : (9223372036854775807 < ((⟨#[123, 123, 119, 105, 108, 100, 99, 97, 114, 100, 40]⟩ : ByteArray) ++ t266).size + 3) = False := eq_false (Nat.not_lt.2 c17)
    have c17z : (9223372036854775807 < 11 + (t266).size + 3) = False := eq_false (Nat.not_lt.2 (by have h_ := c17; simp only [ByteArray.size_append] at h_; exact h_))
    obtain rfl := Option.some.inj H
    go_enter Tryd.func51, Tryd.ntmps51
    go_wp2_with (first | ((with_reducible refine gate_dst (N := 1) rfl ?_); refine box_event ?hg (N := 1) ?hd (cs := #[.int .i64 a0_0, .string a0_1, .int .i64 a0_2, .int .i64 a0_3, .slice A0_4 l0_4.length c0_4]) (t := 42) ?hr ?_; (case hd => rfl); (case hg => rfl); (case hr => first | (go_simp; done) | (go_simp; rfl)); intro gb264 hg w18 hbox hb; have n0_ := Aside0.mk (below_step (by repeat (first | (with_reducible first | exact HB.out | apply below_alloc | apply pw_below_drewN | apply below_drew1) | exact HB.out)) hb); have n1_ := Aside0.mk (hbox); have n2_ := Aside0.mk ((by rw [hg]; exact (below_size (by repeat (first | (with_reducible first | exact HB.out | apply below_alloc | apply pw_below_drewN | apply below_drew1) | exact HB.out))) : w.heap.size ≤ gb264)); have n3_ := Aside0.mk ((by rw [hg]; exact (below_size (by repeat (first | (with_reducible first | exact HB.out | apply below_alloc | apply pw_below_drewN | apply below_drew1) | exact HB.out))) : w.heap.size ≤ gb264)); clear HB; have HB := n0_; have BK264 := n1_; have GW264 := n2_; have GE264 := n3_; clear n0_ n1_ n2_ n3_; clear hb hbox hg; have hcz19_0 : w18.cell? ⟨gb264, 0, none⟩ = some (.int .i64 a0_0) := (blk_cell BK264.out 0).trans rfl; have hcz19_1 : w18.cell? ⟨gb264, 1, none⟩ = some (.string a0_1) := (blk_cell BK264.out 1).trans rfl; have hcz19_2 : w18.cell? ⟨gb264, 2, none⟩ = some (.int .i64 a0_2) := (blk_cell BK264.out 2).trans rfl; have hcz19_3 : w18.cell? ⟨gb264, 3, none⟩ = some (.int .i64 a0_3) := (blk_cell BK264.out 3).trans rfl; have hcz19_4 : w18.cell? ⟨gb264, 4, none⟩ = some (.slice A0_4 l0_4.length c0_4) := (blk_cell BK264.out 4).trans rfl; have hfz19_0 := blk_frozen BK264.out 0; have hfz19_1 := blk_frozen BK264.out 1; have hfz19_2 := blk_frozen BK264.out 2; have hfz19_3 := blk_frozen BK264.out 3; have hfz19_4 := blk_frozen BK264.out 4) | ((with_reducible refine gate_callee (f := 34) rfl ?_); refine goesL_ (some 23) rfl rfl Tryd.func34 (by kernel_rfl) rfl #[.int .i64 a0_2] rfl (by (try simp only [List.map_toArray, List.map_cons, List.map_nil]); first | done | rfl | (simp only [List.length_drop, List.length_take]; rfl)) ?_; (with_reducible refine (spec_Digits.calls k a0_2 t266 _ A15.out).mono ?_); rintro e w20 ⟨rfl, hb⟩; refine ⟨_, rfl, ?_⟩; have n0_ := Aside0.mk (blk_below (g := gb264) (o := .cells #[.int .i64 a0_0, .string a0_1, .int .i64 a0_2, .int .i64 a0_3, .slice A0_4 l0_4.length c0_4] 42 (0, 0)) (by (with_reducible repeat (first | refine blk_drewN ?_ _ | refine blk_drew ?_ | refine blk_alloc ?_ _)); exact BK264.out) hb); have n1_ := Aside0.mk (below_step (by repeat (first | (with_reducible first | exact HB.out | apply below_alloc | apply pw_below_drewN | apply below_drew1 | refine below_set ?_ GE264.out) | exact HB.out)) hb); clear BK264; clear HB; have BK264 := n0_; have HB := n1_; clear n0_ n1_; (try clear hb); (try clear hb2); (try clear hk); (try clear hi)))
    go_ret
    exact ⟨by first | rfl | (simp [errW_none, errW_some] <;> rfl) | (simp [*, errW_none, errW_some] <;> rfl), by repeat (first | (with_reducible first | exact HB.out | apply below_alloc | apply pw_below_drewN | apply below_drew1 | refine below_set ?_ GE264.out) | exact HB.out)⟩
   rw [if_neg c17] at H
   exact absurd H (by simp)
  rw [if_neg c16] at H
  exact absurd H (by simp)
 rw [if_neg c14] at H
 have c14b0 : (a0_0 == 2) = false := beq_eq_false_iff_ne.mpr c14
 have c14b1 : (a0_0 != 2) = true := bne_iff_ne.mpr c14
 by_cases c21 : a0_0 = 3
 ·
  rw [if_pos c21] at H
  have c21b0 : (a0_0 == 3) = true := beq_iff_eq.mpr c21
  have c21b1 : (a0_0 != 3) = false := bne_eq_false_iff_eq.mpr c21
  clear c21
  replace H := Option.bind_eq_some_iff.mp H
  obtain ⟨t267, A220, H⟩ := H
  replace H : (if 8 + t267.size ≤ 9223372036854775807 then (if ((⟨#[123, 123, 115, 112, 108, 105, 116, 40]⟩ : ByteArray) ++ t267).size + 1 ≤ 9223372036854775807 then (if (((⟨#[123, 123, 115, 112, 108, 105, 116, 40]⟩ : ByteArray) ++ t267) ++ (⟨#[44]⟩ : ByteArray)).size + a0_1.size ≤ 9223372036854775807 then (if ((((⟨#[123, 123, 115, 112, 108, 105, 116, 40]⟩ : ByteArray) ++ t267) ++ (⟨#[44]⟩ : ByteArray)) ++ a0_1).size + 3 ≤ 9223372036854775807 then (some (((((⟨#[123, 123, 115, 112, 108, 105, 116, 40]⟩ : ByteArray) ++ t267) ++ (⟨#[44]⟩ : ByteArray)) ++ a0_1) ++ (⟨#[41, 125, 125]⟩ : ByteArray))) else (none)) else (none)) else (none)) else (none)) = some r := H
  have A22 := Aside0.mk A220
  clear A220
  by_cases c23 : 8 + t267.size ≤ 9223372036854775807
  ·
   rw [if_pos c23] at H
   have c23b0 := eq_true c23
   have c23b1 : decide (8 + t267.size ≤ 9223372036854775807) = true := decide_eq_true c23
   try have c23b2 : (9223372036854775807 < 8 + t267.size) = False := eq_false (Nat.not_lt.2 c23)
   by_cases c24 : ((⟨#[123, 123, 115, 112, 108, 105, 116, 40]⟩ : ByteArray) ++ t267).size + 1 ≤ 9223372036854775807
   ·
    rw [if_pos c24] at H
    have c24b0 := eq_true c24
    have c24b1 : decide (((⟨#[123, 123, 115, 112, 108, 105, 116, 40]⟩ : ByteArray) ++ t267).size + 1 ≤ 9223372036854775807) = true := decide_eq_true c24
    try have c24b2 : (9223372036854775807 < ((⟨#[123, 123, 115, 112, 108, 105, 116, 40]⟩ : ByteArray) ++ t267).size + 1) = False := eq_false (Nat.not_lt.2 c24)
    have c24z : (9223372036854775807 < 8 + (t267).size + 1) = False := eq_false (Nat.not_lt.2 (by have h_ := c24; simp only [ByteArray.size_append] at h_; exact h_))
    by_cases c25 : (((⟨#[123, 123, 115, 112, 108, 105, 116, 40]⟩ : ByteArray) ++ t267) ++ (⟨#[44]⟩ : ByteArray)).size + a0_1.size ≤ 9223372036854775807
    ·
     rw [if_pos c25] at H
     have c25b0 := eq_true c25
     have c25b1 : decide ((((⟨#[123, 123, 115, 112, 108, 105, 116, 40]⟩ : ByteArray) ++ t267) ++ (⟨#[44]⟩ : ByteArray)).size + a0_1.size ≤ 9223372036854775807) = true := decide_eq_true c25
     try have c25b2 : (9223372036854775807 < (((⟨#[123, 123, 115, 112, 108, 105, 116, 40]⟩ : ByteArray) ++ t267) ++ (⟨#[44]⟩ : ByteArray)).size + a0_1.size) = False := eq_false (Nat.not_lt.2 c25)
     have c25z : (9223372036854775807 < 8 + (t267).size + 1 + (a0_1).size) = False := eq_false (Nat.not_lt.2 (by have h_ := c25; simp only [ByteArray.size_append] at h_; exact h_))
     by_cases c26 : ((((⟨#[123, 123, 115, 112, 108, 105, 116, 40]⟩ : ByteArray) ++ t267) ++ (⟨#[44]⟩ : ByteArray)) ++ a0_1).size + 3 ≤ 9223372036854775807
     ·
      rw [if_pos c26] at H
      have c26b0 := eq_true c26
      have c26b1 : decide (((((⟨#[123, 123, 115, 112, 108, 105, 116, 40]⟩ : ByteArray) ++ t267) ++ (⟨#[44]⟩ : ByteArray)) ++ a0_1).size + 3 ≤ 9223372036854775807) = true := decide_eq_true c26
      try have c26b2 : (9223372036854775807 < ((((⟨#[123, 123, 115, 112, 108, 105, 116, 40]⟩ : ByteArray) ++ t267) ++ (⟨#[44]⟩ : ByteArray)) ++ a0_1).size + 3) = False := eq_false (Nat.not_lt.2 c26)
      have c26z : (9223372036854775807 < 8 + (t267).size + 1 + (a0_1).size + 3) = False := eq_false (Nat.not_lt.2 (by have h_ := c26; simp only [ByteArray.size_append] at h_; exact h_))
      obtain rfl := Option.some.inj H
      go_enter Tryd.func51, Tryd.ntmps51
      try go_wp2_with (first | ((with_reducible refine gate_dst (N := 1) rfl ?_); refine box_event ?hg (N := 1) ?hd (cs := #[.int .i64 a0_0, .string a0_1, .int .i64 a0_2, .int .i64 a0_3, .slice A0_4 l0_4.length c0_4]) (t := 42) ?hr ?_; (case hd => rfl); (case hg => rfl); (case hr => first | (go_simp; done) | (go_simp; rfl)); intro gb264 hg w27 hbox hb; have n0_ := Aside0.mk (below_step (by repeat (first | (with_reducible first | exact HB.out | apply below_alloc | apply pw_below_drewN | apply below_drew1) | exact HB.out)) hb); have n1_ := Aside0.mk (hbox); have n2_ := Aside0.mk ((by rw [hg]; exact (below_size (by repeat (first | (with_reducible first | exact HB.out | apply below_alloc | apply pw_below_drewN | apply below_drew1) | exact HB.out))) : w.heap.size ≤ gb264)); have n3_ := Aside0.mk ((by rw [hg]; exact (below_size (by repeat (first | (with_reducible first | exact HB.out | apply below_alloc | apply pw_below_drewN | apply below_drew1) | exact HB.out))) : w.heap.size ≤ gb264)); clear HB; have HB := n0_; have BK264 := n1_; have GW264 := n2_; have GE264 := n3_; clear n0_ n1_ n2_ n3_; clear hb hbox hg; have hcz28_0 : w27.cell? ⟨gb264, 0, none⟩ = some (.int .i64 a0_0) := (blk_cell BK264.out 0).trans rfl; have hcz28_1 : w27.cell? ⟨gb264, 1, none⟩ = some (.string a0_1) := (blk_cell BK264.out 1).trans rfl; have hcz28_2 : w27.cell? ⟨gb264, 2, none⟩ = some (.int .i64 a0_2) := (blk_cell BK264.out 2).trans rfl; have hcz28_3 : w27.cell? ⟨gb264, 3, none⟩ = some (.int .i64 a0_3) := (blk_cell BK264.out 3).trans rfl; have hcz28_4 : w27.cell? ⟨gb264, 4, none⟩ = some (.slice A0_4 l0_4.length c0_4) := (blk_cell BK264.out 4).trans rfl; have hfz28_0 := blk_frozen BK264.out 0; have hfz28_1 := blk_frozen BK264.out 1; have hfz28_2 := blk_frozen BK264.out 2; have hfz28_3 := blk_frozen BK264.out 3; have hfz28_4 := blk_frozen BK264.out 4))
      have n0_ := Aside0.mk (blk_drew BK264.out)
      have n1_ := Aside0.mk (below_drew1 HB.out)
      clear BK264
      clear HB
      have BK264 := n0_
      have HB := n1_
      clear n0_ n1_
      refine start_ (n := 10) (S := fun w' => w'.cell? ⟨gb264, 0, none⟩ = some (.int .i64 a0_0) ∧ w'.cell? ⟨gb264, 1, none⟩ = some (.string a0_1) ∧ w'.cell? ⟨gb264, 2, none⟩ = some (.int .i64 a0_2) ∧ w'.cell? ⟨gb264, 3, none⟩ = some (.int .i64 a0_3) ∧ w'.cell? ⟨gb264, 4, none⟩ = some (.slice A0_4 l0_4.length c0_4)) (ds := []) #[false, false, false, false, false, false, false, false, false, false] (by kernel_rfl) rfl rfl ⟨(blk_cell BK264.out 0).trans rfl, (blk_cell BK264.out 1).trans rfl, (blk_cell BK264.out 2).trans rfl, (blk_cell BK264.out 3).trans rfl, (blk_cell BK264.out 4).trans rfl⟩ (fun hHeld => ?_); refine with_tabW spec_text.tab11 spec_text.bits11 (fun HT_ HW_ => ?_)
      generalize w27.drew = w29 at BK264 HB hHeld ⊢
      refine pure_ (i := 0) (N := some 28) (v := ?_) (a' := ?_) #[true, false, false, false, false, false, false, false, false, false] rfl rfl (any_of HT_.out (by kernel_rfl)) (fun _ _ _ h => h) (Or.inl ⟨by rfl, ?_⟩) ?_ ?_
      rotate_left
      ·
       intro w'
       go_simp
       with_reducible rfl
      rotate_left
      ·
       simp only [Act.put, List.setIfInBounds_toArray, List.set_cons_zero, List.set_cons_succ, i64_w, i32_w]
       rfl
      refine pure_ (i := 5) (N := some 33) (v := ?_) (a' := ?_) #[true, false, false, false, false, true, false, false, false, false] rfl rfl (any_of HT_.out (by kernel_rfl)) (fun _ _ _ h => h) (Or.inl ⟨by rfl, ?_⟩) ?_ ?_
      rotate_left
      ·
       intro w'
       go_simp
       with_reducible rfl
      rotate_left
      ·
       simp only [Act.put, List.setIfInBounds_toArray, List.set_cons_zero, List.set_cons_succ, i64_w, i32_w]
       rfl
      refine take_ (i := 1) (N := some 29) (v := ?_) (a' := ?_) #[true, true, false, false, false, true, false, false, false, false] rfl rfl (take_ofW HT_.out HW_.out (by kernel_rfl)) (fun _ _ _ h => h) (Or.inl ⟨by rfl, ?_⟩) hHeld ?_ ?_
      rotate_left
      ·
       rintro w' ⟨s0, s1, s2, s3, s4⟩
       go_simp
       with_reducible rfl
      rotate_left
      ·
       simp only [Act.put, List.setIfInBounds_toArray, List.set_cons_zero, List.set_cons_succ, i64_w, i32_w]
       rfl
      refine take_ (i := 6) (N := some 34) (v := ?_) (a' := ?_) #[true, true, false, false, false, true, true, false, false, false] rfl rfl (take_ofW HT_.out HW_.out (by kernel_rfl)) (fun _ _ _ h => h) (Or.inl ⟨by rfl, ?_⟩) hHeld ?_ ?_
      rotate_left
      ·
       rintro w' ⟨s0, s1, s2, s3, s4⟩
       go_simp
       with_reducible rfl
      rotate_left
      ·
       simp only [Act.put, List.setIfInBounds_toArray, List.set_cons_zero, List.set_cons_succ, i64_w, i32_w]
       rfl
      refine one_ (i := 2) (N := some 30) #[true, true, true, false, false, true, true, false, false, false] rfl rfl (one_of HT_.out (by kernel_rfl)) (by decide) (fun K hK => ?_)
      refine goes_ Tryd.func34 (by kernel_rfl) rfl #[.int .i64 a0_2] (by rfl) rfl rfl (by (try simp only [List.map_toArray, List.map_cons, List.map_nil]); first | done | rfl | (simp only [List.length_drop, List.length_take]; rfl)) ?_
      with_reducible refine (spec_Digits.calls k a0_2 t267 _ A22.out).mono ?_
      rintro e w30 ⟨rfl, hb⟩
      refine ⟨_, rfl, ?_⟩
      have n0_ := Aside0.mk (blk_below (g := gb264) (o := .cells #[.int .i64 a0_0, .string a0_1, .int .i64 a0_2, .int .i64 a0_3, .slice A0_4 l0_4.length c0_4] 42 (0, 0)) (by (with_reducible repeat (first | refine blk_drewN ?_ _ | refine blk_drew ?_ | refine blk_alloc ?_ _)); exact BK264.out) hb)
      have n1_ := Aside0.mk (below_step (by repeat (first | (with_reducible first | exact HB.out | apply below_alloc | apply pw_below_drewN | apply below_drew1 | refine below_set ?_ GE264.out) | exact HB.out)) hb)
      clear BK264
      clear HB
      have BK264 := n0_
      have HB := n1_
      clear n0_ n1_
      (try clear hb)
      (try clear hb2)
      (try clear hk)
      (try clear hi)
      refine hK.out _ _ ⟨(blk_cell BK264.out 0).trans rfl, (blk_cell BK264.out 1).trans rfl, (blk_cell BK264.out 2).trans rfl, (blk_cell BK264.out 3).trans rfl, (blk_cell BK264.out 4).trans rfl⟩ (fun hHeld => ?_)
      clear hK K
      refine norm_ (a' := ?_) ?_ ?_
      rotate_left
      ·
       show Act.put _ (some 30) _ = _
       simp only [Act.put, List.setIfInBounds_toArray, List.set_cons_zero, List.set_cons_succ, i64_w, i32_w]
       rfl
      refine pure_ (i := 3) (N := some 31) (v := ?_) (a' := ?_) #[true, true, true, true, false, true, true, false, false, false] rfl rfl (any_of HT_.out (by kernel_rfl)) (fun _ _ _ h => h) (Or.inl ⟨by rfl, ?_⟩) ?_ ?_
      rotate_left
      ·
       intro w'
       go_simp
       with_reducible rfl
      rotate_left
      ·
       simp only [Act.put, List.setIfInBounds_toArray, List.set_cons_zero, List.set_cons_succ, i64_w, i32_w]
       rfl
      refine pure_ (i := 4) (N := some 32) (v := ?_) (a' := ?_) #[true, true, true, true, true, true, true, false, false, false] rfl rfl (any_of HT_.out (by kernel_rfl)) (fun _ _ _ h => h) (Or.inl ⟨by rfl, ?_⟩) ?_ ?_
      rotate_left
      ·
       intro w'
       go_simp
       with_reducible rfl
      rotate_left
      ·
       simp only [Act.put, List.setIfInBounds_toArray, List.set_cons_zero, List.set_cons_succ, i64_w, i32_w]
       rfl
      refine pure_ (i := 7) (N := some 35) (v := ?_) (a' := ?_) #[true, true, true, true, true, true, true, true, false, false] rfl rfl (any_of HT_.out (by kernel_rfl)) (fun _ _ _ h => h) (Or.inl ⟨by rfl, ?_⟩) ?_ ?_
      rotate_left
      ·
       intro w'
       go_simp
       with_reducible rfl
      rotate_left
      ·
       simp only [Act.put, List.setIfInBounds_toArray, List.set_cons_zero, List.set_cons_succ, i64_w, i32_w]
       rfl
      refine pure_ (i := 8) (N := some 36) (v := ?_) (a' := ?_) #[true, true, true, true, true, true, true, true, true, false] rfl rfl (any_of HT_.out (by kernel_rfl)) (fun _ _ _ h => h) (Or.inl ⟨by rfl, ?_⟩) ?_ ?_
      rotate_left
      ·
       intro w'
       go_simp
       with_reducible rfl
      rotate_left
      ·
       simp only [Act.put, List.setIfInBounds_toArray, List.set_cons_zero, List.set_cons_succ, i64_w, i32_w]
       rfl
      refine pure_ (i := 9) (N := some 2) (v := ?_) (a' := ?_) #[true, true, true, true, true, true, true, true, true, true] rfl rfl (any_of HT_.out (by kernel_rfl)) (fun _ _ _ h => h) (Or.inl ⟨by rfl, ?_⟩) ?_ ?_
      rotate_left
      ·
       intro w'
       go_simp
       with_reducible rfl
      rotate_left
      ·
       simp only [Act.put, List.setIfInBounds_toArray, List.set_cons_zero, List.set_cons_succ, i64_w, i32_w]
       rfl
      refine done_ (done_of HT_.out (by kernel_rfl)) ?_
      try go_wp2
      go_ret
      exact ⟨by first | rfl | (simp [errW_none, errW_some] <;> rfl) | (simp [*, errW_none, errW_some] <;> rfl), by repeat (first | (with_reducible first | exact HB.out | apply below_alloc | apply pw_below_drewN | apply below_drew1 | refine below_set ?_ GE264.out) | exact HB.out)⟩
     rw [if_neg c26] at H
     exact absurd H (by simp)
    rw [if_neg c25] at H
    exact absurd H (by simp)
   rw [if_neg c24] at H
   exact absurd H (by simp)
  rw [if_neg c23] at H
  exact absurd H (by simp)
 rw [if_neg c21] at H
 have c21b0 : (a0_0 == 3) = false := beq_eq_false_iff_ne.mpr c21
 have c21b1 : (a0_0 != 3) = true := bne_iff_ne.mpr c21
 by_cases c31 : a0_0 = 10
 ·
  rw [if_pos c31] at H
  have c31b0 : (a0_0 == 10) = true := beq_iff_eq.mpr c31
  have c31b1 : (a0_0 != 10) = false := bne_eq_false_iff_eq.mpr c31
  clear c31
  replace H := Option.bind_eq_some_iff.mp H
  obtain ⟨t268, A320, H⟩ := H
  replace H : (if 12 + t268.size ≤ 9223372036854775807 then (spec_text.l0 k ((⟨#[123, 123, 112, 97, 114, 116, 105, 116, 105, 111, 110, 40]⟩ : ByteArray) ++ t268) 0 a0_0 a0_1 a0_2 a0_3 l0_4) else (none)) = some r := H
  have A32 := Aside0.mk A320
  clear A320
  by_cases c33 : 12 + t268.size ≤ 9223372036854775807
  ·
   rw [if_pos c33] at H
   have c33b0 := eq_true c33
   have c33b1 : decide (12 + t268.size ≤ 9223372036854775807) = true := decide_eq_true c33
   try have c33b2 : (9223372036854775807 < 12 + t268.size) = False := eq_false (Nat.not_lt.2 c33)
   have H' := Aside0.mk H
   clear H
   go_enter Tryd.func51, Tryd.ntmps51
   go_wp2_with (first | ((with_reducible refine gate_dst (N := 1) rfl ?_); refine box_event ?hg (N := 1) ?hd (cs := #[.int .i64 a0_0, .string a0_1, .int .i64 a0_2, .int .i64 a0_3, .slice A0_4 l0_4.length c0_4]) (t := 42) ?hr ?_; (case hd => rfl); (case hg => rfl); (case hr => first | (go_simp; done) | (go_simp; rfl)); intro gb264 hg w34 hbox hb; have n0_ := Aside0.mk (below_step (by repeat (first | (with_reducible first | exact HB.out | apply below_alloc | apply pw_below_drewN | apply below_drew1) | exact HB.out)) hb); have n1_ := Aside0.mk (hbox); have n2_ := Aside0.mk ((by rw [hg]; exact (below_size (by repeat (first | (with_reducible first | exact HB.out | apply below_alloc | apply pw_below_drewN | apply below_drew1) | exact HB.out))) : w.heap.size ≤ gb264)); have n3_ := Aside0.mk ((by rw [hg]; exact (below_size (by repeat (first | (with_reducible first | exact HB.out | apply below_alloc | apply pw_below_drewN | apply below_drew1) | exact HB.out))) : w.heap.size ≤ gb264)); clear HB; have HB := n0_; have BK264 := n1_; have GW264 := n2_; have GE264 := n3_; clear n0_ n1_ n2_ n3_; clear hb hbox hg; have hcz35_0 : w34.cell? ⟨gb264, 0, none⟩ = some (.int .i64 a0_0) := (blk_cell BK264.out 0).trans rfl; have hcz35_1 : w34.cell? ⟨gb264, 1, none⟩ = some (.string a0_1) := (blk_cell BK264.out 1).trans rfl; have hcz35_2 : w34.cell? ⟨gb264, 2, none⟩ = some (.int .i64 a0_2) := (blk_cell BK264.out 2).trans rfl; have hcz35_3 : w34.cell? ⟨gb264, 3, none⟩ = some (.int .i64 a0_3) := (blk_cell BK264.out 3).trans rfl; have hcz35_4 : w34.cell? ⟨gb264, 4, none⟩ = some (.slice A0_4 l0_4.length c0_4) := (blk_cell BK264.out 4).trans rfl; have hfz35_0 := blk_frozen BK264.out 0; have hfz35_1 := blk_frozen BK264.out 1; have hfz35_2 := blk_frozen BK264.out 2; have hfz35_3 := blk_frozen BK264.out 3; have hfz35_4 := blk_frozen BK264.out 4) | ((with_reducible refine gate_callee (f := 34) rfl ?_); refine goesL_ (some 41) rfl rfl Tryd.func34 (by kernel_rfl) rfl #[.int .i64 a0_3] rfl (by (try simp only [List.map_toArray, List.map_cons, List.map_nil]); first | done | rfl | (simp only [List.length_drop, List.length_take]; rfl)) ?_; (with_reducible refine (spec_Digits.calls k a0_3 t268 _ A32.out).mono ?_); rintro e w36 ⟨rfl, hb⟩; refine ⟨_, rfl, ?_⟩; have n0_ := Aside0.mk (blk_below (g := gb264) (o := .cells #[.int .i64 a0_0, .string a0_1, .int .i64 a0_2, .int .i64 a0_3, .slice A0_4 l0_4.length c0_4] 42 (0, 0)) (by (with_reducible repeat (first | refine blk_drewN ?_ _ | refine blk_drew ?_ | refine blk_alloc ?_ _)); exact BK264.out) hb); have n1_ := Aside0.mk (below_step (by repeat (first | (with_reducible first | exact HB.out | apply below_alloc | apply pw_below_drewN | apply below_drew1 | refine below_set ?_ GE264.out) | exact HB.out)) hb); clear BK264; clear HB; have BK264 := n0_; have HB := n1_; clear n0_ n1_; (try clear hb); (try clear hb2); (try clear hk); (try clear hi)))
   go_loopg [3, 4] k (fun kq v3 v4 w' => ∃ (x3_1 : ByteArray) (x4_1 : Int), v3 = .string x3_1 ∧ v4 = .int .i64 x4_1 ∧ Aside0 (spec_text.l0 kq x3_1 x4_1 a0_0 a0_1 a0_2 a0_3 l0_4 = some r) ∧ Aside0 (kq ≤ k) ∧ Aside0 (w'.heap[gb264]? = some (.cells #[.int .i64 a0_0, .string a0_1, .int .i64 a0_2, .int .i64 a0_3, (.slice A0_4 l0_4.length c0_4)] 42 (0, 0))) ∧ Aside0 (Below w.heap.size w w'))
   case atStart => exact ⟨((⟨#[123, 123, 112, 97, 114, 116, 105, 116, 105, 111, 110, 40]⟩ : ByteArray) ++ t268), (0), (by first | rfl | (simp; done) | (simp [*]; done)), (by first | rfl | (simp; done) | (simp [*]; done)), H', ⟨Nat.le_refl _⟩, ⟨by (with_reducible repeat (first | refine blk_drewN ?_ _ | refine blk_drew ?_ | refine blk_alloc ?_ _)); exact BK264.out⟩, ⟨by repeat (first | (with_reducible first | exact HB.out | apply below_alloc | apply pw_below_drewN | apply below_drew1 | refine below_set ?_ GE264.out) | exact HB.out)⟩⟩
   case round =>
    clear H'
    try clear c1
    try clear c2
    try clear c2b0
    try clear c2b1
    try clear p2
    try clear c3
    try clear c5
    try clear c5b0
    try clear c5b1
    try clear c7
    try clear c7b0
    try clear c7b1
    try clear c7b2
    try clear c11
    try clear c11b0
    try clear c11b1
    try clear c14
    try clear c14b0
    try clear c14b1
    try clear c16
    try clear c16b0
    try clear c16b1
    try clear c16b2
    try clear c17
    try clear c17b0
    try clear c17b1
    try clear c17b2
    try clear c21
    try clear c21b0
    try clear c21b1
    try clear c23
    try clear c23b0
    try clear c23b1
    try clear c23b2
    try clear c24
    try clear c24b0
    try clear c24b1
    try clear c24b2
    try clear c25
    try clear c25b0
    try clear c25b1
    try clear c25b2
    try clear c26
    try clear c26b0
    try clear c26b1
    try clear c26b2
    try clear c31
    try clear c31b0
    try clear c31b1
    try clear c33
    try clear c33b0
    try clear c33b1
    try clear c33b2
    try clear c34
    try clear hcz13_0 hcz13_1 hcz13_2 hcz13_3 hcz13_4 hcz19_0 hcz19_1 hcz19_2 hcz19_3 hcz19_4 hcz28_0 hcz28_1 hcz28_2 hcz28_3 hcz28_4 hcz35_0 hcz35_1 hcz35_2 hcz35_3 hcz35_4 hcz4_0 hcz4_1 hcz4_2 hcz4_3 hcz4_4 hcz9_0 hcz9_1 hcz9_2 hcz9_3 hcz9_4
    obtain ⟨x3_1, x4_1, rfl, rfl, HA, HK1, BK264, HB⟩ := hrel
    cases gk with
    | zero => exact absurd HA.out (by simp [spec_text.l0])
    | succ k1 =>
     have H := HA.out
     clear HA
     simp only [spec_text.l0] at H
     by_cases c37 : x4_1 < (l0_4.length : Int)
     ·
      rw [if_pos c37] at H
      have c37b0 : decide (x4_1 < (l0_4.length : Int)) = true := decide_eq_true c37
      clear c37
      by_cases c38 : 0 ≤ x4_1
      ·
       rw [if_pos c38] at H
       have c38b0 : decide (0 ≤ x4_1) = true := decide_eq_true c38
       clear c38
       replace H := Option.bind_eq_some_iff.mp H
       obtain ⟨t270, A390, H⟩ := H
       replace H : (if 1 + t270.size ≤ 9223372036854775807 then (if x3_1.size + ((⟨#[44]⟩ : ByteArray) ++ t270).size ≤ 9223372036854775807 then (spec_text.l0 k1 (x3_1 ++ ((⟨#[44]⟩ : ByteArray) ++ t270)) (wrap64 (x4_1 + 1)) a0_0 a0_1 a0_2 a0_3 l0_4) else (none)) else (none)) = some r := H
       have A39 := Aside0.mk A390
       clear A390
       by_cases c40 : 1 + t270.size ≤ 9223372036854775807
       ·
        rw [if_pos c40] at H
        have c40b0 := eq_true c40
        have c40b1 : decide (1 + t270.size ≤ 9223372036854775807) = true := decide_eq_true c40
        try have c40b2 : (9223372036854775807 < 1 + t270.size) = False := eq_false (Nat.not_lt.2 c40)
        by_cases c41 : x3_1.size + ((⟨#[44]⟩ : ByteArray) ++ t270).size ≤ 9223372036854775807
        ·
         rw [if_pos c41] at H
         have c41b0 := eq_true c41
         have c41b1 : decide (x3_1.size + ((⟨#[44]⟩ : ByteArray) ++ t270).size ≤ 9223372036854775807) = true := decide_eq_true c41
         try have c41b2 : (9223372036854775807 < x3_1.size + ((⟨#[44]⟩ : ByteArray) ++ t270).size) = False := eq_false (Nat.not_lt.2 c41)
         have c41z : (9223372036854775807 < (x3_1).size + (1 + (t270).size)) = False := eq_false (Nat.not_lt.2 (by have h_ := c41; simp only [ByteArray.size_append] at h_; exact h_))
         have H' := Aside0.mk H
         clear H
         have hcz42_0 : wr.cell? ⟨gb264, 0, none⟩ = some (.int .i64 a0_0) := (blk_cell BK264.out 0).trans rfl
         have hcz42_1 : wr.cell? ⟨gb264, 1, none⟩ = some (.string a0_1) := (blk_cell BK264.out 1).trans rfl
         have hcz42_2 : wr.cell? ⟨gb264, 2, none⟩ = some (.int .i64 a0_2) := (blk_cell BK264.out 2).trans rfl
         have hcz42_3 : wr.cell? ⟨gb264, 3, none⟩ = some (.int .i64 a0_3) := (blk_cell BK264.out 3).trans rfl
         have hcz42_4 : wr.cell? ⟨gb264, 4, none⟩ = some (.slice A0_4 l0_4.length c0_4) := (blk_cell BK264.out 4).trans rfl
         have p269 : 0 ≤ (x4_1 : Int) := of_decide_eq_true (by first | (with_reducible assumption) | assumption)
         have q269 : x4_1 < (l0_4.length : Int) := of_decide_eq_true (by first | (with_reducible assumption) | assumption)
         obtain ⟨ad269, e269, hx269_0⟩ := Kd.at_int HR0_4.out x4_1 p269 q269
         cases e269
         replace hx269_0 := (HB.out.cell (World.block_lt_of_cell? w _ hx269_0)).trans hx269_0
         replace p269 := eq_true p269
         replace q269 := eq_true q269
         go_wp2_with (first | ((with_reducible refine gate_callee (f := 34) rfl ?_); refine goesL_ (some 56) rfl rfl Tryd.func34 (by kernel_rfl) rfl #[.int .i64 (rd l0_4 x4_1)] rfl (by (try simp only [List.map_toArray, List.map_cons, List.map_nil]); first | done | rfl | (simp only [List.length_drop, List.length_take]; rfl)) ?_; (with_reducible refine (spec_Digits.calls k1 (rd l0_4 x4_1) t270 _ A39.out).mono ?_); rintro e w43 ⟨rfl, hb⟩; refine ⟨_, rfl, ?_⟩; have n0_ := Aside0.mk (blk_below (g := gb264) (o := .cells #[.int .i64 a0_0, .string a0_1, .int .i64 a0_2, .int .i64 a0_3, .slice (some ad269) l0_4.length c0_4] 42 (0, 0)) (by (with_reducible repeat (first | refine blk_drewN ?_ _ | refine blk_drew ?_ | refine blk_alloc ?_ _)); exact BK264.out) hb); have n1_ := Aside0.mk (below_step (by repeat (first | (with_reducible first | exact HB.out | apply below_alloc | apply pw_below_drewN | apply below_drew1 | refine below_set ?_ GE264.out) | exact HB.out)) hb); clear BK264; clear HB; have BK264 := n0_; have HB := n1_; clear n0_ n1_; (try clear hb); (try clear hb2); (try clear hk); (try clear hi)))
         go_roundg k1
         case measure => have := HK1.out; omega
         case rel => exact ⟨(x3_1 ++ ((⟨#[44]⟩ : ByteArray) ++ t270)), (wrap64 (x4_1 + 1)), (by first | rfl | (simp; done) | (simp [*]; done)), (by first | rfl | (simp; done) | (simp [*]; done)), H', ⟨by have := HK1.out; omega⟩, ⟨by (with_reducible repeat (first | refine blk_drewN ?_ _ | refine blk_drew ?_ | refine blk_alloc ?_ _)); exact BK264.out⟩, ⟨by repeat (first | (with_reducible first | exact HB.out | apply below_alloc | apply pw_below_drewN | apply below_drew1 | refine below_set ?_ GE264.out) | exact HB.out)⟩⟩
        rw [if_neg c41] at H
        exact absurd H (by simp)
       rw [if_neg c40] at H
       exact absurd H (by simp)
      rw [if_neg c38] at H
      exact absurd H (by simp)
     rw [if_neg c37] at H
     have c37b0 : decide (x4_1 < (l0_4.length : Int)) = false := decide_eq_false c37
     clear c37
     by_cases c44 : x3_1.size + 3 ≤ 9223372036854775807
     ·
      rw [if_pos c44] at H
      have c44b0 := eq_true c44
      have c44b1 : decide (x3_1.size + 3 ≤ 9223372036854775807) = true := decide_eq_true c44
      try have c44b2 : (9223372036854775807 < x3_1.size + 3) = False := eq_false (Nat.not_lt.2 c44)
      obtain rfl := Option.some.inj H
      have hcz45_0 : wr.cell? ⟨gb264, 0, none⟩ = some (.int .i64 a0_0) := (blk_cell BK264.out 0).trans rfl
      have hcz45_1 : wr.cell? ⟨gb264, 1, none⟩ = some (.string a0_1) := (blk_cell BK264.out 1).trans rfl
      have hcz45_2 : wr.cell? ⟨gb264, 2, none⟩ = some (.int .i64 a0_2) := (blk_cell BK264.out 2).trans rfl
      have hcz45_3 : wr.cell? ⟨gb264, 3, none⟩ = some (.int .i64 a0_3) := (blk_cell BK264.out 3).trans rfl
      have hcz45_4 : wr.cell? ⟨gb264, 4, none⟩ = some (.slice A0_4 l0_4.length c0_4) := (blk_cell BK264.out 4).trans rfl
      go_wp2
      go_ret
      exact ⟨by first | rfl | (simp [errW_none, errW_some] <;> rfl) | (simp [*, errW_none, errW_some] <;> rfl), by repeat (first | (with_reducible first | exact HB.out | apply below_alloc | apply pw_below_drewN | apply below_drew1 | refine below_set ?_ GE264.out) | exact HB.out)⟩
     rw [if_neg c44] at H
     exact absurd H (by simp)
  rw [if_neg c33] at H
  exact absurd H (by simp)
 rw [if_neg c31] at H
 have c31b0 : (a0_0 == 10) = false := beq_eq_false_iff_ne.mpr c31
 have c31b1 : (a0_0 != 10) = true := bne_iff_ne.mpr c31
 replace H := Option.bind_eq_some_iff.mp H
 obtain ⟨t271, A460, H⟩ := H
 replace H : (if 2 + t271.size ≤ 9223372036854775807 then (if ((⟨#[123, 123]⟩ : ByteArray) ++ t271).size + 1 ≤ 9223372036854775807 then ((spec_Digits.f k a0_2).bind fun t272 => (if (((⟨#[123, 123]⟩ : ByteArray) ++ t271) ++ (⟨#[40]⟩ : ByteArray)).size + t272.size ≤ 9223372036854775807 then (if ((((⟨#[123, 123]⟩ : ByteArray) ++ t271) ++ (⟨#[40]⟩ : ByteArray)) ++ t272).size + 1 ≤ 9223372036854775807 then ((spec_Digits.f k a0_3).bind fun t273 => (if (((((⟨#[123, 123]⟩ : ByteArray) ++ t271) ++ (⟨#[40]⟩ : ByteArray)) ++ t272) ++ (⟨#[44]⟩ : ByteArray)).size + t273.size ≤ 9223372036854775807 then (if ((((((⟨#[123, 123]⟩ : ByteArray) ++ t271) ++ (⟨#[40]⟩ : ByteArray)) ++ t272) ++ (⟨#[44]⟩ : ByteArray)) ++ t273).size + 3 ≤ 9223372036854775807 then (some (((((((⟨#[123, 123]⟩ : ByteArray) ++ t271) ++ (⟨#[40]⟩ : ByteArray)) ++ t272) ++ (⟨#[44]⟩ : ByteArray)) ++ t273) ++ (⟨#[41, 125, 125]⟩ : ByteArray))) else (none)) else (none))) else (none)) else (none))) else (none)) else (none)) = some r := H
 have A46 := Aside0.mk A460
 clear A460
 by_cases c47 : 2 + t271.size ≤ 9223372036854775807
 ·
  rw [if_pos c47] at H
  have c47b0 := eq_true c47
  have c47b1 : decide (2 + t271.size ≤ 9223372036854775807) = true := decide_eq_true c47
  try have c47b2 : (9223372036854775807 < 2 + t271.size) = False := eq_false (Nat.not_lt.2 c47)
  by_cases c48 : ((⟨#[123, 123]⟩ : ByteArray) ++ t271).size + 1 ≤ 9223372036854775807
  ·
   rw [if_pos c48] at H
   have c48b0 := eq_true c48
   have c48b1 : decide (((⟨#[123, 123]⟩ : ByteArray) ++ t271).size + 1 ≤ 9223372036854775807) = true := decide_eq_true c48
   try have c48b2 : (9223372036854775807 < ((⟨#[123, 123]⟩ : ByteArray) ++ t271).size + 1) = False := eq_false (Nat.not_lt.2 c48)
   have c48z : (9223372036854775807 < 2 + (t271).size + 1) = False := eq_false (Nat.not_lt.2 (by have h_ := c48; simp only [ByteArray.size_append] at h_; exact h_))
   replace H := Option.bind_eq_some_iff.mp H
   obtain ⟨t272, A490, H⟩ := H
   replace H : (if (((⟨#[123, 123]⟩ : ByteArray) ++ t271) ++ (⟨#[40]⟩ : ByteArray)).size + t272.size ≤ 9223372036854775807 then (if ((((⟨#[123, 123]⟩ : ByteArray) ++ t271) ++ (⟨#[40]⟩ : ByteArray)) ++ t272).size + 1 ≤ 9223372036854775807 then ((spec_Digits.f k a0_3).bind fun t273 => (if (((((⟨#[123, 123]⟩ : ByteArray) ++ t271) ++ (⟨#[40]⟩ : ByteArray)) ++ t272) ++ (⟨#[44]⟩ : ByteArray)).size + t273.size ≤ 9223372036854775807 then (if ((((((⟨#[123, 123]⟩ : ByteArray) ++ t271) ++ (⟨#[40]⟩ : ByteArray)) ++ t272) ++ (⟨#[44]⟩ : ByteArray)) ++ t273).size + 3 ≤ 9223372036854775807 then (some (((((((⟨#[123, 123]⟩ : ByteArray) ++ t271) ++ (⟨#[40]⟩ : ByteArray)) ++ t272) ++ (⟨#[44]⟩ : ByteArray)) ++ t273) ++ (⟨#[41, 125, 125]⟩ : ByteArray))) else (none)) else (none))) else (none)) else (none)) = some r := H
   have A49 := Aside0.mk A490
   clear A490
   by_cases c50 : (((⟨#[123, 123]⟩ : ByteArray) ++ t271) ++ (⟨#[40]⟩ : ByteArray)).size + t272.size ≤ 9223372036854775807
   ·
    rw [if_pos c50] at H
    have c50b0 := eq_true c50
    have c50b1 : decide ((((⟨#[123, 123]⟩ : ByteArray) ++ t271) ++ (⟨#[40]⟩ : ByteArray)).size + t272.size ≤ 9223372036854775807) = true := decide_eq_true c50
    try have c50b2 : (9223372036854775807 < (((⟨#[123, 123]⟩ : ByteArray) ++ t271) ++ (⟨#[40]⟩ : ByteArray)).size + t272.size) = False := eq_false (Nat.not_lt.2 c50)
    have c50z : (9223372036854775807 < 2 + (t271).size + 1 + (t272).size) = False := eq_false (Nat.not_lt.2 (by have h_ := c50; simp only [ByteArray.size_append] at h_; exact h_))
    by_cases c51 : ((((⟨#[123, 123]⟩ : ByteArray) ++ t271) ++ (⟨#[40]⟩ : ByteArray)) ++ t272).size + 1 ≤ 9223372036854775807
    ·
     rw [if_pos c51] at H
     have c51b0 := eq_true c51
     have c51b1 : decide (((((⟨#[123, 123]⟩ : ByteArray) ++ t271) ++ (⟨#[40]⟩ : ByteArray)) ++ t272).size + 1 ≤ 9223372036854775807) = true := decide_eq_true c51
     try have c51b2 : (9223372036854775807 < ((((⟨#[123, 123]⟩ : ByteArray) ++ t271) ++ (⟨#[40]⟩ : ByteArray)) ++ t272).size + 1) = False := eq_false (Nat.not_lt.2 c51)
     have c51z : (9223372036854775807 < 2 + (t271).size + 1 + (t272).size + 1) = False := eq_false (Nat.not_lt.2 (by have h_ := c51; simp only [ByteArray.size_append] at h_; exact h_))
     replace H := Option.bind_eq_some_iff.mp H
     obtain ⟨t273, A520, H⟩ := H
     replace H : (if (((((⟨#[123, 123]⟩ : ByteArray) ++ t271) ++ (⟨#[40]⟩ : ByteArray)) ++ t272) ++ (⟨#[44]⟩ : ByteArray)).size + t273.size ≤ 9223372036854775807 then (if ((((((⟨#[123, 123]⟩ : ByteArray) ++ t271) ++ (⟨#[40]⟩ : ByteArray)) ++ t272) ++ (⟨#[44]⟩ : ByteArray)) ++ t273).size + 3 ≤ 9223372036854775807 then (some (((((((⟨#[123, 123]⟩ : ByteArray) ++ t271) ++ (⟨#[40]⟩ : ByteArray)) ++ t272) ++ (⟨#[44]⟩ : ByteArray)) ++ t273) ++ (⟨#[41, 125, 125]⟩ : ByteArray))) else (none)) else (none)) = some r := H
     have A52 := Aside0.mk A520
     clear A520
     by_cases c53 : (((((⟨#[123, 123]⟩ : ByteArray) ++ t271) ++ (⟨#[40]⟩ : ByteArray)) ++ t272) ++ (⟨#[44]⟩ : ByteArray)).size + t273.size ≤ 9223372036854775807
     ·
      rw [if_pos c53] at H
      have c53b0 := eq_true c53
      have c53b1 : decide ((((((⟨#[123, 123]⟩ : ByteArray) ++ t271) ++ (⟨#[40]⟩ : ByteArray)) ++ t272) ++ (⟨#[44]⟩ : ByteArray)).size + t273.size ≤ 9223372036854775807) = true := decide_eq_true c53
      try have c53b2 : (9223372036854775807 < (((((⟨#[123, 123]⟩ : ByteArray) ++ t271) ++ (⟨#[40]⟩ : ByteArray)) ++ t272) ++ (⟨#[44]⟩ : ByteArray)).size + t273.size) = False := eq_false (Nat.not_lt.2 c53)
      have c53z : (9223372036854775807 < 2 + (t271).size + 1 + (t272).size + 1 + (t273).size) = False := eq_false (Nat.not_lt.2 (by have h_ := c53; simp only [ByteArray.size_append] at h_; exact h_))
      by_cases c54 : ((((((⟨#[123, 123]⟩ : ByteArray) ++ t271) ++ (⟨#[40]⟩ : ByteArray)) ++ t272) ++ (⟨#[44]⟩ : ByteArray)) ++ t273).size + 3 ≤ 9223372036854775807
      ·
       rw [if_pos c54] at H
       have c54b0 := eq_true c54
       have c54b1 : decide (((((((⟨#[123, 123]⟩ : ByteArray) ++ t271) ++ (⟨#[40]⟩ : ByteArray)) ++ t272) ++ (⟨#[44]⟩ : ByteArray)) ++ t273).size + 3 ≤ 9223372036854775807) = true := decide_eq_true c54
       try have c54b2 : (9223372036854775807 < ((((((⟨#[123, 123]⟩ : ByteArray) ++ t271) ++ (⟨#[40]⟩ : ByteArray)) ++ t272) ++ (⟨#[44]⟩ : ByteArray)) ++ t273).size + 3) = False := eq_false (Nat.not_lt.2 c54)
       have c54z : (9223372036854775807 < 2 + (t271).size + 1 + (t272).size + 1 + (t273).size + 3) = False := eq_false (Nat.not_lt.2 (by have h_ := c54; simp only [ByteArray.size_append] at h_; exact h_))
       obtain rfl := Option.some.inj H
       go_enter Tryd.func51, Tryd.ntmps51
       try go_wp2_with (first | ((with_reducible refine gate_dst (N := 1) rfl ?_); refine box_event ?hg (N := 1) ?hd (cs := #[.int .i64 a0_0, .string a0_1, .int .i64 a0_2, .int .i64 a0_3, .slice A0_4 l0_4.length c0_4]) (t := 42) ?hr ?_; (case hd => rfl); (case hg => rfl); (case hr => first | (go_simp; done) | (go_simp; rfl)); intro gb264 hg w55 hbox hb; have n0_ := Aside0.mk (below_step (by repeat (first | (with_reducible first | exact HB.out | apply below_alloc | apply pw_below_drewN | apply below_drew1) | exact HB.out)) hb); have n1_ := Aside0.mk (hbox); have n2_ := Aside0.mk ((by rw [hg]; exact (below_size (by repeat (first | (with_reducible first | exact HB.out | apply below_alloc | apply pw_below_drewN | apply below_drew1) | exact HB.out))) : w.heap.size ≤ gb264)); have n3_ := Aside0.mk ((by rw [hg]; exact (below_size (by repeat (first | (with_reducible first | exact HB.out | apply below_alloc | apply pw_below_drewN | apply below_drew1) | exact HB.out))) : w.heap.size ≤ gb264)); clear HB; have HB := n0_; have BK264 := n1_; have GW264 := n2_; have GE264 := n3_; clear n0_ n1_ n2_ n3_; clear hb hbox hg; have hcz56_0 : w55.cell? ⟨gb264, 0, none⟩ = some (.int .i64 a0_0) := (blk_cell BK264.out 0).trans rfl; have hcz56_1 : w55.cell? ⟨gb264, 1, none⟩ = some (.string a0_1) := (blk_cell BK264.out 1).trans rfl; have hcz56_2 : w55.cell? ⟨gb264, 2, none⟩ = some (.int .i64 a0_2) := (blk_cell BK264.out 2).trans rfl; have hcz56_3 : w55.cell? ⟨gb264, 3, none⟩ = some (.int .i64 a0_3) := (blk_cell BK264.out 3).trans rfl; have hcz56_4 : w55.cell? ⟨gb264, 4, none⟩ = some (.slice A0_4 l0_4.length c0_4) := (blk_cell BK264.out 4).trans rfl; have hfz56_0 := blk_frozen BK264.out 0; have hfz56_1 := blk_frozen BK264.out 1; have hfz56_2 := blk_frozen BK264.out 2; have hfz56_3 := blk_frozen BK264.out 3; have hfz56_4 := blk_frozen BK264.out 4))
       have n0_ := Aside0.mk (blk_drew BK264.out)
       have n1_ := Aside0.mk (below_drew1 HB.out)
       clear BK264
       clear HB
       have BK264 := n0_
       have HB := n1_
       clear n0_ n1_
       refine start_ (n := 16) (S := fun w' => w'.cell? ⟨gb264, 0, none⟩ = some (.int .i64 a0_0) ∧ w'.cell? ⟨gb264, 1, none⟩ = some (.string a0_1) ∧ w'.cell? ⟨gb264, 2, none⟩ = some (.int .i64 a0_2) ∧ w'.cell? ⟨gb264, 3, none⟩ = some (.int .i64 a0_3) ∧ w'.cell? ⟨gb264, 4, none⟩ = some (.slice A0_4 l0_4.length c0_4)) (ds := []) #[false, false, false, false, false, false, false, false, false, false, false, false, false, false, false, false] (by kernel_rfl) rfl rfl ⟨(blk_cell BK264.out 0).trans rfl, (blk_cell BK264.out 1).trans rfl, (blk_cell BK264.out 2).trans rfl, (blk_cell BK264.out 3).trans rfl, (blk_cell BK264.out 4).trans rfl⟩ (fun hHeld => ?_); refine with_tabW spec_text.tab19 spec_text.bits19 (fun HT_ HW_ => ?_)
       generalize w55.drew = w57 at BK264 HB hHeld ⊢
       refine pure_ (i := 0) (N := some 61) (v := ?_) (a' := ?_) #[true, false, false, false, false, false, false, false, false, false, false, false, false, false, false, false] rfl rfl (any_of HT_.out (by kernel_rfl)) (fun _ _ _ h => h) (Or.inl ⟨by rfl, ?_⟩) ?_ ?_
       rotate_left
       ·
        intro w'
        go_simp
        with_reducible rfl
       rotate_left
       ·
        simp only [Act.put, List.setIfInBounds_toArray, List.set_cons_zero, List.set_cons_succ, i64_w, i32_w]
        rfl
       refine pure_ (i := 5) (N := some 66) (v := ?_) (a' := ?_) #[true, false, false, false, false, true, false, false, false, false, false, false, false, false, false, false] rfl rfl (any_of HT_.out (by kernel_rfl)) (fun _ _ _ h => h) (Or.inl ⟨by rfl, ?_⟩) ?_ ?_
       rotate_left
       ·
        intro w'
        go_simp
        with_reducible rfl
       rotate_left
       ·
        simp only [Act.put, List.setIfInBounds_toArray, List.set_cons_zero, List.set_cons_succ, i64_w, i32_w]
        rfl
       refine pure_ (i := 10) (N := some 71) (v := ?_) (a' := ?_) #[true, false, false, false, false, true, false, false, false, false, true, false, false, false, false, false] rfl rfl (any_of HT_.out (by kernel_rfl)) (fun _ _ _ h => h) (Or.inl ⟨by rfl, ?_⟩) ?_ ?_
       rotate_left
       ·
        intro w'
        go_simp
        with_reducible rfl
       rotate_left
       ·
        simp only [Act.put, List.setIfInBounds_toArray, List.set_cons_zero, List.set_cons_succ, i64_w, i32_w]
        rfl
       refine take_ (i := 1) (N := some 62) (v := ?_) (a' := ?_) #[true, true, false, false, false, true, false, false, false, false, true, false, false, false, false, false] rfl rfl (take_ofW HT_.out HW_.out (by kernel_rfl)) (fun _ _ _ h => h) (Or.inl ⟨by rfl, ?_⟩) hHeld ?_ ?_
       rotate_left
       ·
        rintro w' ⟨s0, s1, s2, s3, s4⟩
        go_simp
        with_reducible rfl
       rotate_left
       ·
        simp only [Act.put, List.setIfInBounds_toArray, List.set_cons_zero, List.set_cons_succ, i64_w, i32_w]
        rfl
       refine take_ (i := 6) (N := some 67) (v := ?_) (a' := ?_) #[true, true, false, false, false, true, true, false, false, false, true, false, false, false, false, false] rfl rfl (take_ofW HT_.out HW_.out (by kernel_rfl)) (fun _ _ _ h => h) (Or.inl ⟨by rfl, ?_⟩) hHeld ?_ ?_
       rotate_left
       ·
        rintro w' ⟨s0, s1, s2, s3, s4⟩
        go_simp
        with_reducible rfl
       rotate_left
       ·
        simp only [Act.put, List.setIfInBounds_toArray, List.set_cons_zero, List.set_cons_succ, i64_w, i32_w]
        rfl
       refine take_ (i := 11) (N := some 72) (v := ?_) (a' := ?_) #[true, true, false, false, false, true, true, false, false, false, true, true, false, false, false, false] rfl rfl (take_ofW HT_.out HW_.out (by kernel_rfl)) (fun _ _ _ h => h) (Or.inl ⟨by rfl, ?_⟩) hHeld ?_ ?_
       rotate_left
       ·
        rintro w' ⟨s0, s1, s2, s3, s4⟩
        go_simp
        with_reducible rfl
       rotate_left
       ·
        simp only [Act.put, List.setIfInBounds_toArray, List.set_cons_zero, List.set_cons_succ, i64_w, i32_w]
        rfl
       refine one_ (i := 2) (N := some 63) #[true, true, true, false, false, true, true, false, false, false, true, true, false, false, false, false] rfl rfl (one_of HT_.out (by kernel_rfl)) (by decide) (fun K hK => ?_)
       refine goes_ Tryd.func68 (by kernel_rfl) rfl #[.int .i64 a0_0] (by rfl) rfl rfl (by (try simp only [List.map_toArray, List.map_cons, List.map_nil]); first | done | rfl | (simp only [List.length_drop, List.length_take]; rfl)) ?_
       with_reducible refine (spec_name.calls a0_0 t271 _ A46.out).mono ?_
       rintro e w' ⟨rfl, ⟨nd, rfl⟩⟩
       refine ⟨_, rfl, ?_⟩
       refine hK.out _ _ ⟨(blk_cell BK264.out 0).trans rfl, (blk_cell BK264.out 1).trans rfl, (blk_cell BK264.out 2).trans rfl, (blk_cell BK264.out 3).trans rfl, (blk_cell BK264.out 4).trans rfl⟩ (fun hHeld => ?_)
       clear hK K
       refine norm_ (a' := ?_) ?_ ?_
       rotate_left
       ·
        show Act.put _ (some 63) _ = _
        simp only [Act.put, List.setIfInBounds_toArray, List.set_cons_zero, List.set_cons_succ, i64_w, i32_w]
        rfl
       refine pure_ (i := 3) (N := some 64) (v := ?_) (a' := ?_) #[true, true, true, true, false, true, true, false, false, false, true, true, false, false, false, false] rfl rfl (any_of HT_.out (by kernel_rfl)) (fun _ _ _ h => h) (Or.inl ⟨by rfl, ?_⟩) ?_ ?_
       rotate_left
       ·
        intro w'
        go_simp
        with_reducible rfl
       rotate_left
       ·
        simp only [Act.put, List.setIfInBounds_toArray, List.set_cons_zero, List.set_cons_succ, i64_w, i32_w]
        rfl
       refine pure_ (i := 4) (N := some 65) (v := ?_) (a' := ?_) #[true, true, true, true, true, true, true, false, false, false, true, true, false, false, false, false] rfl rfl (any_of HT_.out (by kernel_rfl)) (fun _ _ _ h => h) (Or.inl ⟨by rfl, ?_⟩) ?_ ?_
       rotate_left
       ·
        intro w'
        go_simp
        with_reducible rfl
       rotate_left
       ·
        simp only [Act.put, List.setIfInBounds_toArray, List.set_cons_zero, List.set_cons_succ, i64_w, i32_w]
        rfl
       refine one_ (i := 7) (N := some 68) #[true, true, true, true, true, true, true, true, false, false, true, true, false, false, false, false] rfl rfl (one_of HT_.out (by kernel_rfl)) (by decide) (fun K hK => ?_)
       refine goes_ Tryd.func34 (by kernel_rfl) rfl #[.int .i64 a0_2] (by rfl) rfl rfl (by (try simp only [List.map_toArray, List.map_cons, List.map_nil]); first | done | rfl | (simp only [List.length_drop, List.length_take]; rfl)) ?_
       with_reducible refine (spec_Digits.calls k a0_2 t272 _ A49.out).mono ?_
       rintro e w58 ⟨rfl, hb⟩
       refine ⟨_, rfl, ?_⟩
       have n0_ := Aside0.mk (blk_below (g := gb264) (o := .cells #[.int .i64 a0_0, .string a0_1, .int .i64 a0_2, .int .i64 a0_3, .slice A0_4 l0_4.length c0_4] 42 (0, 0)) (by (with_reducible repeat (first | refine blk_drewN ?_ _ | refine blk_drew ?_ | refine blk_alloc ?_ _)); exact BK264.out) hb)
       have n1_ := Aside0.mk (below_step (by repeat (first | (with_reducible first | exact HB.out | apply below_alloc | apply pw_below_drewN | apply below_drew1 | refine below_set ?_ GE264.out) | exact HB.out)) hb)
       clear BK264
       clear HB
       have BK264 := n0_
       have HB := n1_
       clear n0_ n1_
       (try clear hb)
       (try clear hb2)
       (try clear hk)
       (try clear hi)
       refine hK.out _ _ ⟨(blk_cell BK264.out 0).trans rfl, (blk_cell BK264.out 1).trans rfl, (blk_cell BK264.out 2).trans rfl, (blk_cell BK264.out 3).trans rfl, (blk_cell BK264.out 4).trans rfl⟩ (fun hHeld => ?_)
       clear hK K
       refine norm_ (a' := ?_) ?_ ?_
       rotate_left
       ·
        show Act.put _ (some 68) _ = _
        simp only [Act.put, List.setIfInBounds_toArray, List.set_cons_zero, List.set_cons_succ, i64_w, i32_w]
        rfl
       refine pure_ (i := 8) (N := some 69) (v := ?_) (a' := ?_) #[true, true, true, true, true, true, true, true, true, false, true, true, false, false, false, false] rfl rfl (any_of HT_.out (by kernel_rfl)) (fun _ _ _ h => h) (Or.inl ⟨by rfl, ?_⟩) ?_ ?_
       rotate_left
       ·
        intro w'
        go_simp
        with_reducible rfl
       rotate_left
       ·
        simp only [Act.put, List.setIfInBounds_toArray, List.set_cons_zero, List.set_cons_succ, i64_w, i32_w]
        rfl
       refine pure_ (i := 9) (N := some 70) (v := ?_) (a' := ?_) #[true, true, true, true, true, true, true, true, true, true, true, true, false, false, false, false] rfl rfl (any_of HT_.out (by kernel_rfl)) (fun _ _ _ h => h) (Or.inl ⟨by rfl, ?_⟩) ?_ ?_
       rotate_left
       ·
        intro w'
        go_simp
        with_reducible rfl
       rotate_left
       ·
        simp only [Act.put, List.setIfInBounds_toArray, List.set_cons_zero, List.set_cons_succ, i64_w, i32_w]
        rfl
       refine one_ (i := 12) (N := some 73) #[true, true, true, true, true, true, true, true, true, true, true, true, true, false, false, false] rfl rfl (one_of HT_.out (by kernel_rfl)) (by decide) (fun K hK => ?_)
       refine goes_ Tryd.func34 (by kernel_rfl) rfl #[.int .i64 a0_3] (by rfl) rfl rfl (by (try simp only [List.map_toArray, List.map_cons, List.map_nil]); first | done | rfl | (simp only [List.length_drop, List.length_take]; rfl)) ?_
       with_reducible refine (spec_Digits.calls k a0_3 t273 _ A52.out).mono ?_
       rintro e w59 ⟨rfl, hb⟩
       refine ⟨_, rfl, ?_⟩
       have n0_ := Aside0.mk (blk_below (g := gb264) (o := .cells #[.int .i64 a0_0, .string a0_1, .int .i64 a0_2, .int .i64 a0_3, .slice A0_4 l0_4.length c0_4] 42 (0, 0)) (by (with_reducible repeat (first | refine blk_drewN ?_ _ | refine blk_drew ?_ | refine blk_alloc ?_ _)); exact BK264.out) hb)
       have n1_ := Aside0.mk (below_step (by repeat (first | (with_reducible first | exact HB.out | apply below_alloc | apply pw_below_drewN | apply below_drew1 | refine below_set ?_ GE264.out) | exact HB.out)) hb)
       clear BK264
       clear HB
       have BK264 := n0_
       have HB := n1_
       clear n0_ n1_
       (try clear hb)
       (try clear hb2)
       (try clear hk)
       (try clear hi)
       refine hK.out _ _ ⟨(blk_cell BK264.out 0).trans rfl, (blk_cell BK264.out 1).trans rfl, (blk_cell BK264.out 2).trans rfl, (blk_cell BK264.out 3).trans rfl, (blk_cell BK264.out 4).trans rfl⟩ (fun hHeld => ?_)
       clear hK K
       refine norm_ (a' := ?_) ?_ ?_
       rotate_left
       ·
        show Act.put _ (some 73) _ = _
        simp only [Act.put, List.setIfInBounds_toArray, List.set_cons_zero, List.set_cons_succ, i64_w, i32_w]
        rfl
       refine pure_ (i := 13) (N := some 74) (v := ?_) (a' := ?_) #[true, true, true, true, true, true, true, true, true, true, true, true, true, true, false, false] rfl rfl (any_of HT_.out (by kernel_rfl)) (fun _ _ _ h => h) (Or.inl ⟨by rfl, ?_⟩) ?_ ?_
       rotate_left
       ·
        intro w'
        go_simp
        with_reducible rfl
       rotate_left
       ·
        simp only [Act.put, List.setIfInBounds_toArray, List.set_cons_zero, List.set_cons_succ, i64_w, i32_w]
        rfl
       refine pure_ (i := 14) (N := some 75) (v := ?_) (a' := ?_) #[true, true, true, true, true, true, true, true, true, true, true, true, true, true, true, false] rfl rfl (any_of HT_.out (by kernel_rfl)) (fun _ _ _ h => h) (Or.inl ⟨by rfl, ?_⟩) ?_ ?_
       rotate_left
       ·
        intro w'
        go_simp
        with_reducible rfl
       rotate_left
       ·
        simp only [Act.put, List.setIfInBounds_toArray, List.set_cons_zero, List.set_cons_succ, i64_w, i32_w]
        rfl
       refine pure_ (i := 15) (N := some 2) (v := ?_) (a' := ?_) #[true, true, true, true, true, true, true, true, true, true, true, true, true, true, true, true] rfl rfl (any_of HT_.out (by kernel_rfl)) (fun _ _ _ h => h) (Or.inl ⟨by rfl, ?_⟩) ?_ ?_
       rotate_left
       ·
        intro w'
        go_simp
        with_reducible rfl
       rotate_left
       ·
        simp only [Act.put, List.setIfInBounds_toArray, List.set_cons_zero, List.set_cons_succ, i64_w, i32_w]
        rfl
       refine done_ (done_of HT_.out (by kernel_rfl)) ?_
       try go_wp2
       go_ret
       exact ⟨by first | rfl | (simp [errW_none, errW_some] <;> rfl) | (simp [*, errW_none, errW_some] <;> rfl), by repeat (first | (with_reducible first | exact HB.out | apply below_alloc | apply pw_below_drewN | apply below_drew1 | refine below_set ?_ GE264.out) | exact HB.out)⟩
      rw [if_neg c54] at H
      exact absurd H (by simp)
     rw [if_neg c53] at H
     exact absurd H (by simp)
    rw [if_neg c51] at H
    exact absurd H (by simp)
   rw [if_neg c50] at H
   exact absurd H (by simp)
  rw [if_neg c48] at H
  exact absurd H (by simp)
 rw [if_neg c47] at H
 exact absurd H (by simp)
def spec_Dest.l0 : Nat → List (S42) → List ByteArray → Int → Option (ByteArray)
 | 0, _, _, _ => none
 | k + 1, x0, x3, x4 => if x4 < (x0.length : Int) then (if 0 ≤ x4 then ((spec_text.f k ((rd_T42 x0 x4).f0) ((rd_T42 x0 x4).f1) ((rd_T42 x0 x4).f2) ((rd_T42 x0 x4).f3) ((rd_T42 x0 x4).f4)).bind fun t275 => (if x3.length < 8796093022208 then (spec_Dest.l0 k x0 (x3 ++ [t275]) (wrap64 (x4 + 1))) else (none))) else (none)) else ((spec_Join.f k x3).bind fun t279 => (some t279))
def spec_Dest.f (k : Nat) (l0 : List (S42)) : Option (ByteArray) := spec_Dest.l0 k l0 ([] : List ByteArray) 0
set_option maxHeartbeats 8000000 in
set_option maxRecDepth 100000 in
theorem spec_Dest.calls (k : Nat) (A0 : Option Addr) (c0 : Nat) (l0 : List (S42)) (r : ByteArray) (w : World) (hr0 : Kd.C k42 w A0 l0.length l0) (hc0 : l0.length ≤ c0) (h : spec_Dest.f k l0 = some r) :
  Calls Tryd.prog 30 #[.slice A0 l0.length c0] w fun e w' => e = .returned (.string r) ∧ Below w.heap.size w w' := by
 have hu42 := Tryd.underlying42
 have HR0 := Aside0.mk hr0
 have HC0 := Aside0.mk hc0
 clear hr0 hc0
 have HB := Aside0.mk (Below.refl w.heap.size w)
 have H : (spec_Dest.l0 k l0 ([] : List ByteArray) 0) = some r := h
 clear h
 have H' := Aside0.mk H
 clear H
 go_enter Tryd.func30, Tryd.ntmps30
 go_wp2
 go_loopg [3, 4] k (fun kq v3 v4 w' => ∃ (x3_1 : List ByteArray) (x4_1 : Int), v4 = .int .i64 x4_1 ∧ Aside0 (spec_Dest.l0 kq l0 x3_1 x4_1 = some r) ∧ Aside0 (kq ≤ k) ∧ Aside0 (Kd.R Kd.string 9 w' w.heap.size (fun _ => True) v3 x3_1) ∧ Aside0 (Below w.heap.size w w'))
 case atStart => exact ⟨(([] : List ByteArray)), (0), (by first | rfl | (simp; done) | (simp [*]; done)), H', ⟨Nat.le_refl _⟩, ⟨by first | exact Kd.R_nil _ _ _ _ _ | exact Kd.N_nil _ _ _ _ _ | exact Kd.V_nil _ _ _ _ _ | exact Kd.Q_nil _ _ _ _ _ | exact Kd.S_nil _ _ _ _ _⟩, ⟨by repeat (first | (with_reducible first | exact HB.out | apply below_alloc | apply pw_below_drewN | apply below_drew1) | exact HB.out)⟩⟩
 case round =>
  clear H'
  obtain ⟨x3_1, x4_1, rfl, HA, HK1, HO_3, HB⟩ := hrel
  cases gk with
  | zero => exact absurd HA.out (by simp [spec_Dest.l0])
  | succ k1 =>
   have H := HA.out
   clear HA
   simp only [spec_Dest.l0] at H
   by_cases c2 : x4_1 < (l0.length : Int)
   ·
    rw [if_pos c2] at H
    have c2b0 : decide (x4_1 < (l0.length : Int)) = true := decide_eq_true c2
    clear c2
    by_cases c3 : 0 ≤ x4_1
    ·
     rw [if_pos c3] at H
     have c3b0 : decide (0 ≤ x4_1) = true := decide_eq_true c3
     clear c3
     replace H := Option.bind_eq_some_iff.mp H
     obtain ⟨t275, A40, H⟩ := H
     replace H : (if x3_1.length < 8796093022208 then (spec_Dest.l0 k1 l0 (x3_1 ++ [t275]) (wrap64 (x4_1 + 1))) else (none)) = some r := H
     have A4 := Aside0.mk A40
     clear A40
     by_cases c5 : x3_1.length < 8796093022208
     ·
      rw [if_pos c5] at H
      have LMc5 := Aside0.mk c5
      clear c5
      obtain ⟨y276, hy276⟩ : ∃ y_ : List ByteArray, y_ = (x3_1 ++ [t275]) := ⟨_, rfl⟩
      replace H : (spec_Dest.l0 k1 l0 y276 (wrap64 (x4_1 + 1))) = some r := by first | (rw [hy276]; with_reducible exact H) | (have H2_ := (Option.bind_some _ _).symm.trans H; rw [hy276]; with_reducible exact H2_) | (have H2_ := (Option.bind_some _ _).symm.trans H; with_reducible exact H2_) | with_reducible exact H | (rw [hy276]; exact H) | exact H
      have Ny276 := Aside0.mk hy276
      clear hy276
      have H' := Aside0.mk H
      clear H
      have p274 : 0 ≤ (x4_1 : Int) := of_decide_eq_true (by first | (with_reducible assumption) | assumption)
      have q274 : x4_1 < (l0.length : Int) := of_decide_eq_true (by first | (with_reducible assumption) | assumption)
      obtain ⟨ad274, A274_4, c274_4, e274, hx274_0, hx274_1, hx274_2, hx274_3, hx274_4, hl274_4, hi274_4⟩ := at_T42 HR0.out x4_1 p274 q274
      cases e274
      replace hx274_0 := (HB.out.cell (World.block_lt_of_cell? w _ hx274_0)).trans hx274_0
      replace hx274_1 := (HB.out.cell (World.block_lt_of_cell? w _ hx274_1)).trans hx274_1
      replace hx274_2 := (HB.out.cell (World.block_lt_of_cell? w _ hx274_2)).trans hx274_2
      replace hx274_3 := (HB.out.cell (World.block_lt_of_cell? w _ hx274_3)).trans hx274_3
      replace hx274_4 := (HB.out.cell (World.block_lt_of_cell? w _ hx274_4)).trans hx274_4
      have HR274_4 := Aside0.mk hi274_4
      have HC274_4 := Aside0.mk hl274_4
      clear hi274_4 hl274_4
      replace p274 := eq_true p274
      replace q274 := eq_true q274
      go_wp2_with (first | ((with_reducible refine gate_callee (f := 51) rfl ?_); refine goesL_ (some 16) rfl rfl Tryd.func51 (by kernel_rfl) rfl #[.agg #[.int .i64 ((rd_T42 l0 x4_1).f0), .string ((rd_T42 l0 x4_1).f1), .int .i64 ((rd_T42 l0 x4_1).f2), .int .i64 ((rd_T42 l0 x4_1).f3), .slice A274_4 ((rd_T42 l0 x4_1).f4).length c274_4]] rfl (by (try simp only [List.map_toArray, List.map_cons, List.map_nil]); first | done | rfl | (simp only [List.length_drop, List.length_take]; rfl)) ?_; (with_reducible refine (spec_text.calls k1 ((rd_T42 l0 x4_1).f0) ((rd_T42 l0 x4_1).f1) ((rd_T42 l0 x4_1).f2) ((rd_T42 l0 x4_1).f3) _ _ ((rd_T42 l0 x4_1).f4) t275 _ ?side1 ?side2 A4.out).mono ?_); (case side1 => repeat (first | exact (Kd.C_below HR274_4.out HB.out) | (with_reducible refine Kd.C_alloc ?_ _) | (with_reducible refine Kd.C_drewN ?_ _) | (with_reducible refine Kd.C_drew ?_))); (case side2 => exact HC274_4.out); rintro e w6 ⟨rfl, hb⟩; refine ⟨_, rfl, ?_⟩; have n0_ := Aside0.mk (Kd.R_below (by (with_reducible repeat (first | apply Kd.R_alloc | apply Kd.R_drewN | apply Kd.R_drew)); exact HO_3.out) hb); have n1_ := Aside0.mk (below_step (by repeat (first | (with_reducible first | exact HB.out | apply below_alloc | apply pw_below_drewN | apply below_drew1) | exact HB.out)) hb); clear HO_3; clear HB; have HO_3 := n0_; have HB := n1_; clear n0_ n1_; (try clear hb); (try clear hb2); (try clear hk); (try clear hi)) | ((with_reducible refine gate_builtin (b := .append) (xs := #[.tmp 11, .tmp 17]) rfl ?_); at_builtin; refine Kd.R_append Kd.string (w0 := w) w.heap.size rfl (.tmp 11) (.tmp 17) 30 9 (.string ⟨#[]⟩) 16 rfl Tryd.underlying30 info9 rfl (by decide) (by omega) u3 x3_1 t275 [.string t275] (fun _ => True) (fun _ => False) rfl rfl ?aP (fun _ hk => hk.elim) ?aF ?aO ?aB ?aS ?aL ?_; (case aP => exact rfl); (case aB => exact (by repeat (first | (with_reducible first | exact HB.out | apply below_alloc | apply pw_below_drewN | apply below_drew1) | exact HB.out))); (case aF => exact (fun _ _ => trivial)); (case aO => exact (by (with_reducible repeat (first | apply Kd.R_alloc | apply Kd.R_drewN | apply Kd.R_drew)); exact HO_3.out)); (case aS => exact (below_size (by repeat (first | (with_reducible first | exact HB.out | apply below_alloc | apply pw_below_drewN | apply below_drew1) | exact HB.out)))); (case aL => have := LMc5.out; omega); intro v277 w7 ho hb hg hat; rw [← Ny276.out] at ho; have n0_ := Aside0.mk (hb); have n1_ := Aside0.mk (ho); clear HB; clear HO_3; have HB := n0_; have HO278 := n1_; clear n0_ n1_; clear ho hb hg hat))
      go_roundg k1
      case measure => have := HK1.out; omega
      case rel => exact ⟨(y276), (wrap64 (x4_1 + 1)), (by first | rfl | (simp; done) | (simp [*]; done)), H', ⟨by have := HK1.out; omega⟩, ⟨by (with_reducible repeat (first | apply Kd.R_alloc | apply Kd.R_drewN | apply Kd.R_drew)); exact HO278.out⟩, ⟨by repeat (first | (with_reducible first | exact HB.out | apply below_alloc | apply pw_below_drewN | apply below_drew1) | exact HB.out)⟩⟩
     rw [if_neg c5] at H
     exact absurd H (by simp)
    rw [if_neg c3] at H
    exact absurd H (by simp)
   rw [if_neg c2] at H
   have c2b0 : decide (x4_1 < (l0.length : Int)) = false := decide_eq_false c2
   clear c2
   replace H := Option.bind_eq_some_iff.mp H
   obtain ⟨t279, A80, H⟩ := H
   replace H : (some t279) = some r := H
   have A8 := Aside0.mk A80
   clear A80
   obtain rfl := Option.some.inj H
   obtain ⟨Ao9, co9, eo9⟩ := Kd.R_slice HO_3.out
   subst eo9
   go_wp2_with (first | ((with_reducible refine gate_callee (f := 37) rfl ?_); refine goesL_ (some 20) rfl rfl Tryd.func37 (by kernel_rfl) rfl #[.slice Ao9 x3_1.length co9] rfl (by (try simp only [List.map_toArray, List.map_cons, List.map_nil]); first | done | rfl | (simp only [List.length_drop, List.length_take]; rfl)) ?_; (with_reducible refine (spec_Join.calls k1 _ _ x3_1 t279 _ ?side1 ?side2 A8.out).mono ?_); (case side1 => repeat (first | exact (Kd.R_reads' HO_3.out).2.2 | (with_reducible refine Kd.C_alloc ?_ _) | (with_reducible refine Kd.C_drewN ?_ _) | (with_reducible refine Kd.C_drew ?_))); (case side2 => exact (Kd.R_reads' HO_3.out).2.1); rintro e w' ⟨rfl, ⟨nd, rfl⟩⟩; refine ⟨_, rfl, ?_⟩))
   go_ret
   exact ⟨by first | rfl | (simp [errW_none, errW_some] <;> rfl) | (simp [*, errW_none, errW_some] <;> rfl), by repeat (first | (with_reducible first | exact HB.out | apply below_alloc | apply pw_below_drewN | apply below_drew1) | exact HB.out)⟩
end Go.Proofs.YtoopmpjgmgffoaaDoor.GFnTransformBack
