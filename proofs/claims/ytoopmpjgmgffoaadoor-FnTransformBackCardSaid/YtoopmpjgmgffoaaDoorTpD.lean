/- A walk of Go functions (plain functions of theirs, and that the machine's calls do what these say), written by a program of this session's. -/
import Derived.Test.YtoopmpjgmgffoaaDoorTpC
namespace Go.Proofs.YtoopmpjgmgffoaaDoor.GFnTransformBack
open Go.RowKit Go.Proofs.YtoopmpjgmgffoaaDoorW.PrintWords Go.Proofs.YtoopmpjgmgffoaaDoorW.PrintLast Go.Proofs.YtoopmpjgmgffoaaDoorW.PrintMore
set_option linter.unusedVariables false
set_option linter.unusedSimpArgs false
/-! ### spec_Digits: function 34 -/
def spec_Digits.l0 : Nat → Int → ByteArray → Option (ByteArray)
  | 0, _, _ => none
  | k + 1, x0, x3 => if x0 ≥ 10 then ((some (([(wrap64 (48 + (Int.tmod (wrap64 (Int.tdiv x0 10)) 10))) % 256] : List Int) : List Int)).bind fun y261 => (if (strOfNums y261).size + x3.size ≤ 9223372036854775807 then (spec_Digits.l0 k (wrap64 (Int.tdiv x0 10)) ((strOfNums y261) ++ x3)) else (none))) else (some x3)
def spec_Digits.f (k : Nat) (a0 : Int) : Option (ByteArray) := spec_Digits.l0 k a0 (strOfNums (([(wrap64 (48 + (Int.tmod a0 10))) % 256] : List Int)))
set_option maxHeartbeats 8000000 in
set_option maxRecDepth 100000 in
theorem spec_Digits.calls (k : Nat) (a0 : Int) (r : ByteArray) (w : World) (h : spec_Digits.f k a0 = some r) :
    Calls Tryd.prog 34 #[.int .i64 a0] w fun e w' => e = .returned (.string r) ∧ Below w.heap.size w w' := by
  have HB := Aside0.mk (Below.refl w.heap.size w)
  have H : (spec_Digits.l0 k a0 (strOfNums (([(wrap64 (48 + (Int.tmod a0 10))) % 256] : List Int)))) = some r := h
  clear h
  obtain ⟨y258, hy258⟩ : ∃ y_ : List Int, y_ = (([(wrap64 (48 + (Int.tmod a0 10))) % 256] : List Int)) := ⟨_, rfl⟩
  replace H : (spec_Digits.l0 k a0 (strOfNums y258)) = some r := by first | (rw [hy258]; with_reducible exact H) | (have H2_ := (Option.bind_some _ _).symm.trans H; rw [hy258]; with_reducible exact H2_) | (have H2_ := (Option.bind_some _ _).symm.trans H; with_reducible exact H2_) | with_reducible exact H | (rw [hy258]; exact H) | exact H
  have Ny258 := Aside0.mk hy258
  clear hy258
  have H' := Aside0.mk H
  clear H
  go_enter Tryd.func34, Tryd.ntmps34
  go_wp2_with (first | ((with_reducible refine gate_dst (N := 8) rfl ?_); refine Kd.R_lit (Kd.int .u8) _ 5 ?hg (N := 8) ?hd (xs := ([(wrap64 (48 + (Int.tmod a0 10))) % 256] : List Int)) (inner := [.int .u8 ((wrap64 (48 + (Int.tmod a0 10))) % 256)]) (ok := fun _ => True) (okp := fun _ => True) ?hr ?hp (fun _ hk => hk) trivial (Below.refl _ _) (Nat.le_refl _) (by simp) ?_; (case hd => rfl); (case hg => rfl); (case hr => first | (go_simp; done) | (go_simp; rfl)); (case hp => exact (Reps.one (show Kd.M (Kd.int .u8) _ _ _ ((wrap64 (48 + (Int.tmod a0 10))) % 256) [.int .u8 ((wrap64 (48 + (Int.tmod a0 10))) % 256)] from rfl) (Reps.none _ _))); intro v259 w2 ho3 hb hg_ hnew_; clear hg_ hnew_; (first | rw [← Ny258.out] at ho3 | (simp only [Int.reduceToNat] at ho3; rw [← Ny258.out] at ho3)); have n0_ := Aside0.mk (Kd.R_lower ho3 (below_size (by repeat (first | (with_reducible first | exact HB.out | apply below_alloc | apply pw_below_drewN | apply below_drew1) | exact HB.out)))); have n1_ := Aside0.mk (below_step (by repeat (first | (with_reducible first | exact HB.out | apply below_alloc | apply pw_below_drewN | apply below_drew1) | exact HB.out)) hb); clear HB; have HO260 := n0_; have HB := n1_; clear n0_ n1_; clear hb ho3; have hcv4 := own_string (P := Tryd.prog) Tryd.underlying76 Tryd.underlying5 Tryd.underlying9 (Kd.own_of_R HO260.out)))
  go_loopg [0, 3] k (fun kq v0 v3 w' => ∃ (x0_1 : Int) (x3_1 : ByteArray), v0 = .int .i64 x0_1 ∧ v3 = .string x3_1 ∧ Aside0 (spec_Digits.l0 kq x0_1 x3_1 = some r) ∧ Aside0 (kq ≤ k) ∧ Aside0 (Below w.heap.size w w'))
  case atStart => exact ⟨(a0), (strOfNums y258), (by first | rfl | (simp; done) | (simp [*]; done)), (by first | rfl | (simp; done) | (simp [*]; done)), H', ⟨Nat.le_refl _⟩, ⟨by repeat (first | (with_reducible first | exact HB.out | apply below_alloc | apply pw_below_drewN | apply below_drew1) | exact HB.out)⟩⟩
  case round =>
    clear H'
    try clear p2
    try clear c3
    try clear hcv4
    obtain ⟨x0_1, x3_1, rfl, rfl, HA, HK1, HB⟩ := hrel
    cases gk with
    | zero => exact absurd HA.out (by simp [spec_Digits.l0])
    | succ k1 =>
      have H := HA.out
      clear HA
      simp only [spec_Digits.l0] at H
      by_cases c5 : x0_1 ≥ 10
      · rw [if_pos c5] at H
        have c5b0 : decide (10 ≤ x0_1) = true := decide_eq_true c5
        clear c5
        obtain ⟨y261, hy261⟩ : ∃ y_ : List Int, y_ = (([(wrap64 (48 + (Int.tmod (wrap64 (Int.tdiv x0_1 10)) 10))) % 256] : List Int)) := ⟨_, rfl⟩
        replace H : (if (strOfNums y261).size + x3_1.size ≤ 9223372036854775807 then (spec_Digits.l0 k1 (wrap64 (Int.tdiv x0_1 10)) ((strOfNums y261) ++ x3_1)) else (none)) = some r := by first | (rw [hy261]; with_reducible exact H) | (have H2_ := (Option.bind_some _ _).symm.trans H; rw [hy261]; with_reducible exact H2_) | (have H2_ := (Option.bind_some _ _).symm.trans H; with_reducible exact H2_) | with_reducible exact H | (rw [hy261]; exact H) | exact H
        have Ny261 := Aside0.mk hy261
        clear hy261
        by_cases c6 : (strOfNums y261).size + x3_1.size ≤ 9223372036854775807
        · rw [if_pos c6] at H
          have c6b0 := eq_true c6
          have c6b1 : decide ((strOfNums y261).size + x3_1.size ≤ 9223372036854775807) = true := decide_eq_true c6
          try have c6b2 : (9223372036854775807 < (strOfNums y261).size + x3_1.size) = False := eq_false (Nat.not_lt.2 c6)
          have H' := Aside0.mk H
          clear H
          go_wp2_with (first | ((with_reducible refine gate_dst (N := 18) rfl ?_); refine Kd.R_lit (Kd.int .u8) _ 5 ?hg (N := 18) ?hd (xs := ([(wrap64 (48 + (Int.tmod (wrap64 (Int.tdiv x0_1 10)) 10))) % 256] : List Int)) (inner := [.int .u8 ((wrap64 (48 + (Int.tmod (wrap64 (Int.tdiv x0_1 10)) 10))) % 256)]) (ok := fun _ => True) (okp := fun _ => True) ?hr ?hp (fun _ hk => hk) trivial (Below.refl _ _) (Nat.le_refl _) (by simp) ?_; (case hd => rfl); (case hg => rfl); (case hr => first | (go_simp; done) | (go_simp; rfl)); (case hp => exact (Reps.one (show Kd.M (Kd.int .u8) _ _ _ ((wrap64 (48 + (Int.tmod (wrap64 (Int.tdiv x0_1 10)) 10))) % 256) [.int .u8 ((wrap64 (48 + (Int.tmod (wrap64 (Int.tdiv x0_1 10)) 10))) % 256)] from rfl) (Reps.none _ _))); intro v262 w7 ho8 hb hg_ hnew_; clear hg_ hnew_; (first | rw [← Ny261.out] at ho8 | (simp only [Int.reduceToNat] at ho8; rw [← Ny261.out] at ho8)); have n0_ := Aside0.mk (Kd.R_lower ho8 (below_size (by repeat (first | (with_reducible first | exact HB.out | apply below_alloc | apply pw_below_drewN | apply below_drew1) | exact HB.out)))); have n1_ := Aside0.mk (below_step (by repeat (first | (with_reducible first | exact HB.out | apply below_alloc | apply pw_below_drewN | apply below_drew1) | exact HB.out)) hb); clear HB; have HO263 := n0_; have HB := n1_; clear n0_ n1_; clear hb ho8; have hcv9 := own_string (P := Tryd.prog) Tryd.underlying76 Tryd.underlying5 Tryd.underlying9 (Kd.own_of_R HO263.out)))
          go_roundg k1
          case measure => have := HK1.out; omega
          case rel => exact ⟨(wrap64 (Int.tdiv x0_1 10)), ((strOfNums y261) ++ x3_1), (by first | rfl | (simp; done) | (simp [*]; done)), (by first | rfl | (simp; done) | (simp [*]; done)), H', ⟨by have := HK1.out; omega⟩, ⟨by repeat (first | (with_reducible first | exact HB.out | apply below_alloc | apply pw_below_drewN | apply below_drew1) | exact HB.out)⟩⟩
        rw [if_neg c6] at H
        exact absurd H (by simp)
      rw [if_neg c5] at H
      have c5b0 : decide (10 ≤ x0_1) = false := decide_eq_false c5
      clear c5
      obtain rfl := Option.some.inj H
      go_wp2
      go_ret
      exact ⟨by first | rfl | (simp [errW_none, errW_some] <;> rfl) | (simp [*, errW_none, errW_some] <;> rfl), by repeat (first | (with_reducible first | exact HB.out | apply below_alloc | apply pw_below_drewN | apply below_drew1) | exact HB.out)⟩
/-! ### spec_name: function 68 -/
def spec_name.f (a0 : Int) : Option (ByteArray) := if a0 = 2 then (some (⟨#[119, 105, 108, 100, 99, 97, 114, 100]⟩ : ByteArray)) else (if a0 = 3 then (some (⟨#[115, 112, 108, 105, 116]⟩ : ByteArray)) else (if a0 = 4 then (some (⟨#[115, 112, 108, 105, 116, 102, 114, 111, 109, 108, 101, 102, 116]⟩ : ByteArray)) else (if a0 = 5 then (some (⟨#[115, 112, 108, 105, 116, 102, 114, 111, 109, 114, 105, 103, 104, 116]⟩ : ByteArray)) else (if a0 = 6 then (some (⟨#[115, 108, 105, 99, 101, 102, 114, 111, 109, 108, 101, 102, 116]⟩ : ByteArray)) else (if a0 = 7 then (some (⟨#[115, 108, 105, 99, 101, 102, 114, 111, 109, 114, 105, 103, 104, 116]⟩ : ByteArray)) else (if a0 = 8 then (some (⟨#[108, 101, 102, 116]⟩ : ByteArray)) else (if a0 = 9 then (some (⟨#[114, 105, 103, 104, 116]⟩ : ByteArray)) else (some (⟨#[112, 97, 114, 116, 105, 116, 105, 111, 110]⟩ : ByteArray)))))))))
set_option maxHeartbeats 8000000 in
set_option maxRecDepth 100000 in
theorem spec_name.calls (a0 : Int) (r : ByteArray) (w : World) (h : spec_name.f a0 = some r) :
    Calls Tryd.prog 68 #[.int .i64 a0] w fun e w' => e = .returned (.string r) ∧ Drawn0 w w' := by
  have H : (if a0 = 2 then (some (⟨#[119, 105, 108, 100, 99, 97, 114, 100]⟩ : ByteArray)) else (if a0 = 3 then (some (⟨#[115, 112, 108, 105, 116]⟩ : ByteArray)) else (if a0 = 4 then (some (⟨#[115, 112, 108, 105, 116, 102, 114, 111, 109, 108, 101, 102, 116]⟩ : ByteArray)) else (if a0 = 5 then (some (⟨#[115, 112, 108, 105, 116, 102, 114, 111, 109, 114, 105, 103, 104, 116]⟩ : ByteArray)) else (if a0 = 6 then (some (⟨#[115, 108, 105, 99, 101, 102, 114, 111, 109, 108, 101, 102, 116]⟩ : ByteArray)) else (if a0 = 7 then (some (⟨#[115, 108, 105, 99, 101, 102, 114, 111, 109, 114, 105, 103, 104, 116]⟩ : ByteArray)) else (if a0 = 8 then (some (⟨#[108, 101, 102, 116]⟩ : ByteArray)) else (if a0 = 9 then (some (⟨#[114, 105, 103, 104, 116]⟩ : ByteArray)) else (some (⟨#[112, 97, 114, 116, 105, 116, 105, 111, 110]⟩ : ByteArray)))))))))) = some r := h
  clear h
  by_cases c2 : a0 = 2
  · rw [if_pos c2] at H
    have c2b0 : (a0 == 2) = true := beq_iff_eq.mpr c2
    have c2b1 : (a0 != 2) = false := bne_eq_false_iff_eq.mpr c2
    clear c2
    obtain rfl := Option.some.inj H
    go_enter Tryd.func68, Tryd.ntmps68
    go_wp2
    go_ret
    exact ⟨by first | rfl | (simp; done) | (simp [*]; done) | (simp; cases a0.toList <;> rfl) /- isEmpty -/, by repeat (first | exact Drawn0.refl _ | apply Drawn0.step)⟩
  rw [if_neg c2] at H
  have c2b0 : (a0 == 2) = false := beq_eq_false_iff_ne.mpr c2
  have c2b1 : (a0 != 2) = true := bne_iff_ne.mpr c2
  by_cases c3 : a0 = 3
  · rw [if_pos c3] at H
    have c3b0 : (a0 == 3) = true := beq_iff_eq.mpr c3
    have c3b1 : (a0 != 3) = false := bne_eq_false_iff_eq.mpr c3
    clear c3
    obtain rfl := Option.some.inj H
    go_enter Tryd.func68, Tryd.ntmps68
    go_wp2
    go_ret
    exact ⟨by first | rfl | (simp; done) | (simp [*]; done) | (simp; cases a0.toList <;> rfl) /- isEmpty -/, by repeat (first | exact Drawn0.refl _ | apply Drawn0.step)⟩
  rw [if_neg c3] at H
  have c3b0 : (a0 == 3) = false := beq_eq_false_iff_ne.mpr c3
  have c3b1 : (a0 != 3) = true := bne_iff_ne.mpr c3
  by_cases c4 : a0 = 4
  · rw [if_pos c4] at H
    have c4b0 : (a0 == 4) = true := beq_iff_eq.mpr c4
    have c4b1 : (a0 != 4) = false := bne_eq_false_iff_eq.mpr c4
    clear c4
    obtain rfl := Option.some.inj H
    go_enter Tryd.func68, Tryd.ntmps68
    go_wp2
    go_ret
    exact ⟨by first | rfl | (simp; done) | (simp [*]; done) | (simp; cases a0.toList <;> rfl) /- isEmpty -/, by repeat (first | exact Drawn0.refl _ | apply Drawn0.step)⟩
  rw [if_neg c4] at H
  have c4b0 : (a0 == 4) = false := beq_eq_false_iff_ne.mpr c4
  have c4b1 : (a0 != 4) = true := bne_iff_ne.mpr c4
  by_cases c5 : a0 = 5
  · rw [if_pos c5] at H
    have c5b0 : (a0 == 5) = true := beq_iff_eq.mpr c5
    have c5b1 : (a0 != 5) = false := bne_eq_false_iff_eq.mpr c5
    clear c5
    obtain rfl := Option.some.inj H
    go_enter Tryd.func68, Tryd.ntmps68
    go_wp2
    go_ret
    exact ⟨by first | rfl | (simp; done) | (simp [*]; done) | (simp; cases a0.toList <;> rfl) /- isEmpty -/, by repeat (first | exact Drawn0.refl _ | apply Drawn0.step)⟩
  rw [if_neg c5] at H
  have c5b0 : (a0 == 5) = false := beq_eq_false_iff_ne.mpr c5
  have c5b1 : (a0 != 5) = true := bne_iff_ne.mpr c5
  by_cases c6 : a0 = 6
  · rw [if_pos c6] at H
    have c6b0 : (a0 == 6) = true := beq_iff_eq.mpr c6
    have c6b1 : (a0 != 6) = false := bne_eq_false_iff_eq.mpr c6
    clear c6
    obtain rfl := Option.some.inj H
    go_enter Tryd.func68, Tryd.ntmps68
    go_wp2
    go_ret
    exact ⟨by first | rfl | (simp; done) | (simp [*]; done) | (simp; cases a0.toList <;> rfl) /- isEmpty -/, by repeat (first | exact Drawn0.refl _ | apply Drawn0.step)⟩
  rw [if_neg c6] at H
  have c6b0 : (a0 == 6) = false := beq_eq_false_iff_ne.mpr c6
  have c6b1 : (a0 != 6) = true := bne_iff_ne.mpr c6
  by_cases c7 : a0 = 7
  · rw [if_pos c7] at H
    have c7b0 : (a0 == 7) = true := beq_iff_eq.mpr c7
    have c7b1 : (a0 != 7) = false := bne_eq_false_iff_eq.mpr c7
    clear c7
    obtain rfl := Option.some.inj H
    go_enter Tryd.func68, Tryd.ntmps68
    go_wp2
    go_ret
    exact ⟨by first | rfl | (simp; done) | (simp [*]; done) | (simp; cases a0.toList <;> rfl) /- isEmpty -/, by repeat (first | exact Drawn0.refl _ | apply Drawn0.step)⟩
  rw [if_neg c7] at H
  have c7b0 : (a0 == 7) = false := beq_eq_false_iff_ne.mpr c7
  have c7b1 : (a0 != 7) = true := bne_iff_ne.mpr c7
  by_cases c8 : a0 = 8
  · rw [if_pos c8] at H
    have c8b0 : (a0 == 8) = true := beq_iff_eq.mpr c8
    have c8b1 : (a0 != 8) = false := bne_eq_false_iff_eq.mpr c8
    clear c8
    obtain rfl := Option.some.inj H
    go_enter Tryd.func68, Tryd.ntmps68
    go_wp2
    go_ret
    exact ⟨by first | rfl | (simp; done) | (simp [*]; done) | (simp; cases a0.toList <;> rfl) /- isEmpty -/, by repeat (first | exact Drawn0.refl _ | apply Drawn0.step)⟩
  rw [if_neg c8] at H
  have c8b0 : (a0 == 8) = false := beq_eq_false_iff_ne.mpr c8
  have c8b1 : (a0 != 8) = true := bne_iff_ne.mpr c8
  by_cases c9 : a0 = 9
  · rw [if_pos c9] at H
    have c9b0 : (a0 == 9) = true := beq_iff_eq.mpr c9
    have c9b1 : (a0 != 9) = false := bne_eq_false_iff_eq.mpr c9
    clear c9
    obtain rfl := Option.some.inj H
    go_enter Tryd.func68, Tryd.ntmps68
    go_wp2
    go_ret
    exact ⟨by first | rfl | (simp; done) | (simp [*]; done) | (simp; cases a0.toList <;> rfl) /- isEmpty -/, by repeat (first | exact Drawn0.refl _ | apply Drawn0.step)⟩
  rw [if_neg c9] at H
  have c9b0 : (a0 == 9) = false := beq_eq_false_iff_ne.mpr c9
  have c9b1 : (a0 != 9) = true := bne_iff_ne.mpr c9
  obtain rfl := Option.some.inj H
  go_enter Tryd.func68, Tryd.ntmps68
  go_wp2
  go_ret
  exact ⟨by first | rfl | (simp; done) | (simp [*]; done) | (simp; cases a0.toList <;> rfl) /- isEmpty -/, by repeat (first | exact Drawn0.refl _ | apply Drawn0.step)⟩
/-! ### spec_text: function 51 -/
def spec_text.l0 : Nat → ByteArray → Int → Int → ByteArray → Int → Int → List Int → Option (ByteArray)
  | 0, _, _, _, _, _, _, _ => none
  | k + 1, x3, x4, x265000, x265001, x265002, x265003, x265004 => if x4 < (x265004.length : Int) then (if 0 ≤ x4 then ((spec_Digits.f k (rd x265004 x4)).bind fun t270 => (if 1 + t270.size ≤ 9223372036854775807 then (if x3.size + ((⟨#[44]⟩ : ByteArray) ++ t270).size ≤ 9223372036854775807 then (spec_text.l0 k (x3 ++ ((⟨#[44]⟩ : ByteArray) ++ t270)) (wrap64 (x4 + 1)) x265000 x265001 x265002 x265003 x265004) else (none)) else (none))) else (none)) else (if x3.size + 3 ≤ 9223372036854775807 then (some (x3 ++ (⟨#[41, 125, 125]⟩ : ByteArray))) else (none))
def spec_text.f (k : Nat) (a0_0 : Int) (a0_1 : ByteArray) (a0_2 : Int) (a0_3 : Int) (l0_4 : List Int) : Option (ByteArray) := if a0_0 = 0 then (some a0_1) else (if a0_0 = 1 then ((spec_Digits.f k a0_2).bind fun t265 => (if 1 + t265.size ≤ 9223372036854775807 then (some ((⟨#[36]⟩ : ByteArray) ++ t265)) else (none))) else (if a0_0 = 11 then (some (⟨#[62]⟩ : ByteArray)) else (if a0_0 = 2 then ((spec_Digits.f k a0_2).bind fun t266 => (if 11 + t266.size ≤ 9223372036854775807 then (if ((⟨#[123, 123, 119, 105, 108, 100, 99, 97, 114, 100, 40]⟩ : ByteArray) ++ t266).size + 3 ≤ 9223372036854775807 then (some (((⟨#[123, 123, 119, 105, 108, 100, 99, 97, 114, 100, 40]⟩ : ByteArray) ++ t266) ++ (⟨#[41, 125, 125]⟩ : ByteArray))) else (none)) else (none))) else (if a0_0 = 3 then ((spec_Digits.f k a0_2).bind fun t267 => (if 8 + t267.size ≤ 9223372036854775807 then (if ((⟨#[123, 123, 115, 112, 108, 105, 116, 40]⟩ : ByteArray) ++ t267).size + 1 ≤ 9223372036854775807 then (if (((⟨#[123, 123, 115, 112, 108, 105, 116, 40]⟩ : ByteArray) ++ t267) ++ (⟨#[44]⟩ : ByteArray)).size + a0_1.size ≤ 9223372036854775807 then (if ((((⟨#[123, 123, 115, 112, 108, 105, 116, 40]⟩ : ByteArray) ++ t267) ++ (⟨#[44]⟩ : ByteArray)) ++ a0_1).size + 3 ≤ 9223372036854775807 then (some (((((⟨#[123, 123, 115, 112, 108, 105, 116, 40]⟩ : ByteArray) ++ t267) ++ (⟨#[44]⟩ : ByteArray)) ++ a0_1) ++ (⟨#[41, 125, 125]⟩ : ByteArray))) else (none)) else (none)) else (none)) else (none))) else (if a0_0 = 10 then ((spec_Digits.f k a0_3).bind fun t268 => (if 12 + t268.size ≤ 9223372036854775807 then (spec_text.l0 k ((⟨#[123, 123, 112, 97, 114, 116, 105, 116, 105, 111, 110, 40]⟩ : ByteArray) ++ t268) 0 a0_0 a0_1 a0_2 a0_3 l0_4) else (none))) else ((spec_name.f a0_0).bind fun t271 => (if 2 + t271.size ≤ 9223372036854775807 then (if ((⟨#[123, 123]⟩ : ByteArray) ++ t271).size + 1 ≤ 9223372036854775807 then ((spec_Digits.f k a0_2).bind fun t272 => (if (((⟨#[123, 123]⟩ : ByteArray) ++ t271) ++ (⟨#[40]⟩ : ByteArray)).size + t272.size ≤ 9223372036854775807 then (if ((((⟨#[123, 123]⟩ : ByteArray) ++ t271) ++ (⟨#[40]⟩ : ByteArray)) ++ t272).size + 1 ≤ 9223372036854775807 then ((spec_Digits.f k a0_3).bind fun t273 => (if (((((⟨#[123, 123]⟩ : ByteArray) ++ t271) ++ (⟨#[40]⟩ : ByteArray)) ++ t272) ++ (⟨#[44]⟩ : ByteArray)).size + t273.size ≤ 9223372036854775807 then (if ((((((⟨#[123, 123]⟩ : ByteArray) ++ t271) ++ (⟨#[40]⟩ : ByteArray)) ++ t272) ++ (⟨#[44]⟩ : ByteArray)) ++ t273).size + 3 ≤ 9223372036854775807 then (some (((((((⟨#[123, 123]⟩ : ByteArray) ++ t271) ++ (⟨#[40]⟩ : ByteArray)) ++ t272) ++ (⟨#[44]⟩ : ByteArray)) ++ t273) ++ (⟨#[41, 125, 125]⟩ : ByteArray))) else (none)) else (none))) else (none)) else (none))) else (none)) else (none))))))))
def spec_text.T11 : Bool × List (List Nat × List Nat) := (true, [([], []), ([0], [0]), ([1], [1]), ([2], [2]), ([3], [3]), ([], []), ([5], [5]), ([4, 6], [4, 6]), ([7], [7]), ([8, 2, 0, 1, 2, 3, 4, 5, 6, 7, 8], [8])])
def spec_text.B11 : List Nat := [0, 1, 3, 7, 15, 0, 32, 127, 255, 511]
theorem spec_text.tab11 : rtab .any (opsOf Tryd.f51 11) = spec_text.T11 := by kernel_rfl
theorem spec_text.bits11 : waitsOk spec_text.T11.2 spec_text.B11 = true := by kernel_rfl
def spec_text.T19 : Bool × List (List Nat × List Nat) := (true, [([], []), ([0], [0]), ([1], [1]), ([2], [2]), ([3], [3]), ([], []), ([5], [5]), ([6, 2], [6]), ([4, 7], [4, 7]), ([8], [8]), ([], []), ([10], [10]), ([11, 7], [11]), ([9, 12], [9, 12]), ([13], [13]), ([14, 12, 0, 1, 2, 3, 4, 5, 6, 7, 8, 9, 10, 11, 12, 13, 14], [14])])
def spec_text.B19 : List Nat := [0, 1, 3, 7, 15, 0, 32, 103, 255, 511, 0, 1024, 3303, 8191, 16383, 32767]
theorem spec_text.tab19 : rtab .any (opsOf Tryd.f51 19) = spec_text.T19 := by kernel_rfl
theorem spec_text.bits19 : waitsOk spec_text.T19.2 spec_text.B19 = true := by kernel_rfl
set_option maxHeartbeats 8000000 in
set_option maxRecDepth 100000 in
theorem spec_text.calls (k : Nat) (a0_0 : Int) (a0_1 : ByteArray) (a0_2 : Int) (a0_3 : Int) (A0_4 : Option Addr) (c0_4 : Nat) (l0_4 : List Int) (r : ByteArray) (w : World) (hr0_4 : Kd.C (Kd.int .i64) w A0_4 l0_4.length l0_4) (hc0_4 : l0_4.length ≤ c0_4) (h : spec_text.f k a0_0 a0_1 a0_2 a0_3 l0_4 = some r) :
    Calls Tryd.prog 51 #[.agg #[.int .i64 a0_0, .string a0_1, .int .i64 a0_2, .int .i64 a0_3, .slice A0_4 l0_4.length c0_4]] w fun e w' => e = .returned (.string r) ∧ Below w.heap.size w w' := by
  have hu42 := Tryd.underlying42
  have HR0_4 := Aside0.mk hr0_4
  have HC0_4 := Aside0.mk hc0_4
  clear hr0_4 hc0_4
  have HB := Aside0.mk (Below.refl w.heap.size w)
  have H : (if a0_0 = 0 then (some a0_1) else (if a0_0 = 1 then ((spec_Digits.f k a0_2).bind fun t265 => (if 1 + t265.size ≤ 9223372036854775807 then (some ((⟨#[36]⟩ : ByteArray) ++ t265)) else (none))) else (if a0_0 = 11 then (some (⟨#[62]⟩ : ByteArray)) else (if a0_0 = 2 then ((spec_Digits.f k a0_2).bind fun t266 => (if 11 + t266.size ≤ 9223372036854775807 then (if ((⟨#[123, 123, 119, 105, 108, 100, 99, 97, 114, 100, 40]⟩ : ByteArray) ++ t266).size + 3 ≤ 9223372036854775807 then (some (((⟨#[123, 123, 119, 105, 108, 100, 99, 97, 114, 100, 40]⟩ : ByteArray) ++ t266) ++ (⟨#[41, 125, 125]⟩ : ByteArray))) else (none)) else (none))) else (if a0_0 = 3 then ((spec_Digits.f k a0_2).bind fun t267 => (if 8 + t267.size ≤ 9223372036854775807 then (if ((⟨#[123, 123, 115, 112, 108, 105, 116, 40]⟩ : ByteArray) ++ t267).size + 1 ≤ 9223372036854775807 then (if (((⟨#[123, 123, 115, 112, 108, 105, 116, 40]⟩ : ByteArray) ++ t267) ++ (⟨#[44]⟩ : ByteArray)).size + a0_1.size ≤ 9223372036854775807 then (if ((((⟨#[123, 123, 115, 112, 108, 105, 116, 40]⟩ : ByteArray) ++ t267) ++ (⟨#[44]⟩ : ByteArray)) ++ a0_1).size + 3 ≤ 9223372036854775807 then (some (((((⟨#[123, 123, 115, 112, 108, 105, 116, 40]⟩ : ByteArray) ++ t267) ++ (⟨#[44]⟩ : ByteArray)) ++ a0_1) ++ (⟨#[41, 125, 125]⟩ : ByteArray))) else (none)) else (none)) else (none)) else (none))) else (if a0_0 = 10 then ((spec_Digits.f k a0_3).bind fun t268 => (if 12 + t268.size ≤ 9223372036854775807 then (spec_text.l0 k ((⟨#[123, 123, 112, 97, 114, 116, 105, 116, 105, 111, 110, 40]⟩ : ByteArray) ++ t268) 0 a0_0 a0_1 a0_2 a0_3 l0_4) else (none))) else ((spec_name.f a0_0).bind fun t271 => (if 2 + t271.size ≤ 9223372036854775807 then (if ((⟨#[123, 123]⟩ : ByteArray) ++ t271).size + 1 ≤ 9223372036854775807 then ((spec_Digits.f k a0_2).bind fun t272 => (if (((⟨#[123, 123]⟩ : ByteArray) ++ t271) ++ (⟨#[40]⟩ : ByteArray)).size + t272.size ≤ 9223372036854775807 then (if ((((⟨#[123, 123]⟩ : ByteArray) ++ t271) ++ (⟨#[40]⟩ : ByteArray)) ++ t272).size + 1 ≤ 9223372036854775807 then ((spec_Digits.f k a0_3).bind fun t273 => (if (((((⟨#[123, 123]⟩ : ByteArray) ++ t271) ++ (⟨#[40]⟩ : ByteArray)) ++ t272) ++ (⟨#[44]⟩ : ByteArray)).size + t273.size ≤ 9223372036854775807 then (if ((((((⟨#[123, 123]⟩ : ByteArray) ++ t271) ++ (⟨#[40]⟩ : ByteArray)) ++ t272) ++ (⟨#[44]⟩ : ByteArray)) ++ t273).size + 3 ≤ 9223372036854775807 then (some (((((((⟨#[123, 123]⟩ : ByteArray) ++ t271) ++ (⟨#[40]⟩ : ByteArray)) ++ t272) ++ (⟨#[44]⟩ : ByteArray)) ++ t273) ++ (⟨#[41, 125, 125]⟩ : ByteArray))) else (none)) else (none))) else (none)) else (none))) else (none)) else (none))))))))) = some r := h
  clear h
  by_cases c2 : a0_0 = 0
  · rw [if_pos c2] at H
    have c2b0 : (a0_0 == 0) = true := beq_iff_eq.mpr c2
    have c2b1 : (a0_0 != 0) = false := bne_eq_false_iff_eq.mpr c2
    clear c2
    obtain rfl := Option.some.inj H
    go_enter Tryd.func51, Tryd.ntmps51
    go_wp2_with (first | ((with_reducible refine gate_dst (N := 1) rfl ?_); refine box_event ?hg (N := 1) ?hd (cs := #[.int .i64 a0_0, .string a0_1, .int .i64 a0_2, .int .i64 a0_3, .slice A0_4 l0_4.length c0_4]) (t := 42) ?hr ?_; (case hd => rfl); (case hg => rfl); (case hr => first | (go_simp; done) | (go_simp; rfl)); intro gb264 hg w3 hbox hb; have n0_ := Aside0.mk (below_step (by repeat (first | (with_reducible first | exact HB.out | apply below_alloc | apply pw_below_drewN | apply below_drew1) | exact HB.out)) hb); have n1_ := Aside0.mk (hbox); have n2_ := Aside0.mk ((by rw [hg]; exact (below_size (by repeat (first | (with_reducible first | exact HB.out | apply below_alloc | apply pw_below_drewN | apply below_drew1) | exact HB.out))) : w.heap.size ≤ gb264)); have n3_ := Aside0.mk ((by rw [hg]; exact (below_size (by repeat (first | (with_reducible first | exact HB.out | apply below_alloc | apply pw_below_drewN | apply below_drew1) | exact HB.out))) : w.heap.size ≤ gb264)); clear HB; have HB := n0_; have BK264 := n1_; have GW264 := n2_; have GE264 := n3_; clear n0_ n1_ n2_ n3_; clear hb hbox hg; have hcz4_0 : w3.cell? ⟨gb264, 0, none⟩ = some (.int .i64 a0_0) := (blk_cell BK264.out 0).trans rfl; have hcz4_1 : w3.cell? ⟨gb264, 1, none⟩ = some (.string a0_1) := (blk_cell BK264.out 1).trans rfl; have hcz4_2 : w3.cell? ⟨gb264, 2, none⟩ = some (.int .i64 a0_2) := (blk_cell BK264.out 2).trans rfl; have hcz4_3 : w3.cell? ⟨gb264, 3, none⟩ = some (.int .i64 a0_3) := (blk_cell BK264.out 3).trans rfl; have hcz4_4 : w3.cell? ⟨gb264, 4, none⟩ = some (.slice A0_4 l0_4.length c0_4) := (blk_cell BK264.out 4).trans rfl; have hfz4_0 := blk_frozen BK264.out 0; have hfz4_1 := blk_frozen BK264.out 1; have hfz4_2 := blk_frozen BK264.out 2; have hfz4_3 := blk_frozen BK264.out 3; have hfz4_4 := blk_frozen BK264.out 4))
    go_ret
    exact ⟨by first | rfl | (simp [errW_none, errW_some] <;> rfl) | (simp [*, errW_none, errW_some] <;> rfl), by repeat (first | (with_reducible first | exact HB.out | apply below_alloc | apply pw_below_drewN | apply below_drew1 | refine below_set ?_ GE264.out) | exact HB.out)⟩
  rw [if_neg c2] at H
  have c2b0 : (a0_0 == 0) = false := beq_eq_false_iff_ne.mpr c2
  have c2b1 : (a0_0 != 0) = true := bne_iff_ne.mpr c2
  by_cases c5 : a0_0 = 1
  · rw [if_pos c5] at H
    have c5b0 : (a0_0 == 1) = true := beq_iff_eq.mpr c5
    have c5b1 : (a0_0 != 1) = false := bne_eq_false_iff_eq.mpr c5
    clear c5
    replace H := Option.bind_eq_some_iff.mp H
    obtain ⟨t265, A60, H⟩ := H
    replace H : (if 1 + t265.size ≤ 9223372036854775807 then (some ((⟨#[36]⟩ : ByteArray) ++ t265)) else (none)) = some r := H
    have A6 := Aside0.mk A60
    clear A60
    by_cases c7 : 1 + t265.size ≤ 9223372036854775807
    · rw [if_pos c7] at H
      have c7b0 := eq_true c7
      have c7b1 : decide (1 + t265.size ≤ 9223372036854775807) = true := decide_eq_true c7
      try have c7b2 : (9223372036854775807 < 1 + t265.size) = False := eq_false (Nat.not_lt.2 c7)
      obtain rfl := Option.some.inj H
      go_enter Tryd.func51, Tryd.ntmps51
      go_wp2_with (first | ((with_reducible refine gate_dst (N := 1) rfl ?_); refine box_event ?hg (N := 1) ?hd (cs := #[.int .i64 a0_0, .string a0_1, .int .i64 a0_2, .int .i64 a0_3, .slice A0_4 l0_4.length c0_4]) (t := 42) ?hr ?_; (case hd => rfl); (case hg => rfl); (case hr => first | (go_simp; done) | (go_simp; rfl)); intro gb264 hg w8 hbox hb; have n0_ := Aside0.mk (below_step (by repeat (first | (with_reducible first | exact HB.out | apply below_alloc | apply pw_below_drewN | apply below_drew1) | exact HB.out)) hb); have n1_ := Aside0.mk (hbox); have n2_ := Aside0.mk ((by rw [hg]; exact (below_size (by repeat (first | (with_reducible first | exact HB.out | apply below_alloc | apply pw_below_drewN | apply below_drew1) | exact HB.out))) : w.heap.size ≤ gb264)); have n3_ := Aside0.mk ((by rw [hg]; exact (below_size (by repeat (first | (with_reducible first | exact HB.out | apply below_alloc | apply pw_below_drewN | apply below_drew1) | exact HB.out))) : w.heap.size ≤ gb264)); clear HB; have HB := n0_; have BK264 := n1_; have GW264 := n2_; have GE264 := n3_; clear n0_ n1_ n2_ n3_; clear hb hbox hg; have hcz9_0 : w8.cell? ⟨gb264, 0, none⟩ = some (.int .i64 a0_0) := (blk_cell BK264.out 0).trans rfl; have hcz9_1 : w8.cell? ⟨gb264, 1, none⟩ = some (.string a0_1) := (blk_cell BK264.out 1).trans rfl; have hcz9_2 : w8.cell? ⟨gb264, 2, none⟩ = some (.int .i64 a0_2) := (blk_cell BK264.out 2).trans rfl; have hcz9_3 : w8.cell? ⟨gb264, 3, none⟩ = some (.int .i64 a0_3) := (blk_cell BK264.out 3).trans rfl; have hcz9_4 : w8.cell? ⟨gb264, 4, none⟩ = some (.slice A0_4 l0_4.length c0_4) := (blk_cell BK264.out 4).trans rfl; have hfz9_0 := blk_frozen BK264.out 0; have hfz9_1 := blk_frozen BK264.out 1; have hfz9_2 := blk_frozen BK264.out 2; have hfz9_3 := blk_frozen BK264.out 3; have hfz9_4 := blk_frozen BK264.out 4) | ((with_reducible refine gate_callee (f := 34) rfl ?_); refine goesL_ (some 15) rfl rfl Tryd.func34 (by kernel_rfl) rfl #[.int .i64 a0_2] rfl (by (try simp only [List.map_toArray, List.map_cons, List.map_nil]); first | done | rfl | (simp only [List.length_drop, List.length_take]; rfl)) ?_; (with_reducible refine (spec_Digits.calls k a0_2 t265 _ A6.out).mono ?_); rintro e w10 ⟨rfl, hb⟩; refine ⟨_, rfl, ?_⟩; have n0_ := Aside0.mk (blk_below (g := gb264) (o := .cells #[.int .i64 a0_0, .string a0_1, .int .i64 a0_2, .int .i64 a0_3, .slice A0_4 l0_4.length c0_4] 42 (0, 0)) (by (with_reducible repeat (first | refine blk_drewN ?_ _ | refine blk_drew ?_ | refine blk_alloc ?_ _)); exact BK264.out) hb); have n1_ := Aside0.mk (below_step (by repeat (first | (with_reducible first | exact HB.out | apply below_alloc | apply pw_below_drewN | apply below_drew1 | refine below_set ?_ GE264.out) | exact HB.out)) hb); clear BK264; clear HB; have BK264 := n0_; have HB := n1_; clear n0_ n1_; (try clear hb); (try clear hb2); (try clear hk); (try clear hi)))
      go_ret
      exact ⟨by first | rfl | (simp [errW_none, errW_some] <;> rfl) | (simp [*, errW_none, errW_some] <;> rfl), by repeat (first | (with_reducible first | exact HB.out | apply below_alloc | apply pw_below_drewN | apply below_drew1 | refine below_set ?_ GE264.out) | exact HB.out)⟩
    rw [if_neg c7] at H
    exact absurd H (by simp)
  rw [if_neg c5] at H
  have c5b0 : (a0_0 == 1) = false := beq_eq_false_iff_ne.mpr c5
  have c5b1 : (a0_0 != 1) = true := bne_iff_ne.mpr c5
  by_cases c11 : a0_0 = 11
  · rw [if_pos c11] at H
    have c11b0 : (a0_0 == 11) = true := beq_iff_eq.mpr c11
    have c11b1 : (a0_0 != 11) = false := bne_eq_false_iff_eq.mpr c11
    clear c11
    obtain rfl := Option.some.inj H
    go_enter Tryd.func51, Tryd.ntmps51
    go_wp2_with (first | ((with_reducible refine gate_dst (N := 1) rfl ?_); refine box_event ?hg (N := 1) ?hd (cs := #[.int .i64 a0_0, .string a0_1, .int .i64 a0_2, .int .i64 a0_3, .slice A0_4 l0_4.length c0_4]) (t := 42) ?hr ?_; (case hd => rfl); (case hg => rfl); (case hr => first | (go_simp; done) | (go_simp; rfl)); intro gb264 hg w12 hbox hb; have n0_ := Aside0.mk (below_step (by repeat (first | (with_reducible first | exact HB.out | apply below_alloc | apply pw_below_drewN | apply below_drew1) | exact HB.out)) hb); have n1_ := Aside0.mk (hbox); have n2_ := Aside0.mk ((by rw [hg]; exact (below_size (by repeat (first | (with_reducible first | exact HB.out | apply below_alloc | apply pw_below_drewN | apply below_drew1) | exact HB.out))) : w.heap.size ≤ gb264)); have n3_ := Aside0.mk ((by rw [hg]; exact (below_size (by repeat (first | (with_reducible first | exact HB.out | apply below_alloc | apply pw_below_drewN | apply below_drew1) | exact HB.out))) : w.heap.size ≤ gb264)); clear HB; have HB := n0_; have BK264 := n1_; have GW264 := n2_; have GE264 := n3_; clear n0_ n1_ n2_ n3_; clear hb hbox hg; have hcz13_0 : w12.cell? ⟨gb264, 0, none⟩ = some (.int .i64 a0_0) := (blk_cell BK264.out 0).trans rfl; have hcz13_1 : w12.cell? ⟨gb264, 1, none⟩ = some (.string a0_1) := (blk_cell BK264.out 1).trans rfl; have hcz13_2 : w12.cell? ⟨gb264, 2, none⟩ = some (.int .i64 a0_2) := (blk_cell BK264.out 2).trans rfl; have hcz13_3 : w12.cell? ⟨gb264, 3, none⟩ = some (.int .i64 a0_3) := (blk_cell BK264.out 3).trans rfl; have hcz13_4 : w12.cell? ⟨gb264, 4, none⟩ = some (.slice A0_4 l0_4.length c0_4) := (blk_cell BK264.out 4).trans rfl; have hfz13_0 := blk_frozen BK264.out 0; have hfz13_1 := blk_frozen BK264.out 1; have hfz13_2 := blk_frozen BK264.out 2; have hfz13_3 := blk_frozen BK264.out 3; have hfz13_4 := blk_frozen BK264.out 4))
    go_ret
    exact ⟨by first | rfl | (simp [errW_none, errW_some] <;> rfl) | (simp [*, errW_none, errW_some] <;> rfl), by repeat (first | (with_reducible first | exact HB.out | apply below_alloc | apply pw_below_drewN | apply below_drew1 | refine below_set ?_ GE264.out) | exact HB.out)⟩
  rw [if_neg c11] at H
  have c11b0 : (a0_0 == 11) = false := beq_eq_false_iff_ne.mpr c11
  have c11b1 : (a0_0 != 11) = true := bne_iff_ne.mpr c11
  by_cases c14 : a0_0 = 2
  · rw [if_pos c14] at H
    have c14b0 : (a0_0 == 2) = true := beq_iff_eq.mpr c14
    have c14b1 : (a0_0 != 2) = false := bne_eq_false_iff_eq.mpr c14
    clear c14
    replace H := Option.bind_eq_some_iff.mp H
    obtain ⟨t266, A150, H⟩ := H
    replace H : (if 11 + t266.size ≤ 9223372036854775807 then (if ((⟨#[123, 123, 119, 105, 108, 100, 99, 97, 114, 100, 40]⟩ : ByteArray) ++ t266).size + 3 ≤ 9223372036854775807 then (some (((⟨#[123, 123, 119, 105, 108, 100, 99, 97, 114, 100, 40]⟩ : ByteArray) ++ t266) ++ (⟨#[41, 125, 125]⟩ : ByteArray))) else (none)) else (none)) = some r := H
    have A15 := Aside0.mk A150
    clear A150
    by_cases c16 : 11 + t266.size ≤ 9223372036854775807
    · rw [if_pos c16] at H
      have c16b0 := eq_true c16
      have c16b1 : decide (11 + t266.size ≤ 9223372036854775807) = true := decide_eq_true c16
      try have c16b2 : (9223372036854775807 < 11 + t266.size) = False := eq_false (Nat.not_lt.2 c16)
      by_cases c17 : ((⟨#[123, 123, 119, 105, 108, 100, 99, 97, 114, 100, 40]⟩ : ByteArray) ++ t266).size + 3 ≤ 9223372036854775807
      · rw [if_pos c17] at H
        have c17b0 := eq_true c17
        have c17b1 : decide (((⟨#[123, 123, 119, 105, 108, 100, 99, 97, 114, 100, 40]⟩ : ByteArray) ++ t266).size + 3 ≤ 9223372036854775807) = true := decide_eq_true c17
        try have c17b2 : (9223372036854775807 < ((⟨#[123, 123, 119, 105, 108, 100, 99, 97, 114, 100, 40]⟩ : ByteArray) ++ t266).size + 3) = False := eq_false (Nat.not_lt.2 c17)
        have c17z : (9223372036854775807 < 11 + (t266).size + 3) = False := eq_false (Nat.not_lt.2 (by have h_ := c17; simp only [ByteArray.size_append] at h_; exact h_))
        obtain rfl := Option.some.inj H
        go_enter Tryd.func51, Tryd.ntmps51
        go_wp2_with (first | ((with_reducible refine gate_dst (N := 1) rfl ?_); refine box_event ?hg (N := 1) ?hd (cs := #[.int .i64 a0_0, .string a0_1, .int .i64 a0_2, .int .i64 a0_3, .slice A0_4 l0_4.length c0_4]) (t := 42) ?hr ?_; (case hd => rfl); (case hg => rfl); (case hr => first | (go_simp; done) | (go_simp; rfl)); intro gb264 hg w18 hbox hb; have n0_ := Aside0.mk (below_step (by repeat (first | (with_reducible first | exact HB.out | apply below_alloc | apply pw_below_drewN | apply below_drew1) | exact HB.out)) hb); have n1_ := Aside0.mk (hbox); have n2_ := Aside0.mk ((by rw [hg]; exact (below_size (by repeat (first | (with_reducible first | exact HB.out | apply below_alloc | apply pw_below_drewN | apply below_drew1) | exact HB.out))) : w.heap.size ≤ gb264)); have n3_ := Aside0.mk ((by rw [hg]; exact (below_size (by repeat (first | (with_reducible first | exact HB.out | apply below_alloc | apply pw_below_drewN | apply below_drew1) | exact HB.out))) : w.heap.size ≤ gb264)); clear HB; have HB := n0_; have BK264 := n1_; have GW264 := n2_; have GE264 := n3_; clear n0_ n1_ n2_ n3_; clear hb hbox hg; have hcz19_0 : w18.cell? ⟨gb264, 0, none⟩ = some (.int .i64 a0_0) := (blk_cell BK264.out 0).trans rfl; have hcz19_1 : w18.cell? ⟨gb264, 1, none⟩ = some (.string a0_1) := (blk_cell BK264.out 1).trans rfl; have hcz19_2 : w18.cell? ⟨gb264, 2, none⟩ = some (.int .i64 a0_2) := (blk_cell BK264.out 2).trans rfl; have hcz19_3 : w18.cell? ⟨gb264, 3, none⟩ = some (.int .i64 a0_3) := (blk_cell BK264.out 3).trans rfl; have hcz19_4 : w18.cell? ⟨gb264, 4, none⟩ = some (.slice A0_4 l0_4.length c0_4) := (blk_cell BK264.out 4).trans rfl; have hfz19_0 := blk_frozen BK264.out 0; have hfz19_1 := blk_frozen BK264.out 1; have hfz19_2 := blk_frozen BK264.out 2; have hfz19_3 := blk_frozen BK264.out 3; have hfz19_4 := blk_frozen BK264.out 4) | ((with_reducible refine gate_callee (f := 34) rfl ?_); refine goesL_ (some 23) rfl rfl Tryd.func34 (by kernel_rfl) rfl #[.int .i64 a0_2] rfl (by (try simp only [List.map_toArray, List.map_cons, List.map_nil]); first | done | rfl | (simp only [List.length_drop, List.length_take]; rfl)) ?_; (with_reducible refine (spec_Digits.calls k a0_2 t266 _ A15.out).mono ?_); rintro e w20 ⟨rfl, hb⟩; refine ⟨_, rfl, ?_⟩; have n0_ := Aside0.mk (blk_below (g := gb264) (o := .cells #[.int .i64 a0_0, .string a0_1, .int .i64 a0_2, .int .i64 a0_3, .slice A0_4 l0_4.length c0_4] 42 (0, 0)) (by (with_reducible repeat (first | refine blk_drewN ?_ _ | refine blk_drew ?_ | refine blk_alloc ?_ _)); exact BK264.out) hb); have n1_ := Aside0.mk (below_step (by repeat (first | (with_reducible first | exact HB.out | apply below_alloc | apply pw_below_drewN | apply below_drew1 | refine below_set ?_ GE264.out) | exact HB.out)) hb); clear BK264; clear HB; have BK264 := n0_; have HB := n1_; clear n0_ n1_; (try clear hb); (try clear hb2); (try clear hk); (try clear hi)))
        go_ret
        exact ⟨by first | rfl | (simp [errW_none, errW_some] <;> rfl) | (simp [*, errW_none, errW_some] <;> rfl), by repeat (first | (with_reducible first | exact HB.out | apply below_alloc | apply pw_below_drewN | apply below_drew1 | refine below_set ?_ GE264.out) | exact HB.out)⟩
      rw [if_neg c17] at H
      exact absurd H (by simp)
    rw [if_neg c16] at H
    exact absurd H (by simp)
  rw [if_neg c14] at H
  have c14b0 : (a0_0 == 2) = false := beq_eq_false_iff_ne.mpr c14
  have c14b1 : (a0_0 != 2) = true := bne_iff_ne.mpr c14
  by_cases c21 : a0_0 = 3
  · rw [if_pos c21] at H
    have c21b0 : (a0_0 == 3) = true := beq_iff_eq.mpr c21
    have c21b1 : (a0_0 != 3) = false := bne_eq_false_iff_eq.mpr c21
    clear c21
    replace H := Option.bind_eq_some_iff.mp H
    obtain ⟨t267, A220, H⟩ := H
    replace H : (if 8 + t267.size ≤ 9223372036854775807 then (if ((⟨#[123, 123, 115, 112, 108, 105, 116, 40]⟩ : ByteArray) ++ t267).size + 1 ≤ 9223372036854775807 then (if (((⟨#[123, 123, 115, 112, 108, 105, 116, 40]⟩ : ByteArray) ++ t267) ++ (⟨#[44]⟩ : ByteArray)).size + a0_1.size ≤ 9223372036854775807 then (if ((((⟨#[123, 123, 115, 112, 108, 105, 116, 40]⟩ : ByteArray) ++ t267) ++ (⟨#[44]⟩ : ByteArray)) ++ a0_1).size + 3 ≤ 9223372036854775807 then (some (((((⟨#[123, 123, 115, 112, 108, 105, 116, 40]⟩ : ByteArray) ++ t267) ++ (⟨#[44]⟩ : ByteArray)) ++ a0_1) ++ (⟨#[41, 125, 125]⟩ : ByteArray))) else (none)) else (none)) else (none)) else (none)) = some r := H
    have A22 := Aside0.mk A220
    clear A220
    by_cases c23 : 8 + t267.size ≤ 9223372036854775807
    · rw [if_pos c23] at H
      have c23b0 := eq_true c23
      have c23b1 : decide (8 + t267.size ≤ 9223372036854775807) = true := decide_eq_true c23
      try have c23b2 : (9223372036854775807 < 8 + t267.size) = False := eq_false (Nat.not_lt.2 c23)
      by_cases c24 : ((⟨#[123, 123, 115, 112, 108, 105, 116, 40]⟩ : ByteArray) ++ t267).size + 1 ≤ 9223372036854775807
      · rw [if_pos c24] at H
        have c24b0 := eq_true c24
        have c24b1 : decide (((⟨#[123, 123, 115, 112, 108, 105, 116, 40]⟩ : ByteArray) ++ t267).size + 1 ≤ 9223372036854775807) = true := decide_eq_true c24
        try have c24b2 : (9223372036854775807 < ((⟨#[123, 123, 115, 112, 108, 105, 116, 40]⟩ : ByteArray) ++ t267).size + 1) = False := eq_false (Nat.not_lt.2 c24)
        have c24z : (9223372036854775807 < 8 + (t267).size + 1) = False := eq_false (Nat.not_lt.2 (by have h_ := c24; simp only [ByteArray.size_append] at h_; exact h_))
        by_cases c25 : (((⟨#[123, 123, 115, 112, 108, 105, 116, 40]⟩ : ByteArray) ++ t267) ++ (⟨#[44]⟩ : ByteArray)).size + a0_1.size ≤ 9223372036854775807
        · rw [if_pos c25] at H
          have c25b0 := eq_true c25
          have c25b1 : decide ((((⟨#[123, 123, 115, 112, 108, 105, 116, 40]⟩ : ByteArray) ++ t267) ++ (⟨#[44]⟩ : ByteArray)).size + a0_1.size ≤ 9223372036854775807) = true := decide_eq_true c25
          try have c25b2 : (9223372036854775807 < (((⟨#[123, 123, 115, 112, 108, 105, 116, 40]⟩ : ByteArray) ++ t267) ++ (⟨#[44]⟩ : ByteArray)).size + a0_1.size) = False := eq_false (Nat.not_lt.2 c25)
          have c25z : (9223372036854775807 < 8 + (t267).size + 1 + (a0_1).size) = False := eq_false (Nat.not_lt.2 (by have h_ := c25; simp only [ByteArray.size_append] at h_; exact h_))
          by_cases c26 : ((((⟨#[123, 123, 115, 112, 108, 105, 116, 40]⟩ : ByteArray) ++ t267) ++ (⟨#[44]⟩ : ByteArray)) ++ a0_1).size + 3 ≤ 9223372036854775807
          · rw [if_pos c26] at H
            have c26b0 := eq_true c26
            have c26b1 : decide (((((⟨#[123, 123, 115, 112, 108, 105, 116, 40]⟩ : ByteArray) ++ t267) ++ (⟨#[44]⟩ : ByteArray)) ++ a0_1).size + 3 ≤ 9223372036854775807) = true := decide_eq_true c26
            try have c26b2 : (9223372036854775807 < ((((⟨#[123, 123, 115, 112, 108, 105, 116, 40]⟩ : ByteArray) ++ t267) ++ (⟨#[44]⟩ : ByteArray)) ++ a0_1).size + 3) = False := eq_false (Nat.not_lt.2 c26)
            have c26z : (9223372036854775807 < 8 + (t267).size + 1 + (a0_1).size + 3) = False := eq_false (Nat.not_lt.2 (by have h_ := c26; simp only [ByteArray.size_append] at h_; exact h_))
            obtain rfl := Option.some.inj H
            go_enter Tryd.func51, Tryd.ntmps51
            try go_wp2_with (first | ((with_reducible refine gate_dst (N := 1) rfl ?_); refine box_event ?hg (N := 1) ?hd (cs := #[.int .i64 a0_0, .string a0_1, .int .i64 a0_2, .int .i64 a0_3, .slice A0_4 l0_4.length c0_4]) (t := 42) ?hr ?_; (case hd => rfl); (case hg => rfl); (case hr => first | (go_simp; done) | (go_simp; rfl)); intro gb264 hg w27 hbox hb; have n0_ := Aside0.mk (below_step (by repeat (first | (with_reducible first | exact HB.out | apply below_alloc | apply pw_below_drewN | apply below_drew1) | exact HB.out)) hb); have n1_ := Aside0.mk (hbox); have n2_ := Aside0.mk ((by rw [hg]; exact (below_size (by repeat (first | (with_reducible first | exact HB.out | apply below_alloc | apply pw_below_drewN | apply below_drew1) | exact HB.out))) : w.heap.size ≤ gb264)); have n3_ := Aside0.mk ((by rw [hg]; exact (below_size (by repeat (first | (with_reducible first | exact HB.out | apply below_alloc | apply pw_below_drewN | apply below_drew1) | exact HB.out))) : w.heap.size ≤ gb264)); clear HB; have HB := n0_; have BK264 := n1_; have GW264 := n2_; have GE264 := n3_; clear n0_ n1_ n2_ n3_; clear hb hbox hg; have hcz28_0 : w27.cell? ⟨gb264, 0, none⟩ = some (.int .i64 a0_0) := (blk_cell BK264.out 0).trans rfl; have hcz28_1 : w27.cell? ⟨gb264, 1, none⟩ = some (.string a0_1) := (blk_cell BK264.out 1).trans rfl; have hcz28_2 : w27.cell? ⟨gb264, 2, none⟩ = some (.int .i64 a0_2) := (blk_cell BK264.out 2).trans rfl; have hcz28_3 : w27.cell? ⟨gb264, 3, none⟩ = some (.int .i64 a0_3) := (blk_cell BK264.out 3).trans rfl; have hcz28_4 : w27.cell? ⟨gb264, 4, none⟩ = some (.slice A0_4 l0_4.length c0_4) := (blk_cell BK264.out 4).trans rfl; have hfz28_0 := blk_frozen BK264.out 0; have hfz28_1 := blk_frozen BK264.out 1; have hfz28_2 := blk_frozen BK264.out 2; have hfz28_3 := blk_frozen BK264.out 3; have hfz28_4 := blk_frozen BK264.out 4))
            have n0_ := Aside0.mk (blk_drew BK264.out)
            have n1_ := Aside0.mk (below_drew1 HB.out)
            clear BK264
            clear HB
            have BK264 := n0_
            have HB := n1_
            clear n0_ n1_
            refine start_ (n := 10) (S := fun w' => w'.cell? ⟨gb264, 0, none⟩ = some (.int .i64 a0_0) ∧ w'.cell? ⟨gb264, 1, none⟩ = some (.string a0_1) ∧ w'.cell? ⟨gb264, 2, none⟩ = some (.int .i64 a0_2) ∧ w'.cell? ⟨gb264, 3, none⟩ = some (.int .i64 a0_3) ∧ w'.cell? ⟨gb264, 4, none⟩ = some (.slice A0_4 l0_4.length c0_4)) (ds := []) #[false, false, false, false, false, false, false, false, false, false] (by kernel_rfl) rfl rfl ⟨(blk_cell BK264.out 0).trans rfl, (blk_cell BK264.out 1).trans rfl, (blk_cell BK264.out 2).trans rfl, (blk_cell BK264.out 3).trans rfl, (blk_cell BK264.out 4).trans rfl⟩ (fun hHeld => ?_); refine with_tabW spec_text.tab11 spec_text.bits11 (fun HT_ HW_ => ?_)
            generalize w27.drew = w29 at BK264 HB hHeld ⊢
            refine pure_ (i := 0) (N := some 28) (v := ?_) (a' := ?_) #[true, false, false, false, false, false, false, false, false, false] rfl rfl (any_of HT_.out (by kernel_rfl)) (fun _ _ _ h => h) (Or.inl ⟨by rfl, ?_⟩) ?_ ?_
            rotate_left
            · intro w'
              go_simp
              with_reducible rfl
            rotate_left
            · simp only [Act.put, List.setIfInBounds_toArray, List.set_cons_zero, List.set_cons_succ, i64_w, i32_w]
              rfl
            refine pure_ (i := 5) (N := some 33) (v := ?_) (a' := ?_) #[true, false, false, false, false, true, false, false, false, false] rfl rfl (any_of HT_.out (by kernel_rfl)) (fun _ _ _ h => h) (Or.inl ⟨by rfl, ?_⟩) ?_ ?_
            rotate_left
            · intro w'
              go_simp
              with_reducible rfl
            rotate_left
            · simp only [Act.put, List.setIfInBounds_toArray, List.set_cons_zero, List.set_cons_succ, i64_w, i32_w]
              rfl
            refine take_ (i := 1) (N := some 29) (v := ?_) (a' := ?_) #[true, true, false, false, false, true, false, false, false, false] rfl rfl (take_ofW HT_.out HW_.out (by kernel_rfl)) (fun _ _ _ h => h) (Or.inl ⟨by rfl, ?_⟩) hHeld ?_ ?_
            rotate_left
            · rintro w' ⟨s0, s1, s2, s3, s4⟩
              go_simp
              with_reducible rfl
            rotate_left
            · simp only [Act.put, List.setIfInBounds_toArray, List.set_cons_zero, List.set_cons_succ, i64_w, i32_w]
              rfl
            refine take_ (i := 6) (N := some 34) (v := ?_) (a' := ?_) #[true, true, false, false, false, true, true, false, false, false] rfl rfl (take_ofW HT_.out HW_.out (by kernel_rfl)) (fun _ _ _ h => h) (Or.inl ⟨by rfl, ?_⟩) hHeld ?_ ?_
            rotate_left
            · rintro w' ⟨s0, s1, s2, s3, s4⟩
              go_simp
              with_reducible rfl
            rotate_left
            · simp only [Act.put, List.setIfInBounds_toArray, List.set_cons_zero, List.set_cons_succ, i64_w, i32_w]
              rfl
            refine one_ (i := 2) (N := some 30) #[true, true, true, false, false, true, true, false, false, false] rfl rfl (one_of HT_.out (by kernel_rfl)) (by decide) (fun K hK => ?_)
            refine goes_ Tryd.func34 (by kernel_rfl) rfl #[.int .i64 a0_2] (by rfl) rfl rfl (by (try simp only [List.map_toArray, List.map_cons, List.map_nil]); first | done | rfl | (simp only [List.length_drop, List.length_take]; rfl)) ?_
            with_reducible refine (spec_Digits.calls k a0_2 t267 _ A22.out).mono ?_
            rintro e w30 ⟨rfl, hb⟩
            refine ⟨_, rfl, ?_⟩
            have n0_ := Aside0.mk (blk_below (g := gb264) (o := .cells #[.int .i64 a0_0, .string a0_1, .int .i64 a0_2, .int .i64 a0_3, .slice A0_4 l0_4.length c0_4] 42 (0, 0)) (by (with_reducible repeat (first | refine blk_drewN ?_ _ | refine blk_drew ?_ | refine blk_alloc ?_ _)); exact BK264.out) hb)
            have n1_ := Aside0.mk (below_step (by repeat (first | (with_reducible first | exact HB.out | apply below_alloc | apply pw_below_drewN | apply below_drew1 | refine below_set ?_ GE264.out) | exact HB.out)) hb)
            clear BK264
            clear HB
            have BK264 := n0_
            have HB := n1_
            clear n0_ n1_
            (try clear hb)
            (try clear hb2)
            (try clear hk)
            (try clear hi)
            refine hK.out _ _ ⟨(blk_cell BK264.out 0).trans rfl, (blk_cell BK264.out 1).trans rfl, (blk_cell BK264.out 2).trans rfl, (blk_cell BK264.out 3).trans rfl, (blk_cell BK264.out 4).trans rfl⟩ (fun hHeld => ?_)
            clear hK K
            refine norm_ (a' := ?_) ?_ ?_
            rotate_left
            · show Act.put _ (some 30) _ = _
              simp only [Act.put, List.setIfInBounds_toArray, List.set_cons_zero, List.set_cons_succ, i64_w, i32_w]
              rfl
            refine pure_ (i := 3) (N := some 31) (v := ?_) (a' := ?_) #[true, true, true, true, false, true, true, false, false, false] rfl rfl (any_of HT_.out (by kernel_rfl)) (fun _ _ _ h => h) (Or.inl ⟨by rfl, ?_⟩) ?_ ?_
            rotate_left
            · intro w'
              go_simp
              with_reducible rfl
            rotate_left
            · simp only [Act.put, List.setIfInBounds_toArray, List.set_cons_zero, List.set_cons_succ, i64_w, i32_w]
              rfl
            refine pure_ (i := 4) (N := some 32) (v := ?_) (a' := ?_) #[true, true, true, true, true, true, true, false, false, false] rfl rfl (any_of HT_.out (by kernel_rfl)) (fun _ _ _ h => h) (Or.inl ⟨by rfl, ?_⟩) ?_ ?_
            rotate_left
            · intro w'
              go_simp
              with_reducible rfl
            rotate_left
            · simp only [Act.put, List.setIfInBounds_toArray, List.set_cons_zero, List.set_cons_succ, i64_w, i32_w]
              rfl
            refine pure_ (i := 7) (N := some 35) (v := ?_) (a' := ?_) #[true, true, true, true, true, true, true, true, false, false] rfl rfl (any_of HT_.out (by kernel_rfl)) (fun _ _ _ h => h) (Or.inl ⟨by rfl, ?_⟩) ?_ ?_
            rotate_left
            · intro w'
              go_simp
              with_reducible rfl
            rotate_left
            · simp only [Act.put, List.setIfInBounds_toArray, List.set_cons_zero, List.set_cons_succ, i64_w, i32_w]
              rfl
            refine pure_ (i := 8) (N := some 36) (v := ?_) (a' := ?_) #[true, true, true, true, true, true, true, true, true, false] rfl rfl (any_of HT_.out (by kernel_rfl)) (fun _ _ _ h => h) (Or.inl ⟨by rfl, ?_⟩) ?_ ?_
            rotate_left
            · intro w'
              go_simp
              with_reducible rfl
            rotate_left
            · simp only [Act.put, List.setIfInBounds_toArray, List.set_cons_zero, List.set_cons_succ, i64_w, i32_w]
              rfl
            refine pure_ (i := 9) (N := some 2) (v := ?_) (a' := ?_) #[true, true, true, true, true, true, true, true, true, true] rfl rfl (any_of HT_.out (by kernel_rfl)) (fun _ _ _ h => h) (Or.inl ⟨by rfl, ?_⟩) ?_ ?_
            rotate_left
            · intro w'
              go_simp
              with_reducible rfl
            rotate_left
            · simp only [Act.put, List.setIfInBounds_toArray, List.set_cons_zero, List.set_cons_succ, i64_w, i32_w]
              rfl
            refine done_ (done_of HT_.out (by kernel_rfl)) ?_
            try go_wp2
            go_ret
            exact ⟨by first | rfl | (simp [errW_none, errW_some] <;> rfl) | (simp [*, errW_none, errW_some] <;> rfl), by repeat (first | (with_reducible first | exact HB.out | apply below_alloc | apply pw_below_drewN | apply below_drew1 | refine below_set ?_ GE264.out) | exact HB.out)⟩
          rw [if_neg c26] at H
          exact absurd H (by simp)
        rw [if_neg c25] at H
        exact absurd H (by simp)
      rw [if_neg c24] at H
      exact absurd H (by simp)
    rw [if_neg c23] at H
    exact absurd H (by simp)
  rw [if_neg c21] at H
  have c21b0 : (a0_0 == 3) = false := beq_eq_false_iff_ne.mpr c21
  have c21b1 : (a0_0 != 3) = true := bne_iff_ne.mpr c21
  by_cases c31 : a0_0 = 10
  · rw [if_pos c31] at H
    have c31b0 : (a0_0 == 10) = true := beq_iff_eq.mpr c31
    have c31b1 : (a0_0 != 10) = false := bne_eq_false_iff_eq.mpr c31
    clear c31
    replace H := Option.bind_eq_some_iff.mp H
    obtain ⟨t268, A320, H⟩ := H
    replace H : (if 12 + t268.size ≤ 9223372036854775807 then (spec_text.l0 k ((⟨#[123, 123, 112, 97, 114, 116, 105, 116, 105, 111, 110, 40]⟩ : ByteArray) ++ t268) 0 a0_0 a0_1 a0_2 a0_3 l0_4) else (none)) = some r := H
    have A32 := Aside0.mk A320
    clear A320
    by_cases c33 : 12 + t268.size ≤ 9223372036854775807
    · rw [if_pos c33] at H
      have c33b0 := eq_true c33
      have c33b1 : decide (12 + t268.size ≤ 9223372036854775807) = true := decide_eq_true c33
      try have c33b2 : (9223372036854775807 < 12 + t268.size) = False := eq_false (Nat.not_lt.2 c33)
      have H' := Aside0.mk H
      clear H
      go_enter Tryd.func51, Tryd.ntmps51
      go_wp2_with (first | ((with_reducible refine gate_dst (N := 1) rfl ?_); refine box_event ?hg (N := 1) ?hd (cs := #[.int .i64 a0_0, .string a0_1, .int .i64 a0_2, .int .i64 a0_3, .slice A0_4 l0_4.length c0_4]) (t := 42) ?hr ?_; (case hd => rfl); (case hg => rfl); (case hr => first | (go_simp; done) | (go_simp; rfl)); intro gb264 hg w34 hbox hb; have n0_ := Aside0.mk (below_step (by repeat (first | (with_reducible first | exact HB.out | apply below_alloc | apply pw_below_drewN | apply below_drew1) | exact HB.out)) hb); have n1_ := Aside0.mk (hbox); have n2_ := Aside0.mk ((by rw [hg]; exact (below_size (by repeat (first | (with_reducible first | exact HB.out | apply below_alloc | apply pw_below_drewN | apply below_drew1) | exact HB.out))) : w.heap.size ≤ gb264)); have n3_ := Aside0.mk ((by rw [hg]; exact (below_size (by repeat (first | (with_reducible first | exact HB.out | apply below_alloc | apply pw_below_drewN | apply below_drew1) | exact HB.out))) : w.heap.size ≤ gb264)); clear HB; have HB := n0_; have BK264 := n1_; have GW264 := n2_; have GE264 := n3_; clear n0_ n1_ n2_ n3_; clear hb hbox hg; have hcz35_0 : w34.cell? ⟨gb264, 0, none⟩ = some (.int .i64 a0_0) := (blk_cell BK264.out 0).trans rfl; have hcz35_1 : w34.cell? ⟨gb264, 1, none⟩ = some (.string a0_1) := (blk_cell BK264.out 1).trans rfl; have hcz35_2 : w34.cell? ⟨gb264, 2, none⟩ = some (.int .i64 a0_2) := (blk_cell BK264.out 2).trans rfl; have hcz35_3 : w34.cell? ⟨gb264, 3, none⟩ = some (.int .i64 a0_3) := (blk_cell BK264.out 3).trans rfl; have hcz35_4 : w34.cell? ⟨gb264, 4, none⟩ = some (.slice A0_4 l0_4.length c0_4) := (blk_cell BK264.out 4).trans rfl; have hfz35_0 := blk_frozen BK264.out 0; have hfz35_1 := blk_frozen BK264.out 1; have hfz35_2 := blk_frozen BK264.out 2; have hfz35_3 := blk_frozen BK264.out 3; have hfz35_4 := blk_frozen BK264.out 4) | ((with_reducible refine gate_callee (f := 34) rfl ?_); refine goesL_ (some 41) rfl rfl Tryd.func34 (by kernel_rfl) rfl #[.int .i64 a0_3] rfl (by (try simp only [List.map_toArray, List.map_cons, List.map_nil]); first | done | rfl | (simp only [List.length_drop, List.length_take]; rfl)) ?_; (with_reducible refine (spec_Digits.calls k a0_3 t268 _ A32.out).mono ?_); rintro e w36 ⟨rfl, hb⟩; refine ⟨_, rfl, ?_⟩; have n0_ := Aside0.mk (blk_below (g := gb264) (o := .cells #[.int .i64 a0_0, .string a0_1, .int .i64 a0_2, .int .i64 a0_3, .slice A0_4 l0_4.length c0_4] 42 (0, 0)) (by (with_reducible repeat (first | refine blk_drewN ?_ _ | refine blk_drew ?_ | refine blk_alloc ?_ _)); exact BK264.out) hb); have n1_ := Aside0.mk (below_step (by repeat (first | (with_reducible first | exact HB.out | apply below_alloc | apply pw_below_drewN | apply below_drew1 | refine below_set ?_ GE264.out) | exact HB.out)) hb); clear BK264; clear HB; have BK264 := n0_; have HB := n1_; clear n0_ n1_; (try clear hb); (try clear hb2); (try clear hk); (try clear hi)))
      go_loopg [3, 4] k (fun kq v3 v4 w' => ∃ (x3_1 : ByteArray) (x4_1 : Int), v3 = .string x3_1 ∧ v4 = .int .i64 x4_1 ∧ Aside0 (spec_text.l0 kq x3_1 x4_1 a0_0 a0_1 a0_2 a0_3 l0_4 = some r) ∧ Aside0 (kq ≤ k) ∧ Aside0 (w'.heap[gb264]? = some (.cells #[.int .i64 a0_0, .string a0_1, .int .i64 a0_2, .int .i64 a0_3, (.slice A0_4 l0_4.length c0_4)] 42 (0, 0))) ∧ Aside0 (Below w.heap.size w w'))
      case atStart => exact ⟨((⟨#[123, 123, 112, 97, 114, 116, 105, 116, 105, 111, 110, 40]⟩ : ByteArray) ++ t268), (0), (by first | rfl | (simp; done) | (simp [*]; done)), (by first | rfl | (simp; done) | (simp [*]; done)), H', ⟨Nat.le_refl _⟩, ⟨by (with_reducible repeat (first | refine blk_drewN ?_ _ | refine blk_drew ?_ | refine blk_alloc ?_ _)); exact BK264.out⟩, ⟨by repeat (first | (with_reducible first | exact HB.out | apply below_alloc | apply pw_below_drewN | apply below_drew1 | refine below_set ?_ GE264.out) | exact HB.out)⟩⟩
      case round =>
        clear H'
        try clear c1
        try clear c2
        try clear c2b0
        try clear c2b1
        try clear p2
        try clear c3
        try clear c5
        try clear c5b0
        try clear c5b1
        try clear c7
        try clear c7b0
        try clear c7b1
        try clear c7b2
        try clear c11
        try clear c11b0
        try clear c11b1
        try clear c14
        try clear c14b0
        try clear c14b1
        try clear c16
        try clear c16b0
        try clear c16b1
        try clear c16b2
        try clear c17
        try clear c17b0
        try clear c17b1
        try clear c17b2
        try clear c21
        try clear c21b0
        try clear c21b1
        try clear c23
        try clear c23b0
        try clear c23b1
        try clear c23b2
        try clear c24
        try clear c24b0
        try clear c24b1
        try clear c24b2
        try clear c25
        try clear c25b0
        try clear c25b1
        try clear c25b2
        try clear c26
        try clear c26b0
        try clear c26b1
        try clear c26b2
        try clear c31
        try clear c31b0
        try clear c31b1
        try clear c33
        try clear c33b0
        try clear c33b1
        try clear c33b2
        try clear c34
        try clear hcz13_0
        try clear hcz13_1
        try clear hcz13_2
        try clear hcz13_3
        try clear hcz13_4
        try clear hcz19_0
        try clear hcz19_1
        try clear hcz19_2
        try clear hcz19_3
        try clear hcz19_4
        try clear hcz28_0
        try clear hcz28_1
        try clear hcz28_2
        try clear hcz28_3
        try clear hcz28_4
        try clear hcz35_0
        try clear hcz35_1
        try clear hcz35_2
        try clear hcz35_3
        try clear hcz35_4
        try clear hcz4_0
        try clear hcz4_1
        try clear hcz4_2
        try clear hcz4_3
        try clear hcz4_4
        try clear hcz9_0
        try clear hcz9_1
        try clear hcz9_2
        try clear hcz9_3
        try clear hcz9_4
        try clear hfz13_0
        try clear hfz13_1
        try clear hfz13_2
        try clear hfz13_3
        try clear hfz13_4
        try clear hfz19_0
        try clear hfz19_1
        try clear hfz19_2
        try clear hfz19_3
        try clear hfz19_4
        try clear hfz28_0
        try clear hfz28_1
        try clear hfz28_2
        try clear hfz28_3
        try clear hfz28_4
        try clear hfz35_0
        try clear hfz35_1
        try clear hfz35_2
        try clear hfz35_3
        try clear hfz35_4
        try clear hfz4_0
        try clear hfz4_1
        try clear hfz4_2
        try clear hfz4_3
        try clear hfz4_4
        try clear hfz9_0
        try clear hfz9_1
        try clear hfz9_2
        try clear hfz9_3
        try clear hfz9_4
        obtain ⟨x3_1, x4_1, rfl, rfl, HA, HK1, BK264, HB⟩ := hrel
        cases gk with
        | zero => exact absurd HA.out (by simp [spec_text.l0])
        | succ k1 =>
          have H := HA.out
          clear HA
          simp only [spec_text.l0] at H
          by_cases c37 : x4_1 < (l0_4.length : Int)
          · rw [if_pos c37] at H
            have c37b0 : decide (x4_1 < (l0_4.length : Int)) = true := decide_eq_true c37
            clear c37
            by_cases c38 : 0 ≤ x4_1
            · rw [if_pos c38] at H
              have c38b0 : decide (0 ≤ x4_1) = true := decide_eq_true c38
              clear c38
              replace H := Option.bind_eq_some_iff.mp H
              obtain ⟨t270, A390, H⟩ := H
              replace H : (if 1 + t270.size ≤ 9223372036854775807 then (if x3_1.size + ((⟨#[44]⟩ : ByteArray) ++ t270).size ≤ 9223372036854775807 then (spec_text.l0 k1 (x3_1 ++ ((⟨#[44]⟩ : ByteArray) ++ t270)) (wrap64 (x4_1 + 1)) a0_0 a0_1 a0_2 a0_3 l0_4) else (none)) else (none)) = some r := H
              have A39 := Aside0.mk A390
              clear A390
              by_cases c40 : 1 + t270.size ≤ 9223372036854775807
              · rw [if_pos c40] at H
                have c40b0 := eq_true c40
                have c40b1 : decide (1 + t270.size ≤ 9223372036854775807) = true := decide_eq_true c40
                try have c40b2 : (9223372036854775807 < 1 + t270.size) = False := eq_false (Nat.not_lt.2 c40)
                by_cases c41 : x3_1.size + ((⟨#[44]⟩ : ByteArray) ++ t270).size ≤ 9223372036854775807
                · rw [if_pos c41] at H
                  have c41b0 := eq_true c41
                  have c41b1 : decide (x3_1.size + ((⟨#[44]⟩ : ByteArray) ++ t270).size ≤ 9223372036854775807) = true := decide_eq_true c41
                  try have c41b2 : (9223372036854775807 < x3_1.size + ((⟨#[44]⟩ : ByteArray) ++ t270).size) = False := eq_false (Nat.not_lt.2 c41)
                  have c41z : (9223372036854775807 < (x3_1).size + (1 + (t270).size)) = False := eq_false (Nat.not_lt.2 (by have h_ := c41; simp only [ByteArray.size_append] at h_; exact h_))
                  have H' := Aside0.mk H
                  clear H
                  have hcz42_0 : wr.cell? ⟨gb264, 0, none⟩ = some (.int .i64 a0_0) := (blk_cell BK264.out 0).trans rfl
                  have hcz42_1 : wr.cell? ⟨gb264, 1, none⟩ = some (.string a0_1) := (blk_cell BK264.out 1).trans rfl
                  have hcz42_2 : wr.cell? ⟨gb264, 2, none⟩ = some (.int .i64 a0_2) := (blk_cell BK264.out 2).trans rfl
                  have hcz42_3 : wr.cell? ⟨gb264, 3, none⟩ = some (.int .i64 a0_3) := (blk_cell BK264.out 3).trans rfl
                  have hcz42_4 : wr.cell? ⟨gb264, 4, none⟩ = some (.slice A0_4 l0_4.length c0_4) := (blk_cell BK264.out 4).trans rfl
                  have hfz42_0 := blk_frozen BK264.out 0
                  have hfz42_1 := blk_frozen BK264.out 1
                  have hfz42_2 := blk_frozen BK264.out 2
                  have hfz42_3 := blk_frozen BK264.out 3
                  have hfz42_4 := blk_frozen BK264.out 4
                  have p269 : 0 ≤ (x4_1 : Int) := of_decide_eq_true (by first | (with_reducible assumption) | assumption)
                  have q269 : x4_1 < (l0_4.length : Int) := of_decide_eq_true (by first | (with_reducible assumption) | assumption)
                  obtain ⟨ad269, e269, hx269_0⟩ := Kd.at_int HR0_4.out x4_1 p269 q269
                  cases e269
                  replace hx269_0 := (HB.out.cell (World.block_lt_of_cell? w _ hx269_0)).trans hx269_0
                  replace p269 := eq_true p269
                  replace q269 := eq_true q269
                  go_wp2_with (first | ((with_reducible refine gate_callee (f := 34) rfl ?_); refine goesL_ (some 56) rfl rfl Tryd.func34 (by kernel_rfl) rfl #[.int .i64 (rd l0_4 x4_1)] rfl (by (try simp only [List.map_toArray, List.map_cons, List.map_nil]); first | done | rfl | (simp only [List.length_drop, List.length_take]; rfl)) ?_; (with_reducible refine (spec_Digits.calls k1 (rd l0_4 x4_1) t270 _ A39.out).mono ?_); rintro e w43 ⟨rfl, hb⟩; refine ⟨_, rfl, ?_⟩; have n0_ := Aside0.mk (blk_below (g := gb264) (o := .cells #[.int .i64 a0_0, .string a0_1, .int .i64 a0_2, .int .i64 a0_3, .slice (some ad269) l0_4.length c0_4] 42 (0, 0)) (by (with_reducible repeat (first | refine blk_drewN ?_ _ | refine blk_drew ?_ | refine blk_alloc ?_ _)); exact BK264.out) hb); have n1_ := Aside0.mk (below_step (by repeat (first | (with_reducible first | exact HB.out | apply below_alloc | apply pw_below_drewN | apply below_drew1 | refine below_set ?_ GE264.out) | exact HB.out)) hb); clear BK264; clear HB; have BK264 := n0_; have HB := n1_; clear n0_ n1_; (try clear hb); (try clear hb2); (try clear hk); (try clear hi)))
                  go_roundg k1
                  case measure => have := HK1.out; omega
                  case rel => exact ⟨(x3_1 ++ ((⟨#[44]⟩ : ByteArray) ++ t270)), (wrap64 (x4_1 + 1)), (by first | rfl | (simp; done) | (simp [*]; done)), (by first | rfl | (simp; done) | (simp [*]; done)), H', ⟨by have := HK1.out; omega⟩, ⟨by (with_reducible repeat (first | refine blk_drewN ?_ _ | refine blk_drew ?_ | refine blk_alloc ?_ _)); exact BK264.out⟩, ⟨by repeat (first | (with_reducible first | exact HB.out | apply below_alloc | apply pw_below_drewN | apply below_drew1 | refine below_set ?_ GE264.out) | exact HB.out)⟩⟩
                rw [if_neg c41] at H
                exact absurd H (by simp)
              rw [if_neg c40] at H
              exact absurd H (by simp)
            rw [if_neg c38] at H
            exact absurd H (by simp)
          rw [if_neg c37] at H
          have c37b0 : decide (x4_1 < (l0_4.length : Int)) = false := decide_eq_false c37
          clear c37
          by_cases c44 : x3_1.size + 3 ≤ 9223372036854775807
          · rw [if_pos c44] at H
            have c44b0 := eq_true c44
            have c44b1 : decide (x3_1.size + 3 ≤ 9223372036854775807) = true := decide_eq_true c44
            try have c44b2 : (9223372036854775807 < x3_1.size + 3) = False := eq_false (Nat.not_lt.2 c44)
            obtain rfl := Option.some.inj H
            have hcz45_0 : wr.cell? ⟨gb264, 0, none⟩ = some (.int .i64 a0_0) := (blk_cell BK264.out 0).trans rfl
            have hcz45_1 : wr.cell? ⟨gb264, 1, none⟩ = some (.string a0_1) := (blk_cell BK264.out 1).trans rfl
            have hcz45_2 : wr.cell? ⟨gb264, 2, none⟩ = some (.int .i64 a0_2) := (blk_cell BK264.out 2).trans rfl
            have hcz45_3 : wr.cell? ⟨gb264, 3, none⟩ = some (.int .i64 a0_3) := (blk_cell BK264.out 3).trans rfl
            have hcz45_4 : wr.cell? ⟨gb264, 4, none⟩ = some (.slice A0_4 l0_4.length c0_4) := (blk_cell BK264.out 4).trans rfl
            have hfz45_0 := blk_frozen BK264.out 0
            have hfz45_1 := blk_frozen BK264.out 1
            have hfz45_2 := blk_frozen BK264.out 2
            have hfz45_3 := blk_frozen BK264.out 3
            have hfz45_4 := blk_frozen BK264.out 4
            go_wp2
            go_ret
            exact ⟨by first | rfl | (simp [errW_none, errW_some] <;> rfl) | (simp [*, errW_none, errW_some] <;> rfl), by repeat (first | (with_reducible first | exact HB.out | apply below_alloc | apply pw_below_drewN | apply below_drew1 | refine below_set ?_ GE264.out) | exact HB.out)⟩
          rw [if_neg c44] at H
          exact absurd H (by simp)
    rw [if_neg c33] at H
    exact absurd H (by simp)
  rw [if_neg c31] at H
  have c31b0 : (a0_0 == 10) = false := beq_eq_false_iff_ne.mpr c31
  have c31b1 : (a0_0 != 10) = true := bne_iff_ne.mpr c31
  replace H := Option.bind_eq_some_iff.mp H
  obtain ⟨t271, A460, H⟩ := H
  replace H : (if 2 + t271.size ≤ 9223372036854775807 then (if ((⟨#[123, 123]⟩ : ByteArray) ++ t271).size + 1 ≤ 9223372036854775807 then ((spec_Digits.f k a0_2).bind fun t272 => (if (((⟨#[123, 123]⟩ : ByteArray) ++ t271) ++ (⟨#[40]⟩ : ByteArray)).size + t272.size ≤ 9223372036854775807 then (if ((((⟨#[123, 123]⟩ : ByteArray) ++ t271) ++ (⟨#[40]⟩ : ByteArray)) ++ t272).size + 1 ≤ 9223372036854775807 then ((spec_Digits.f k a0_3).bind fun t273 => (if (((((⟨#[123, 123]⟩ : ByteArray) ++ t271) ++ (⟨#[40]⟩ : ByteArray)) ++ t272) ++ (⟨#[44]⟩ : ByteArray)).size + t273.size ≤ 9223372036854775807 then (if ((((((⟨#[123, 123]⟩ : ByteArray) ++ t271) ++ (⟨#[40]⟩ : ByteArray)) ++ t272) ++ (⟨#[44]⟩ : ByteArray)) ++ t273).size + 3 ≤ 9223372036854775807 then (some (((((((⟨#[123, 123]⟩ : ByteArray) ++ t271) ++ (⟨#[40]⟩ : ByteArray)) ++ t272) ++ (⟨#[44]⟩ : ByteArray)) ++ t273) ++ (⟨#[41, 125, 125]⟩ : ByteArray))) else (none)) else (none))) else (none)) else (none))) else (none)) else (none)) = some r := H
  have A46 := Aside0.mk A460
  clear A460
  by_cases c47 : 2 + t271.size ≤ 9223372036854775807
  · rw [if_pos c47] at H
    have c47b0 := eq_true c47
    have c47b1 : decide (2 + t271.size ≤ 9223372036854775807) = true := decide_eq_true c47
    try have c47b2 : (9223372036854775807 < 2 + t271.size) = False := eq_false (Nat.not_lt.2 c47)
    by_cases c48 : ((⟨#[123, 123]⟩ : ByteArray) ++ t271).size + 1 ≤ 9223372036854775807
    · rw [if_pos c48] at H
      have c48b0 := eq_true c48
      have c48b1 : decide (((⟨#[123, 123]⟩ : ByteArray) ++ t271).size + 1 ≤ 9223372036854775807) = true := decide_eq_true c48
      try have c48b2 : (9223372036854775807 < ((⟨#[123, 123]⟩ : ByteArray) ++ t271).size + 1) = False := eq_false (Nat.not_lt.2 c48)
      have c48z : (9223372036854775807 < 2 + (t271).size + 1) = False := eq_false (Nat.not_lt.2 (by have h_ := c48; simp only [ByteArray.size_append] at h_; exact h_))
      replace H := Option.bind_eq_some_iff.mp H
      obtain ⟨t272, A490, H⟩ := H
      replace H : (if (((⟨#[123, 123]⟩ : ByteArray) ++ t271) ++ (⟨#[40]⟩ : ByteArray)).size + t272.size ≤ 9223372036854775807 then (if ((((⟨#[123, 123]⟩ : ByteArray) ++ t271) ++ (⟨#[40]⟩ : ByteArray)) ++ t272).size + 1 ≤ 9223372036854775807 then ((spec_Digits.f k a0_3).bind fun t273 => (if (((((⟨#[123, 123]⟩ : ByteArray) ++ t271) ++ (⟨#[40]⟩ : ByteArray)) ++ t272) ++ (⟨#[44]⟩ : ByteArray)).size + t273.size ≤ 9223372036854775807 then (if ((((((⟨#[123, 123]⟩ : ByteArray) ++ t271) ++ (⟨#[40]⟩ : ByteArray)) ++ t272) ++ (⟨#[44]⟩ : ByteArray)) ++ t273).size + 3 ≤ 9223372036854775807 then (some (((((((⟨#[123, 123]⟩ : ByteArray) ++ t271) ++ (⟨#[40]⟩ : ByteArray)) ++ t272) ++ (⟨#[44]⟩ : ByteArray)) ++ t273) ++ (⟨#[41, 125, 125]⟩ : ByteArray))) else (none)) else (none))) else (none)) else (none)) = some r := H
      have A49 := Aside0.mk A490
      clear A490
      by_cases c50 : (((⟨#[123, 123]⟩ : ByteArray) ++ t271) ++ (⟨#[40]⟩ : ByteArray)).size + t272.size ≤ 9223372036854775807
      · rw [if_pos c50] at H
        have c50b0 := eq_true c50
        have c50b1 : decide ((((⟨#[123, 123]⟩ : ByteArray) ++ t271) ++ (⟨#[40]⟩ : ByteArray)).size + t272.size ≤ 9223372036854775807) = true := decide_eq_true c50
        try have c50b2 : (9223372036854775807 < (((⟨#[123, 123]⟩ : ByteArray) ++ t271) ++ (⟨#[40]⟩ : ByteArray)).size + t272.size) = False := eq_false (Nat.not_lt.2 c50)
        have c50z : (9223372036854775807 < 2 + (t271).size + 1 + (t272).size) = False := eq_false (Nat.not_lt.2 (by have h_ := c50; simp only [ByteArray.size_append] at h_; exact h_))
        by_cases c51 : ((((⟨#[123, 123]⟩ : ByteArray) ++ t271) ++ (⟨#[40]⟩ : ByteArray)) ++ t272).size + 1 ≤ 9223372036854775807
        · rw [if_pos c51] at H
          have c51b0 := eq_true c51
          have c51b1 : decide (((((⟨#[123, 123]⟩ : ByteArray) ++ t271) ++ (⟨#[40]⟩ : ByteArray)) ++ t272).size + 1 ≤ 9223372036854775807) = true := decide_eq_true c51
          try have c51b2 : (9223372036854775807 < ((((⟨#[123, 123]⟩ : ByteArray) ++ t271) ++ (⟨#[40]⟩ : ByteArray)) ++ t272).size + 1) = False := eq_false (Nat.not_lt.2 c51)
          have c51z : (9223372036854775807 < 2 + (t271).size + 1 + (t272).size + 1) = False := eq_false (Nat.not_lt.2 (by have h_ := c51; simp only [ByteArray.size_append] at h_; exact h_))
          replace H := Option.bind_eq_some_iff.mp H
          obtain ⟨t273, A520, H⟩ := H
          replace H : (if (((((⟨#[123, 123]⟩ : ByteArray) ++ t271) ++ (⟨#[40]⟩ : ByteArray)) ++ t272) ++ (⟨#[44]⟩ : ByteArray)).size + t273.size ≤ 9223372036854775807 then (if ((((((⟨#[123, 123]⟩ : ByteArray) ++ t271) ++ (⟨#[40]⟩ : ByteArray)) ++ t272) ++ (⟨#[44]⟩ : ByteArray)) ++ t273).size + 3 ≤ 9223372036854775807 then (some (((((((⟨#[123, 123]⟩ : ByteArray) ++ t271) ++ (⟨#[40]⟩ : ByteArray)) ++ t272) ++ (⟨#[44]⟩ : ByteArray)) ++ t273) ++ (⟨#[41, 125, 125]⟩ : ByteArray))) else (none)) else (none)) = some r := H
          have A52 := Aside0.mk A520
          clear A520
          by_cases c53 : (((((⟨#[123, 123]⟩ : ByteArray) ++ t271) ++ (⟨#[40]⟩ : ByteArray)) ++ t272) ++ (⟨#[44]⟩ : ByteArray)).size + t273.size ≤ 9223372036854775807
          · rw [if_pos c53] at H
            have c53b0 := eq_true c53
            have c53b1 : decide ((((((⟨#[123, 123]⟩ : ByteArray) ++ t271) ++ (⟨#[40]⟩ : ByteArray)) ++ t272) ++ (⟨#[44]⟩ : ByteArray)).size + t273.size ≤ 9223372036854775807) = true := decide_eq_true c53
            try have c53b2 : (9223372036854775807 < (((((⟨#[123, 123]⟩ : ByteArray) ++ t271) ++ (⟨#[40]⟩ : ByteArray)) ++ t272) ++ (⟨#[44]⟩ : ByteArray)).size + t273.size) = False := eq_false (Nat.not_lt.2 c53)
            have c53z : (9223372036854775807 < 2 + (t271).size + 1 + (t272).size + 1 + (t273).size) = False := eq_false (Nat.not_lt.2 (by have h_ := c53; simp only [ByteArray.size_append] at h_; exact h_))
            by_cases c54 : ((((((⟨#[123, 123]⟩ : ByteArray) ++ t271) ++ (⟨#[40]⟩ : ByteArray)) ++ t272) ++ (⟨#[44]⟩ : ByteArray)) ++ t273).size + 3 ≤ 9223372036854775807
            · rw [if_pos c54] at H
              have c54b0 := eq_true c54
              have c54b1 : decide (((((((⟨#[123, 123]⟩ : ByteArray) ++ t271) ++ (⟨#[40]⟩ : ByteArray)) ++ t272) ++ (⟨#[44]⟩ : ByteArray)) ++ t273).size + 3 ≤ 9223372036854775807) = true := decide_eq_true c54
              try have c54b2 : (9223372036854775807 < ((((((⟨#[123, 123]⟩ : ByteArray) ++ t271) ++ (⟨#[40]⟩ : ByteArray)) ++ t272) ++ (⟨#[44]⟩ : ByteArray)) ++ t273).size + 3) = False := eq_false (Nat.not_lt.2 c54)
              have c54z : (9223372036854775807 < 2 + (t271).size + 1 + (t272).size + 1 + (t273).size + 3) = False := eq_false (Nat.not_lt.2 (by have h_ := c54; simp only [ByteArray.size_append] at h_; exact h_))
              obtain rfl := Option.some.inj H
              go_enter Tryd.func51, Tryd.ntmps51
              try go_wp2_with (first | ((with_reducible refine gate_dst (N := 1) rfl ?_); refine box_event ?hg (N := 1) ?hd (cs := #[.int .i64 a0_0, .string a0_1, .int .i64 a0_2, .int .i64 a0_3, .slice A0_4 l0_4.length c0_4]) (t := 42) ?hr ?_; (case hd => rfl); (case hg => rfl); (case hr => first | (go_simp; done) | (go_simp; rfl)); intro gb264 hg w55 hbox hb; have n0_ := Aside0.mk (below_step (by repeat (first | (with_reducible first | exact HB.out | apply below_alloc | apply pw_below_drewN | apply below_drew1) | exact HB.out)) hb); have n1_ := Aside0.mk (hbox); have n2_ := Aside0.mk ((by rw [hg]; exact (below_size (by repeat (first | (with_reducible first | exact HB.out | apply below_alloc | apply pw_below_drewN | apply below_drew1) | exact HB.out))) : w.heap.size ≤ gb264)); have n3_ := Aside0.mk ((by rw [hg]; exact (below_size (by repeat (first | (with_reducible first | exact HB.out | apply below_alloc | apply pw_below_drewN | apply below_drew1) | exact HB.out))) : w.heap.size ≤ gb264)); clear HB; have HB := n0_; have BK264 := n1_; have GW264 := n2_; have GE264 := n3_; clear n0_ n1_ n2_ n3_; clear hb hbox hg; have hcz56_0 : w55.cell? ⟨gb264, 0, none⟩ = some (.int .i64 a0_0) := (blk_cell BK264.out 0).trans rfl; have hcz56_1 : w55.cell? ⟨gb264, 1, none⟩ = some (.string a0_1) := (blk_cell BK264.out 1).trans rfl; have hcz56_2 : w55.cell? ⟨gb264, 2, none⟩ = some (.int .i64 a0_2) := (blk_cell BK264.out 2).trans rfl; have hcz56_3 : w55.cell? ⟨gb264, 3, none⟩ = some (.int .i64 a0_3) := (blk_cell BK264.out 3).trans rfl; have hcz56_4 : w55.cell? ⟨gb264, 4, none⟩ = some (.slice A0_4 l0_4.length c0_4) := (blk_cell BK264.out 4).trans rfl; have hfz56_0 := blk_frozen BK264.out 0; have hfz56_1 := blk_frozen BK264.out 1; have hfz56_2 := blk_frozen BK264.out 2; have hfz56_3 := blk_frozen BK264.out 3; have hfz56_4 := blk_frozen BK264.out 4))
              have n0_ := Aside0.mk (blk_drew BK264.out)
              have n1_ := Aside0.mk (below_drew1 HB.out)
              clear BK264
              clear HB
              have BK264 := n0_
              have HB := n1_
              clear n0_ n1_
              refine start_ (n := 16) (S := fun w' => w'.cell? ⟨gb264, 0, none⟩ = some (.int .i64 a0_0) ∧ w'.cell? ⟨gb264, 1, none⟩ = some (.string a0_1) ∧ w'.cell? ⟨gb264, 2, none⟩ = some (.int .i64 a0_2) ∧ w'.cell? ⟨gb264, 3, none⟩ = some (.int .i64 a0_3) ∧ w'.cell? ⟨gb264, 4, none⟩ = some (.slice A0_4 l0_4.length c0_4)) (ds := []) #[false, false, false, false, false, false, false, false, false, false, false, false, false, false, false, false] (by kernel_rfl) rfl rfl ⟨(blk_cell BK264.out 0).trans rfl, (blk_cell BK264.out 1).trans rfl, (blk_cell BK264.out 2).trans rfl, (blk_cell BK264.out 3).trans rfl, (blk_cell BK264.out 4).trans rfl⟩ (fun hHeld => ?_); refine with_tabW spec_text.tab19 spec_text.bits19 (fun HT_ HW_ => ?_)
              generalize w55.drew = w57 at BK264 HB hHeld ⊢
              refine pure_ (i := 0) (N := some 61) (v := ?_) (a' := ?_) #[true, false, false, false, false, false, false, false, false, false, false, false, false, false, false, false] rfl rfl (any_of HT_.out (by kernel_rfl)) (fun _ _ _ h => h) (Or.inl ⟨by rfl, ?_⟩) ?_ ?_
              rotate_left
              · intro w'
                go_simp
                with_reducible rfl
              rotate_left
              · simp only [Act.put, List.setIfInBounds_toArray, List.set_cons_zero, List.set_cons_succ, i64_w, i32_w]
                rfl
              refine pure_ (i := 5) (N := some 66) (v := ?_) (a' := ?_) #[true, false, false, false, false, true, false, false, false, false, false, false, false, false, false, false] rfl rfl (any_of HT_.out (by kernel_rfl)) (fun _ _ _ h => h) (Or.inl ⟨by rfl, ?_⟩) ?_ ?_
              rotate_left
              · intro w'
                go_simp
                with_reducible rfl
              rotate_left
              · simp only [Act.put, List.setIfInBounds_toArray, List.set_cons_zero, List.set_cons_succ, i64_w, i32_w]
                rfl
              refine pure_ (i := 10) (N := some 71) (v := ?_) (a' := ?_) #[true, false, false, false, false, true, false, false, false, false, true, false, false, false, false, false] rfl rfl (any_of HT_.out (by kernel_rfl)) (fun _ _ _ h => h) (Or.inl ⟨by rfl, ?_⟩) ?_ ?_
              rotate_left
              · intro w'
                go_simp
                with_reducible rfl
              rotate_left
              · simp only [Act.put, List.setIfInBounds_toArray, List.set_cons_zero, List.set_cons_succ, i64_w, i32_w]
                rfl
              refine take_ (i := 1) (N := some 62) (v := ?_) (a' := ?_) #[true, true, false, false, false, true, false, false, false, false, true, false, false, false, false, false] rfl rfl (take_ofW HT_.out HW_.out (by kernel_rfl)) (fun _ _ _ h => h) (Or.inl ⟨by rfl, ?_⟩) hHeld ?_ ?_
              rotate_left
              · rintro w' ⟨s0, s1, s2, s3, s4⟩
                go_simp
                with_reducible rfl
              rotate_left
              · simp only [Act.put, List.setIfInBounds_toArray, List.set_cons_zero, List.set_cons_succ, i64_w, i32_w]
                rfl
              refine take_ (i := 6) (N := some 67) (v := ?_) (a' := ?_) #[true, true, false, false, false, true, true, false, false, false, true, false, false, false, false, false] rfl rfl (take_ofW HT_.out HW_.out (by kernel_rfl)) (fun _ _ _ h => h) (Or.inl ⟨by rfl, ?_⟩) hHeld ?_ ?_
              rotate_left
              · rintro w' ⟨s0, s1, s2, s3, s4⟩
                go_simp
                with_reducible rfl
              rotate_left
              · simp only [Act.put, List.setIfInBounds_toArray, List.set_cons_zero, List.set_cons_succ, i64_w, i32_w]
                rfl
              refine take_ (i := 11) (N := some 72) (v := ?_) (a' := ?_) #[true, true, false, false, false, true, true, false, false, false, true, true, false, false, false, false] rfl rfl (take_ofW HT_.out HW_.out (by kernel_rfl)) (fun _ _ _ h => h) (Or.inl ⟨by rfl, ?_⟩) hHeld ?_ ?_
              rotate_left
              · rintro w' ⟨s0, s1, s2, s3, s4⟩
                go_simp
                with_reducible rfl
              rotate_left
              · simp only [Act.put, List.setIfInBounds_toArray, List.set_cons_zero, List.set_cons_succ, i64_w, i32_w]
                rfl
              refine one_ (i := 2) (N := some 63) #[true, true, true, false, false, true, true, false, false, false, true, true, false, false, false, false] rfl rfl (one_of HT_.out (by kernel_rfl)) (by decide) (fun K hK => ?_)
              refine goes_ Tryd.func68 (by kernel_rfl) rfl #[.int .i64 a0_0] (by rfl) rfl rfl (by (try simp only [List.map_toArray, List.map_cons, List.map_nil]); first | done | rfl | (simp only [List.length_drop, List.length_take]; rfl)) ?_
              with_reducible refine (spec_name.calls a0_0 t271 _ A46.out).mono ?_
              rintro e w' ⟨rfl, ⟨nd, rfl⟩⟩
              refine ⟨_, rfl, ?_⟩
              refine hK.out _ _ ⟨(blk_cell BK264.out 0).trans rfl, (blk_cell BK264.out 1).trans rfl, (blk_cell BK264.out 2).trans rfl, (blk_cell BK264.out 3).trans rfl, (blk_cell BK264.out 4).trans rfl⟩ (fun hHeld => ?_)
              clear hK K
              refine norm_ (a' := ?_) ?_ ?_
              rotate_left
              · show Act.put _ (some 63) _ = _
                simp only [Act.put, List.setIfInBounds_toArray, List.set_cons_zero, List.set_cons_succ, i64_w, i32_w]
                rfl
              refine pure_ (i := 3) (N := some 64) (v := ?_) (a' := ?_) #[true, true, true, true, false, true, true, false, false, false, true, true, false, false, false, false] rfl rfl (any_of HT_.out (by kernel_rfl)) (fun _ _ _ h => h) (Or.inl ⟨by rfl, ?_⟩) ?_ ?_
              rotate_left
              · intro w'
                go_simp
                with_reducible rfl
              rotate_left
              · simp only [Act.put, List.setIfInBounds_toArray, List.set_cons_zero, List.set_cons_succ, i64_w, i32_w]
                rfl
              refine pure_ (i := 4) (N := some 65) (v := ?_) (a' := ?_) #[true, true, true, true, true, true, true, false, false, false, true, true, false, false, false, false] rfl rfl (any_of HT_.out (by kernel_rfl)) (fun _ _ _ h => h) (Or.inl ⟨by rfl, ?_⟩) ?_ ?_
              rotate_left
              · intro w'
                go_simp
                with_reducible rfl
              rotate_left
              · simp only [Act.put, List.setIfInBounds_toArray, List.set_cons_zero, List.set_cons_succ, i64_w, i32_w]
                rfl
              refine one_ (i := 7) (N := some 68) #[true, true, true, true, true, true, true, true, false, false, true, true, false, false, false, false] rfl rfl (one_of HT_.out (by kernel_rfl)) (by decide) (fun K hK => ?_)
              refine goes_ Tryd.func34 (by kernel_rfl) rfl #[.int .i64 a0_2] (by rfl) rfl rfl (by (try simp only [List.map_toArray, List.map_cons, List.map_nil]); first | done | rfl | (simp only [List.length_drop, List.length_take]; rfl)) ?_
              with_reducible refine (spec_Digits.calls k a0_2 t272 _ A49.out).mono ?_
              rintro e w58 ⟨rfl, hb⟩
              refine ⟨_, rfl, ?_⟩
              have n0_ := Aside0.mk (blk_below (g := gb264) (o := .cells #[.int .i64 a0_0, .string a0_1, .int .i64 a0_2, .int .i64 a0_3, .slice A0_4 l0_4.length c0_4] 42 (0, 0)) (by (with_reducible repeat (first | refine blk_drewN ?_ _ | refine blk_drew ?_ | refine blk_alloc ?_ _)); exact BK264.out) hb)
              have n1_ := Aside0.mk (below_step (by repeat (first | (with_reducible first | exact HB.out | apply below_alloc | apply pw_below_drewN | apply below_drew1 | refine below_set ?_ GE264.out) | exact HB.out)) hb)
              clear BK264
              clear HB
              have BK264 := n0_
              have HB := n1_
              clear n0_ n1_
              (try clear hb)
              (try clear hb2)
              (try clear hk)
              (try clear hi)
              refine hK.out _ _ ⟨(blk_cell BK264.out 0).trans rfl, (blk_cell BK264.out 1).trans rfl, (blk_cell BK264.out 2).trans rfl, (blk_cell BK264.out 3).trans rfl, (blk_cell BK264.out 4).trans rfl⟩ (fun hHeld => ?_)
              clear hK K
              refine norm_ (a' := ?_) ?_ ?_
              rotate_left
              · show Act.put _ (some 68) _ = _
                simp only [Act.put, List.setIfInBounds_toArray, List.set_cons_zero, List.set_cons_succ, i64_w, i32_w]
                rfl
              refine pure_ (i := 8) (N := some 69) (v := ?_) (a' := ?_) #[true, true, true, true, true, true, true, true, true, false, true, true, false, false, false, false] rfl rfl (any_of HT_.out (by kernel_rfl)) (fun _ _ _ h => h) (Or.inl ⟨by rfl, ?_⟩) ?_ ?_
              rotate_left
              · intro w'
                go_simp
                with_reducible rfl
              rotate_left
              · simp only [Act.put, List.setIfInBounds_toArray, List.set_cons_zero, List.set_cons_succ, i64_w, i32_w]
                rfl
              refine pure_ (i := 9) (N := some 70) (v := ?_) (a' := ?_) #[true, true, true, true, true, true, true, true, true, true, true, true, false, false, false, false] rfl rfl (any_of HT_.out (by kernel_rfl)) (fun _ _ _ h => h) (Or.inl ⟨by rfl, ?_⟩) ?_ ?_
              rotate_left
              · intro w'
                go_simp
                with_reducible rfl
              rotate_left
              · simp only [Act.put, List.setIfInBounds_toArray, List.set_cons_zero, List.set_cons_succ, i64_w, i32_w]
                rfl
              refine one_ (i := 12) (N := some 73) #[true, true, true, true, true, true, true, true, true, true, true, true, true, false, false, false] rfl rfl (one_of HT_.out (by kernel_rfl)) (by decide) (fun K hK => ?_)
              refine goes_ Tryd.func34 (by kernel_rfl) rfl #[.int .i64 a0_3] (by rfl) rfl rfl (by (try simp only [List.map_toArray, List.map_cons, List.map_nil]); first | done | rfl | (simp only [List.length_drop, List.length_take]; rfl)) ?_
              with_reducible refine (spec_Digits.calls k a0_3 t273 _ A52.out).mono ?_
              rintro e w59 ⟨rfl, hb⟩
              refine ⟨_, rfl, ?_⟩
              have n0_ := Aside0.mk (blk_below (g := gb264) (o := .cells #[.int .i64 a0_0, .string a0_1, .int .i64 a0_2, .int .i64 a0_3, .slice A0_4 l0_4.length c0_4] 42 (0, 0)) (by (with_reducible repeat (first | refine blk_drewN ?_ _ | refine blk_drew ?_ | refine blk_alloc ?_ _)); exact BK264.out) hb)
              have n1_ := Aside0.mk (below_step (by repeat (first | (with_reducible first | exact HB.out | apply below_alloc | apply pw_below_drewN | apply below_drew1 | refine below_set ?_ GE264.out) | exact HB.out)) hb)
              clear BK264
              clear HB
              have BK264 := n0_
              have HB := n1_
              clear n0_ n1_
              (try clear hb)
              (try clear hb2)
              (try clear hk)
              (try clear hi)
              refine hK.out _ _ ⟨(blk_cell BK264.out 0).trans rfl, (blk_cell BK264.out 1).trans rfl, (blk_cell BK264.out 2).trans rfl, (blk_cell BK264.out 3).trans rfl, (blk_cell BK264.out 4).trans rfl⟩ (fun hHeld => ?_)
              clear hK K
              refine norm_ (a' := ?_) ?_ ?_
              rotate_left
              · show Act.put _ (some 73) _ = _
                simp only [Act.put, List.setIfInBounds_toArray, List.set_cons_zero, List.set_cons_succ, i64_w, i32_w]
                rfl
              refine pure_ (i := 13) (N := some 74) (v := ?_) (a' := ?_) #[true, true, true, true, true, true, true, true, true, true, true, true, true, true, false, false] rfl rfl (any_of HT_.out (by kernel_rfl)) (fun _ _ _ h => h) (Or.inl ⟨by rfl, ?_⟩) ?_ ?_
              rotate_left
              · intro w'
                go_simp
                with_reducible rfl
              rotate_left
              · simp only [Act.put, List.setIfInBounds_toArray, List.set_cons_zero, List.set_cons_succ, i64_w, i32_w]
                rfl
              refine pure_ (i := 14) (N := some 75) (v := ?_) (a' := ?_) #[true, true, true, true, true, true, true, true, true, true, true, true, true, true, true, false] rfl rfl (any_of HT_.out (by kernel_rfl)) (fun _ _ _ h => h) (Or.inl ⟨by rfl, ?_⟩) ?_ ?_
              rotate_left
              · intro w'
                go_simp
                with_reducible rfl
              rotate_left
              · simp only [Act.put, List.setIfInBounds_toArray, List.set_cons_zero, List.set_cons_succ, i64_w, i32_w]
                rfl
              refine pure_ (i := 15) (N := some 2) (v := ?_) (a' := ?_) #[true, true, true, true, true, true, true, true, true, true, true, true, true, true, true, true] rfl rfl (any_of HT_.out (by kernel_rfl)) (fun _ _ _ h => h) (Or.inl ⟨by rfl, ?_⟩) ?_ ?_
              rotate_left
              · intro w'
                go_simp
                with_reducible rfl
              rotate_left
              · simp only [Act.put, List.setIfInBounds_toArray, List.set_cons_zero, List.set_cons_succ, i64_w, i32_w]
                rfl
              refine done_ (done_of HT_.out (by kernel_rfl)) ?_
              try go_wp2
              go_ret
              exact ⟨by first | rfl | (simp [errW_none, errW_some] <;> rfl) | (simp [*, errW_none, errW_some] <;> rfl), by repeat (first | (with_reducible first | exact HB.out | apply below_alloc | apply pw_below_drewN | apply below_drew1 | refine below_set ?_ GE264.out) | exact HB.out)⟩
            rw [if_neg c54] at H
            exact absurd H (by simp)
          rw [if_neg c53] at H
          exact absurd H (by simp)
        rw [if_neg c51] at H
        exact absurd H (by simp)
      rw [if_neg c50] at H
      exact absurd H (by simp)
    rw [if_neg c48] at H
    exact absurd H (by simp)
  rw [if_neg c47] at H
  exact absurd H (by simp)
/-! ### spec_Dest: function 30 -/
def spec_Dest.l0 : Nat → List (S42) → List ByteArray → Int → Option (ByteArray)
  | 0, _, _, _ => none
  | k + 1, x0, x3, x4 => if x4 < (x0.length : Int) then (if 0 ≤ x4 then ((spec_text.f k ((rd_T42 x0 x4).f0) ((rd_T42 x0 x4).f1) ((rd_T42 x0 x4).f2) ((rd_T42 x0 x4).f3) ((rd_T42 x0 x4).f4)).bind fun t275 => (if x3.length < 8796093022208 then (spec_Dest.l0 k x0 (x3 ++ [t275]) (wrap64 (x4 + 1))) else (none))) else (none)) else ((spec_Join.f k x3).bind fun t279 => (some t279))
def spec_Dest.f (k : Nat) (l0 : List (S42)) : Option (ByteArray) := spec_Dest.l0 k l0 ([] : List ByteArray) 0
set_option maxHeartbeats 8000000 in
set_option maxRecDepth 100000 in
theorem spec_Dest.calls (k : Nat) (A0 : Option Addr) (c0 : Nat) (l0 : List (S42)) (r : ByteArray) (w : World) (hr0 : Kd.C k42 w A0 l0.length l0) (hc0 : l0.length ≤ c0) (h : spec_Dest.f k l0 = some r) :
    Calls Tryd.prog 30 #[.slice A0 l0.length c0] w fun e w' => e = .returned (.string r) ∧ Below w.heap.size w w' := by
  have hu42 := Tryd.underlying42
  have HR0 := Aside0.mk hr0
  have HC0 := Aside0.mk hc0
  clear hr0 hc0
  have HB := Aside0.mk (Below.refl w.heap.size w)
  have H : (spec_Dest.l0 k l0 ([] : List ByteArray) 0) = some r := h
  clear h
  have H' := Aside0.mk H
  clear H
  go_enter Tryd.func30, Tryd.ntmps30
  go_wp2
  go_loopg [3, 4] k (fun kq v3 v4 w' => ∃ (x3_1 : List ByteArray) (x4_1 : Int), v4 = .int .i64 x4_1 ∧ Aside0 (spec_Dest.l0 kq l0 x3_1 x4_1 = some r) ∧ Aside0 (kq ≤ k) ∧ Aside0 (Kd.R Kd.string 9 w' w.heap.size (fun _ => True) v3 x3_1) ∧ Aside0 (Below w.heap.size w w'))
  case atStart => exact ⟨(([] : List ByteArray)), (0), (by first | rfl | (simp; done) | (simp [*]; done)), H', ⟨Nat.le_refl _⟩, ⟨by first | exact Kd.R_nil _ _ _ _ _ | exact Kd.N_nil _ _ _ _ _ | exact Kd.V_nil _ _ _ _ _ | exact Kd.Q_nil _ _ _ _ _ | exact Kd.S_nil _ _ _ _ _⟩, ⟨by repeat (first | (with_reducible first | exact HB.out | apply below_alloc | apply pw_below_drewN | apply below_drew1) | exact HB.out)⟩⟩
  case round =>
    clear H'
    obtain ⟨x3_1, x4_1, rfl, HA, HK1, HO_3, HB⟩ := hrel
    cases gk with
    | zero => exact absurd HA.out (by simp [spec_Dest.l0])
    | succ k1 =>
      have H := HA.out
      clear HA
      simp only [spec_Dest.l0] at H
      by_cases c2 : x4_1 < (l0.length : Int)
      · rw [if_pos c2] at H
        have c2b0 : decide (x4_1 < (l0.length : Int)) = true := decide_eq_true c2
        clear c2
        by_cases c3 : 0 ≤ x4_1
        · rw [if_pos c3] at H
          have c3b0 : decide (0 ≤ x4_1) = true := decide_eq_true c3
          clear c3
          replace H := Option.bind_eq_some_iff.mp H
          obtain ⟨t275, A40, H⟩ := H
          replace H : (if x3_1.length < 8796093022208 then (spec_Dest.l0 k1 l0 (x3_1 ++ [t275]) (wrap64 (x4_1 + 1))) else (none)) = some r := H
          have A4 := Aside0.mk A40
          clear A40
          by_cases c5 : x3_1.length < 8796093022208
          · rw [if_pos c5] at H
            have LMc5 := Aside0.mk c5
            clear c5
            obtain ⟨y276, hy276⟩ : ∃ y_ : List ByteArray, y_ = (x3_1 ++ [t275]) := ⟨_, rfl⟩
            replace H : (spec_Dest.l0 k1 l0 y276 (wrap64 (x4_1 + 1))) = some r := by first | (rw [hy276]; with_reducible exact H) | (have H2_ := (Option.bind_some _ _).symm.trans H; rw [hy276]; with_reducible exact H2_) | (have H2_ := (Option.bind_some _ _).symm.trans H; with_reducible exact H2_) | with_reducible exact H | (rw [hy276]; exact H) | exact H
            have Ny276 := Aside0.mk hy276
            clear hy276
            have H' := Aside0.mk H
            clear H
            have p274 : 0 ≤ (x4_1 : Int) := of_decide_eq_true (by first | (with_reducible assumption) | assumption)
            have q274 : x4_1 < (l0.length : Int) := of_decide_eq_true (by first | (with_reducible assumption) | assumption)
            obtain ⟨ad274, A274_4, c274_4, e274, hx274_0, hx274_1, hx274_2, hx274_3, hx274_4, hl274_4, hi274_4⟩ := at_T42 HR0.out x4_1 p274 q274
            cases e274
            replace hx274_0 := (HB.out.cell (World.block_lt_of_cell? w _ hx274_0)).trans hx274_0
            replace hx274_1 := (HB.out.cell (World.block_lt_of_cell? w _ hx274_1)).trans hx274_1
            replace hx274_2 := (HB.out.cell (World.block_lt_of_cell? w _ hx274_2)).trans hx274_2
            replace hx274_3 := (HB.out.cell (World.block_lt_of_cell? w _ hx274_3)).trans hx274_3
            replace hx274_4 := (HB.out.cell (World.block_lt_of_cell? w _ hx274_4)).trans hx274_4
            have HR274_4 := Aside0.mk hi274_4
            have HC274_4 := Aside0.mk hl274_4
            clear hi274_4 hl274_4
            replace p274 := eq_true p274
            replace q274 := eq_true q274
            go_wp2_with (first | ((with_reducible refine gate_callee (f := 51) rfl ?_); refine goesL_ (some 16) rfl rfl Tryd.func51 (by kernel_rfl) rfl #[.agg #[.int .i64 ((rd_T42 l0 x4_1).f0), .string ((rd_T42 l0 x4_1).f1), .int .i64 ((rd_T42 l0 x4_1).f2), .int .i64 ((rd_T42 l0 x4_1).f3), .slice A274_4 ((rd_T42 l0 x4_1).f4).length c274_4]] rfl (by (try simp only [List.map_toArray, List.map_cons, List.map_nil]); first | done | rfl | (simp only [List.length_drop, List.length_take]; rfl)) ?_; (with_reducible refine (spec_text.calls k1 ((rd_T42 l0 x4_1).f0) ((rd_T42 l0 x4_1).f1) ((rd_T42 l0 x4_1).f2) ((rd_T42 l0 x4_1).f3) _ _ ((rd_T42 l0 x4_1).f4) t275 _ ?side1 ?side2 A4.out).mono ?_); (case side1 => repeat (first | exact (Kd.C_below HR274_4.out HB.out) | (with_reducible refine Kd.C_alloc ?_ _) | (with_reducible refine Kd.C_drewN ?_ _) | (with_reducible refine Kd.C_drew ?_))); (case side2 => exact HC274_4.out); rintro e w6 ⟨rfl, hb⟩; refine ⟨_, rfl, ?_⟩; have n0_ := Aside0.mk (Kd.R_below (by (with_reducible repeat (first | apply Kd.R_alloc | apply Kd.R_drewN | apply Kd.R_drew)); exact HO_3.out) hb); have n1_ := Aside0.mk (below_step (by repeat (first | (with_reducible first | exact HB.out | apply below_alloc | apply pw_below_drewN | apply below_drew1) | exact HB.out)) hb); clear HO_3; clear HB; have HO_3 := n0_; have HB := n1_; clear n0_ n1_; (try clear hb); (try clear hb2); (try clear hk); (try clear hi)) | ((with_reducible refine gate_builtin (b := .append) (xs := #[.tmp 11, .tmp 17]) rfl ?_); at_builtin; refine Kd.R_append Kd.string (w0 := w) w.heap.size rfl (.tmp 11) (.tmp 17) 30 9 (.string ⟨#[]⟩) 16 rfl Tryd.underlying30 info9 rfl (by decide) (by omega) u3 x3_1 t275 [.string t275] (fun _ => True) (fun _ => False) rfl rfl ?aP (fun _ hk => hk.elim) ?aF ?aO ?aB ?aS ?aL ?_; (case aP => exact rfl); (case aB => exact (by repeat (first | (with_reducible first | exact HB.out | apply below_alloc | apply pw_below_drewN | apply below_drew1) | exact HB.out))); (case aF => exact (fun _ _ => trivial)); (case aO => exact (by (with_reducible repeat (first | apply Kd.R_alloc | apply Kd.R_drewN | apply Kd.R_drew)); exact HO_3.out)); (case aS => exact (below_size (by repeat (first | (with_reducible first | exact HB.out | apply below_alloc | apply pw_below_drewN | apply below_drew1) | exact HB.out)))); (case aL => have := LMc5.out; omega); intro v277 w7 ho hb hg hat; rw [← Ny276.out] at ho; have n0_ := Aside0.mk (hb); have n1_ := Aside0.mk (ho); clear HB; clear HO_3; have HB := n0_; have HO278 := n1_; clear n0_ n1_; clear ho hb hg hat))
            go_roundg k1
            case measure => have := HK1.out; omega
            case rel => exact ⟨(y276), (wrap64 (x4_1 + 1)), (by first | rfl | (simp; done) | (simp [*]; done)), H', ⟨by have := HK1.out; omega⟩, ⟨by (with_reducible repeat (first | apply Kd.R_alloc | apply Kd.R_drewN | apply Kd.R_drew)); exact HO278.out⟩, ⟨by repeat (first | (with_reducible first | exact HB.out | apply below_alloc | apply pw_below_drewN | apply below_drew1) | exact HB.out)⟩⟩
          rw [if_neg c5] at H
          exact absurd H (by simp)
        rw [if_neg c3] at H
        exact absurd H (by simp)
      rw [if_neg c2] at H
      have c2b0 : decide (x4_1 < (l0.length : Int)) = false := decide_eq_false c2
      clear c2
      replace H := Option.bind_eq_some_iff.mp H
      obtain ⟨t279, A80, H⟩ := H
      replace H : (some t279) = some r := H
      have A8 := Aside0.mk A80
      clear A80
      obtain rfl := Option.some.inj H
      obtain ⟨Ao9, co9, eo9⟩ := Kd.R_slice HO_3.out
      subst eo9
      go_wp2_with (first | ((with_reducible refine gate_callee (f := 37) rfl ?_); refine goesL_ (some 20) rfl rfl Tryd.func37 (by kernel_rfl) rfl #[.slice Ao9 x3_1.length co9] rfl (by (try simp only [List.map_toArray, List.map_cons, List.map_nil]); first | done | rfl | (simp only [List.length_drop, List.length_take]; rfl)) ?_; (with_reducible refine (spec_Join.calls k1 _ _ x3_1 t279 _ ?side1 ?side2 A8.out).mono ?_); (case side1 => repeat (first | exact (Kd.R_reads' HO_3.out).2.2 | (with_reducible refine Kd.C_alloc ?_ _) | (with_reducible refine Kd.C_drewN ?_ _) | (with_reducible refine Kd.C_drew ?_))); (case side2 => exact (Kd.R_reads' HO_3.out).2.1); rintro e w' ⟨rfl, ⟨nd, rfl⟩⟩; refine ⟨_, rfl, ?_⟩))
      go_ret
      exact ⟨by first | rfl | (simp [errW_none, errW_some] <;> rfl) | (simp [*, errW_none, errW_some] <;> rfl), by repeat (first | (with_reducible first | exact HB.out | apply below_alloc | apply pw_below_drewN | apply below_drew1) | exact HB.out)⟩
/-! ### spec_Reversible: function 14 -/
mutual
def spec_Reversible.l0 : Nat → List (S42) → Int → List Int → Int → Option (Bool)
  | 0, _, _, _, _ => none
  | k + 1, x1, x5, x6, x7 => if x7 < (x1.length : Int) then (if 0 ≤ x7 then (if ((rd_T42 x1 x7).f0) = 1 then (spec_Reversible.j1 k x1 x5 x6 x7 true ((rd_T42 x1 x7).f0) ((rd_T42 x1 x7).f1) ((rd_T42 x1 x7).f2) ((rd_T42 x1 x7).f3) ((rd_T42 x1 x7).f4)) else (spec_Reversible.j1 k x1 x5 x6 x7 (((rd_T42 x1 x7).f0) == 2) ((rd_T42 x1 x7).f0) ((rd_T42 x1 x7).f1) ((rd_T42 x1 x7).f2) ((rd_T42 x1 x7).f3) ((rd_T42 x1 x7).f4))) else (none)) else (spec_Reversible.l1 k x5 x6 1)
def spec_Reversible.j1 : Nat → List (S42) → Int → List Int → Int → Bool → Int → ByteArray → Int → Int → List Int → Option (Bool)
  | 0, _, _, _, _, _, _, _, _, _, _ => none
  | k + 1, x1, x5, x6, x7, x32, x402000, x402001, x402002, x402003, x402004 => if x32 = true then (if x402002 < 1 then (some false) else (if x402002 > x5 then (some false) else (if 0 ≤ x402002 then (if x402002 < (x6.length : Int) then (spec_Reversible.l0 k x1 x5 (x6.set (x402002 : Int).toNat (wrap64 ((rd x6 x402002) + 1))) (wrap64 (x7 + 1))) else (none)) else (none)))) else (if x402000 = 0 then (spec_Reversible.l0 k x1 x5 x6 (wrap64 (x7 + 1))) else (if x402000 = 11 then (spec_Reversible.l0 k x1 x5 x6 (wrap64 (x7 + 1))) else (some false)))
def spec_Reversible.l1 : Nat → Int → List Int → Int → Option (Bool)
  | 0, _, _, _ => none
  | k + 1, x5, x6, x9 => if x9 ≤ x5 then (if 0 ≤ x9 then (if x9 < (x6.length : Int) then (if (rd x6 x9) = 1 then (spec_Reversible.l1 k x5 x6 (wrap64 (x9 + 1))) else (some false)) else (none)) else (none)) else (some true)
end
def spec_Reversible.f (k : Nat) (a0 : ByteArray) (l1 : List (S42)) : Option (Bool) := (spec_Wilds.f k a0).bind fun t396 => (if 0 ≤ (wrap64 (t396 + 1)) then (if (wrap64 (t396 + 1) : Int).toNat ≤ 35184372088832 then (spec_Reversible.l0 k l1 t396 (List.replicate (wrap64 (t396 + 1) : Int).toNat 0) 0) else (none)) else (none))
set_option maxHeartbeats 8000000 in
set_option maxRecDepth 100000 in
theorem spec_Reversible.calls (k : Nat) (a0 : ByteArray) (A1 : Option Addr) (c1 : Nat) (l1 : List (S42)) (r : Bool) (w : World) (hr1 : Kd.C k42 w A1 l1.length l1) (hc1 : l1.length ≤ c1) (h : spec_Reversible.f k a0 l1 = some r) :
    Calls Tryd.prog 14 #[.string a0, .slice A1 l1.length c1] w fun e w' => e = .returned (.bool r) ∧ Below w.heap.size w w' := by
  have hu42 := Tryd.underlying42
  have HR1 := Aside0.mk hr1
  have HC1 := Aside0.mk hc1
  clear hr1 hc1
  have HB := Aside0.mk (Below.refl w.heap.size w)
  have H : ((spec_Wilds.f k a0).bind fun t396 => (if 0 ≤ (wrap64 (t396 + 1)) then (if (wrap64 (t396 + 1) : Int).toNat ≤ 35184372088832 then (spec_Reversible.l0 k l1 t396 (List.replicate (wrap64 (t396 + 1) : Int).toNat 0) 0) else (none)) else (none))) = some r := h
  clear h
  replace H := Option.bind_eq_some_iff.mp H
  obtain ⟨t396, A30, H⟩ := H
  replace H : (if 0 ≤ (wrap64 (t396 + 1)) then (if (wrap64 (t396 + 1) : Int).toNat ≤ 35184372088832 then (spec_Reversible.l0 k l1 t396 (List.replicate (wrap64 (t396 + 1) : Int).toNat 0) 0) else (none)) else (none)) = some r := H
  have A3 := Aside0.mk A30
  clear A30
  obtain ⟨ji4, hji4⟩ : ∃ j_ : Int, (wrap64 (t396 + 1)) = j_ := ⟨_, rfl⟩
  replace H : (if 0 ≤ (ji4) then (if (ji4 : Int).toNat ≤ 35184372088832 then (spec_Reversible.l0 k l1 t396 (List.replicate (ji4 : Int).toNat 0) 0) else (none)) else (none)) = some r := by first | (rw [hji4] at H; exact H) | (simp only [hji4] at H ⊢; exact H)
  (try rw [hji4] at A3)
  have hji4w : (IntKind.i64.wrap (t396 + 1)) = ji4 := (i64_w _).trans hji4
  by_cases c5 : 0 ≤ (ji4)
  · rw [if_pos c5] at H
    have c5b0 := eq_true c5
    have c5b1 : decide (0 ≤ (ji4)) = true := decide_eq_true c5
    clear c5
    by_cases c6 : (ji4 : Int).toNat ≤ 35184372088832
    · rw [if_pos c6] at H
      have c6b0 := eq_true c6
      have c6b1 : decide ((ji4 : Int).toNat ≤ 35184372088832) = true := decide_eq_true c6
      clear c6
      obtain ⟨y397, hy397⟩ : ∃ y_ : List Int, y_ = (List.replicate (ji4 : Int).toNat 0) := ⟨_, rfl⟩
      replace H : (spec_Reversible.l0 k l1 t396 y397 0) = some r := by first | (rw [hy397]; with_reducible exact H) | (have H2_ := (Option.bind_some _ _).symm.trans H; rw [hy397]; with_reducible exact H2_) | (have H2_ := (Option.bind_some _ _).symm.trans H; with_reducible exact H2_) | with_reducible exact H | (rw [hy397]; exact H) | exact H
      have Ny397 := Aside0.mk hy397
      clear hy397
      have H' := Aside0.mk H
      clear H
      go_enter Tryd.func14, Tryd.ntmps14
      go_wp2_with (first | ((with_reducible refine gate_callee (f := 38) rfl ?_); refine goesL_ (some 11) rfl rfl Tryd.func38 (by kernel_rfl) rfl #[.string a0] rfl (by (try simp only [List.map_toArray, List.map_cons, List.map_nil]); first | done | rfl | (simp only [List.length_drop, List.length_take]; rfl)) ?_; (with_reducible refine (spec_Wilds.calls k a0 t396 _ A3.out).mono ?_); rintro e w7 ⟨rfl, hb⟩; refine ⟨_, rfl, ?_⟩; have n0_ := Aside0.mk (below_step (by repeat (first | (with_reducible first | exact HB.out | apply below_alloc | apply pw_below_drewN | apply below_drew1) | exact HB.out)) hb); clear HB; have HB := n0_; clear n0_; (try clear hb); (try clear hb2); (try clear hk); (try clear hi)) | ((with_reducible refine gate_dst (N := 14) rfl ?_); refine Kd.R_make (Kd.int .i64) _ 3 rfl (N := 14) rfl 31 _ _ rfl ji4 rfl rfl Tryd.underlying31 (.int .i64 0) 8 info3 rfl (by decide) (by omega) 0 (ok := fun _ => True) (okp := fun _ => True) rfl (fun _ hk => hk) trivial (of_decide_eq_true (by first | (with_reducible assumption) | assumption)) (Nat.le_trans (Nat.mul_le_mul_right _ (of_decide_eq_true (by first | (with_reducible assumption) | assumption) : ji4.toNat ≤ 35184372088832)) (by omega)) (Below.refl _ _) (Nat.le_refl _) ?_; intro v398 w8 ho9 hb hg_ hnew_; clear hg_ hnew_; (first | rw [← Ny397.out] at ho9 | (simp only [Int.reduceToNat] at ho9; rw [← Ny397.out] at ho9)); have n0_ := Aside0.mk (Kd.R_lower ho9 (below_size (by repeat (first | (with_reducible first | exact HB.out | apply below_alloc | apply pw_below_drewN | apply below_drew1) | exact HB.out)))); have n1_ := Aside0.mk (below_step (by repeat (first | (with_reducible first | exact HB.out | apply below_alloc | apply pw_below_drewN | apply below_drew1) | exact HB.out)) hb); clear HB; have HO399 := n0_; have HB := n1_; clear n0_ n1_; clear hb ho9))
      go_loopg [7] k (fun kq v7 w' => ∃ (x6_1 : List Int) (x7_1 : Int), v7 = .int .i64 x7_1 ∧ Aside0 (spec_Reversible.l0 kq l1 t396 x6_1 x7_1 = some r) ∧ Aside0 (kq ≤ k) ∧ Aside0 (Kd.R (Kd.int .i64) 3 w' w.heap.size (fun _ => True) v398 x6_1) ∧ Aside0 (Below w.heap.size w w'))
      case atStart => exact ⟨(y397), (0), (by first | rfl | (simp; done) | (simp [*]; done)), H', ⟨Nat.le_refl _⟩, ⟨by (with_reducible repeat (first | apply Kd.R_alloc | apply Kd.R_drewN | apply Kd.R_drew)); exact HO399.out⟩, ⟨by repeat (first | (with_reducible first | exact HB.out | apply below_alloc | apply pw_below_drewN | apply below_drew1) | exact HB.out)⟩⟩
      case round =>
        clear H'
        try clear c1
        try clear p2
        try clear c3
        try clear c5
        try clear c5b0
        try clear c5b1
        try clear c6
        try clear c6b0
        try clear c6b1
        try clear p6
        obtain ⟨x6_1, x7_1, rfl, HA, HK1, HO_6, HB⟩ := hrel
        cases gk with
        | zero => exact absurd HA.out (by simp [spec_Reversible.l0])
        | succ k1 =>
          have H := HA.out
          clear HA
          simp only [spec_Reversible.l0] at H
          by_cases c10 : x7_1 < (l1.length : Int)
          · rw [if_pos c10] at H
            have c10b0 : decide (x7_1 < (l1.length : Int)) = true := decide_eq_true c10
            clear c10
            by_cases c11 : 0 ≤ x7_1
            · rw [if_pos c11] at H
              have c11b0 : decide (0 ≤ x7_1) = true := decide_eq_true c11
              clear c11
              have HC12 := Aside0.mk H
              clear H
              have p400 : 0 ≤ (x7_1 : Int) := of_decide_eq_true (by first | (with_reducible assumption) | assumption)
              have q400 : x7_1 < (l1.length : Int) := of_decide_eq_true (by first | (with_reducible assumption) | assumption)
              obtain ⟨ad400, A400_4, c400_4, e400, hx400_0, hx400_1, hx400_2, hx400_3, hx400_4, hl400_4, hi400_4⟩ := at_T42 HR1.out x7_1 p400 q400
              cases e400
              replace hx400_0 := (HB.out.cell (World.block_lt_of_cell? w _ hx400_0)).trans hx400_0
              replace hx400_1 := (HB.out.cell (World.block_lt_of_cell? w _ hx400_1)).trans hx400_1
              replace hx400_2 := (HB.out.cell (World.block_lt_of_cell? w _ hx400_2)).trans hx400_2
              replace hx400_3 := (HB.out.cell (World.block_lt_of_cell? w _ hx400_3)).trans hx400_3
              replace hx400_4 := (HB.out.cell (World.block_lt_of_cell? w _ hx400_4)).trans hx400_4
              have HR400_4 := Aside0.mk hi400_4
              have HC400_4 := Aside0.mk hl400_4
              clear hi400_4 hl400_4
              replace p400 := eq_true p400
              replace q400 := eq_true q400
              go_upto_region 7 with (first | ((with_reducible refine gate_dst (N := 8) rfl ?_); refine box_event ?hg (N := 8) ?hd (cs := #[.int .i64 0, .string (⟨#[]⟩ : ByteArray), .int .i64 0, .int .i64 0, .slice none 0 0]) (t := 42) ?hr ?_; (case hd => rfl); (case hg => rfl); (case hr => first | (go_simp; done) | (go_simp; rfl)); intro gb401 hg w13 hbox hb; have n0_ := Aside0.mk (Kd.R_below (by (with_reducible repeat (first | apply Kd.R_alloc | apply Kd.R_drewN | apply Kd.R_drew)); exact HO_6.out) hb); have n1_ := Aside0.mk (below_step (by repeat (first | (with_reducible first | exact HB.out | apply below_alloc | apply pw_below_drewN | apply below_drew1) | exact HB.out)) hb); have n2_ := Aside0.mk (hbox); have n3_ := Aside0.mk ((by rw [hg]; exact (below_size (by repeat (first | (with_reducible first | exact HB.out | apply below_alloc | apply pw_below_drewN | apply below_drew1) | exact HB.out))) : w.heap.size ≤ gb401)); have n4_ := Aside0.mk ((by rw [hg]; exact (below_size (by repeat (first | (with_reducible first | exact HB.out | apply below_alloc | apply pw_below_drewN | apply below_drew1) | exact HB.out))) : w.heap.size ≤ gb401)); clear HO_6; clear HB; have HO_6 := n0_; have HB := n1_; have BK401 := n2_; have GW401 := n3_; have GE401 := n4_; clear n0_ n1_ n2_ n3_ n4_; clear hb hbox hg; have hcz14_0 : w13.cell? ⟨gb401, 0, none⟩ = some (.int .i64 0) := (blk_cell BK401.out 0).trans rfl; have hcz14_1 : w13.cell? ⟨gb401, 1, none⟩ = some (.string (⟨#[]⟩ : ByteArray)) := (blk_cell BK401.out 1).trans rfl; have hcz14_2 : w13.cell? ⟨gb401, 2, none⟩ = some (.int .i64 0) := (blk_cell BK401.out 2).trans rfl; have hcz14_3 : w13.cell? ⟨gb401, 3, none⟩ = some (.int .i64 0) := (blk_cell BK401.out 3).trans rfl; have hcz14_4 : w13.cell? ⟨gb401, 4, none⟩ = some (.slice none 0 0) := (blk_cell BK401.out 4).trans rfl; have hfz14_0 := blk_frozen BK401.out 0; have hfz14_1 := blk_frozen BK401.out 1; have hfz14_2 := blk_frozen BK401.out 2; have hfz14_3 := blk_frozen BK401.out 3; have hfz14_4 := blk_frozen BK401.out 4))
              (try simp only [Act.put, List.setIfInBounds_toArray, List.set_cons_zero, List.set_cons_succ])
              go_cut [32] (fun v32 wc => ∃ (kq : Nat) (x32_11 : Bool), v32 = .bool x32_11 ∧ Aside0 (spec_Reversible.j1 kq l1 t396 x6_1 x7_1 x32_11 ((rd_T42 l1 x7_1).f0) ((rd_T42 l1 x7_1).f1) ((rd_T42 l1 x7_1).f2) ((rd_T42 l1 x7_1).f3) ((rd_T42 l1 x7_1).f4) = some r) ∧ Aside0 (kq ≤ k1) ∧ Aside0 (Kd.R (Kd.int .i64) 3 wc w.heap.size (fun _ => True) v398 x6_1) ∧ Aside0 (wc.heap[gb401]? = some (.cells #[.int .i64 ((rd_T42 l1 x7_1).f0), .string ((rd_T42 l1 x7_1).f1), .int .i64 ((rd_T42 l1 x7_1).f2), .int .i64 ((rd_T42 l1 x7_1).f3), (.slice A400_4 ((rd_T42 l1 x7_1).f4).length c400_4)] 42 (0, 0))) ∧ Aside0 (Below w.heap.size w wc))
              case first =>
                have H := HC12.out
                clear HC12
                by_cases c15 : ((rd_T42 l1 x7_1).f0) = 1
                · rw [if_pos c15] at H
                  have c15b0 : (((rd_T42 l1 x7_1).f0) == 1) = true := beq_iff_eq.mpr c15
                  have c15b1 : (((rd_T42 l1 x7_1).f0) != 1) = false := bne_eq_false_iff_eq.mpr c15
                  clear c15
                  (first | rw [c15b0] | (simp only [i64_w, i32_w]; rw [c15b0]) | skip)
                  have H' := Aside0.mk H
                  clear H
                  have hcz16_0 : w13.cell? ⟨gb401, 0, none⟩ = some (.int .i64 0) := (blk_cell BK401.out 0).trans rfl
                  have hcz16_1 : w13.cell? ⟨gb401, 1, none⟩ = some (.string (⟨#[]⟩ : ByteArray)) := (blk_cell BK401.out 1).trans rfl
                  have hcz16_2 : w13.cell? ⟨gb401, 2, none⟩ = some (.int .i64 0) := (blk_cell BK401.out 2).trans rfl
                  have hcz16_3 : w13.cell? ⟨gb401, 3, none⟩ = some (.int .i64 0) := (blk_cell BK401.out 3).trans rfl
                  have hcz16_4 : w13.cell? ⟨gb401, 4, none⟩ = some (.slice none 0 0) := (blk_cell BK401.out 4).trans rfl
                  have hfz16_0 := blk_frozen BK401.out 0
                  have hfz16_1 := blk_frozen BK401.out 1
                  have hfz16_2 := blk_frozen BK401.out 2
                  have hfz16_3 := blk_frozen BK401.out 3
                  have hfz16_4 := blk_frozen BK401.out 4
                  go_wp2
                  go_meet
                  case rel => exact ⟨_, (true), (by first | rfl | (simp; done) | (simp [*]; done)), H', ⟨by have := HK1.out; first | omega | exact Nat.le_refl _⟩, ⟨by (with_reducible repeat (first | apply Kd.R_alloc | apply Kd.R_drewN | apply Kd.R_drew)); exact Kd.R_mono (Kd.R_far (p := ⟨gb401, 4, none⟩) (Kd.R_far (p := ⟨gb401, 3, none⟩) (Kd.R_far (p := ⟨gb401, 2, none⟩) (Kd.R_far (p := ⟨gb401, 1, none⟩) (Kd.R_far (p := ⟨gb401, 0, none⟩) (Kd.R_types HO_6.out BK401.out (by decide)) (fun _ hk => hk.2) (.int .i64 ((rd_T42 l1 x7_1).f0))) (fun _ hk => hk.2) (.string ((rd_T42 l1 x7_1).f1))) (fun _ hk => hk.2) (.int .i64 ((rd_T42 l1 x7_1).f2))) (fun _ hk => hk.2) (.int .i64 ((rd_T42 l1 x7_1).f3))) (fun _ hk => hk.2) (.slice A400_4 ((rd_T42 l1 x7_1).f4).length c400_4)) (fun _ hk => trivial)⟩, ⟨by (with_reducible repeat (first | refine blk_drewN ?_ _ | refine blk_drew ?_ | refine blk_alloc ?_ _)); refine blk_put (cs := #[.int .i64 ((rd_T42 l1 x7_1).f0), .string ((rd_T42 l1 x7_1).f1), .int .i64 ((rd_T42 l1 x7_1).f2), .int .i64 ((rd_T42 l1 x7_1).f3), .slice none 0 0]) ?_ 4 _ rfl; (with_reducible repeat (first | refine blk_drewN ?_ _ | refine blk_drew ?_ | refine blk_alloc ?_ _)); refine blk_put (cs := #[.int .i64 ((rd_T42 l1 x7_1).f0), .string ((rd_T42 l1 x7_1).f1), .int .i64 ((rd_T42 l1 x7_1).f2), .int .i64 0, .slice none 0 0]) ?_ 3 _ rfl; (with_reducible repeat (first | refine blk_drewN ?_ _ | refine blk_drew ?_ | refine blk_alloc ?_ _)); refine blk_put (cs := #[.int .i64 ((rd_T42 l1 x7_1).f0), .string ((rd_T42 l1 x7_1).f1), .int .i64 0, .int .i64 0, .slice none 0 0]) ?_ 2 _ rfl; (with_reducible repeat (first | refine blk_drewN ?_ _ | refine blk_drew ?_ | refine blk_alloc ?_ _)); refine blk_put (cs := #[.int .i64 ((rd_T42 l1 x7_1).f0), .string (⟨#[]⟩ : ByteArray), .int .i64 0, .int .i64 0, .slice none 0 0]) ?_ 1 _ rfl; (with_reducible repeat (first | refine blk_drewN ?_ _ | refine blk_drew ?_ | refine blk_alloc ?_ _)); refine blk_put (cs := #[.int .i64 0, .string (⟨#[]⟩ : ByteArray), .int .i64 0, .int .i64 0, .slice none 0 0]) ?_ 0 _ rfl; (with_reducible repeat (first | refine blk_drewN ?_ _ | refine blk_drew ?_ | refine blk_alloc ?_ _)); exact BK401.out⟩, ⟨by repeat (first | (with_reducible first | exact HB.out | apply below_alloc | apply pw_below_drewN | apply below_drew1 | refine below_set ?_ GE401.out) | exact HB.out)⟩⟩
                rw [if_neg c15] at H
                have c15b0 : (((rd_T42 l1 x7_1).f0) == 1) = false := beq_eq_false_iff_ne.mpr c15
                have c15b1 : (((rd_T42 l1 x7_1).f0) != 1) = true := bne_iff_ne.mpr c15
                (first | rw [c15b0] | (simp only [i64_w, i32_w]; rw [c15b0]) | skip)
                have H' := Aside0.mk H
                clear H
                have hcz17_0 : w13.cell? ⟨gb401, 0, none⟩ = some (.int .i64 0) := (blk_cell BK401.out 0).trans rfl
                have hcz17_1 : w13.cell? ⟨gb401, 1, none⟩ = some (.string (⟨#[]⟩ : ByteArray)) := (blk_cell BK401.out 1).trans rfl
                have hcz17_2 : w13.cell? ⟨gb401, 2, none⟩ = some (.int .i64 0) := (blk_cell BK401.out 2).trans rfl
                have hcz17_3 : w13.cell? ⟨gb401, 3, none⟩ = some (.int .i64 0) := (blk_cell BK401.out 3).trans rfl
                have hcz17_4 : w13.cell? ⟨gb401, 4, none⟩ = some (.slice none 0 0) := (blk_cell BK401.out 4).trans rfl
                have hfz17_0 := blk_frozen BK401.out 0
                have hfz17_1 := blk_frozen BK401.out 1
                have hfz17_2 := blk_frozen BK401.out 2
                have hfz17_3 := blk_frozen BK401.out 3
                have hfz17_4 := blk_frozen BK401.out 4
                go_wp2
                go_meet
                case rel => exact ⟨_, ((((rd_T42 l1 x7_1).f0) == 2)), (by first | rfl | (simp; done) | (simp [*]; done)), H', ⟨by have := HK1.out; first | omega | exact Nat.le_refl _⟩, ⟨by (with_reducible repeat (first | apply Kd.R_alloc | apply Kd.R_drewN | apply Kd.R_drew)); exact Kd.R_mono (Kd.R_far (p := ⟨gb401, 4, none⟩) (Kd.R_far (p := ⟨gb401, 3, none⟩) (Kd.R_far (p := ⟨gb401, 2, none⟩) (Kd.R_far (p := ⟨gb401, 1, none⟩) (Kd.R_far (p := ⟨gb401, 0, none⟩) (Kd.R_types HO_6.out BK401.out (by decide)) (fun _ hk => hk.2) (.int .i64 ((rd_T42 l1 x7_1).f0))) (fun _ hk => hk.2) (.string ((rd_T42 l1 x7_1).f1))) (fun _ hk => hk.2) (.int .i64 ((rd_T42 l1 x7_1).f2))) (fun _ hk => hk.2) (.int .i64 ((rd_T42 l1 x7_1).f3))) (fun _ hk => hk.2) (.slice A400_4 ((rd_T42 l1 x7_1).f4).length c400_4)) (fun _ hk => trivial)⟩, ⟨by (with_reducible repeat (first | refine blk_drewN ?_ _ | refine blk_drew ?_ | refine blk_alloc ?_ _)); refine blk_put (cs := #[.int .i64 ((rd_T42 l1 x7_1).f0), .string ((rd_T42 l1 x7_1).f1), .int .i64 ((rd_T42 l1 x7_1).f2), .int .i64 ((rd_T42 l1 x7_1).f3), .slice none 0 0]) ?_ 4 _ rfl; (with_reducible repeat (first | refine blk_drewN ?_ _ | refine blk_drew ?_ | refine blk_alloc ?_ _)); refine blk_put (cs := #[.int .i64 ((rd_T42 l1 x7_1).f0), .string ((rd_T42 l1 x7_1).f1), .int .i64 ((rd_T42 l1 x7_1).f2), .int .i64 0, .slice none 0 0]) ?_ 3 _ rfl; (with_reducible repeat (first | refine blk_drewN ?_ _ | refine blk_drew ?_ | refine blk_alloc ?_ _)); refine blk_put (cs := #[.int .i64 ((rd_T42 l1 x7_1).f0), .string ((rd_T42 l1 x7_1).f1), .int .i64 0, .int .i64 0, .slice none 0 0]) ?_ 2 _ rfl; (with_reducible repeat (first | refine blk_drewN ?_ _ | refine blk_drew ?_ | refine blk_alloc ?_ _)); refine blk_put (cs := #[.int .i64 ((rd_T42 l1 x7_1).f0), .string (⟨#[]⟩ : ByteArray), .int .i64 0, .int .i64 0, .slice none 0 0]) ?_ 1 _ rfl; (with_reducible repeat (first | refine blk_drewN ?_ _ | refine blk_drew ?_ | refine blk_alloc ?_ _)); refine blk_put (cs := #[.int .i64 0, .string (⟨#[]⟩ : ByteArray), .int .i64 0, .int .i64 0, .slice none 0 0]) ?_ 0 _ rfl; (with_reducible repeat (first | refine blk_drewN ?_ _ | refine blk_drew ?_ | refine blk_alloc ?_ _)); exact BK401.out⟩, ⟨by repeat (first | (with_reducible first | exact HB.out | apply below_alloc | apply pw_below_drewN | apply below_drew1 | refine below_set ?_ GE401.out) | exact HB.out)⟩⟩
              case rest =>
                clear HC12
                try clear c1
                try clear p2
                try clear c3
                try clear c4
                try clear p4
                try clear q4
                try clear hx4
                try clear c5
                try clear c5b0
                try clear c5b1
                try clear c6
                try clear c6b0
                try clear c6b1
                try clear p6
                try clear c10
                try clear c10b0
                try clear c11
                try clear c11b0
                try clear c14
                try clear c15
                try clear c15b0
                try clear c15b1
                try clear hcz14_0
                try clear hcz14_1
                try clear hcz14_2
                try clear hcz14_3
                try clear hcz14_4
                try clear hcz16_0
                try clear hcz16_1
                try clear hcz16_2
                try clear hcz16_3
                try clear hcz16_4
                try clear hcz17_0
                try clear hcz17_1
                try clear hcz17_2
                try clear hcz17_3
                try clear hcz17_4
                try clear hfz14_0
                try clear hfz14_1
                try clear hfz14_2
                try clear hfz14_3
                try clear hfz14_4
                try clear hfz16_0
                try clear hfz16_1
                try clear hfz16_2
                try clear hfz16_3
                try clear hfz16_4
                try clear hfz17_0
                try clear hfz17_1
                try clear hfz17_2
                try clear hfz17_3
                try clear hfz17_4
                try clear hx400_0
                try clear hx400_1
                try clear hx400_2
                try clear hx400_3
                try clear hx400_4
                try clear p2
                try clear p400
                try clear p6
                try clear q400
                obtain ⟨kq, x32_11, rfl, HA, HJ11, HO_6, BK401, HB⟩ := hcut
                cases kq with
                | zero => exact absurd HA.out (by simp [spec_Reversible.j1])
                | succ kj11 =>
                  have H := HA.out
                  clear HA
                  simp only [spec_Reversible.j1] at H
                  by_cases c18 : x32_11 = true
                  · subst c18
                    have H1 : (if ((rd_T42 l1 x7_1).f2) < 1 then (some false) else (if ((rd_T42 l1 x7_1).f2) > t396 then (some false) else (if 0 ≤ ((rd_T42 l1 x7_1).f2) then (if ((rd_T42 l1 x7_1).f2) < (x6_1.length : Int) then (spec_Reversible.l0 kj11 l1 t396 (x6_1.set (((rd_T42 l1 x7_1).f2) : Int).toNat (wrap64 ((rd x6_1 ((rd_T42 l1 x7_1).f2)) + 1))) (wrap64 (x7_1 + 1))) else (none)) else (none)))) = some r := by rw [if_pos rfl] at H; exact H
                    clear H
                    have H := H1
                    clear H1
                    by_cases c19 : ((rd_T42 l1 x7_1).f2) < 1
                    · rw [if_pos c19] at H
                      have c19b0 : decide (((rd_T42 l1 x7_1).f2) < 1) = true := decide_eq_true c19
                      clear c19
                      obtain rfl := Option.some.inj H
                      have hcz20_0 : wc.cell? ⟨gb401, 0, none⟩ = some (.int .i64 ((rd_T42 l1 x7_1).f0)) := (blk_cell BK401.out 0).trans rfl
                      have hcz20_1 : wc.cell? ⟨gb401, 1, none⟩ = some (.string ((rd_T42 l1 x7_1).f1)) := (blk_cell BK401.out 1).trans rfl
                      have hcz20_2 : wc.cell? ⟨gb401, 2, none⟩ = some (.int .i64 ((rd_T42 l1 x7_1).f2)) := (blk_cell BK401.out 2).trans rfl
                      have hcz20_3 : wc.cell? ⟨gb401, 3, none⟩ = some (.int .i64 ((rd_T42 l1 x7_1).f3)) := (blk_cell BK401.out 3).trans rfl
                      have hcz20_4 : wc.cell? ⟨gb401, 4, none⟩ = some (.slice A400_4 ((rd_T42 l1 x7_1).f4).length c400_4) := (blk_cell BK401.out 4).trans rfl
                      have hfz20_0 := blk_frozen BK401.out 0
                      have hfz20_1 := blk_frozen BK401.out 1
                      have hfz20_2 := blk_frozen BK401.out 2
                      have hfz20_3 := blk_frozen BK401.out 3
                      have hfz20_4 := blk_frozen BK401.out 4
                      go_wp2
                      go_ret
                      exact ⟨by first | rfl | (simp [errW_none, errW_some] <;> rfl) | (simp only [← hji4]; first | rfl | (simp [errW_none, errW_some] <;> rfl)) | (simp [*, errW_none, errW_some] <;> rfl), by repeat (first | (with_reducible first | exact HB.out | apply below_alloc | apply pw_below_drewN | apply below_drew1 | refine below_set ?_ GE401.out) | exact HB.out)⟩
                    rw [if_neg c19] at H
                    have c19b0 : decide (((rd_T42 l1 x7_1).f2) < 1) = false := decide_eq_false c19
                    clear c19
                    by_cases c21 : ((rd_T42 l1 x7_1).f2) > t396
                    · rw [if_pos c21] at H
                      have c21b0 : decide (t396 < ((rd_T42 l1 x7_1).f2)) = true := decide_eq_true c21
                      clear c21
                      obtain rfl := Option.some.inj H
                      have hcz22_0 : wc.cell? ⟨gb401, 0, none⟩ = some (.int .i64 ((rd_T42 l1 x7_1).f0)) := (blk_cell BK401.out 0).trans rfl
                      have hcz22_1 : wc.cell? ⟨gb401, 1, none⟩ = some (.string ((rd_T42 l1 x7_1).f1)) := (blk_cell BK401.out 1).trans rfl
                      have hcz22_2 : wc.cell? ⟨gb401, 2, none⟩ = some (.int .i64 ((rd_T42 l1 x7_1).f2)) := (blk_cell BK401.out 2).trans rfl
                      have hcz22_3 : wc.cell? ⟨gb401, 3, none⟩ = some (.int .i64 ((rd_T42 l1 x7_1).f3)) := (blk_cell BK401.out 3).trans rfl
                      have hcz22_4 : wc.cell? ⟨gb401, 4, none⟩ = some (.slice A400_4 ((rd_T42 l1 x7_1).f4).length c400_4) := (blk_cell BK401.out 4).trans rfl
                      have hfz22_0 := blk_frozen BK401.out 0
                      have hfz22_1 := blk_frozen BK401.out 1
                      have hfz22_2 := blk_frozen BK401.out 2
                      have hfz22_3 := blk_frozen BK401.out 3
                      have hfz22_4 := blk_frozen BK401.out 4
                      go_wp2
                      go_ret
                      exact ⟨by first | rfl | (simp [errW_none, errW_some] <;> rfl) | (simp only [← hji4]; first | rfl | (simp [errW_none, errW_some] <;> rfl)) | (simp [*, errW_none, errW_some] <;> rfl), by repeat (first | (with_reducible first | exact HB.out | apply below_alloc | apply pw_below_drewN | apply below_drew1 | refine below_set ?_ GE401.out) | exact HB.out)⟩
                    rw [if_neg c21] at H
                    have c21b0 : decide (t396 < ((rd_T42 l1 x7_1).f2)) = false := decide_eq_false c21
                    clear c21
                    by_cases c23 : 0 ≤ ((rd_T42 l1 x7_1).f2)
                    · rw [if_pos c23] at H
                      have c23b0 : decide (0 ≤ ((rd_T42 l1 x7_1).f2)) = true := decide_eq_true c23
                      clear c23
                      by_cases c24 : ((rd_T42 l1 x7_1).f2) < (x6_1.length : Int)
                      · rw [if_pos c24] at H
                        have c24b0 : decide (((rd_T42 l1 x7_1).f2) < (x6_1.length : Int)) = true := decide_eq_true c24
                        clear c24
                        obtain ⟨y403, hy403⟩ : ∃ y_ : List Int, y_ = (x6_1.set (((rd_T42 l1 x7_1).f2) : Int).toNat (wrap64 ((rd x6_1 ((rd_T42 l1 x7_1).f2)) + 1))) := ⟨_, rfl⟩
                        replace H : (spec_Reversible.l0 kj11 l1 t396 y403 (wrap64 (x7_1 + 1))) = some r := by first | (rw [hy403]; with_reducible exact H) | (have H2_ := (Option.bind_some _ _).symm.trans H; rw [hy403]; with_reducible exact H2_) | (have H2_ := (Option.bind_some _ _).symm.trans H; with_reducible exact H2_) | with_reducible exact H | (rw [hy403]; exact H) | exact H
                        have Ny403 := Aside0.mk hy403
                        clear hy403
                        have H' := Aside0.mk H
                        clear H
                        have hcz26_0 : wc.cell? ⟨gb401, 0, none⟩ = some (.int .i64 ((rd_T42 l1 x7_1).f0)) := (blk_cell BK401.out 0).trans rfl
                        have hcz26_1 : wc.cell? ⟨gb401, 1, none⟩ = some (.string ((rd_T42 l1 x7_1).f1)) := (blk_cell BK401.out 1).trans rfl
                        have hcz26_2 : wc.cell? ⟨gb401, 2, none⟩ = some (.int .i64 ((rd_T42 l1 x7_1).f2)) := (blk_cell BK401.out 2).trans rfl
                        have hcz26_3 : wc.cell? ⟨gb401, 3, none⟩ = some (.int .i64 ((rd_T42 l1 x7_1).f3)) := (blk_cell BK401.out 3).trans rfl
                        have hcz26_4 : wc.cell? ⟨gb401, 4, none⟩ = some (.slice A400_4 ((rd_T42 l1 x7_1).f4).length c400_4) := (blk_cell BK401.out 4).trans rfl
                        have hfz26_0 := blk_frozen BK401.out 0
                        have hfz26_1 := blk_frozen BK401.out 1
                        have hfz26_2 := blk_frozen BK401.out 2
                        have hfz26_3 := blk_frozen BK401.out 3
                        have hfz26_4 := blk_frozen BK401.out 4
                        obtain ⟨Ao27, co27, eo27⟩ := Kd.R_slice HO_6.out
                        subst eo27
                        have p402 : 0 ≤ (((rd_T42 l1 x7_1).f2) : Int) := of_decide_eq_true (by first | (with_reducible assumption) | assumption)
                        have q402 : ((rd_T42 l1 x7_1).f2) < (x6_1.length : Int) := of_decide_eq_true (by first | (with_reducible assumption) | assumption)
                        obtain ⟨ad402, e402, hx402_0⟩ := Kd.at_int (Kd.R_reads' HO_6.out).2.2 ((rd_T42 l1 x7_1).f2) p402 q402
                        cases e402
                        replace p402 := eq_true p402
                        replace q402 := eq_true q402
                        have p25 : 0 ≤ (((rd_T42 l1 x7_1).f2) : Int) := of_decide_eq_true (by first | (with_reducible assumption) | assumption)
                        have q25 : (((rd_T42 l1 x7_1).f2) : Int) < ((x6_1.length : Int) : Int) := of_decide_eq_true (by first | (with_reducible assumption) | assumption)
                        obtain ⟨go25, co25, eo25, gb25, gl25, cl25, HG25⟩ := Kd.R_form HO_6.out (by omega)
                        (first | cases eo25 | (injection eo25 with ea_ en_ ec_; (first | subst ea_ | (injection ea_ with ea_; subst ea_)); subst ec_; clear en_))
                        have GB25 := Aside0.mk gb25
                        have GG25 := Aside0.mk HG25
                        clear gb25 gl25 HG25
                        (first | simp only [add_plain] at hx402_0 | skip)
                        obtain ⟨hx25_0, hf25_0⟩ := Kd.R_celln 0 HO_6.out (((rd_T42 l1 x7_1).f2) : Int) p25 q25
                        replace p25 := eq_true p25
                        replace q25 := eq_true q25
                        have HP28 := Kd.R_putg HO_6.out (((rd_T42 l1 x7_1).f2) : Int) (wrap64 ((rd x6_1 ((rd_T42 l1 x7_1).f2)) + 1))
                        go_wp2_with (first | ((with_reducible refine gate_store (t := 3) (p := 48) rfl ?_); refine store_event (t := 3) (p := 48) (v := ?vo_w29) (w1 := (wc.setCell ⟨go25, (((rd_T42 l1 x7_1).f2) : Int).toNat, none⟩ (.int .i64 (wrap64 ((rd x6_1 ((rd_T42 l1 x7_1).f2)) + 1))))) ?hg ?ho ?hn ?hr ?_; (case ho => rfl); (case hg => rfl); (case hn => rfl); (case hr => first | (go_simp; done) | (go_simp; rfl)); intro w29 hw; have hg : wc.grownBy w29 (some go25) := (by rw [hw]; exact HP28.2); have hp_ : Kd.R (Kd.int .i64) 3 w29 w.heap.size (fun _ => True) (.slice (some ⟨go25, 0, none⟩) x6_1.length co27) y403 := (by rw [hw, Ny403.out]; exact HP28.1); clear HP28; have n0_ := Aside0.mk (hp_); have n1_ := Aside0.mk (blk_grown (g := gb401) (o := .cells #[.int .i64 ((rd_T42 l1 x7_1).f0), .string ((rd_T42 l1 x7_1).f1), .int .i64 ((rd_T42 l1 x7_1).f2), .int .i64 ((rd_T42 l1 x7_1).f3), .slice A400_4 ((rd_T42 l1 x7_1).f4).length c400_4] 42 (0, 0)) (by (with_reducible repeat (first | refine blk_drewN ?_ _ | refine blk_drew ?_ | refine blk_alloc ?_ _)); exact BK401.out) hg (Kd.R_ne HO_6.out BK401.out (by decide))); have n2_ := Aside0.mk ((by rw [hw]; exact below_set (HB.out) GB25.out : Below w.heap.size w w29)); clear HO_6; clear BK401; clear HB; have HO_6 := n0_; have BK401 := n1_; have HB := n2_; clear n0_ n1_ n2_; clear hg hw hp_))
                        go_roundg kj11
                        case measure => have := HK1.out; have := HJ11.out; omega
                        case rel => exact ⟨(y403), (wrap64 (x7_1 + 1)), (by first | rfl | (simp; done) | (simp [*]; done)), H', ⟨by have := HK1.out; have := HJ11.out; omega⟩, ⟨by (with_reducible repeat (first | apply Kd.R_alloc | apply Kd.R_drewN | apply Kd.R_drew)); exact HO_6.out⟩, ⟨by repeat (first | (with_reducible first | exact HB.out | apply below_alloc | apply pw_below_drewN | apply below_drew1 | refine below_set ?_ GE401.out) | exact HB.out)⟩⟩
                      rw [if_neg c24] at H
                      exact absurd H (by simp)
                    rw [if_neg c23] at H
                    exact absurd H (by simp)
                  replace c18 := Bool.eq_false_iff.mpr c18
                  subst c18
                  have H1 : (if ((rd_T42 l1 x7_1).f0) = 0 then (spec_Reversible.l0 kj11 l1 t396 x6_1 (wrap64 (x7_1 + 1))) else (if ((rd_T42 l1 x7_1).f0) = 11 then (spec_Reversible.l0 kj11 l1 t396 x6_1 (wrap64 (x7_1 + 1))) else (some false))) = some r := by rw [if_neg (show ¬ (false = true) by decide)] at H; exact H
                  clear H
                  have H := H1
                  clear H1
                  by_cases c30 : ((rd_T42 l1 x7_1).f0) = 0
                  · rw [if_pos c30] at H
                    have c30b0 : (((rd_T42 l1 x7_1).f0) == 0) = true := beq_iff_eq.mpr c30
                    have c30b1 : (((rd_T42 l1 x7_1).f0) != 0) = false := bne_eq_false_iff_eq.mpr c30
                    clear c30
                    have H' := Aside0.mk H
                    clear H
                    have hcz31_0 : wc.cell? ⟨gb401, 0, none⟩ = some (.int .i64 ((rd_T42 l1 x7_1).f0)) := (blk_cell BK401.out 0).trans rfl
                    have hcz31_1 : wc.cell? ⟨gb401, 1, none⟩ = some (.string ((rd_T42 l1 x7_1).f1)) := (blk_cell BK401.out 1).trans rfl
                    have hcz31_2 : wc.cell? ⟨gb401, 2, none⟩ = some (.int .i64 ((rd_T42 l1 x7_1).f2)) := (blk_cell BK401.out 2).trans rfl
                    have hcz31_3 : wc.cell? ⟨gb401, 3, none⟩ = some (.int .i64 ((rd_T42 l1 x7_1).f3)) := (blk_cell BK401.out 3).trans rfl
                    have hcz31_4 : wc.cell? ⟨gb401, 4, none⟩ = some (.slice A400_4 ((rd_T42 l1 x7_1).f4).length c400_4) := (blk_cell BK401.out 4).trans rfl
                    have hfz31_0 := blk_frozen BK401.out 0
                    have hfz31_1 := blk_frozen BK401.out 1
                    have hfz31_2 := blk_frozen BK401.out 2
                    have hfz31_3 := blk_frozen BK401.out 3
                    have hfz31_4 := blk_frozen BK401.out 4
                    go_wp2
                    go_roundg kj11
                    case measure => have := HK1.out; have := HJ11.out; omega
                    case rel => exact ⟨(x6_1), (wrap64 (x7_1 + 1)), (by first | rfl | (simp; done) | (simp [*]; done)), H', ⟨by have := HK1.out; have := HJ11.out; omega⟩, ⟨by (with_reducible repeat (first | apply Kd.R_alloc | apply Kd.R_drewN | apply Kd.R_drew)); exact HO_6.out⟩, ⟨by repeat (first | (with_reducible first | exact HB.out | apply below_alloc | apply pw_below_drewN | apply below_drew1 | refine below_set ?_ GE401.out) | exact HB.out)⟩⟩
                  rw [if_neg c30] at H
                  have c30b0 : (((rd_T42 l1 x7_1).f0) == 0) = false := beq_eq_false_iff_ne.mpr c30
                  have c30b1 : (((rd_T42 l1 x7_1).f0) != 0) = true := bne_iff_ne.mpr c30
                  by_cases c32 : ((rd_T42 l1 x7_1).f0) = 11
                  · rw [if_pos c32] at H
                    have c32b0 : (((rd_T42 l1 x7_1).f0) == 11) = true := beq_iff_eq.mpr c32
                    have c32b1 : (((rd_T42 l1 x7_1).f0) != 11) = false := bne_eq_false_iff_eq.mpr c32
                    clear c32
                    have H' := Aside0.mk H
                    clear H
                    have hcz33_0 : wc.cell? ⟨gb401, 0, none⟩ = some (.int .i64 ((rd_T42 l1 x7_1).f0)) := (blk_cell BK401.out 0).trans rfl
                    have hcz33_1 : wc.cell? ⟨gb401, 1, none⟩ = some (.string ((rd_T42 l1 x7_1).f1)) := (blk_cell BK401.out 1).trans rfl
                    have hcz33_2 : wc.cell? ⟨gb401, 2, none⟩ = some (.int .i64 ((rd_T42 l1 x7_1).f2)) := (blk_cell BK401.out 2).trans rfl
                    have hcz33_3 : wc.cell? ⟨gb401, 3, none⟩ = some (.int .i64 ((rd_T42 l1 x7_1).f3)) := (blk_cell BK401.out 3).trans rfl
                    have hcz33_4 : wc.cell? ⟨gb401, 4, none⟩ = some (.slice A400_4 ((rd_T42 l1 x7_1).f4).length c400_4) := (blk_cell BK401.out 4).trans rfl
                    have hfz33_0 := blk_frozen BK401.out 0
                    have hfz33_1 := blk_frozen BK401.out 1
                    have hfz33_2 := blk_frozen BK401.out 2
                    have hfz33_3 := blk_frozen BK401.out 3
                    have hfz33_4 := blk_frozen BK401.out 4
                    go_wp2
                    go_roundg kj11
                    case measure => have := HK1.out; have := HJ11.out; omega
                    case rel => exact ⟨(x6_1), (wrap64 (x7_1 + 1)), (by first | rfl | (simp; done) | (simp [*]; done)), H', ⟨by have := HK1.out; have := HJ11.out; omega⟩, ⟨by (with_reducible repeat (first | apply Kd.R_alloc | apply Kd.R_drewN | apply Kd.R_drew)); exact HO_6.out⟩, ⟨by repeat (first | (with_reducible first | exact HB.out | apply below_alloc | apply pw_below_drewN | apply below_drew1 | refine below_set ?_ GE401.out) | exact HB.out)⟩⟩
                  rw [if_neg c32] at H
                  have c32b0 : (((rd_T42 l1 x7_1).f0) == 11) = false := beq_eq_false_iff_ne.mpr c32
                  have c32b1 : (((rd_T42 l1 x7_1).f0) != 11) = true := bne_iff_ne.mpr c32
                  obtain rfl := Option.some.inj H
                  have hcz34_0 : wc.cell? ⟨gb401, 0, none⟩ = some (.int .i64 ((rd_T42 l1 x7_1).f0)) := (blk_cell BK401.out 0).trans rfl
                  have hcz34_1 : wc.cell? ⟨gb401, 1, none⟩ = some (.string ((rd_T42 l1 x7_1).f1)) := (blk_cell BK401.out 1).trans rfl
                  have hcz34_2 : wc.cell? ⟨gb401, 2, none⟩ = some (.int .i64 ((rd_T42 l1 x7_1).f2)) := (blk_cell BK401.out 2).trans rfl
                  have hcz34_3 : wc.cell? ⟨gb401, 3, none⟩ = some (.int .i64 ((rd_T42 l1 x7_1).f3)) := (blk_cell BK401.out 3).trans rfl
                  have hcz34_4 : wc.cell? ⟨gb401, 4, none⟩ = some (.slice A400_4 ((rd_T42 l1 x7_1).f4).length c400_4) := (blk_cell BK401.out 4).trans rfl
                  have hfz34_0 := blk_frozen BK401.out 0
                  have hfz34_1 := blk_frozen BK401.out 1
                  have hfz34_2 := blk_frozen BK401.out 2
                  have hfz34_3 := blk_frozen BK401.out 3
                  have hfz34_4 := blk_frozen BK401.out 4
                  go_wp2
                  go_ret
                  exact ⟨by first | rfl | (simp [errW_none, errW_some] <;> rfl) | (simp only [← hji4]; first | rfl | (simp [errW_none, errW_some] <;> rfl)) | (simp [*, errW_none, errW_some] <;> rfl), by repeat (first | (with_reducible first | exact HB.out | apply below_alloc | apply pw_below_drewN | apply below_drew1 | refine below_set ?_ GE401.out) | exact HB.out)⟩
            rw [if_neg c11] at H
            exact absurd H (by simp)
          rw [if_neg c10] at H
          have c10b0 : decide (x7_1 < (l1.length : Int)) = false := decide_eq_false c10
          clear c10
          have H' := Aside0.mk H
          clear H
          go_wp2
          go_loopg [9] k1 (fun kq v9 w' => ∃ (x9_2 : Int), v9 = .int .i64 x9_2 ∧ Aside0 (spec_Reversible.l1 kq t396 x6_1 x9_2 = some r) ∧ Aside0 (kq ≤ k1) ∧ Aside0 (Kd.R (Kd.int .i64) 3 w' w.heap.size (fun _ => True) v398 x6_1) ∧ Aside0 (Below w.heap.size w w'))
          case atStart => exact ⟨(1), (by first | rfl | (simp; done) | (simp [*]; done)), H', ⟨Nat.le_refl _⟩, ⟨by (with_reducible repeat (first | apply Kd.R_alloc | apply Kd.R_drewN | apply Kd.R_drew)); exact HO_6.out⟩, ⟨by repeat (first | (with_reducible first | exact HB.out | apply below_alloc | apply pw_below_drewN | apply below_drew1) | exact HB.out)⟩⟩
          case round =>
            clear H'
            try clear c1
            try clear c2
            try clear p2
            try clear q2
            try clear hx2
            try clear hf2
            try clear c3
            try clear c4
            try clear p4
            try clear q4
            try clear hx4
            try clear c5
            try clear c5b0
            try clear c5b1
            try clear c6
            try clear c6b0
            try clear c6b1
            try clear p6
            try clear c10
            try clear c10b0
            try clear c11
            try clear c11b0
            try clear c14
            try clear c15
            try clear c15b0
            try clear c15b1
            try clear c18
            try clear c19
            try clear c19b0
            try clear c21
            try clear c21b0
            try clear c23
            try clear c23b0
            try clear c24
            try clear c24b0
            try clear p25
            try clear q25
            try clear hx25
            try clear hf25
            try clear c30
            try clear c30b0
            try clear c30b1
            try clear c32
            try clear c32b0
            try clear c32b1
            try clear hcz14_0
            try clear hcz14_1
            try clear hcz14_2
            try clear hcz14_3
            try clear hcz14_4
            try clear hcz16_0
            try clear hcz16_1
            try clear hcz16_2
            try clear hcz16_3
            try clear hcz16_4
            try clear hcz17_0
            try clear hcz17_1
            try clear hcz17_2
            try clear hcz17_3
            try clear hcz17_4
            try clear hcz20_0
            try clear hcz20_1
            try clear hcz20_2
            try clear hcz20_3
            try clear hcz20_4
            try clear hcz22_0
            try clear hcz22_1
            try clear hcz22_2
            try clear hcz22_3
            try clear hcz22_4
            try clear hcz26_0
            try clear hcz26_1
            try clear hcz26_2
            try clear hcz26_3
            try clear hcz26_4
            try clear hcz31_0
            try clear hcz31_1
            try clear hcz31_2
            try clear hcz31_3
            try clear hcz31_4
            try clear hcz33_0
            try clear hcz33_1
            try clear hcz33_2
            try clear hcz33_3
            try clear hcz33_4
            try clear hcz34_0
            try clear hcz34_1
            try clear hcz34_2
            try clear hcz34_3
            try clear hcz34_4
            try clear hfz14_0
            try clear hfz14_1
            try clear hfz14_2
            try clear hfz14_3
            try clear hfz14_4
            try clear hfz16_0
            try clear hfz16_1
            try clear hfz16_2
            try clear hfz16_3
            try clear hfz16_4
            try clear hfz17_0
            try clear hfz17_1
            try clear hfz17_2
            try clear hfz17_3
            try clear hfz17_4
            try clear hfz20_0
            try clear hfz20_1
            try clear hfz20_2
            try clear hfz20_3
            try clear hfz20_4
            try clear hfz22_0
            try clear hfz22_1
            try clear hfz22_2
            try clear hfz22_3
            try clear hfz22_4
            try clear hfz26_0
            try clear hfz26_1
            try clear hfz26_2
            try clear hfz26_3
            try clear hfz26_4
            try clear hfz31_0
            try clear hfz31_1
            try clear hfz31_2
            try clear hfz31_3
            try clear hfz31_4
            try clear hfz33_0
            try clear hfz33_1
            try clear hfz33_2
            try clear hfz33_3
            try clear hfz33_4
            try clear hfz34_0
            try clear hfz34_1
            try clear hfz34_2
            try clear hfz34_3
            try clear hfz34_4
            try clear hx25_0
            try clear hx400_0
            try clear hx400_1
            try clear hx400_2
            try clear hx400_3
            try clear hx400_4
            try clear hx402_0
            try clear p2
            try clear p25
            try clear p4
            try clear p400
            try clear p402
            try clear p6
            try clear q25
            try clear q4
            try clear q400
            try clear q402
            obtain ⟨x9_2, rfl, HA, HK2, HO_6, HB⟩ := hrel
            cases gk with
            | zero => exact absurd HA.out (by simp [spec_Reversible.l1])
            | succ k2 =>
              have H := HA.out
              clear HA
              simp only [spec_Reversible.l1] at H
              by_cases c35 : x9_2 ≤ t396
              · rw [if_pos c35] at H
                have c35b0 : decide (x9_2 ≤ t396) = true := decide_eq_true c35
                clear c35
                by_cases c36 : 0 ≤ x9_2
                · rw [if_pos c36] at H
                  have c36b0 : decide (0 ≤ x9_2) = true := decide_eq_true c36
                  clear c36
                  by_cases c37 : x9_2 < (x6_1.length : Int)
                  · rw [if_pos c37] at H
                    have c37b0 : decide (x9_2 < (x6_1.length : Int)) = true := decide_eq_true c37
                    clear c37
                    by_cases c38 : (rd x6_1 x9_2) = 1
                    · rw [if_pos c38] at H
                      have c38b0 : ((rd x6_1 x9_2) == 1) = true := beq_iff_eq.mpr c38
                      have c38b1 : ((rd x6_1 x9_2) != 1) = false := bne_eq_false_iff_eq.mpr c38
                      clear c38
                      have H' := Aside0.mk H
                      clear H
                      obtain ⟨Ao39, co39, eo39⟩ := Kd.R_slice HO_6.out
                      subst eo39
                      have p404 : 0 ≤ (x9_2 : Int) := of_decide_eq_true (by first | (with_reducible assumption) | assumption)
                      have q404 : x9_2 < (x6_1.length : Int) := of_decide_eq_true (by first | (with_reducible assumption) | assumption)
                      obtain ⟨ad404, e404, hx404_0⟩ := Kd.at_int (Kd.R_reads' HO_6.out).2.2 x9_2 p404 q404
                      cases e404
                      replace p404 := eq_true p404
                      replace q404 := eq_true q404
                      go_wp2
                      go_roundg k2
                      case measure => have := HK1.out; have := HK2.out; omega
                      case rel => exact ⟨(wrap64 (x9_2 + 1)), (by first | rfl | (simp; done) | (simp [*]; done)), H', ⟨by have := HK1.out; have := HK2.out; omega⟩, ⟨by (with_reducible repeat (first | apply Kd.R_alloc | apply Kd.R_drewN | apply Kd.R_drew)); exact HO_6.out⟩, ⟨by repeat (first | (with_reducible first | exact HB.out | apply below_alloc | apply pw_below_drewN | apply below_drew1) | exact HB.out)⟩⟩
                    rw [if_neg c38] at H
                    have c38b0 : ((rd x6_1 x9_2) == 1) = false := beq_eq_false_iff_ne.mpr c38
                    have c38b1 : ((rd x6_1 x9_2) != 1) = true := bne_iff_ne.mpr c38
                    obtain rfl := Option.some.inj H
                    obtain ⟨Ao40, co40, eo40⟩ := Kd.R_slice HO_6.out
                    subst eo40
                    have p404 : 0 ≤ (x9_2 : Int) := of_decide_eq_true (by first | (with_reducible assumption) | assumption)
                    have q404 : x9_2 < (x6_1.length : Int) := of_decide_eq_true (by first | (with_reducible assumption) | assumption)
                    obtain ⟨ad404, e404, hx404_0⟩ := Kd.at_int (Kd.R_reads' HO_6.out).2.2 x9_2 p404 q404
                    cases e404
                    replace p404 := eq_true p404
                    replace q404 := eq_true q404
                    go_wp2
                    go_ret
                    exact ⟨by first | rfl | (simp [errW_none, errW_some] <;> rfl) | (simp only [← hji4]; first | rfl | (simp [errW_none, errW_some] <;> rfl)) | (simp [*, errW_none, errW_some] <;> rfl), by repeat (first | (with_reducible first | exact HB.out | apply below_alloc | apply pw_below_drewN | apply below_drew1) | exact HB.out)⟩
                  rw [if_neg c37] at H
                  exact absurd H (by simp)
                rw [if_neg c36] at H
                exact absurd H (by simp)
              rw [if_neg c35] at H
              have c35b0 : decide (x9_2 ≤ t396) = false := decide_eq_false c35
              clear c35
              obtain rfl := Option.some.inj H
              go_wp2
              go_ret
              exact ⟨by first | rfl | (simp [errW_none, errW_some] <;> rfl) | (simp only [← hji4]; first | rfl | (simp [errW_none, errW_some] <;> rfl)) | (simp [*, errW_none, errW_some] <;> rfl), by repeat (first | (with_reducible first | exact HB.out | apply below_alloc | apply pw_below_drewN | apply below_drew1) | exact HB.out)⟩
    rw [if_neg c6] at H
    exact absurd H (by simp)
  rw [if_neg c5] at H
  exact absurd H (by simp)
end Go.Proofs.YtoopmpjgmgffoaaDoor.GFnTransformBack
