/- A walk of Go functions (plain functions of theirs, and that the machine's calls do what these say), written by a program of this session's. -/
import Derived.Test.YtgbdjinanflhaaaDoorGFnTopicBackx0
namespace Go.Proofs.YtgbdjinanflhaaaDoor.GFnTopicBack
open Go.RowKit Go.Proofs.YtgbdjinanflhaaaDoorW.PrintWords Go.Proofs.YtgbdjinanflhaaaDoorW.PrintLast Go.Proofs.YtgbdjinanflhaaaDoorW.PrintMore
attribute [local go_sem] max2_int min2_int max_two min_two max_three min_three max_four min_four   -- for this text's walks alone
set_option linter.unusedVariables false
set_option linter.unusedSimpArgs false


/-! ### impl_copied: function 17 -/
def impl_copied.f (l0 : List Int) : Option (List Int) := (some (([] : List Int) : List Int)).bind fun y101 => (if y101.length + l0.length < 140737488355328 then (some (y101 ++ l0)) else (none))
set_option maxHeartbeats 8000000 in
set_option maxRecDepth 100000 in
theorem impl_copied.calls (A0 : Option Addr) (c0 : Nat) (l0 : List Int) (r : List Int) (w : World) (hr0 : Kd.C (Kd.int .u8) w A0 l0.length l0) (hc0 : l0.length ≤ c0) (h : impl_copied.f l0 = some r) :
    Calls Tryd.prog 17 #[.slice A0 l0.length c0] w fun e w' => ∃ v0_ : Value, e = .returned (v0_) ∧ Kd.R (Kd.int .u8) 5 w' w.heap.size (fun _ => True) v0_ r ∧ Below w.heap.size w w' := by
  have HR0 := Aside0.mk hr0
  have HC0 := Aside0.mk hc0
  clear hr0 hc0
  have HB := Aside0.mk (Below.refl w.heap.size w)
  have H : ((some (([] : List Int) : List Int)).bind fun y101 => (if y101.length + l0.length < 140737488355328 then (some (y101 ++ l0)) else (none))) = some r := h
  clear h
  obtain ⟨y101, hy101⟩ : ∃ y_ : List Int, y_ = (([] : List Int)) := ⟨_, rfl⟩
  replace H : (if y101.length + l0.length < 140737488355328 then (some (y101 ++ l0)) else (none)) = some r := by first | (rw [hy101]; with_reducible exact H) | (have H2_ := (Option.bind_some _ _).symm.trans H; rw [hy101]; with_reducible exact H2_) | (have H2_ := (Option.bind_some _ _).symm.trans H; with_reducible exact H2_) | with_reducible exact H | (rw [hy101]; exact H) | exact H
  have Ny101 := Aside0.mk hy101
  clear hy101
  by_cases c2 : y101.length + l0.length < 140737488355328
  · rw [if_pos c2] at H
    have LMc2 := Aside0.mk c2
    clear c2
    obtain ⟨y104, hy104⟩ : ∃ y_ : List Int, y_ = (y101 ++ l0) := ⟨_, rfl⟩
    replace H : (some y104) = some r := by first | (rw [hy104]; with_reducible exact H) | (have H2_ := (Option.bind_some _ _).symm.trans H; rw [hy104]; with_reducible exact H2_) | (have H2_ := (Option.bind_some _ _).symm.trans H; with_reducible exact H2_) | with_reducible exact H | (rw [hy104]; exact H) | exact H
    have Ny104 := Aside0.mk hy104
    clear hy104
    obtain rfl := Option.some.inj H
    go_enter Tryd.func17, Tryd.ntmps17
    go_wp2_with (first | ((with_reducible refine gate_dst (N := 3) rfl ?_); refine Kd.R_lit (Kd.int .u8) _ 5 ?hg (N := 3) ?hd (xs := ([] : List Int)) (inner := []) (ok := fun _ => True) (okp := fun _ => True) ?hr ?hp (fun _ hk => hk) trivial (Below.refl _ _) (Nat.le_refl _) (by simp) ?_; (case hd => rfl); (case hg => rfl); (case hr => first | (go_simp; done) | (go_simp; rfl)); (case hp => exact (Reps.none _ _)); intro v102 w3 ho4 hb hg_ hnew_; clear hg_ hnew_; (first | rw [← Ny101.out] at ho4 | (simp only [Int.reduceToNat] at ho4; rw [← Ny101.out] at ho4)); have n0_ := Aside0.mk (Kd.R_lower ho4 (below_size (by repeat (first | (with_reducible first | exact HB.out | apply below_alloc | apply pw_below_drewN | apply below_drew1) | exact HB.out)))); have n1_ := Aside0.mk (below_step (by repeat (first | (with_reducible first | exact HB.out | apply below_alloc | apply pw_below_drewN | apply below_drew1) | exact HB.out)) hb); clear HB; have HO103 := n0_; have HB := n1_; clear n0_ n1_; clear hb ho4) | ((with_reducible refine gate_builtin (b := .append) (xs := #[.tmp 3, .tmp 4]) rfl ?_); at_builtin; refine Kd.R_append_rows (Kd.int .u8) (w0 := w) w.heap.size rfl (.tmp 3) (.tmp 4) 23 5 (.int .u8 0) 1 rfl Tryd.underlying23 info5 rfl (by decide) (by omega) v102 y101 l0 _ _ _ (fun _ => True) (fun _ => False) rfl rfl ?aO ?aR (fun _ _ h => h) (fun _ h => h.elim) ?aF ?aB ?aS ?aL ?_; (case aR => repeat (first | exact (Kd.C_below HR0.out HB.out) | (with_reducible refine Kd.C_alloc ?_ _) | (with_reducible refine Kd.C_drewN ?_ _) | (with_reducible refine Kd.C_drew ?_))); (case aB => exact (by repeat (first | (with_reducible first | exact HB.out | apply below_alloc | apply pw_below_drewN | apply below_drew1) | exact HB.out))); (case aF => exact (fun _ _ => trivial)); (case aO => exact (by (with_reducible repeat (first | apply Kd.R_alloc | apply Kd.R_drewN | apply Kd.R_drew)); exact HO103.out)); (case aS => exact (below_size (by repeat (first | (with_reducible first | exact HB.out | apply below_alloc | apply pw_below_drewN | apply below_drew1) | exact HB.out)))); (case aL => have := LMc2.out; omega); intro v105 w5 ho hb hg hat; rw [← Ny104.out] at ho; have n0_ := Aside0.mk (hb); have n1_ := Aside0.mk (ho); clear HB; clear HO103; have HB := n0_; have HO106 := n1_; clear n0_ n1_; clear ho hb hg hat))
    go_ret
    exact ⟨_, by first | rfl | (simp [errW_none, errW_some] <;> rfl) | (simp [*, errW_none, errW_some] <;> rfl), by (with_reducible repeat (first | apply Kd.R_alloc | apply Kd.R_drewN | apply Kd.R_drew)); exact HO106.out, by repeat (first | (with_reducible first | exact HB.out | apply below_alloc | apply pw_below_drewN | apply below_drew1) | exact HB.out)⟩
  · rw [if_neg c2] at H
    exact absurd H (by simp)

/-! ### spec_Topical: function 19 -/
def spec_Topical.l0 : Nat → ByteArray → Int → Option (Bool)
  | 0, _, _ => none
  | k + 1, x0, x3 => if x3 < (x0.size : Int) then (if 0 ≤ x3 then (if (bt x0 x3) < 33 then (some false) else (if (bt x0 x3) > 126 then (some false) else (if (bt x0 x3) = 43 then (some false) else (if (bt x0 x3) = 35 then (some false) else (if (bt x0 x3) = 42 then (some false) else (if (bt x0 x3) = 62 then (some false) else (spec_Topical.l0 k x0 (wrap64 (x3 + 1))))))))) else (none)) else (some (x0.toList != ([] : List UInt8)))
def spec_Topical.f (k : Nat) (a0 : ByteArray) : Option (Bool) := spec_Topical.l0 k a0 0
theorem spec_Topical.mono_l : ∀ k, (∀ y0 y1, LeO (spec_Topical.l0 k y0 y1) (spec_Topical.l0 (k + 1) y0 y1))
  | 0 => fun _ _ r h => by simp [spec_Topical.l0] at h
  | k + 1 => by
    have ih0 := spec_Topical.mono_l k
    · intro y0 y1
      unfold spec_Topical.l0
      repeat' first
      | (with_reducible exact ih0 _ _)
      | (with_reducible exact LeO.refl _)
      | (with_reducible exact LeO.none _)
      | (with_reducible refine LeO.ite ?_ ?_)
      | (with_reducible refine LeO.bind ?_ (fun _ => ?_))
      | exact ih0 _ _
      | exact LeO.none _
      | refine LeO.ite ?_ ?_
      | refine LeO.bind ?_ (fun _ => ?_)
theorem spec_Topical.mono : ∀ a0 k, LeO (spec_Topical.f k a0) (spec_Topical.f (k + 1) a0) := by
  intro a0 k
  have ih0 := spec_Topical.mono_l k
  unfold spec_Topical.f
  repeat' first
      | (with_reducible exact ih0 _ _)
      | (with_reducible exact LeO.refl _)
      | (with_reducible exact LeO.none _)
      | (with_reducible refine LeO.ite ?_ ?_)
      | (with_reducible refine LeO.bind ?_ (fun _ => ?_))
      | exact ih0 _ _
      | exact LeO.none _
      | refine LeO.ite ?_ ?_
      | refine LeO.bind ?_ (fun _ => ?_)
set_option maxHeartbeats 8000000 in
set_option maxRecDepth 100000 in
theorem spec_Topical.calls (k : Nat) (a0 : ByteArray) (r : Bool) (w : World) (h : spec_Topical.f k a0 = some r) :
    Calls Tryd.prog 19 #[.string a0] w fun e w' => e = .returned (.bool r) ∧ Drawn0 w w' := by
  have H : (spec_Topical.l0 k a0 0) = some r := h
  clear h
  have H' := Aside0.mk H
  clear H
  go_enter Tryd.func19, Tryd.ntmps19
  go_wp2
  go_loopg [3] k (fun kq v3 w' => ∃ (x3_1 : Int), v3 = .int .i64 x3_1 ∧ Aside0 (spec_Topical.l0 kq a0 x3_1 = some r) ∧ Aside0 (kq ≤ k) ∧ Drawn0 w w')
  case atStart => exact ⟨(0), (by first | rfl | (simp; done) | (simp [*]; done)), H', ⟨Nat.le_refl _⟩, by repeat (first | exact Drawn0.refl _ | apply Drawn0.step)⟩
  case round =>
    clear H'
    try clear c1
    obtain ⟨x3_1, rfl, HA, HK1, ⟨m1, rfl⟩⟩ := hrel
    cases gk with
    | zero => exact absurd HA.out (by simp [spec_Topical.l0])
    | succ k1 =>
      have H := HA.out
      clear HA
      simp only [spec_Topical.l0] at H
      by_cases c2 : x3_1 < (a0.size : Int)
      · rw [if_pos c2] at H
        have c2b0 : decide (x3_1 < (a0.size : Int)) = true := decide_eq_true c2
        clear c2
        by_cases c3 : 0 ≤ x3_1
        · rw [if_pos c3] at H
          have c3b0 : decide (0 ≤ x3_1) = true := decide_eq_true c3
          clear c3
          by_cases c5 : (bt a0 x3_1) < 33
          · rw [if_pos c5] at H
            have c5b0 : decide ((bt a0 x3_1) < 33) = true := decide_eq_true c5
            clear c5
            obtain rfl := Option.some.inj H
            have p4 : 0 ≤ (x3_1 : Int) := of_decide_eq_true (by first | (with_reducible assumption) | assumption)
            have q4 : x3_1 < (a0.size : Int) := of_decide_eq_true (by first | (with_reducible assumption) | assumption)
            have hx4 := bt_at a0 x3_1
            replace p4 := eq_true p4
            replace q4 := eq_true q4
            go_wp2
            go_ret
            exact ⟨by first | rfl | (simp; done) | (simp [*]; done) | (simp; cases a0.toList <;> rfl) /- isEmpty -/, by repeat (first | exact Drawn0.refl _ | apply Drawn0.step)⟩
          · rw [if_neg c5] at H
            have c5b0 : decide ((bt a0 x3_1) < 33) = false := decide_eq_false c5
            clear c5
            by_cases c7 : (bt a0 x3_1) > 126
            · rw [if_pos c7] at H
              have c7b0 : decide (126 < (bt a0 x3_1)) = true := decide_eq_true c7
              clear c7
              obtain rfl := Option.some.inj H
              have p4 : 0 ≤ (x3_1 : Int) := of_decide_eq_true (by first | (with_reducible assumption) | assumption)
              have q4 : x3_1 < (a0.size : Int) := of_decide_eq_true (by first | (with_reducible assumption) | assumption)
              have hx4 := bt_at a0 x3_1
              replace p4 := eq_true p4
              replace q4 := eq_true q4
              have p6 : 0 ≤ (x3_1 : Int) := of_decide_eq_true (by first | (with_reducible assumption) | assumption)
              have q6 : x3_1 < (a0.size : Int) := of_decide_eq_true (by first | (with_reducible assumption) | assumption)
              have hx6 := bt_at a0 x3_1
              replace p6 := eq_true p6
              replace q6 := eq_true q6
              go_wp2
              go_ret
              exact ⟨by first | rfl | (simp; done) | (simp [*]; done) | (simp; cases a0.toList <;> rfl) /- isEmpty -/, by repeat (first | exact Drawn0.refl _ | apply Drawn0.step)⟩
            · rw [if_neg c7] at H
              have c7b0 : decide (126 < (bt a0 x3_1)) = false := decide_eq_false c7
              clear c7
              by_cases c9 : (bt a0 x3_1) = 43
              · rw [if_pos c9] at H
                have c9b0 : ((bt a0 x3_1) == 43) = true := beq_iff_eq.mpr c9
                have c9b1 : ((bt a0 x3_1) != 43) = false := bne_eq_false_iff_eq.mpr c9
                clear c9
                obtain rfl := Option.some.inj H
                have p4 : 0 ≤ (x3_1 : Int) := of_decide_eq_true (by first | (with_reducible assumption) | assumption)
                have q4 : x3_1 < (a0.size : Int) := of_decide_eq_true (by first | (with_reducible assumption) | assumption)
                have hx4 := bt_at a0 x3_1
                replace p4 := eq_true p4
                replace q4 := eq_true q4
                have p6 : 0 ≤ (x3_1 : Int) := of_decide_eq_true (by first | (with_reducible assumption) | assumption)
                have q6 : x3_1 < (a0.size : Int) := of_decide_eq_true (by first | (with_reducible assumption) | assumption)
                have hx6 := bt_at a0 x3_1
                replace p6 := eq_true p6
                replace q6 := eq_true q6
                have p8 : 0 ≤ (x3_1 : Int) := of_decide_eq_true (by first | (with_reducible assumption) | assumption)
                have q8 : x3_1 < (a0.size : Int) := of_decide_eq_true (by first | (with_reducible assumption) | assumption)
                have hx8 := bt_at a0 x3_1
                replace p8 := eq_true p8
                replace q8 := eq_true q8
                go_wp2
                go_ret
                exact ⟨by first | rfl | (simp; done) | (simp [*]; done) | (simp; cases a0.toList <;> rfl) /- isEmpty -/, by repeat (first | exact Drawn0.refl _ | apply Drawn0.step)⟩
              · rw [if_neg c9] at H
                have c9b0 : ((bt a0 x3_1) == 43) = false := beq_eq_false_iff_ne.mpr c9
                have c9b1 : ((bt a0 x3_1) != 43) = true := bne_iff_ne.mpr c9
                by_cases c11 : (bt a0 x3_1) = 35
                · rw [if_pos c11] at H
                  have c11b0 : ((bt a0 x3_1) == 35) = true := beq_iff_eq.mpr c11
                  have c11b1 : ((bt a0 x3_1) != 35) = false := bne_eq_false_iff_eq.mpr c11
                  clear c11
                  obtain rfl := Option.some.inj H
                  have p4 : 0 ≤ (x3_1 : Int) := of_decide_eq_true (by first | (with_reducible assumption) | assumption)
                  have q4 : x3_1 < (a0.size : Int) := of_decide_eq_true (by first | (with_reducible assumption) | assumption)
                  have hx4 := bt_at a0 x3_1
                  replace p4 := eq_true p4
                  replace q4 := eq_true q4
                  have p6 : 0 ≤ (x3_1 : Int) := of_decide_eq_true (by first | (with_reducible assumption) | assumption)
                  have q6 : x3_1 < (a0.size : Int) := of_decide_eq_true (by first | (with_reducible assumption) | assumption)
                  have hx6 := bt_at a0 x3_1
                  replace p6 := eq_true p6
                  replace q6 := eq_true q6
                  have p8 : 0 ≤ (x3_1 : Int) := of_decide_eq_true (by first | (with_reducible assumption) | assumption)
                  have q8 : x3_1 < (a0.size : Int) := of_decide_eq_true (by first | (with_reducible assumption) | assumption)
                  have hx8 := bt_at a0 x3_1
                  replace p8 := eq_true p8
                  replace q8 := eq_true q8
                  have p10 : 0 ≤ (x3_1 : Int) := of_decide_eq_true (by first | (with_reducible assumption) | assumption)
                  have q10 : x3_1 < (a0.size : Int) := of_decide_eq_true (by first | (with_reducible assumption) | assumption)
                  have hx10 := bt_at a0 x3_1
                  replace p10 := eq_true p10
                  replace q10 := eq_true q10
                  go_wp2
                  go_ret
                  exact ⟨by first | rfl | (simp; done) | (simp [*]; done) | (simp; cases a0.toList <;> rfl) /- isEmpty -/, by repeat (first | exact Drawn0.refl _ | apply Drawn0.step)⟩
                · rw [if_neg c11] at H
                  have c11b0 : ((bt a0 x3_1) == 35) = false := beq_eq_false_iff_ne.mpr c11
                  have c11b1 : ((bt a0 x3_1) != 35) = true := bne_iff_ne.mpr c11
                  by_cases c13 : (bt a0 x3_1) = 42
                  · rw [if_pos c13] at H
                    have c13b0 : ((bt a0 x3_1) == 42) = true := beq_iff_eq.mpr c13
                    have c13b1 : ((bt a0 x3_1) != 42) = false := bne_eq_false_iff_eq.mpr c13
                    clear c13
                    obtain rfl := Option.some.inj H
                    have p4 : 0 ≤ (x3_1 : Int) := of_decide_eq_true (by first | (with_reducible assumption) | assumption)
                    have q4 : x3_1 < (a0.size : Int) := of_decide_eq_true (by first | (with_reducible assumption) | assumption)
                    have hx4 := bt_at a0 x3_1
                    replace p4 := eq_true p4
                    replace q4 := eq_true q4
                    have p6 : 0 ≤ (x3_1 : Int) := of_decide_eq_true (by first | (with_reducible assumption) | assumption)
                    have q6 : x3_1 < (a0.size : Int) := of_decide_eq_true (by first | (with_reducible assumption) | assumption)
                    have hx6 := bt_at a0 x3_1
                    replace p6 := eq_true p6
                    replace q6 := eq_true q6
                    have p8 : 0 ≤ (x3_1 : Int) := of_decide_eq_true (by first | (with_reducible assumption) | assumption)
                    have q8 : x3_1 < (a0.size : Int) := of_decide_eq_true (by first | (with_reducible assumption) | assumption)
                    have hx8 := bt_at a0 x3_1
                    replace p8 := eq_true p8
                    replace q8 := eq_true q8
                    have p10 : 0 ≤ (x3_1 : Int) := of_decide_eq_true (by first | (with_reducible assumption) | assumption)
                    have q10 : x3_1 < (a0.size : Int) := of_decide_eq_true (by first | (with_reducible assumption) | assumption)
                    have hx10 := bt_at a0 x3_1
                    replace p10 := eq_true p10
                    replace q10 := eq_true q10
                    have p12 : 0 ≤ (x3_1 : Int) := of_decide_eq_true (by first | (with_reducible assumption) | assumption)
                    have q12 : x3_1 < (a0.size : Int) := of_decide_eq_true (by first | (with_reducible assumption) | assumption)
                    have hx12 := bt_at a0 x3_1
                    replace p12 := eq_true p12
                    replace q12 := eq_true q12
                    go_wp2
                    go_ret
                    exact ⟨by first | rfl | (simp; done) | (simp [*]; done) | (simp; cases a0.toList <;> rfl) /- isEmpty -/, by repeat (first | exact Drawn0.refl _ | apply Drawn0.step)⟩
                  · rw [if_neg c13] at H
                    have c13b0 : ((bt a0 x3_1) == 42) = false := beq_eq_false_iff_ne.mpr c13
                    have c13b1 : ((bt a0 x3_1) != 42) = true := bne_iff_ne.mpr c13
                    by_cases c15 : (bt a0 x3_1) = 62
                    · rw [if_pos c15] at H
                      have c15b0 : ((bt a0 x3_1) == 62) = true := beq_iff_eq.mpr c15
                      have c15b1 : ((bt a0 x3_1) != 62) = false := bne_eq_false_iff_eq.mpr c15
                      clear c15
                      obtain rfl := Option.some.inj H
                      have p4 : 0 ≤ (x3_1 : Int) := of_decide_eq_true (by first | (with_reducible assumption) | assumption)
                      have q4 : x3_1 < (a0.size : Int) := of_decide_eq_true (by first | (with_reducible assumption) | assumption)
                      have hx4 := bt_at a0 x3_1
                      replace p4 := eq_true p4
                      replace q4 := eq_true q4
                      have p6 : 0 ≤ (x3_1 : Int) := of_decide_eq_true (by first | (with_reducible assumption) | assumption)
                      have q6 : x3_1 < (a0.size : Int) := of_decide_eq_true (by first | (with_reducible assumption) | assumption)
                      have hx6 := bt_at a0 x3_1
                      replace p6 := eq_true p6
                      replace q6 := eq_true q6
                      have p8 : 0 ≤ (x3_1 : Int) := of_decide_eq_true (by first | (with_reducible assumption) | assumption)
                      have q8 : x3_1 < (a0.size : Int) := of_decide_eq_true (by first | (with_reducible assumption) | assumption)
                      have hx8 := bt_at a0 x3_1
                      replace p8 := eq_true p8
                      replace q8 := eq_true q8
                      have p10 : 0 ≤ (x3_1 : Int) := of_decide_eq_true (by first | (with_reducible assumption) | assumption)
                      have q10 : x3_1 < (a0.size : Int) := of_decide_eq_true (by first | (with_reducible assumption) | assumption)
                      have hx10 := bt_at a0 x3_1
                      replace p10 := eq_true p10
                      replace q10 := eq_true q10
                      have p12 : 0 ≤ (x3_1 : Int) := of_decide_eq_true (by first | (with_reducible assumption) | assumption)
                      have q12 : x3_1 < (a0.size : Int) := of_decide_eq_true (by first | (with_reducible assumption) | assumption)
                      have hx12 := bt_at a0 x3_1
                      replace p12 := eq_true p12
                      replace q12 := eq_true q12
                      have p14 : 0 ≤ (x3_1 : Int) := of_decide_eq_true (by first | (with_reducible assumption) | assumption)
                      have q14 : x3_1 < (a0.size : Int) := of_decide_eq_true (by first | (with_reducible assumption) | assumption)
                      have hx14 := bt_at a0 x3_1
                      replace p14 := eq_true p14
                      replace q14 := eq_true q14
                      go_wp2
                      go_ret
                      exact ⟨by first | rfl | (simp; done) | (simp [*]; done) | (simp; cases a0.toList <;> rfl) /- isEmpty -/, by repeat (first | exact Drawn0.refl _ | apply Drawn0.step)⟩
                    · rw [if_neg c15] at H
                      have c15b0 : ((bt a0 x3_1) == 62) = false := beq_eq_false_iff_ne.mpr c15
                      have c15b1 : ((bt a0 x3_1) != 62) = true := bne_iff_ne.mpr c15
                      have H' := Aside0.mk H
                      clear H
                      have p4 : 0 ≤ (x3_1 : Int) := of_decide_eq_true (by first | (with_reducible assumption) | assumption)
                      have q4 : x3_1 < (a0.size : Int) := of_decide_eq_true (by first | (with_reducible assumption) | assumption)
                      have hx4 := bt_at a0 x3_1
                      replace p4 := eq_true p4
                      replace q4 := eq_true q4
                      have p6 : 0 ≤ (x3_1 : Int) := of_decide_eq_true (by first | (with_reducible assumption) | assumption)
                      have q6 : x3_1 < (a0.size : Int) := of_decide_eq_true (by first | (with_reducible assumption) | assumption)
                      have hx6 := bt_at a0 x3_1
                      replace p6 := eq_true p6
                      replace q6 := eq_true q6
                      have p8 : 0 ≤ (x3_1 : Int) := of_decide_eq_true (by first | (with_reducible assumption) | assumption)
                      have q8 : x3_1 < (a0.size : Int) := of_decide_eq_true (by first | (with_reducible assumption) | assumption)
                      have hx8 := bt_at a0 x3_1
                      replace p8 := eq_true p8
                      replace q8 := eq_true q8
                      have p10 : 0 ≤ (x3_1 : Int) := of_decide_eq_true (by first | (with_reducible assumption) | assumption)
                      have q10 : x3_1 < (a0.size : Int) := of_decide_eq_true (by first | (with_reducible assumption) | assumption)
                      have hx10 := bt_at a0 x3_1
                      replace p10 := eq_true p10
                      replace q10 := eq_true q10
                      have p12 : 0 ≤ (x3_1 : Int) := of_decide_eq_true (by first | (with_reducible assumption) | assumption)
                      have q12 : x3_1 < (a0.size : Int) := of_decide_eq_true (by first | (with_reducible assumption) | assumption)
                      have hx12 := bt_at a0 x3_1
                      replace p12 := eq_true p12
                      replace q12 := eq_true q12
                      have p14 : 0 ≤ (x3_1 : Int) := of_decide_eq_true (by first | (with_reducible assumption) | assumption)
                      have q14 : x3_1 < (a0.size : Int) := of_decide_eq_true (by first | (with_reducible assumption) | assumption)
                      have hx14 := bt_at a0 x3_1
                      replace p14 := eq_true p14
                      replace q14 := eq_true q14
                      go_wp2
                      go_roundg k1
                      case measure => have := HK1.out; omega
                      case rel => exact ⟨(wrap64 (x3_1 + 1)), (by first | rfl | (simp; done) | (simp [*]; done)), H', ⟨by have := HK1.out; omega⟩, by repeat (first | exact Drawn0.refl _ | apply Drawn0.step)⟩
        · rw [if_neg c3] at H
          exact absurd H (by simp)
      · rw [if_neg c2] at H
        have c2b0 : decide (x3_1 < (a0.size : Int)) = false := decide_eq_false c2
        clear c2
        obtain rfl := Option.some.inj H
        go_wp2
        go_ret
        exact ⟨by first | rfl | (simp; done) | (simp [*]; done) | (simp; cases a0.toList <;> rfl) /- isEmpty -/, by repeat (first | exact Drawn0.refl _ | apply Drawn0.step)⟩

/-! ### laws_topic: function 8 -/
def laws_topic.f (k : Nat) (a0 : ByteArray) : Option (Bool) := if (a0.size : Int) ≤ 100 then ((spec_Topical.f k a0).bind fun t118 => (some t118)) else (some false)
theorem laws_topic.mono : ∀ a0 k, LeO (laws_topic.f k a0) (laws_topic.f (k + 1) a0) := by
  intro a0 k
  unfold laws_topic.f
  repeat' first
      | (with_reducible exact spec_Topical.mono _ _)
      | (with_reducible exact LeO.refl _)
      | (with_reducible exact LeO.none _)
      | (with_reducible refine LeO.ite ?_ ?_)
      | (with_reducible refine LeO.bind ?_ (fun _ => ?_))
      | exact spec_Topical.mono _ _
      | exact LeO.none _
      | refine LeO.ite ?_ ?_
      | refine LeO.bind ?_ (fun _ => ?_)
set_option maxHeartbeats 8000000 in
set_option maxRecDepth 100000 in
theorem laws_topic.calls (k : Nat) (a0 : ByteArray) (r : Bool) (w : World) (h : laws_topic.f k a0 = some r) :
    Calls Tryd.prog 8 #[.string a0] w fun e w' => e = .returned (.bool r) ∧ Drawn0 w w' := by
  have H : (if (a0.size : Int) ≤ 100 then ((spec_Topical.f k a0).bind fun t118 => (some t118)) else (some false)) = some r := h
  clear h
  by_cases c2 : (a0.size : Int) ≤ 100
  · rw [if_pos c2] at H
    have c2b0 : decide ((a0.size : Int) ≤ 100) = true := decide_eq_true c2
    have c2b1 : decide (a0.size ≤ 100) = true := decide_eq_true (by omega)
    clear c2
    replace H := Option.bind_eq_some_iff.mp H
    obtain ⟨t118, A30, H⟩ := H
    replace H : (some t118) = some r := H
    have A3 := Aside0.mk A30
    clear A30
    obtain rfl := Option.some.inj H
    go_enter Tryd.func8, Tryd.ntmps8
    go_wp2_with (first | (go_at_call 19; (with_reducible refine (spec_Topical.calls k a0 t118 _ A3.out).mono ?_); rintro e w' ⟨rfl, ⟨nd, rfl⟩⟩))
    go_ret
    exact ⟨by first | rfl | (simp; done) | (simp [*]; done) | (simp; cases a0.toList <;> rfl) /- isEmpty -/, by repeat (first | exact Drawn0.refl _ | apply Drawn0.step)⟩
  · rw [if_neg c2] at H
    have c2b0 : decide ((a0.size : Int) ≤ 100) = false := decide_eq_false c2
    have c2b1 : decide (a0.size ≤ 100) = false := decide_eq_false (by omega)
    clear c2
    obtain rfl := Option.some.inj H
    go_enter Tryd.func8, Tryd.ntmps8
    go_wp2
    go_ret
    exact ⟨by first | rfl | (simp; done) | (simp [*]; done) | (simp; cases a0.toList <;> rfl) /- isEmpty -/, by repeat (first | exact Drawn0.refl _ | apply Drawn0.step)⟩
/-! ### server_natsSubjectToMQTTTopic: function 27 -/
mutual
def server_natsSubjectToMQTTTopic.l0 : Nat → List Int → List Int → Int → Int → Int → Option (List Int)
  | 0, _, _, _, _, _ => none
  | k + 1, x0, x3, x4, x5, x6 => if x6 < (x0.length : Int) then (if 0 ≤ x6 then (if (rd x0 x6) = 47 then (if x6 < x4 then (if 0 ≤ (wrap64 (x6 + 1)) then (if (wrap64 (x6 + 1)) < (x0.length : Int) then (if (rd x0 (wrap64 (x6 + 1))) = 46 then (server_natsSubjectToMQTTTopic.j1 k x0 x3 x4 x5 x6 (rd x0 (wrap64 (x6 + 1))) ((rd x0 (wrap64 (x6 + 1))) == 46)) else (server_natsSubjectToMQTTTopic.j1 k x0 x3 x4 x5 x6 (rd x0 (wrap64 (x6 + 1))) ((rd x0 (wrap64 (x6 + 1))) == 47))) else (none)) else (none)) else (server_natsSubjectToMQTTTopic.l0 k x0 x3 x4 x5 (wrap64 (x6 + 1)))) else (if (rd x0 x6) = 46 then (if 0 ≤ x5 then (if x5 < (x3.length : Int) then (server_natsSubjectToMQTTTopic.l0 k x0 (x3.set (x5 : Int).toNat 47) x4 (wrap64 (x5 + 1)) (wrap64 (x6 + 1))) else (none)) else (none)) else (if 0 ≤ x5 then (if x5 < (x3.length : Int) then (server_natsSubjectToMQTTTopic.l0 k x0 (x3.set (x5 : Int).toNat (rd x0 x6)) x4 (wrap64 (x5 + 1)) (wrap64 (x6 + 1))) else (none)) else (none)))) else (none)) else (if 0 ≤ x5 then (if x5 ≤ (x3.length : Int) then (some (x3.take (x5 : Int).toNat)) else (none)) else (none))
def server_natsSubjectToMQTTTopic.j1 : Nat → List Int → List Int → Int → Int → Int → Int → Bool → Option (List Int)
  | 0, _, _, _, _, _, _, _ => none
  | k + 1, x0, x3, x4, x5, x6, x7, x44 => if x44 = true then (if x7 = 46 then (if 0 ≤ x5 then (if x5 < (x3.length : Int) then (server_natsSubjectToMQTTTopic.l0 k x0 (x3.set (x5 : Int).toNat 47) x4 (wrap64 (x5 + 1)) (wrap64 ((wrap64 (x6 + 1)) + 1))) else (none)) else (none)) else (if 0 ≤ x5 then (if x5 < (x3.length : Int) then (server_natsSubjectToMQTTTopic.l0 k x0 (x3.set (x5 : Int).toNat 46) x4 (wrap64 (x5 + 1)) (wrap64 ((wrap64 (x6 + 1)) + 1))) else (none)) else (none))) else (server_natsSubjectToMQTTTopic.l0 k x0 x3 x4 x5 (wrap64 (x6 + 1)))
end
def server_natsSubjectToMQTTTopic.f (k : Nat) (l0 : List Int) : Option (List Int) := if 0 ≤ (l0.length : Int) then (if ((l0.length : Int) : Int).toNat ≤ 281474976710656 then (server_natsSubjectToMQTTTopic.l0 k l0 (List.replicate ((l0.length : Int) : Int).toNat 0) (wrap64 ((l0.length : Int) - 1)) 0 0) else (none)) else (none)
theorem server_natsSubjectToMQTTTopic.mono_l : ∀ k, (∀ y0 y1 y2 y3 y4, LeO (server_natsSubjectToMQTTTopic.l0 k y0 y1 y2 y3 y4) (server_natsSubjectToMQTTTopic.l0 (k + 1) y0 y1 y2 y3 y4)) ∧ (∀ y0 y1 y2 y3 y4 y5 y6, LeO (server_natsSubjectToMQTTTopic.j1 k y0 y1 y2 y3 y4 y5 y6) (server_natsSubjectToMQTTTopic.j1 (k + 1) y0 y1 y2 y3 y4 y5 y6))
  | 0 => ⟨fun _ _ _ _ _ r h => by simp [server_natsSubjectToMQTTTopic.l0] at h, fun _ _ _ _ _ _ _ r h => by simp [server_natsSubjectToMQTTTopic.j1] at h⟩
  | k + 1 => by
    obtain ⟨ih0, ih1⟩ := server_natsSubjectToMQTTTopic.mono_l k
    refine ⟨?_, ?_⟩
    · intro y0 y1 y2 y3 y4
      unfold server_natsSubjectToMQTTTopic.l0
      repeat' first
      | (with_reducible exact ih0 _ _ _ _ _)
      | (with_reducible exact ih1 _ _ _ _ _ _ _)
      | (with_reducible exact LeO.refl _)
      | (with_reducible exact LeO.none _)
      | (with_reducible refine LeO.ite ?_ ?_)
      | (with_reducible refine LeO.bind ?_ (fun _ => ?_))
      | exact ih0 _ _ _ _ _
      | exact ih1 _ _ _ _ _ _ _
      | exact LeO.none _
      | refine LeO.ite ?_ ?_
      | refine LeO.bind ?_ (fun _ => ?_)
    · intro y0 y1 y2 y3 y4 y5 y6
      unfold server_natsSubjectToMQTTTopic.j1
      repeat' first
      | (with_reducible exact ih0 _ _ _ _ _)
      | (with_reducible exact ih1 _ _ _ _ _ _ _)
      | (with_reducible exact LeO.refl _)
      | (with_reducible exact LeO.none _)
      | (with_reducible refine LeO.ite ?_ ?_)
      | (with_reducible refine LeO.bind ?_ (fun _ => ?_))
      | exact ih0 _ _ _ _ _
      | exact ih1 _ _ _ _ _ _ _
      | exact LeO.none _
      | refine LeO.ite ?_ ?_
      | refine LeO.bind ?_ (fun _ => ?_)
theorem server_natsSubjectToMQTTTopic.mono : ∀ a0 k, LeO (server_natsSubjectToMQTTTopic.f k a0) (server_natsSubjectToMQTTTopic.f (k + 1) a0) := by
  intro a0 k
  obtain ⟨ih0, ih1⟩ := server_natsSubjectToMQTTTopic.mono_l k
  unfold server_natsSubjectToMQTTTopic.f
  repeat' first
      | (with_reducible exact ih0 _ _ _ _ _)
      | (with_reducible exact ih1 _ _ _ _ _ _ _)
      | (with_reducible exact LeO.refl _)
      | (with_reducible exact LeO.none _)
      | (with_reducible refine LeO.ite ?_ ?_)
      | (with_reducible refine LeO.bind ?_ (fun _ => ?_))
      | exact ih0 _ _ _ _ _
      | exact ih1 _ _ _ _ _ _ _
      | exact LeO.none _
      | refine LeO.ite ?_ ?_
      | refine LeO.bind ?_ (fun _ => ?_)
set_option maxHeartbeats 8000000 in
set_option maxRecDepth 100000 in
theorem server_natsSubjectToMQTTTopic.calls (k : Nat) (A0 : Option Addr) (c0 : Nat) (l0 : List Int) (r : List Int) (w : World) (hr0 : Kd.C (Kd.int .u8) w A0 l0.length l0) (hc0 : l0.length ≤ c0) (h : server_natsSubjectToMQTTTopic.f k l0 = some r) :
    Calls Tryd.prog 27 #[.slice A0 l0.length c0] w fun e w' => ∃ v0_ : Value, e = .returned (v0_) ∧ Kd.R (Kd.int .u8) 5 w' w.heap.size (fun _ => True) v0_ r ∧ Below w.heap.size w w' := by
  have HR0 := Aside0.mk hr0
  have HC0 := Aside0.mk hc0
  clear hr0 hc0
  have HB := Aside0.mk (Below.refl w.heap.size w)
  have H : (if 0 ≤ (l0.length : Int) then (if ((l0.length : Int) : Int).toNat ≤ 281474976710656 then (server_natsSubjectToMQTTTopic.l0 k l0 (List.replicate ((l0.length : Int) : Int).toNat 0) (wrap64 ((l0.length : Int) - 1)) 0 0) else (none)) else (none)) = some r := h
  clear h
  by_cases c2 : 0 ≤ (l0.length : Int)
  · rw [if_pos c2] at H
    have c2b0 := eq_true c2
    have c2b1 : decide (0 ≤ (l0.length : Int)) = true := decide_eq_true c2
    clear c2
    by_cases c3 : ((l0.length : Int) : Int).toNat ≤ 281474976710656
    · rw [if_pos c3] at H
      have c3b0 := eq_true c3
      have c3b1 : decide (((l0.length : Int) : Int).toNat ≤ 281474976710656) = true := decide_eq_true c3
      clear c3
      obtain ⟨y119, hy119⟩ : ∃ y_ : List Int, y_ = (List.replicate ((l0.length : Int) : Int).toNat 0) := ⟨_, rfl⟩
      replace H : (server_natsSubjectToMQTTTopic.l0 k l0 y119 (wrap64 ((l0.length : Int) - 1)) 0 0) = some r := by first | (rw [hy119]; with_reducible exact H) | (have H2_ := (Option.bind_some _ _).symm.trans H; rw [hy119]; with_reducible exact H2_) | (have H2_ := (Option.bind_some _ _).symm.trans H; with_reducible exact H2_) | with_reducible exact H | (rw [hy119]; exact H) | exact H
      have Ny119 := Aside0.mk hy119
      clear hy119
      have H' := Aside0.mk H
      clear H
      go_enter Tryd.func27, Tryd.ntmps27
      go_wp2_with (first | ((with_reducible refine gate_dst (N := 10) rfl ?_); refine Kd.R_make (Kd.int .u8) _ 5 rfl (N := 10) rfl 23 _ _ rfl (l0.length : Int) rfl rfl Tryd.underlying23 (.int .u8 0) 1 info5 rfl (by decide) (by omega) 0 (ok := fun _ => True) (okp := fun _ => True) rfl (fun _ hk => hk) trivial (of_decide_eq_true (by first | (with_reducible assumption) | assumption)) (Nat.le_trans (Nat.mul_le_mul_right _ (of_decide_eq_true (by first | (with_reducible assumption) | assumption) : (l0.length : Int).toNat ≤ 281474976710656)) (by omega)) (Below.refl _ _) (Nat.le_refl _) ?_; intro v120 w4 ho5 hb hg_ hnew_; clear hg_ hnew_; (first | rw [← Ny119.out] at ho5 | (simp only [Int.reduceToNat] at ho5; rw [← Ny119.out] at ho5)); have n0_ := Aside0.mk (Kd.R_lower ho5 (below_size (by repeat (first | (with_reducible first | exact HB.out | apply below_alloc | apply pw_below_drewN | apply below_drew1) | exact HB.out)))); have n1_ := Aside0.mk (below_step (by repeat (first | (with_reducible first | exact HB.out | apply below_alloc | apply pw_below_drewN | apply below_drew1) | exact HB.out)) hb); clear HB; have HO121 := n0_; have HB := n1_; clear n0_ n1_; clear hb ho5))
      go_loopg [5, 6] k (fun kq v5 v6 w' => ∃ (x3_1 : List Int) (x5_1 : Int) (x6_1 : Int), v5 = .int .i64 x5_1 ∧ v6 = .int .i64 x6_1 ∧ Aside0 (server_natsSubjectToMQTTTopic.l0 kq l0 x3_1 (wrap64 ((l0.length : Int) - 1)) x5_1 x6_1 = some r) ∧ Aside0 (kq ≤ k) ∧ Aside0 (Kd.R (Kd.int .u8) 5 w' w.heap.size (fun _ => True) v120 x3_1) ∧ Aside0 (Below w.heap.size w w'))
      case atStart => exact ⟨(y119), (0), (0), (by first | rfl | (simp; done) | (simp [*]; done)), (by first | rfl | (simp; done) | (simp [*]; done)), H', ⟨Nat.le_refl _⟩, ⟨by (with_reducible repeat (first | apply Kd.R_alloc | apply Kd.R_drewN | apply Kd.R_drew)); exact HO121.out⟩, ⟨by repeat (first | (with_reducible first | exact HB.out | apply below_alloc | apply pw_below_drewN | apply below_drew1) | exact HB.out)⟩⟩
      case round =>
        clear H'
        try clear c2
        try clear c2b0
        try clear c2b1
        try clear p2
        try clear c3
        try clear c3b0
        try clear c3b1
        obtain ⟨x3_1, x5_1, x6_1, rfl, rfl, HA, HK1, HO_3, HB⟩ := hrel
        cases gk with
        | zero => exact absurd HA.out (by simp [server_natsSubjectToMQTTTopic.l0])
        | succ k1 =>
          have H := HA.out
          clear HA
          simp only [server_natsSubjectToMQTTTopic.l0] at H
          by_cases c6 : x6_1 < (l0.length : Int)
          · rw [if_pos c6] at H
            have c6b0 : decide (x6_1 < (l0.length : Int)) = true := decide_eq_true c6
            clear c6
            by_cases c7 : 0 ≤ x6_1
            · rw [if_pos c7] at H
              have c7b0 : decide (0 ≤ x6_1) = true := decide_eq_true c7
              clear c7
              by_cases c8 : (rd l0 x6_1) = 47
              · rw [if_pos c8] at H
                have c8b0 : ((rd l0 x6_1) == 47) = true := beq_iff_eq.mpr c8
                have c8b1 : ((rd l0 x6_1) != 47) = false := bne_eq_false_iff_eq.mpr c8
                clear c8
                by_cases c9 : x6_1 < (wrap64 ((l0.length : Int) - 1))
                · rw [if_pos c9] at H
                  have c9b0 : decide (x6_1 < (wrap64 ((l0.length : Int) - 1))) = true := decide_eq_true c9
                  clear c9
                  obtain ⟨ji10, hji10⟩ : ∃ j_ : Int, (wrap64 (x6_1 + 1)) = j_ := ⟨_, rfl⟩
                  replace H : (if 0 ≤ (ji10) then (if (ji10) < (l0.length : Int) then (if (rd l0 (ji10)) = 46 then (server_natsSubjectToMQTTTopic.j1 k1 l0 x3_1 (wrap64 ((l0.length : Int) - 1)) x5_1 x6_1 (rd l0 (ji10)) ((rd l0 (ji10)) == 46)) else (server_natsSubjectToMQTTTopic.j1 k1 l0 x3_1 (wrap64 ((l0.length : Int) - 1)) x5_1 x6_1 (rd l0 (ji10)) ((rd l0 (ji10)) == 47))) else (none)) else (none)) = some r := by first | (rw [hji10] at H; exact H) | (simp only [hji10] at H ⊢; exact H)
                  have hji10w : (IntKind.i64.wrap (x6_1 + 1)) = ji10 := (i64_w _).trans hji10
                  by_cases c11 : 0 ≤ (ji10)
                  · rw [if_pos c11] at H
                    have c11b0 : decide (0 ≤ (ji10)) = true := decide_eq_true c11
                    clear c11
                    by_cases c12 : (ji10) < (l0.length : Int)
                    · rw [if_pos c12] at H
                      have c12b0 : decide ((ji10) < (l0.length : Int)) = true := decide_eq_true c12
                      clear c12
                      have HC13 := Aside0.mk H
                      clear H
                      have p125 : 0 ≤ (x6_1 : Int) := of_decide_eq_true (by first | (with_reducible assumption) | assumption)
                      have q125 : x6_1 < (l0.length : Int) := of_decide_eq_true (by first | (with_reducible assumption) | assumption)
                      obtain ⟨ad125, e125, hx125_0⟩ := Kd.at_int HR0.out x6_1 p125 q125
                      cases e125
                      replace hx125_0 := (HB.out.cell (World.block_lt_of_cell? w _ hx125_0)).trans hx125_0
                      replace p125 := eq_true p125
                      replace q125 := eq_true q125
                      have p126 : 0 ≤ ((ji10) : Int) := of_decide_eq_true (by first | (with_reducible assumption) | assumption)
                      have q126 : (ji10) < (l0.length : Int) := of_decide_eq_true (by first | (with_reducible assumption) | assumption)
                      obtain ⟨ad126, e126, hx126_0⟩ := Kd.at_int HR0.out (ji10) p126 q126
                      obtain rfl : ad125 = ad126 := (by injection e126)
                      replace hx126_0 := (HB.out.cell (World.block_lt_of_cell? w _ hx126_0)).trans hx126_0
                      replace p126 := eq_true p126
                      replace q126 := eq_true q126
                      go_upto_if 44 with (fail)
                      go_cut [44] (fun v44 wc => ∃ (kq : Nat) (x44_12 : Bool), v44 = .bool x44_12 ∧ Aside0 (server_natsSubjectToMQTTTopic.j1 kq l0 x3_1 (wrap64 ((l0.length : Int) - 1)) x5_1 x6_1 (rd l0 (ji10)) x44_12 = some r) ∧ Aside0 (kq ≤ k1) ∧ Aside0 (Kd.R (Kd.int .u8) 5 wc w.heap.size (fun _ => True) v120 x3_1) ∧ Aside0 (Below w.heap.size w wc))
                      case first =>
                        have H := HC13.out
                        clear HC13
                        by_cases c14 : (rd l0 (ji10)) = 46
                        · rw [if_pos c14] at H
                          have c14b0 : ((rd l0 (ji10)) == 46) = true := beq_iff_eq.mpr c14
                          have c14b1 : ((rd l0 (ji10)) != 46) = false := bne_eq_false_iff_eq.mpr c14
                          clear c14
                          (first | rw [c14b0] | (simp only [i64_w, i32_w]; rw [c14b0]) | skip)
                          have H' := Aside0.mk H
                          clear H
                          go_wp2
                          go_meet
                          case rel => exact ⟨_, (((rd l0 (ji10)) == 46)), (by first | rfl | (simp; done) | exact congrArg Value.bool c14b0.symm | (simp [*]; done)), H', ⟨by have := HK1.out; first | omega | exact Nat.le_refl _⟩, ⟨by (with_reducible repeat (first | apply Kd.R_alloc | apply Kd.R_drewN | apply Kd.R_drew)); exact HO_3.out⟩, ⟨by repeat (first | (with_reducible first | exact HB.out | apply below_alloc | apply pw_below_drewN | apply below_drew1) | exact HB.out)⟩⟩
                        · rw [if_neg c14] at H
                          have c14b0 : ((rd l0 (ji10)) == 46) = false := beq_eq_false_iff_ne.mpr c14
                          have c14b1 : ((rd l0 (ji10)) != 46) = true := bne_iff_ne.mpr c14
                          (first | rw [c14b0] | (simp only [i64_w, i32_w]; rw [c14b0]) | skip)
                          have H' := Aside0.mk H
                          clear H
                          go_wp2
                          go_meet
                          case rel => exact ⟨_, (((rd l0 (ji10)) == 47)), (by first | rfl | (simp; done) | exact congrArg Value.bool c14b0.symm | (simp [*]; done)), H', ⟨by have := HK1.out; first | omega | exact Nat.le_refl _⟩, ⟨by (with_reducible repeat (first | apply Kd.R_alloc | apply Kd.R_drewN | apply Kd.R_drew)); exact HO_3.out⟩, ⟨by repeat (first | (with_reducible first | exact HB.out | apply below_alloc | apply pw_below_drewN | apply below_drew1) | exact HB.out)⟩⟩
                      case rest =>
                        clear HC13
                        try clear c1
                        try clear p1
                        try clear q1
                        try clear hx1
                        try clear c2
                        try clear c2b0
                        try clear c2b1
                        try clear p2
                        try clear c3
                        try clear c3b0
                        try clear c3b1
                        try clear c6
                        try clear c6b0
                        try clear p6
                        try clear c7
                        try clear c7b0
                        try clear c8
                        try clear c8b0
                        try clear c8b1
                        try clear c9
                        try clear c9b0
                        try clear c11
                        try clear c11b0
                        try clear c12
                        try clear c12b0
                        try clear p12
                        try clear q12
                        try clear hx12
                        try clear c14
                        try clear c14b0
                        try clear c14b1
                        try clear hx125_0
                        try clear hx126_0
                        try clear p125
                        try clear p126
                        try clear p2
                        try clear q125
                        try clear q126
                        obtain ⟨kq, x44_12, rfl, HA, HJ12, HO_3, HB⟩ := hcut
                        cases kq with
                        | zero => exact absurd HA.out (by simp [server_natsSubjectToMQTTTopic.j1])
                        | succ kj12 =>
                          have H := HA.out
                          clear HA
                          simp only [server_natsSubjectToMQTTTopic.j1] at H
                          by_cases c15 : x44_12 = true
                          · subst c15
                            have H1 : (if (rd l0 (ji10)) = 46 then (if 0 ≤ x5_1 then (if x5_1 < (x3_1.length : Int) then (server_natsSubjectToMQTTTopic.l0 kj12 l0 (x3_1.set (x5_1 : Int).toNat 47) (wrap64 ((l0.length : Int) - 1)) (wrap64 (x5_1 + 1)) (wrap64 ((wrap64 (x6_1 + 1)) + 1))) else (none)) else (none)) else (if 0 ≤ x5_1 then (if x5_1 < (x3_1.length : Int) then (server_natsSubjectToMQTTTopic.l0 kj12 l0 (x3_1.set (x5_1 : Int).toNat 46) (wrap64 ((l0.length : Int) - 1)) (wrap64 (x5_1 + 1)) (wrap64 ((wrap64 (x6_1 + 1)) + 1))) else (none)) else (none))) = some r := by rw [if_pos rfl] at H; exact H
                            clear H
                            have H := H1
                            clear H1
                            by_cases c16 : (rd l0 (ji10)) = 46
                            · rw [if_pos c16] at H
                              have c16b0 : ((rd l0 (ji10)) == 46) = true := beq_iff_eq.mpr c16
                              have c16b1 : ((rd l0 (ji10)) != 46) = false := bne_eq_false_iff_eq.mpr c16
                              clear c16
                              by_cases c17 : 0 ≤ x5_1
                              · rw [if_pos c17] at H
                                have c17b0 : decide (0 ≤ x5_1) = true := decide_eq_true c17
                                clear c17
                                by_cases c18 : x5_1 < (x3_1.length : Int)
                                · rw [if_pos c18] at H
                                  have c18b0 : decide (x5_1 < (x3_1.length : Int)) = true := decide_eq_true c18
                                  clear c18
                                  obtain ⟨y127, hy127⟩ : ∃ y_ : List Int, y_ = (x3_1.set (x5_1 : Int).toNat 47) := ⟨_, rfl⟩
                                  replace H : (server_natsSubjectToMQTTTopic.l0 kj12 l0 y127 (wrap64 ((l0.length : Int) - 1)) (wrap64 (x5_1 + 1)) (wrap64 ((wrap64 (x6_1 + 1)) + 1))) = some r := by first | (rw [hy127]; with_reducible exact H) | (have H2_ := (Option.bind_some _ _).symm.trans H; rw [hy127]; with_reducible exact H2_) | (have H2_ := (Option.bind_some _ _).symm.trans H; with_reducible exact H2_) | with_reducible exact H | (rw [hy127]; exact H) | exact H
                                  have Ny127 := Aside0.mk hy127
                                  clear hy127
                                  have H' := Aside0.mk H
                                  clear H
                                  have p19 : 0 ≤ (x5_1 : Int) := of_decide_eq_true (by first | (with_reducible assumption) | assumption)
                                  have q19 : (x5_1 : Int) < ((x3_1.length : Int) : Int) := of_decide_eq_true (by first | (with_reducible assumption) | assumption)
                                  obtain ⟨go19, co19, eo19, gb19, gl19, cl19, HG19⟩ := Kd.R_form HO_3.out (by omega)
                                  (first | cases eo19 | (injection eo19 with ea_ en_ ec_; (first | subst ea_ | (injection ea_ with ea_; subst ea_)); subst ec_; clear en_))
                                  have GB19 := Aside0.mk gb19
                                  have GG19 := Aside0.mk HG19
                                  clear gb19 gl19 HG19
                                  obtain ⟨hx19_0, hf19_0⟩ := Kd.R_celln 0 HO_3.out (x5_1 : Int) p19 q19
                                  replace p19 := eq_true p19
                                  replace q19 := eq_true q19
                                  have HP20 := Kd.R_putg HO_3.out (x5_1 : Int) 47
                                  go_wp2_with (first | ((with_reducible refine gate_store (t := 5) (p := 51) rfl ?_); refine store_event (t := 5) (p := 51) (v := ?vo_w21) (w1 := (wc.setCell ⟨go19, (x5_1 : Int).toNat, none⟩ (.int .u8 47))) ?hg ?ho ?hn ?hr ?_; (case ho => rfl); (case hg => rfl); (case hn => rfl); (case hr => first | (go_simp; done) | (go_simp; rfl)); intro w21 hw; have hg : wc.grownBy w21 (some go19) := (by rw [hw]; exact HP20.2); have hp_ : Kd.R (Kd.int .u8) 5 w21 w.heap.size (fun _ => True) (.slice (some ⟨go19, 0, none⟩) x3_1.length co19) y127 := (by rw [hw, Ny127.out]; exact HP20.1); clear HP20; have n0_ := Aside0.mk (hp_); have n1_ := Aside0.mk ((by rw [hw]; exact below_set (HB.out) GB19.out : Below w.heap.size w w21)); clear HO_3; clear HB; have HO_3 := n0_; have HB := n1_; clear n0_ n1_; clear hg hw hp_))
                                  go_roundg kj12
                                  case measure => have := HK1.out; have := HJ12.out; omega
                                  case rel => exact ⟨(y127), (wrap64 (x5_1 + 1)), (wrap64 ((wrap64 (x6_1 + 1)) + 1)), (by first | rfl | (simp; done) | (simp [*]; done)), (by first | rfl | (simp; done) | (simp [*]; done)), H', ⟨by have := HK1.out; have := HJ12.out; omega⟩, ⟨by (with_reducible repeat (first | apply Kd.R_alloc | apply Kd.R_drewN | apply Kd.R_drew)); exact HO_3.out⟩, ⟨by repeat (first | (with_reducible first | exact HB.out | apply below_alloc | apply pw_below_drewN | apply below_drew1) | exact HB.out)⟩⟩
                                · rw [if_neg c18] at H
                                  exact absurd H (by simp)
                              · rw [if_neg c17] at H
                                exact absurd H (by simp)
                            · rw [if_neg c16] at H
                              have c16b0 : ((rd l0 (ji10)) == 46) = false := beq_eq_false_iff_ne.mpr c16
                              have c16b1 : ((rd l0 (ji10)) != 46) = true := bne_iff_ne.mpr c16
                              by_cases c22 : 0 ≤ x5_1
                              · rw [if_pos c22] at H
                                have c22b0 : decide (0 ≤ x5_1) = true := decide_eq_true c22
                                clear c22
                                by_cases c23 : x5_1 < (x3_1.length : Int)
                                · rw [if_pos c23] at H
                                  have c23b0 : decide (x5_1 < (x3_1.length : Int)) = true := decide_eq_true c23
                                  clear c23
                                  obtain ⟨y128, hy128⟩ : ∃ y_ : List Int, y_ = (x3_1.set (x5_1 : Int).toNat 46) := ⟨_, rfl⟩
                                  replace H : (server_natsSubjectToMQTTTopic.l0 kj12 l0 y128 (wrap64 ((l0.length : Int) - 1)) (wrap64 (x5_1 + 1)) (wrap64 ((wrap64 (x6_1 + 1)) + 1))) = some r := by first | (rw [hy128]; with_reducible exact H) | (have H2_ := (Option.bind_some _ _).symm.trans H; rw [hy128]; with_reducible exact H2_) | (have H2_ := (Option.bind_some _ _).symm.trans H; with_reducible exact H2_) | with_reducible exact H | (rw [hy128]; exact H) | exact H
                                  have Ny128 := Aside0.mk hy128
                                  clear hy128
                                  have H' := Aside0.mk H
                                  clear H
                                  have p24 : 0 ≤ (x5_1 : Int) := of_decide_eq_true (by first | (with_reducible assumption) | assumption)
                                  have q24 : (x5_1 : Int) < ((x3_1.length : Int) : Int) := of_decide_eq_true (by first | (with_reducible assumption) | assumption)
                                  obtain ⟨go24, co24, eo24, gb24, gl24, cl24, HG24⟩ := Kd.R_form HO_3.out (by omega)
                                  (first | cases eo24 | (injection eo24 with ea_ en_ ec_; (first | subst ea_ | (injection ea_ with ea_; subst ea_)); subst ec_; clear en_))
                                  have GB24 := Aside0.mk gb24
                                  have GG24 := Aside0.mk HG24
                                  clear gb24 gl24 HG24
                                  obtain ⟨hx24_0, hf24_0⟩ := Kd.R_celln 0 HO_3.out (x5_1 : Int) p24 q24
                                  replace p24 := eq_true p24
                                  replace q24 := eq_true q24
                                  have HP25 := Kd.R_putg HO_3.out (x5_1 : Int) 46
                                  go_wp2_with (first | ((with_reducible refine gate_store (t := 5) (p := 54) rfl ?_); refine store_event (t := 5) (p := 54) (v := ?vo_w26) (w1 := (wc.setCell ⟨go24, (x5_1 : Int).toNat, none⟩ (.int .u8 46))) ?hg ?ho ?hn ?hr ?_; (case ho => rfl); (case hg => rfl); (case hn => rfl); (case hr => first | (go_simp; done) | (go_simp; rfl)); intro w26 hw; have hg : wc.grownBy w26 (some go24) := (by rw [hw]; exact HP25.2); have hp_ : Kd.R (Kd.int .u8) 5 w26 w.heap.size (fun _ => True) (.slice (some ⟨go24, 0, none⟩) x3_1.length co24) y128 := (by rw [hw, Ny128.out]; exact HP25.1); clear HP25; have n0_ := Aside0.mk (hp_); have n1_ := Aside0.mk ((by rw [hw]; exact below_set (HB.out) GB24.out : Below w.heap.size w w26)); clear HO_3; clear HB; have HO_3 := n0_; have HB := n1_; clear n0_ n1_; clear hg hw hp_))
                                  go_roundg kj12
                                  case measure => have := HK1.out; have := HJ12.out; omega
                                  case rel => exact ⟨(y128), (wrap64 (x5_1 + 1)), (wrap64 ((wrap64 (x6_1 + 1)) + 1)), (by first | rfl | (simp; done) | (simp [*]; done)), (by first | rfl | (simp; done) | (simp [*]; done)), H', ⟨by have := HK1.out; have := HJ12.out; omega⟩, ⟨by (with_reducible repeat (first | apply Kd.R_alloc | apply Kd.R_drewN | apply Kd.R_drew)); exact HO_3.out⟩, ⟨by repeat (first | (with_reducible first | exact HB.out | apply below_alloc | apply pw_below_drewN | apply below_drew1) | exact HB.out)⟩⟩
                                · rw [if_neg c23] at H
                                  exact absurd H (by simp)
                              · rw [if_neg c22] at H
                                exact absurd H (by simp)
                          · replace c15 := Bool.eq_false_iff.mpr c15
                            subst c15
                            have H1 : (server_natsSubjectToMQTTTopic.l0 kj12 l0 x3_1 (wrap64 ((l0.length : Int) - 1)) x5_1 (wrap64 (x6_1 + 1))) = some r := by rw [if_neg (show ¬ (false = true) by decide)] at H; exact H
                            clear H
                            have H := H1
                            clear H1
                            have H' := Aside0.mk H
                            clear H
                            go_wp2
                            go_roundg kj12
                            case measure => have := HK1.out; have := HJ12.out; omega
                            case rel => exact ⟨(x3_1), (x5_1), (wrap64 (x6_1 + 1)), (by first | rfl | (simp; done) | (simp [*]; done)), (by first | rfl | (simp; done) | (simp [*]; done)), H', ⟨by have := HK1.out; have := HJ12.out; omega⟩, ⟨by (with_reducible repeat (first | apply Kd.R_alloc | apply Kd.R_drewN | apply Kd.R_drew)); exact HO_3.out⟩, ⟨by repeat (first | (with_reducible first | exact HB.out | apply below_alloc | apply pw_below_drewN | apply below_drew1) | exact HB.out)⟩⟩
                    · rw [if_neg c12] at H
                      exact absurd H (by simp)
                  · rw [if_neg c11] at H
                    exact absurd H (by simp)
                · rw [if_neg c9] at H
                  have c9b0 : decide (x6_1 < (wrap64 ((l0.length : Int) - 1))) = false := decide_eq_false c9
                  clear c9
                  have H' := Aside0.mk H
                  clear H
                  have p125 : 0 ≤ (x6_1 : Int) := of_decide_eq_true (by first | (with_reducible assumption) | assumption)
                  have q125 : x6_1 < (l0.length : Int) := of_decide_eq_true (by first | (with_reducible assumption) | assumption)
                  obtain ⟨ad125, e125, hx125_0⟩ := Kd.at_int HR0.out x6_1 p125 q125
                  cases e125
                  replace hx125_0 := (HB.out.cell (World.block_lt_of_cell? w _ hx125_0)).trans hx125_0
                  replace p125 := eq_true p125
                  replace q125 := eq_true q125
                  go_wp2
                  go_roundg k1
                  case measure => have := HK1.out; omega
                  case rel => exact ⟨(x3_1), (x5_1), (wrap64 (x6_1 + 1)), (by first | rfl | (simp; done) | (simp [*]; done)), (by first | rfl | (simp; done) | (simp [*]; done)), H', ⟨by have := HK1.out; omega⟩, ⟨by (with_reducible repeat (first | apply Kd.R_alloc | apply Kd.R_drewN | apply Kd.R_drew)); exact HO_3.out⟩, ⟨by repeat (first | (with_reducible first | exact HB.out | apply below_alloc | apply pw_below_drewN | apply below_drew1) | exact HB.out)⟩⟩
              · rw [if_neg c8] at H
                have c8b0 : ((rd l0 x6_1) == 47) = false := beq_eq_false_iff_ne.mpr c8
                have c8b1 : ((rd l0 x6_1) != 47) = true := bne_iff_ne.mpr c8
                by_cases c27 : (rd l0 x6_1) = 46
                · rw [if_pos c27] at H
                  have c27b0 : ((rd l0 x6_1) == 46) = true := beq_iff_eq.mpr c27
                  have c27b1 : ((rd l0 x6_1) != 46) = false := bne_eq_false_iff_eq.mpr c27
                  clear c27
                  by_cases c28 : 0 ≤ x5_1
                  · rw [if_pos c28] at H
                    have c28b0 : decide (0 ≤ x5_1) = true := decide_eq_true c28
                    clear c28
                    by_cases c29 : x5_1 < (x3_1.length : Int)
                    · rw [if_pos c29] at H
                      have c29b0 : decide (x5_1 < (x3_1.length : Int)) = true := decide_eq_true c29
                      clear c29
                      obtain ⟨y129, hy129⟩ : ∃ y_ : List Int, y_ = (x3_1.set (x5_1 : Int).toNat 47) := ⟨_, rfl⟩
                      replace H : (server_natsSubjectToMQTTTopic.l0 k1 l0 y129 (wrap64 ((l0.length : Int) - 1)) (wrap64 (x5_1 + 1)) (wrap64 (x6_1 + 1))) = some r := by first | (rw [hy129]; with_reducible exact H) | (have H2_ := (Option.bind_some _ _).symm.trans H; rw [hy129]; with_reducible exact H2_) | (have H2_ := (Option.bind_some _ _).symm.trans H; with_reducible exact H2_) | with_reducible exact H | (rw [hy129]; exact H) | exact H
                      have Ny129 := Aside0.mk hy129
                      clear hy129
                      have H' := Aside0.mk H
                      clear H
                      have p125 : 0 ≤ (x6_1 : Int) := of_decide_eq_true (by first | (with_reducible assumption) | assumption)
                      have q125 : x6_1 < (l0.length : Int) := of_decide_eq_true (by first | (with_reducible assumption) | assumption)
                      obtain ⟨ad125, e125, hx125_0⟩ := Kd.at_int HR0.out x6_1 p125 q125
                      cases e125
                      replace hx125_0 := (HB.out.cell (World.block_lt_of_cell? w _ hx125_0)).trans hx125_0
                      replace p125 := eq_true p125
                      replace q125 := eq_true q125
                      have p30 : 0 ≤ (x5_1 : Int) := of_decide_eq_true (by first | (with_reducible assumption) | assumption)
                      have q30 : (x5_1 : Int) < ((x3_1.length : Int) : Int) := of_decide_eq_true (by first | (with_reducible assumption) | assumption)
                      obtain ⟨go30, co30, eo30, gb30, gl30, cl30, HG30⟩ := Kd.R_form HO_3.out (by omega)
                      (first | cases eo30 | (injection eo30 with ea_ en_ ec_; (first | subst ea_ | (injection ea_ with ea_; subst ea_)); subst ec_; clear en_))
                      have GB30 := Aside0.mk gb30
                      have GG30 := Aside0.mk HG30
                      clear gb30 gl30 HG30
                      obtain ⟨hx30_0, hf30_0⟩ := Kd.R_celln 0 HO_3.out (x5_1 : Int) p30 q30
                      replace p30 := eq_true p30
                      replace q30 := eq_true q30
                      have HP31 := Kd.R_putg HO_3.out (x5_1 : Int) 47
                      go_wp2_with (first | ((with_reducible refine gate_store (t := 5) (p := 63) rfl ?_); refine store_event (t := 5) (p := 63) (v := ?vo_w32) (w1 := (wr.setCell ⟨go30, (x5_1 : Int).toNat, none⟩ (.int .u8 47))) ?hg ?ho ?hn ?hr ?_; (case ho => rfl); (case hg => rfl); (case hn => rfl); (case hr => first | (go_simp; done) | (go_simp; rfl)); intro w32 hw; have hg : wr.grownBy w32 (some go30) := (by rw [hw]; exact HP31.2); have hp_ : Kd.R (Kd.int .u8) 5 w32 w.heap.size (fun _ => True) (.slice (some ⟨go30, 0, none⟩) x3_1.length co30) y129 := (by rw [hw, Ny129.out]; exact HP31.1); clear HP31; have n0_ := Aside0.mk (hp_); have n1_ := Aside0.mk ((by rw [hw]; exact below_set (HB.out) GB30.out : Below w.heap.size w w32)); clear HO_3; clear HB; have HO_3 := n0_; have HB := n1_; clear n0_ n1_; clear hg hw hp_))
                      go_roundg k1
                      case measure => have := HK1.out; omega
                      case rel => exact ⟨(y129), (wrap64 (x5_1 + 1)), (wrap64 (x6_1 + 1)), (by first | rfl | (simp; done) | (simp [*]; done)), (by first | rfl | (simp; done) | (simp [*]; done)), H', ⟨by have := HK1.out; omega⟩, ⟨by (with_reducible repeat (first | apply Kd.R_alloc | apply Kd.R_drewN | apply Kd.R_drew)); exact HO_3.out⟩, ⟨by repeat (first | (with_reducible first | exact HB.out | apply below_alloc | apply pw_below_drewN | apply below_drew1) | exact HB.out)⟩⟩
                    · rw [if_neg c29] at H
                      exact absurd H (by simp)
                  · rw [if_neg c28] at H
                    exact absurd H (by simp)
                · rw [if_neg c27] at H
                  have c27b0 : ((rd l0 x6_1) == 46) = false := beq_eq_false_iff_ne.mpr c27
                  have c27b1 : ((rd l0 x6_1) != 46) = true := bne_iff_ne.mpr c27
                  by_cases c33 : 0 ≤ x5_1
                  · rw [if_pos c33] at H
                    have c33b0 : decide (0 ≤ x5_1) = true := decide_eq_true c33
                    clear c33
                    by_cases c34 : x5_1 < (x3_1.length : Int)
                    · rw [if_pos c34] at H
                      have c34b0 : decide (x5_1 < (x3_1.length : Int)) = true := decide_eq_true c34
                      clear c34
                      obtain ⟨y131, hy131⟩ : ∃ y_ : List Int, y_ = (x3_1.set (x5_1 : Int).toNat (rd l0 x6_1)) := ⟨_, rfl⟩
                      replace H : (server_natsSubjectToMQTTTopic.l0 k1 l0 y131 (wrap64 ((l0.length : Int) - 1)) (wrap64 (x5_1 + 1)) (wrap64 (x6_1 + 1))) = some r := by first | (rw [hy131]; with_reducible exact H) | (have H2_ := (Option.bind_some _ _).symm.trans H; rw [hy131]; with_reducible exact H2_) | (have H2_ := (Option.bind_some _ _).symm.trans H; with_reducible exact H2_) | with_reducible exact H | (rw [hy131]; exact H) | exact H
                      have Ny131 := Aside0.mk hy131
                      clear hy131
                      have H' := Aside0.mk H
                      clear H
                      have p125 : 0 ≤ (x6_1 : Int) := of_decide_eq_true (by first | (with_reducible assumption) | assumption)
                      have q125 : x6_1 < (l0.length : Int) := of_decide_eq_true (by first | (with_reducible assumption) | assumption)
                      obtain ⟨ad125, e125, hx125_0⟩ := Kd.at_int HR0.out x6_1 p125 q125
                      cases e125
                      replace hx125_0 := (HB.out.cell (World.block_lt_of_cell? w _ hx125_0)).trans hx125_0
                      replace p125 := eq_true p125
                      replace q125 := eq_true q125
                      have p130 : 0 ≤ (x6_1 : Int) := of_decide_eq_true (by first | (with_reducible assumption) | assumption)
                      have q130 : x6_1 < (l0.length : Int) := of_decide_eq_true (by first | (with_reducible assumption) | assumption)
                      obtain ⟨ad130, e130, hx130_0⟩ := Kd.at_int HR0.out x6_1 p130 q130
                      obtain rfl : ad125 = ad130 := (by injection e130)
                      replace hx130_0 := (HB.out.cell (World.block_lt_of_cell? w _ hx130_0)).trans hx130_0
                      replace p130 := eq_true p130
                      replace q130 := eq_true q130
                      have p35 : 0 ≤ (x5_1 : Int) := of_decide_eq_true (by first | (with_reducible assumption) | assumption)
                      have q35 : (x5_1 : Int) < ((x3_1.length : Int) : Int) := of_decide_eq_true (by first | (with_reducible assumption) | assumption)
                      obtain ⟨go35, co35, eo35, gb35, gl35, cl35, HG35⟩ := Kd.R_form HO_3.out (by omega)
                      (first | cases eo35 | (injection eo35 with ea_ en_ ec_; (first | subst ea_ | (injection ea_ with ea_; subst ea_)); subst ec_; clear en_))
                      have GB35 := Aside0.mk gb35
                      have GG35 := Aside0.mk HG35
                      clear gb35 gl35 HG35
                      obtain ⟨hx35_0, hf35_0⟩ := Kd.R_celln 0 HO_3.out (x5_1 : Int) p35 q35
                      replace p35 := eq_true p35
                      replace q35 := eq_true q35
                      have HP36 := Kd.R_putg HO_3.out (x5_1 : Int) (rd l0 x6_1)
                      go_wp2_with (first | ((with_reducible refine gate_store (t := 5) (p := 30) rfl ?_); refine store_event (t := 5) (p := 30) (v := ?vo_w37) (w1 := (wr.setCell ⟨go35, (x5_1 : Int).toNat, none⟩ (.int .u8 (rd l0 x6_1)))) ?hg ?ho ?hn ?hr ?_; (case ho => rfl); (case hg => rfl); (case hn => rfl); (case hr => first | (go_simp; done) | (go_simp; rfl)); intro w37 hw; have hg : wr.grownBy w37 (some go35) := (by rw [hw]; exact HP36.2); have hp_ : Kd.R (Kd.int .u8) 5 w37 w.heap.size (fun _ => True) (.slice (some ⟨go35, 0, none⟩) x3_1.length co35) y131 := (by rw [hw, Ny131.out]; exact HP36.1); clear HP36; have n0_ := Aside0.mk (hp_); have n1_ := Aside0.mk ((by rw [hw]; exact below_set (HB.out) GB35.out : Below w.heap.size w w37)); clear HO_3; clear HB; have HO_3 := n0_; have HB := n1_; clear n0_ n1_; clear hg hw hp_))
                      go_roundg k1
                      case measure => have := HK1.out; omega
                      case rel => exact ⟨(y131), (wrap64 (x5_1 + 1)), (wrap64 (x6_1 + 1)), (by first | rfl | (simp; done) | (simp [*]; done)), (by first | rfl | (simp; done) | (simp [*]; done)), H', ⟨by have := HK1.out; omega⟩, ⟨by (with_reducible repeat (first | apply Kd.R_alloc | apply Kd.R_drewN | apply Kd.R_drew)); exact HO_3.out⟩, ⟨by repeat (first | (with_reducible first | exact HB.out | apply below_alloc | apply pw_below_drewN | apply below_drew1) | exact HB.out)⟩⟩
                    · rw [if_neg c34] at H
                      exact absurd H (by simp)
                  · rw [if_neg c33] at H
                    exact absurd H (by simp)
            · rw [if_neg c7] at H
              exact absurd H (by simp)
          · rw [if_neg c6] at H
            have c6b0 : decide (x6_1 < (l0.length : Int)) = false := decide_eq_false c6
            clear c6
            by_cases c38 : 0 ≤ x5_1
            · rw [if_pos c38] at H
              have c38b0 := eq_true c38
              have c38b1 : decide (0 ≤ x5_1) = true := decide_eq_true c38
              clear c38
              by_cases c39 : x5_1 ≤ (x3_1.length : Int)
              · rw [if_pos c39] at H
                have c39b0 := eq_true c39
                have c39b1 : decide (x5_1 ≤ (x3_1.length : Int)) = true := decide_eq_true c39
                clear c39
                obtain ⟨y122, hy122⟩ : ∃ y_ : List Int, y_ = (x3_1.take (x5_1 : Int).toNat) := ⟨_, rfl⟩
                replace H : (some y122) = some r := by first | (rw [hy122]; with_reducible exact H) | (have H2_ := (Option.bind_some _ _).symm.trans H; rw [hy122]; with_reducible exact H2_) | (have H2_ := (Option.bind_some _ _).symm.trans H; with_reducible exact H2_) | with_reducible exact H | (rw [hy122]; exact H) | exact H
                have Ny122 := Aside0.mk hy122
                clear hy122
                obtain rfl := Option.some.inj H
                obtain ⟨Ao40, co40, eo40⟩ := Kd.R_slice HO_3.out
                subst eo40
                have q41 : (x5_1 : Int) ≤ ((x3_1.length : Int) : Int) := of_decide_eq_true (by first | (with_reducible assumption) | assumption)
                obtain ⟨i041, hi041, _, hsz41, _⟩ := info_parts info5
                have hcut41 := cut_to (P := Tryd.prog) 23 5 .i64 Tryd.underlying23 hi041 Ao40 x3_1.length co40 x5_1 (of_decide_eq_true (by first | (with_reducible assumption) | assumption)) q41 (Kd.R_reads' HO_3.out).2.1
                have hr41 := Kd.R_take (m := (x5_1 : Int).toNat) HO_3.out (by omega)
                have hy41 : y122.length = (x5_1 : Int).toNat := (by rw [Ny122.out, List.length_take]; omega)
                rw [← Ny122.out] at hr41
                rw [← hy41] at hr41 hcut41
                clear hy41 hi041 hsz41 HO_3
                have HO124 := Aside0.mk hr41
                clear hr41
                replace q41 := eq_true q41
                go_wp2
                go_ret
                exact ⟨_, by first | rfl | (simp [errW_none, errW_some] <;> rfl) | (simp [*, errW_none, errW_some] <;> rfl), by (with_reducible repeat (first | apply Kd.R_alloc | apply Kd.R_drewN | apply Kd.R_drew)); exact HO124.out, by repeat (first | (with_reducible first | exact HB.out | apply below_alloc | apply pw_below_drewN | apply below_drew1) | exact HB.out)⟩
              · rw [if_neg c39] at H
                exact absurd H (by simp)
            · rw [if_neg c38] at H
              exact absurd H (by simp)
    · rw [if_neg c3] at H
      exact absurd H (by simp)
  · rw [if_neg c2] at H
    exact absurd H (by simp)

/-! ### server_SubjectToTopic: function 20 -/
def server_SubjectToTopic.f (k : Nat) (l0 : List Int) : Option (List Int) := (server_natsSubjectToMQTTTopic.f k l0).bind fun t132 => (some t132)
theorem server_SubjectToTopic.mono : ∀ a0 k, LeO (server_SubjectToTopic.f k a0) (server_SubjectToTopic.f (k + 1) a0) := by
  intro a0 k
  unfold server_SubjectToTopic.f
  repeat' first
      | (with_reducible exact server_natsSubjectToMQTTTopic.mono _ _)
      | (with_reducible exact LeO.refl _)
      | (with_reducible exact LeO.none _)
      | (with_reducible refine LeO.ite ?_ ?_)
      | (with_reducible refine LeO.bind ?_ (fun _ => ?_))
      | exact server_natsSubjectToMQTTTopic.mono _ _
      | exact LeO.none _
      | refine LeO.ite ?_ ?_
      | refine LeO.bind ?_ (fun _ => ?_)
set_option maxHeartbeats 8000000 in
set_option maxRecDepth 100000 in
theorem server_SubjectToTopic.calls (k : Nat) (A0 : Option Addr) (c0 : Nat) (l0 : List Int) (r : List Int) (w : World) (hr0 : Kd.C (Kd.int .u8) w A0 l0.length l0) (hc0 : l0.length ≤ c0) (h : server_SubjectToTopic.f k l0 = some r) :
    Calls Tryd.prog 20 #[.slice A0 l0.length c0] w fun e w' => ∃ v0_ : Value, e = .returned (v0_) ∧ Kd.R (Kd.int .u8) 5 w' w.heap.size (fun _ => True) v0_ r ∧ Below w.heap.size w w' := by
  have HR0 := Aside0.mk hr0
  have HC0 := Aside0.mk hc0
  clear hr0 hc0
  have HB := Aside0.mk (Below.refl w.heap.size w)
  have H : ((server_natsSubjectToMQTTTopic.f k l0).bind fun t132 => (some t132)) = some r := h
  clear h
  replace H := Option.bind_eq_some_iff.mp H
  obtain ⟨t132, A20, H⟩ := H
  replace H : (some t132) = some r := H
  have A2 := Aside0.mk A20
  clear A20
  obtain rfl := Option.some.inj H
  go_enter Tryd.func20, Tryd.ntmps20
  go_wp2_with (first | ((with_reducible refine gate_callee (f := 27) rfl ?_); refine goesL_ (some 4) rfl rfl Tryd.func27 (by kernel_rfl) rfl #[.slice A0 l0.length c0] rfl (by (try simp only [List.map_toArray, List.map_cons, List.map_nil]); first | done | rfl | (simp only [List.length_drop, List.length_take]; rfl)) ?_; (with_reducible refine (server_natsSubjectToMQTTTopic.calls k _ _ l0 t132 _ ?side1 ?side2 A2.out).mono ?_); (case side1 => repeat (first | exact HR0.out | (with_reducible refine Kd.C_alloc ?_ _) | (with_reducible refine Kd.C_drewN ?_ _) | (with_reducible refine Kd.C_drew ?_))); (case side2 => exact HC0.out); rintro e w3 ⟨v133, rfl, ho0, hb⟩; refine ⟨_, rfl, ?_⟩; have n0_ := Aside0.mk (Kd.R_lower ho0 (below_size (by repeat (first | (with_reducible first | exact HB.out | apply below_alloc | apply pw_below_drewN | apply below_drew1) | exact HB.out)))); have n1_ := Aside0.mk (below_step (by repeat (first | (with_reducible first | exact HB.out | apply below_alloc | apply pw_below_drewN | apply below_drew1) | exact HB.out)) hb); clear HB; have HO134 := n0_; have HB := n1_; clear n0_ n1_; (try clear hb); (try clear hb2); (try clear hk); (try clear hi); (try clear ho0)))
  go_ret
  exact ⟨_, by first | rfl | (simp [errW_none, errW_some] <;> rfl) | (simp [*, errW_none, errW_some] <;> rfl), by (with_reducible repeat (first | apply Kd.R_alloc | apply Kd.R_drewN | apply Kd.R_drew)); exact HO134.out, by repeat (first | (with_reducible first | exact HB.out | apply below_alloc | apply pw_below_drewN | apply below_drew1) | exact HB.out)⟩

/-! ### impl_SubjectTopic: function 9 -/
def impl_SubjectTopic.f (k : Nat) (l0 : List Int) : Option (List Int) := (impl_copied.f l0).bind fun t135 => ((server_SubjectToTopic.f k t135).bind fun t138 => (some t138))
theorem impl_SubjectTopic.mono : ∀ a0 k, LeO (impl_SubjectTopic.f k a0) (impl_SubjectTopic.f (k + 1) a0) := by
  intro a0 k
  unfold impl_SubjectTopic.f
  repeat' first
      | (with_reducible exact server_SubjectToTopic.mono _ _)
      | (with_reducible exact LeO.refl _)
      | (with_reducible exact LeO.none _)
      | (with_reducible refine LeO.ite ?_ ?_)
      | (with_reducible refine LeO.bind ?_ (fun _ => ?_))
      | exact server_SubjectToTopic.mono _ _
      | exact LeO.none _
      | refine LeO.ite ?_ ?_
      | refine LeO.bind ?_ (fun _ => ?_)
set_option maxHeartbeats 8000000 in
set_option maxRecDepth 100000 in
theorem impl_SubjectTopic.calls (k : Nat) (A0 : Option Addr) (c0 : Nat) (l0 : List Int) (r : List Int) (w : World) (hr0 : Kd.C (Kd.int .u8) w A0 l0.length l0) (hc0 : l0.length ≤ c0) (h : impl_SubjectTopic.f k l0 = some r) :
    Calls Tryd.prog 9 #[.slice A0 l0.length c0] w fun e w' => ∃ v0_ : Value, e = .returned (v0_) ∧ Kd.R (Kd.int .u8) 5 w' w.heap.size (fun _ => True) v0_ r ∧ Below w.heap.size w w' := by
  have HR0 := Aside0.mk hr0
  have HC0 := Aside0.mk hc0
  clear hr0 hc0
  have HB := Aside0.mk (Below.refl w.heap.size w)
  have H : ((impl_copied.f l0).bind fun t135 => ((server_SubjectToTopic.f k t135).bind fun t138 => (some t138))) = some r := h
  clear h
  replace H := Option.bind_eq_some_iff.mp H
  obtain ⟨t135, A20, H⟩ := H
  replace H : ((server_SubjectToTopic.f k t135).bind fun t138 => (some t138)) = some r := H
  have A2 := Aside0.mk A20
  clear A20
  replace H := Option.bind_eq_some_iff.mp H
  obtain ⟨t138, A30, H⟩ := H
  replace H : (some t138) = some r := H
  have A3 := Aside0.mk A30
  clear A30
  obtain rfl := Option.some.inj H
  go_enter Tryd.func9, Tryd.ntmps9
  go_wp2_with (first | ((with_reducible refine gate_callee (f := 17) rfl ?_); refine goesL_ (some 4) rfl rfl Tryd.func17 (by kernel_rfl) rfl #[.slice A0 l0.length c0] rfl (by (try simp only [List.map_toArray, List.map_cons, List.map_nil]); first | done | rfl | (simp only [List.length_drop, List.length_take]; rfl)) ?_; (with_reducible refine (impl_copied.calls _ _ l0 t135 _ ?side1 ?side2 A2.out).mono ?_); (case side1 => repeat (first | exact HR0.out | (with_reducible refine Kd.C_alloc ?_ _) | (with_reducible refine Kd.C_drewN ?_ _) | (with_reducible refine Kd.C_drew ?_))); (case side2 => exact HC0.out); rintro e w4 ⟨v136, rfl, ho0, hb⟩; refine ⟨_, rfl, ?_⟩; have n0_ := Aside0.mk (Kd.R_lower ho0 (below_size (by repeat (first | (with_reducible first | exact HB.out | apply below_alloc | apply pw_below_drewN | apply below_drew1) | exact HB.out)))); have n1_ := Aside0.mk (below_step (by repeat (first | (with_reducible first | exact HB.out | apply below_alloc | apply pw_below_drewN | apply below_drew1) | exact HB.out)) hb); clear HB; have HO137 := n0_; have HB := n1_; clear n0_ n1_; (try clear hb); (try clear hb2); (try clear hk); (try clear hi); (try clear ho0); obtain ⟨Ao5, co5, eo5⟩ := Kd.R_slice HO137.out; subst eo5) | ((with_reducible refine gate_callee (f := 20) rfl ?_); refine goesL_ (some 5) rfl rfl Tryd.func20 (by kernel_rfl) rfl #[.slice Ao5 t135.length co5] rfl (by (try simp only [List.map_toArray, List.map_cons, List.map_nil]); first | done | rfl | (simp only [List.length_drop, List.length_take]; rfl)) ?_; (with_reducible refine (server_SubjectToTopic.calls k _ _ t135 t138 _ ?side1 ?side2 A3.out).mono ?_); (case side1 => repeat (first | exact (Kd.R_reads' HO137.out).2.2 | (with_reducible refine Kd.C_alloc ?_ _) | (with_reducible refine Kd.C_drewN ?_ _) | (with_reducible refine Kd.C_drew ?_))); (case side2 => exact (Kd.R_reads' HO137.out).2.1); rintro e w6 ⟨v139, rfl, ho0, hb⟩; refine ⟨_, rfl, ?_⟩; have n0_ := Aside0.mk (Kd.R_elder' (by (with_reducible repeat (first | apply Kd.R_alloc | apply Kd.R_drewN | apply Kd.R_drew)); exact HO137.out) (Kd.R_base ho0) hb); have n1_ := Aside0.mk (Kd.R_lower (Kd.R_new' ho0 (Kd.R_lt (by (with_reducible repeat (first | apply Kd.R_alloc | apply Kd.R_drewN | apply Kd.R_drew)); exact HO137.out))) (below_size (by repeat (first | (with_reducible first | exact HB.out | apply below_alloc | apply pw_below_drewN | apply below_drew1) | exact HB.out)))); have n2_ := Aside0.mk (below_step (by repeat (first | (with_reducible first | exact HB.out | apply below_alloc | apply pw_below_drewN | apply below_drew1) | exact HB.out)) hb); clear HO137; clear HB; have HO137 := n0_; have HO140 := n1_; have HB := n2_; clear n0_ n1_ n2_; (try clear hb); (try clear hb2); (try clear hk); (try clear hi); (try clear ho0)))
  go_ret
  exact ⟨_, by first | rfl | (simp [errW_none, errW_some] <;> rfl) | (simp [*, errW_none, errW_some] <;> rfl), by (with_reducible repeat (first | apply Kd.R_alloc | apply Kd.R_drewN | apply Kd.R_drew)); exact Kd.R_mono HO140.out (fun _ hk => trivial), by repeat (first | (with_reducible first | exact HB.out | apply below_alloc | apply pw_below_drewN | apply below_drew1) | exact HB.out)⟩


end Go.Proofs.YtgbdjinanflhaaaDoor.GFnTopicBack
