/- A walk of Go functions (plain functions of theirs, and that the machine's calls do what these say), written by a program of this session's. -/
import Derived.Test.YtimffhpnfdikoaaDoorGFnListKindsx3
namespace Go.Proofs.YtimffhpnfdikoaaDoor.GFnListKinds
open Go.RowKit Go.Proofs.YtimffhpnfdikoaaDoorW.PrintWords Go.Proofs.YtimffhpnfdikoaaDoorW.PrintLast Go.Proofs.YtimffhpnfdikoaaDoorW.PrintMore
attribute [local go_sem] max2_int min2_int max_two min_two max_three min_three max_four min_four   -- for this text's walks alone
set_option linter.unusedVariables false
set_option linter.unusedSimpArgs false


/-! ### spec_Blank: function 72 -/
def spec_Blank.f (a0 : Int) : Option (Bool) := if a0 = 32 then (some true) else (if a0 = 9 then (some true) else (if a0 = 10 then (some true) else (if a0 = 13 then (some true) else (some (a0 == 12)))))
set_option maxHeartbeats 8000000 in
set_option maxRecDepth 100000 in
theorem spec_Blank.calls (a0 : Int) (r : Bool) (w : World) (h : spec_Blank.f a0 = some r) :
    Calls Tryd.prog 72 #[.int .u8 a0] w fun e w' => e = .returned (.bool r) ∧ Drawn0 w w' := by
  have H : (if a0 = 32 then (some true) else (if a0 = 9 then (some true) else (if a0 = 10 then (some true) else (if a0 = 13 then (some true) else (some (a0 == 12)))))) = some r := h
  clear h
  by_cases c2 : a0 = 32
  · rw [if_pos c2] at H
    have c2b0 : (a0 == 32) = true := beq_iff_eq.mpr c2
    have c2b1 : (a0 != 32) = false := bne_eq_false_iff_eq.mpr c2
    clear c2
    obtain rfl := Option.some.inj H
    go_enter Tryd.func72, Tryd.ntmps72
    go_wp2
    go_ret
    exact ⟨by first | rfl | (simp; done) | (simp [*]; done) | (simp; cases a0.toList <;> rfl) /- isEmpty -/, by repeat (first | exact Drawn0.refl _ | apply Drawn0.step)⟩
  · rw [if_neg c2] at H
    have c2b0 : (a0 == 32) = false := beq_eq_false_iff_ne.mpr c2
    have c2b1 : (a0 != 32) = true := bne_iff_ne.mpr c2
    by_cases c3 : a0 = 9
    · rw [if_pos c3] at H
      have c3b0 : (a0 == 9) = true := beq_iff_eq.mpr c3
      have c3b1 : (a0 != 9) = false := bne_eq_false_iff_eq.mpr c3
      clear c3
      obtain rfl := Option.some.inj H
      go_enter Tryd.func72, Tryd.ntmps72
      go_wp2
      go_ret
      exact ⟨by first | rfl | (simp; done) | (simp [*]; done) | (simp; cases a0.toList <;> rfl) /- isEmpty -/, by repeat (first | exact Drawn0.refl _ | apply Drawn0.step)⟩
    · rw [if_neg c3] at H
      have c3b0 : (a0 == 9) = false := beq_eq_false_iff_ne.mpr c3
      have c3b1 : (a0 != 9) = true := bne_iff_ne.mpr c3
      by_cases c4 : a0 = 10
      · rw [if_pos c4] at H
        have c4b0 : (a0 == 10) = true := beq_iff_eq.mpr c4
        have c4b1 : (a0 != 10) = false := bne_eq_false_iff_eq.mpr c4
        clear c4
        obtain rfl := Option.some.inj H
        go_enter Tryd.func72, Tryd.ntmps72
        go_wp2
        go_ret
        exact ⟨by first | rfl | (simp; done) | (simp [*]; done) | (simp; cases a0.toList <;> rfl) /- isEmpty -/, by repeat (first | exact Drawn0.refl _ | apply Drawn0.step)⟩
      · rw [if_neg c4] at H
        have c4b0 : (a0 == 10) = false := beq_eq_false_iff_ne.mpr c4
        have c4b1 : (a0 != 10) = true := bne_iff_ne.mpr c4
        by_cases c5 : a0 = 13
        · rw [if_pos c5] at H
          have c5b0 : (a0 == 13) = true := beq_iff_eq.mpr c5
          have c5b1 : (a0 != 13) = false := bne_eq_false_iff_eq.mpr c5
          clear c5
          obtain rfl := Option.some.inj H
          go_enter Tryd.func72, Tryd.ntmps72
          go_wp2
          go_ret
          exact ⟨by first | rfl | (simp; done) | (simp [*]; done) | (simp; cases a0.toList <;> rfl) /- isEmpty -/, by repeat (first | exact Drawn0.refl _ | apply Drawn0.step)⟩
        · rw [if_neg c5] at H
          have c5b0 : (a0 == 13) = false := beq_eq_false_iff_ne.mpr c5
          have c5b1 : (a0 != 13) = true := bne_iff_ne.mpr c5
          obtain rfl := Option.some.inj H
          go_enter Tryd.func72, Tryd.ntmps72
          go_wp2
          go_ret
          exact ⟨by first | rfl | (simp; done) | (simp [*]; done) | (simp; cases a0.toList <;> rfl) /- isEmpty -/, by repeat (first | exact Drawn0.refl _ | apply Drawn0.step)⟩

/-! ### spec_Spaced: function 53 -/
def spec_Spaced.l0 : Nat → ByteArray → Int → Option (Bool)
  | 0, _, _ => none
  | k + 1, x0, x3 => if x3 < (x0.size : Int) then (if 0 ≤ x3 then ((spec_Blank.f (bt x0 x3)).bind fun t267 => (if t267 = true then (some true) else (spec_Spaced.l0 k x0 (wrap64 (x3 + 1))))) else (none)) else (some false)
def spec_Spaced.f (k : Nat) (a0 : ByteArray) : Option (Bool) := spec_Spaced.l0 k a0 0
theorem spec_Spaced.mono_l : ∀ k, (∀ y0 y1, LeO (spec_Spaced.l0 k y0 y1) (spec_Spaced.l0 (k + 1) y0 y1))
  | 0 => fun _ _ r h => by simp [spec_Spaced.l0] at h
  | k + 1 => by
    have ih0 := spec_Spaced.mono_l k
    · intro y0 y1
      unfold spec_Spaced.l0
      repeat' first
      | (with_reducible exact ih0 _ _)
      | (with_reducible exact LeO.refl _)
      | (with_reducible exact LeO.none _)
      | (with_reducible refine LeO.ite ?_ ?_)
      | (with_reducible refine LeO.bind ?_ (fun _ => ?_))
      | exact ih0 _ _
      | exact LeO.none _
      | refine LeO.ite ?_ ?_
      | refine LeO.bind ?_ (fun _ => ?_)
theorem spec_Spaced.mono : ∀ a0 k, LeO (spec_Spaced.f k a0) (spec_Spaced.f (k + 1) a0) := by
  intro a0 k
  have ih0 := spec_Spaced.mono_l k
  unfold spec_Spaced.f
  repeat' first
      | (with_reducible exact ih0 _ _)
      | (with_reducible exact LeO.refl _)
      | (with_reducible exact LeO.none _)
      | (with_reducible refine LeO.ite ?_ ?_)
      | (with_reducible refine LeO.bind ?_ (fun _ => ?_))
      | exact ih0 _ _
      | exact LeO.none _
      | refine LeO.ite ?_ ?_
      | refine LeO.bind ?_ (fun _ => ?_)
set_option maxHeartbeats 8000000 in
set_option maxRecDepth 100000 in
theorem spec_Spaced.calls (k : Nat) (a0 : ByteArray) (r : Bool) (w : World) (h : spec_Spaced.f k a0 = some r) :
    Calls Tryd.prog 53 #[.string a0] w fun e w' => e = .returned (.bool r) ∧ Drawn0 w w' := by
  have H : (spec_Spaced.l0 k a0 0) = some r := h
  clear h
  have H' := Aside0.mk H
  clear H
  go_enter Tryd.func53, Tryd.ntmps53
  go_wp2
  go_loopg [3] k (fun kq v3 w' => ∃ (x3_1 : Int), v3 = .int .i64 x3_1 ∧ Aside0 (spec_Spaced.l0 kq a0 x3_1 = some r) ∧ Aside0 (kq ≤ k) ∧ Drawn0 w w')
  case atStart => exact ⟨(0), (by first | rfl | (simp; done) | (simp [*]; done)), H', ⟨Nat.le_refl _⟩, by repeat (first | exact Drawn0.refl _ | apply Drawn0.step)⟩
  case round =>
    clear H'
    obtain ⟨x3_1, rfl, HA, HK1, ⟨m1, rfl⟩⟩ := hrel
    cases gk with
    | zero => exact absurd HA.out (by simp [spec_Spaced.l0])
    | succ k1 =>
      have H := HA.out
      clear HA
      simp only [spec_Spaced.l0] at H
      by_cases c2 : x3_1 < (a0.size : Int)
      · rw [if_pos c2] at H
        have c2b0 : decide (x3_1 < (a0.size : Int)) = true := decide_eq_true c2
        clear c2
        by_cases c3 : 0 ≤ x3_1
        · rw [if_pos c3] at H
          have c3b0 : decide (0 ≤ x3_1) = true := decide_eq_true c3
          clear c3
          replace H := Option.bind_eq_some_iff.mp H
          obtain ⟨t267, A50, H⟩ := H
          replace H : (if t267 = true then (some true) else (spec_Spaced.l0 k1 a0 (wrap64 (x3_1 + 1)))) = some r := H
          have A5 := Aside0.mk A50
          clear A50
          by_cases c6 : t267 = true
          · subst c6
            have H1 : (some true) = some r := by rw [if_pos rfl] at H; exact H
            clear H
            have H := H1
            clear H1
            obtain rfl := Option.some.inj H
            have p4 : 0 ≤ (x3_1 : Int) := of_decide_eq_true (by first | (with_reducible assumption) | assumption)
            have q4 : x3_1 < (a0.size : Int) := of_decide_eq_true (by first | (with_reducible assumption) | assumption)
            have hx4 := bt_at a0 x3_1
            replace p4 := eq_true p4
            replace q4 := eq_true q4
            go_wp2_with (first | ((with_reducible refine gate_callee (f := 72) rfl ?_); refine goesL_ (some 13) rfl rfl Tryd.func72 (by kernel_rfl) rfl #[.int .u8 (bt a0 x3_1)] rfl (by (try simp only [List.map_toArray, List.map_cons, List.map_nil]); first | done | rfl | (simp only [List.length_drop, List.length_take]; rfl)) ?_; (with_reducible refine (spec_Blank.calls (bt a0 x3_1) true _ A5.out).mono ?_); rintro e w' ⟨rfl, ⟨nd, rfl⟩⟩; refine ⟨_, rfl, ?_⟩))
            go_ret
            exact ⟨by first | rfl | (simp; done) | (simp [*]; done) | (simp; cases a0.toList <;> rfl) /- isEmpty -/, by repeat (first | exact Drawn0.refl _ | apply Drawn0.step)⟩
          · replace c6 := Bool.eq_false_iff.mpr c6
            subst c6
            have H1 : (spec_Spaced.l0 k1 a0 (wrap64 (x3_1 + 1))) = some r := by rw [if_neg (show ¬ (false = true) by decide)] at H; exact H
            clear H
            have H := H1
            clear H1
            have H' := Aside0.mk H
            clear H
            have p4 : 0 ≤ (x3_1 : Int) := of_decide_eq_true (by first | (with_reducible assumption) | assumption)
            have q4 : x3_1 < (a0.size : Int) := of_decide_eq_true (by first | (with_reducible assumption) | assumption)
            have hx4 := bt_at a0 x3_1
            replace p4 := eq_true p4
            replace q4 := eq_true q4
            go_wp2_with (first | ((with_reducible refine gate_callee (f := 72) rfl ?_); refine goesL_ (some 13) rfl rfl Tryd.func72 (by kernel_rfl) rfl #[.int .u8 (bt a0 x3_1)] rfl (by (try simp only [List.map_toArray, List.map_cons, List.map_nil]); first | done | rfl | (simp only [List.length_drop, List.length_take]; rfl)) ?_; (with_reducible refine (spec_Blank.calls (bt a0 x3_1) false _ A5.out).mono ?_); rintro e w' ⟨rfl, ⟨nd, rfl⟩⟩; refine ⟨_, rfl, ?_⟩))
            go_roundg k1
            case measure => have := HK1.out; omega
            case rel => exact ⟨(wrap64 (x3_1 + 1)), (by first | rfl | (simp; done) | (simp [*]; done)), H', ⟨by have := HK1.out; omega⟩, by repeat (first | exact Drawn0.refl _ | apply Drawn0.step)⟩
        · rw [if_neg c3] at H
          exact absurd H (by simp)
      · rw [if_neg c2] at H
        have c2b0 : decide (x3_1 < (a0.size : Int)) = false := decide_eq_false c2
        clear c2
        obtain rfl := Option.some.inj H
        go_wp2
        go_ret
        exact ⟨by first | rfl | (simp; done) | (simp [*]; done) | (simp; cases a0.toList <;> rfl) /- isEmpty -/, by repeat (first | exact Drawn0.refl _ | apply Drawn0.step)⟩

/-! ### spec_Valid: function 35 -/
def spec_Valid.f (k : Nat) (a0 : ByteArray) : Option (Bool) := (spec_Tokens.f k a0).bind fun t268 => ((spec_Formed.f k t268).bind fun t271 => (if t271 = true then ((spec_Spaced.f k a0).bind fun t272 => (some (!t272))) else (some false)))
theorem spec_Valid.mono : ∀ a0 k, LeO (spec_Valid.f k a0) (spec_Valid.f (k + 1) a0) := by
  intro a0 k
  unfold spec_Valid.f
  repeat' first
      | (with_reducible exact spec_Formed.mono _ _)
      | (with_reducible exact spec_Spaced.mono _ _)
      | (with_reducible exact spec_Tokens.mono _ _)
      | (with_reducible exact LeO.refl _)
      | (with_reducible exact LeO.none _)
      | (with_reducible refine LeO.ite ?_ ?_)
      | (with_reducible refine LeO.bind ?_ (fun _ => ?_))
      | exact spec_Formed.mono _ _
      | exact spec_Spaced.mono _ _
      | exact spec_Tokens.mono _ _
      | exact LeO.none _
      | refine LeO.ite ?_ ?_
      | refine LeO.bind ?_ (fun _ => ?_)
set_option maxHeartbeats 8000000 in
set_option maxRecDepth 100000 in
theorem spec_Valid.calls (k : Nat) (a0 : ByteArray) (r : Bool) (w : World) (h : spec_Valid.f k a0 = some r) :
    Calls Tryd.prog 35 #[.string a0] w fun e w' => e = .returned (.bool r) ∧ Below w.heap.size w w' := by
  have HB := Aside0.mk (Below.refl w.heap.size w)
  have H : ((spec_Tokens.f k a0).bind fun t268 => ((spec_Formed.f k t268).bind fun t271 => (if t271 = true then ((spec_Spaced.f k a0).bind fun t272 => (some (!t272))) else (some false)))) = some r := h
  clear h
  replace H := Option.bind_eq_some_iff.mp H
  obtain ⟨t268, A20, H⟩ := H
  replace H : ((spec_Formed.f k t268).bind fun t271 => (if t271 = true then ((spec_Spaced.f k a0).bind fun t272 => (some (!t272))) else (some false))) = some r := H
  have A2 := Aside0.mk A20
  clear A20
  replace H := Option.bind_eq_some_iff.mp H
  obtain ⟨t271, A30, H⟩ := H
  replace H : (if t271 = true then ((spec_Spaced.f k a0).bind fun t272 => (some (!t272))) else (some false)) = some r := H
  have A3 := Aside0.mk A30
  clear A30
  by_cases c4 : t271 = true
  · subst c4
    have H1 : ((spec_Spaced.f k a0).bind fun t272 => (some (!t272))) = some r := by rw [if_pos rfl] at H; exact H
    clear H
    have H := H1
    clear H1
    replace H := Option.bind_eq_some_iff.mp H
    obtain ⟨t272, A50, H⟩ := H
    replace H : (some (!t272)) = some r := H
    have A5 := Aside0.mk A50
    clear A50
    obtain rfl := Option.some.inj H
    go_enter Tryd.func35, Tryd.ntmps35
    go_wp2_with (first | ((with_reducible refine gate_callee (f := 32) rfl ?_); refine goesL_ (some 4) rfl rfl Tryd.func32 (by kernel_rfl) rfl #[.string a0] rfl (by (try simp only [List.map_toArray, List.map_cons, List.map_nil]); first | done | rfl | (simp only [List.length_drop, List.length_take]; rfl)) ?_; (with_reducible refine (spec_Tokens.calls k a0 t268 _ A2.out).mono ?_); rintro e w6 ⟨v269, rfl, ho0, hb⟩; refine ⟨_, rfl, ?_⟩; have n0_ := Aside0.mk (Kd.R_lower ho0 (below_size (by repeat (first | (with_reducible first | exact HB.out | apply below_alloc | apply pw_below_drewN | apply below_drew1) | exact HB.out)))); have n1_ := Aside0.mk (below_step (by repeat (first | (with_reducible first | exact HB.out | apply below_alloc | apply pw_below_drewN | apply below_drew1) | exact HB.out)) hb); clear HB; have HO270 := n0_; have HB := n1_; clear n0_ n1_; (try clear hb); (try clear hb2); (try clear hk); (try clear hi); (try clear ho0); obtain ⟨Ao7, co7, eo7⟩ := Kd.R_slice HO270.out; subst eo7) | ((with_reducible refine gate_callee (f := 31) rfl ?_); refine goesL_ (some 5) rfl rfl Tryd.func31 (by kernel_rfl) rfl #[.slice Ao7 t268.length co7] rfl (by (try simp only [List.map_toArray, List.map_cons, List.map_nil]); first | done | rfl | (simp only [List.length_drop, List.length_take]; rfl)) ?_; (with_reducible refine (spec_Formed.calls k _ _ t268 true _ ?side1 ?side2 A3.out).mono ?_); (case side1 => repeat (first | exact (Kd.R_reads' HO270.out).2.2 | (with_reducible refine Kd.C_alloc ?_ _) | (with_reducible refine Kd.C_drewN ?_ _) | (with_reducible refine Kd.C_drew ?_))); (case side2 => exact (Kd.R_reads' HO270.out).2.1); rintro e w' ⟨rfl, ⟨nd, rfl⟩⟩; refine ⟨_, rfl, ?_⟩) | (go_at_call 53; (with_reducible refine (spec_Spaced.calls k a0 t272 _ A5.out).mono ?_); rintro e w' ⟨rfl, ⟨nd, rfl⟩⟩))
    go_ret
    exact ⟨by first | rfl | (simp [errW_none, errW_some] <;> rfl) | (simp [*, errW_none, errW_some] <;> rfl), by repeat (first | (with_reducible first | exact HB.out | apply below_alloc | apply pw_below_drewN | apply below_drew1) | exact HB.out)⟩
  · replace c4 := Bool.eq_false_iff.mpr c4
    subst c4
    have H1 : (some false) = some r := by rw [if_neg (show ¬ (false = true) by decide)] at H; exact H
    clear H
    have H := H1
    clear H1
    obtain rfl := Option.some.inj H
    go_enter Tryd.func35, Tryd.ntmps35
    go_wp2_with (first | ((with_reducible refine gate_callee (f := 32) rfl ?_); refine goesL_ (some 4) rfl rfl Tryd.func32 (by kernel_rfl) rfl #[.string a0] rfl (by (try simp only [List.map_toArray, List.map_cons, List.map_nil]); first | done | rfl | (simp only [List.length_drop, List.length_take]; rfl)) ?_; (with_reducible refine (spec_Tokens.calls k a0 t268 _ A2.out).mono ?_); rintro e w8 ⟨v269, rfl, ho0, hb⟩; refine ⟨_, rfl, ?_⟩; have n0_ := Aside0.mk (Kd.R_lower ho0 (below_size (by repeat (first | (with_reducible first | exact HB.out | apply below_alloc | apply pw_below_drewN | apply below_drew1) | exact HB.out)))); have n1_ := Aside0.mk (below_step (by repeat (first | (with_reducible first | exact HB.out | apply below_alloc | apply pw_below_drewN | apply below_drew1) | exact HB.out)) hb); clear HB; have HO270 := n0_; have HB := n1_; clear n0_ n1_; (try clear hb); (try clear hb2); (try clear hk); (try clear hi); (try clear ho0); obtain ⟨Ao9, co9, eo9⟩ := Kd.R_slice HO270.out; subst eo9) | ((with_reducible refine gate_callee (f := 31) rfl ?_); refine goesL_ (some 5) rfl rfl Tryd.func31 (by kernel_rfl) rfl #[.slice Ao9 t268.length co9] rfl (by (try simp only [List.map_toArray, List.map_cons, List.map_nil]); first | done | rfl | (simp only [List.length_drop, List.length_take]; rfl)) ?_; (with_reducible refine (spec_Formed.calls k _ _ t268 false _ ?side1 ?side2 A3.out).mono ?_); (case side1 => repeat (first | exact (Kd.R_reads' HO270.out).2.2 | (with_reducible refine Kd.C_alloc ?_ _) | (with_reducible refine Kd.C_drewN ?_ _) | (with_reducible refine Kd.C_drew ?_))); (case side2 => exact (Kd.R_reads' HO270.out).2.1); rintro e w' ⟨rfl, ⟨nd, rfl⟩⟩; refine ⟨_, rfl, ?_⟩))
    go_ret
    exact ⟨by first | rfl | (simp [errW_none, errW_some] <;> rfl) | (simp [*, errW_none, errW_some] <;> rfl), by repeat (first | (with_reducible first | exact HB.out | apply below_alloc | apply pw_below_drewN | apply below_drew1) | exact HB.out)⟩


end Go.Proofs.YtimffhpnfdikoaaDoor.GFnListKinds
