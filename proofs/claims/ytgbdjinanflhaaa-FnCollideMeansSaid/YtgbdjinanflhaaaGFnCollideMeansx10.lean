/- A walk of Go functions (plain functions of theirs, and that the machine's calls do what these say), written by a program of this session's. -/
import Derived.Test.YtgbdjinanflhaaaGFnCollideMeansx0
import Derived.Test.YtgbdjinanflhaaaGFnCollideMeansx1
import Derived.Test.YtgbdjinanflhaaaGFnCollideMeansx9
namespace Go.Proofs.Ytgbdjinanflhaaa.GFnCollideMeans
open Go.RowKit Go.Proofs.YtgbdjinanflhaaaW.PrintWords Go.Proofs.YtgbdjinanflhaaaW.PrintLast Go.Proofs.YtgbdjinanflhaaaW.PrintMore
attribute [local go_sem] max2_int min2_int max_two min_two max_three min_three max_four min_four   -- for this text's walks alone
set_option linter.unusedVariables false
set_option linter.unusedSimpArgs false

/-! ### spec_Common: function 15 -/
mutual
def spec_Common.l0 : Nat → ByteArray → List ByteArray → List ByteArray → List ByteArray → Int → Option (ByteArray)
  | 0, _, _, _, _, _ => none
  | k + 1, x2, x7, x8, x9, x10 => if x10 < (x7.length : Int) then (spec_Common.j1 k x2 x7 x8 x9 x10 true) else (spec_Common.j1 k x2 x7 x8 x9 x10 (decide (x10 < (x8.length : Int))))
def spec_Common.j1 : Nat → ByteArray → List ByteArray → List ByteArray → List ByteArray → Int → Bool → Option (ByteArray)
  | 0, _, _, _, _, _, _ => none
  | k + 1, x2, x7, x8, x9, x10, x26 => if x26 = true then (if x10 < (x7.length : Int) then (if 0 ≤ x10 then (spec_Common.j2 k x2 x7 x8 x9 x10 (rdOf ByteArray.empty x7 x10) (⟨#[62]⟩ : ByteArray)) else (none)) else (spec_Common.j2 k x2 x7 x8 x9 x10 (⟨#[62]⟩ : ByteArray) (⟨#[62]⟩ : ByteArray))) else ((spec_Join.f k x9).bind fun t176 => (some t176))
def spec_Common.j2 : Nat → ByteArray → List ByteArray → List ByteArray → List ByteArray → Int → ByteArray → ByteArray → Option (ByteArray)
  | 0, _, _, _, _, _, _, _ => none
  | k + 1, x2, x7, x8, x9, x10, x11, x12 => if x10 < (x8.length : Int) then (if 0 ≤ x10 then (spec_Common.j3 k x2 x7 x8 x9 x10 x11 (rdOf ByteArray.empty x8 x10)) else (none)) else (spec_Common.j3 k x2 x7 x8 x9 x10 x11 x12)
def spec_Common.j3 : Nat → ByteArray → List ByteArray → List ByteArray → List ByteArray → Int → ByteArray → ByteArray → Option (ByteArray)
  | 0, _, _, _, _, _, _, _ => none
  | k + 1, x2, x7, x8, x9, x10, x11, x12 => if x11.toList = ([62] : List UInt8) then (spec_Common.j4 k x2 x7 x8 x9 x10 x11 x12 true) else (spec_Common.j4 k x2 x7 x8 x9 x10 x11 x12 (x11.toList == ([42] : List UInt8)))
def spec_Common.j4 : Nat → ByteArray → List ByteArray → List ByteArray → List ByteArray → Int → ByteArray → ByteArray → Bool → Option (ByteArray)
  | 0, _, _, _, _, _, _, _, _ => none
  | k + 1, x2, x7, x8, x9, x10, x11, x12, x50 => if x50 = true then (if x12.toList = ([62] : List UInt8) then (if x9.length < 8796093022208 then (spec_Common.l0 k x2 x7 x8 (x9 ++ [x2]) (wrap64 (x10 + 1))) else (none)) else (if x12.toList = ([42] : List UInt8) then (if x9.length < 8796093022208 then (spec_Common.l0 k x2 x7 x8 (x9 ++ [x2]) (wrap64 (x10 + 1))) else (none)) else (if x9.length < 8796093022208 then (spec_Common.l0 k x2 x7 x8 (x9 ++ [x12]) (wrap64 (x10 + 1))) else (none)))) else (if x11.toList = ([62] : List UInt8) then (if x9.length < 8796093022208 then (spec_Common.l0 k x2 x7 x8 (x9 ++ [x2]) (wrap64 (x10 + 1))) else (none)) else (if x11.toList = ([42] : List UInt8) then (if x9.length < 8796093022208 then (spec_Common.l0 k x2 x7 x8 (x9 ++ [x2]) (wrap64 (x10 + 1))) else (none)) else (if x9.length < 8796093022208 then (spec_Common.l0 k x2 x7 x8 (x9 ++ [x11]) (wrap64 (x10 + 1))) else (none))))
end
def spec_Common.f (k : Nat) (a0 : ByteArray) (a1 : ByteArray) (a2 : ByteArray) : Option (ByteArray) := (spec_Tokens.f k a0).bind fun t170 => ((spec_Tokens.f k a1).bind fun t173 => (spec_Common.l0 k a2 t170 t173 ([] : List ByteArray) 0))
theorem spec_Common.mono_l : ∀ k, (∀ y0 y1 y2 y3 y4, LeO (spec_Common.l0 k y0 y1 y2 y3 y4) (spec_Common.l0 (k + 1) y0 y1 y2 y3 y4)) ∧ (∀ y0 y1 y2 y3 y4 y5, LeO (spec_Common.j1 k y0 y1 y2 y3 y4 y5) (spec_Common.j1 (k + 1) y0 y1 y2 y3 y4 y5)) ∧ (∀ y0 y1 y2 y3 y4 y5 y6, LeO (spec_Common.j2 k y0 y1 y2 y3 y4 y5 y6) (spec_Common.j2 (k + 1) y0 y1 y2 y3 y4 y5 y6)) ∧ (∀ y0 y1 y2 y3 y4 y5 y6, LeO (spec_Common.j3 k y0 y1 y2 y3 y4 y5 y6) (spec_Common.j3 (k + 1) y0 y1 y2 y3 y4 y5 y6)) ∧ (∀ y0 y1 y2 y3 y4 y5 y6 y7, LeO (spec_Common.j4 k y0 y1 y2 y3 y4 y5 y6 y7) (spec_Common.j4 (k + 1) y0 y1 y2 y3 y4 y5 y6 y7))
  | 0 => ⟨fun _ _ _ _ _ r h => by simp [spec_Common.l0] at h, fun _ _ _ _ _ _ r h => by simp [spec_Common.j1] at h, fun _ _ _ _ _ _ _ r h => by simp [spec_Common.j2] at h, fun _ _ _ _ _ _ _ r h => by simp [spec_Common.j3] at h, fun _ _ _ _ _ _ _ _ r h => by simp [spec_Common.j4] at h⟩
  | k + 1 => by
    obtain ⟨ih0, ih1, ih2, ih3, ih4⟩ := spec_Common.mono_l k
    refine ⟨?_, ?_, ?_, ?_, ?_⟩
    · intro y0 y1 y2 y3 y4
      unfold spec_Common.l0
      repeat' first
      | (with_reducible exact ih0 _ _ _ _ _)
      | (with_reducible exact ih1 _ _ _ _ _ _)
      | (with_reducible exact ih2 _ _ _ _ _ _ _)
      | (with_reducible exact ih3 _ _ _ _ _ _ _)
      | (with_reducible exact ih4 _ _ _ _ _ _ _ _)
      | (with_reducible exact spec_Join.mono _ _)
      | (with_reducible exact spec_Tokens.mono _ _)
      | (with_reducible exact LeO.refl _)
      | (with_reducible exact LeO.none _)
      | (with_reducible refine LeO.ite ?_ ?_)
      | (with_reducible refine LeO.bind ?_ (fun _ => ?_))
      | exact ih0 _ _ _ _ _
      | exact ih1 _ _ _ _ _ _
      | exact ih2 _ _ _ _ _ _ _
      | exact ih3 _ _ _ _ _ _ _
      | exact ih4 _ _ _ _ _ _ _ _
      | exact spec_Join.mono _ _
      | exact spec_Tokens.mono _ _
      | exact LeO.none _
      | refine LeO.ite ?_ ?_
      | refine LeO.bind ?_ (fun _ => ?_)
    · intro y0 y1 y2 y3 y4 y5
      unfold spec_Common.j1
      repeat' first
      | (with_reducible exact ih0 _ _ _ _ _)
      | (with_reducible exact ih1 _ _ _ _ _ _)
      | (with_reducible exact ih2 _ _ _ _ _ _ _)
      | (with_reducible exact ih3 _ _ _ _ _ _ _)
      | (with_reducible exact ih4 _ _ _ _ _ _ _ _)
      | (with_reducible exact spec_Join.mono _ _)
      | (with_reducible exact spec_Tokens.mono _ _)
      | (with_reducible exact LeO.refl _)
      | (with_reducible exact LeO.none _)
      | (with_reducible refine LeO.ite ?_ ?_)
      | (with_reducible refine LeO.bind ?_ (fun _ => ?_))
      | exact ih0 _ _ _ _ _
      | exact ih1 _ _ _ _ _ _
      | exact ih2 _ _ _ _ _ _ _
      | exact ih3 _ _ _ _ _ _ _
      | exact ih4 _ _ _ _ _ _ _ _
      | exact spec_Join.mono _ _
      | exact spec_Tokens.mono _ _
      | exact LeO.none _
      | refine LeO.ite ?_ ?_
      | refine LeO.bind ?_ (fun _ => ?_)
    · intro y0 y1 y2 y3 y4 y5 y6
      unfold spec_Common.j2
      repeat' first
      | (with_reducible exact ih0 _ _ _ _ _)
      | (with_reducible exact ih1 _ _ _ _ _ _)
      | (with_reducible exact ih2 _ _ _ _ _ _ _)
      | (with_reducible exact ih3 _ _ _ _ _ _ _)
      | (with_reducible exact ih4 _ _ _ _ _ _ _ _)
      | (with_reducible exact spec_Join.mono _ _)
      | (with_reducible exact spec_Tokens.mono _ _)
      | (with_reducible exact LeO.refl _)
      | (with_reducible exact LeO.none _)
      | (with_reducible refine LeO.ite ?_ ?_)
      | (with_reducible refine LeO.bind ?_ (fun _ => ?_))
      | exact ih0 _ _ _ _ _
      | exact ih1 _ _ _ _ _ _
      | exact ih2 _ _ _ _ _ _ _
      | exact ih3 _ _ _ _ _ _ _
      | exact ih4 _ _ _ _ _ _ _ _
      | exact spec_Join.mono _ _
      | exact spec_Tokens.mono _ _
      | exact LeO.none _
      | refine LeO.ite ?_ ?_
      | refine LeO.bind ?_ (fun _ => ?_)
    · intro y0 y1 y2 y3 y4 y5 y6
      unfold spec_Common.j3
      repeat' first
      | (with_reducible exact ih0 _ _ _ _ _)
      | (with_reducible exact ih1 _ _ _ _ _ _)
      | (with_reducible exact ih2 _ _ _ _ _ _ _)
      | (with_reducible exact ih3 _ _ _ _ _ _ _)
      | (with_reducible exact ih4 _ _ _ _ _ _ _ _)
      | (with_reducible exact spec_Join.mono _ _)
      | (with_reducible exact spec_Tokens.mono _ _)
      | (with_reducible exact LeO.refl _)
      | (with_reducible exact LeO.none _)
      | (with_reducible refine LeO.ite ?_ ?_)
      | (with_reducible refine LeO.bind ?_ (fun _ => ?_))
      | exact ih0 _ _ _ _ _
      | exact ih1 _ _ _ _ _ _
      | exact ih2 _ _ _ _ _ _ _
      | exact ih3 _ _ _ _ _ _ _
      | exact ih4 _ _ _ _ _ _ _ _
      | exact spec_Join.mono _ _
      | exact spec_Tokens.mono _ _
      | exact LeO.none _
      | refine LeO.ite ?_ ?_
      | refine LeO.bind ?_ (fun _ => ?_)
    · intro y0 y1 y2 y3 y4 y5 y6 y7
      unfold spec_Common.j4
      repeat' first
      | (with_reducible exact ih0 _ _ _ _ _)
      | (with_reducible exact ih1 _ _ _ _ _ _)
      | (with_reducible exact ih2 _ _ _ _ _ _ _)
      | (with_reducible exact ih3 _ _ _ _ _ _ _)
      | (with_reducible exact ih4 _ _ _ _ _ _ _ _)
      | (with_reducible exact spec_Join.mono _ _)
      | (with_reducible exact spec_Tokens.mono _ _)
      | (with_reducible exact LeO.refl _)
      | (with_reducible exact LeO.none _)
      | (with_reducible refine LeO.ite ?_ ?_)
      | (with_reducible refine LeO.bind ?_ (fun _ => ?_))
      | exact ih0 _ _ _ _ _
      | exact ih1 _ _ _ _ _ _
      | exact ih2 _ _ _ _ _ _ _
      | exact ih3 _ _ _ _ _ _ _
      | exact ih4 _ _ _ _ _ _ _ _
      | exact spec_Join.mono _ _
      | exact spec_Tokens.mono _ _
      | exact LeO.none _
      | refine LeO.ite ?_ ?_
      | refine LeO.bind ?_ (fun _ => ?_)
theorem spec_Common.mono : ∀ a0 a1 a2 k, LeO (spec_Common.f k a0 a1 a2) (spec_Common.f (k + 1) a0 a1 a2) := by
  intro a0 a1 a2 k
  obtain ⟨ih0, ih1, ih2, ih3, ih4⟩ := spec_Common.mono_l k
  unfold spec_Common.f
  repeat' first
      | (with_reducible exact ih0 _ _ _ _ _)
      | (with_reducible exact ih1 _ _ _ _ _ _)
      | (with_reducible exact ih2 _ _ _ _ _ _ _)
      | (with_reducible exact ih3 _ _ _ _ _ _ _)
      | (with_reducible exact ih4 _ _ _ _ _ _ _ _)
      | (with_reducible exact spec_Join.mono _ _)
      | (with_reducible exact spec_Tokens.mono _ _)
      | (with_reducible exact LeO.refl _)
      | (with_reducible exact LeO.none _)
      | (with_reducible refine LeO.ite ?_ ?_)
      | (with_reducible refine LeO.bind ?_ (fun _ => ?_))
      | exact ih0 _ _ _ _ _
      | exact ih1 _ _ _ _ _ _
      | exact ih2 _ _ _ _ _ _ _
      | exact ih3 _ _ _ _ _ _ _
      | exact ih4 _ _ _ _ _ _ _ _
      | exact spec_Join.mono _ _
      | exact spec_Tokens.mono _ _
      | exact LeO.none _
      | refine LeO.ite ?_ ?_
      | refine LeO.bind ?_ (fun _ => ?_)
set_option maxHeartbeats 8000000 in
set_option maxRecDepth 100000 in
theorem spec_Common.calls (k : Nat) (a0 : ByteArray) (a1 : ByteArray) (a2 : ByteArray) (r : ByteArray) (w : World) (h : spec_Common.f k a0 a1 a2 = some r) :
    Calls Try.prog 15 #[.string a0, .string a1, .string a2] w fun e w' => e = .returned (.string r) ∧ Below w.heap.size w w' := by
  have HB := Aside0.mk (Below.refl w.heap.size w)
  have H : ((spec_Tokens.f k a0).bind fun t170 => ((spec_Tokens.f k a1).bind fun t173 => (spec_Common.l0 k a2 t170 t173 ([] : List ByteArray) 0))) = some r := h
  clear h
  replace H := Option.bind_eq_some_iff.mp H
  obtain ⟨t170, A40, H⟩ := H
  replace H : ((spec_Tokens.f k a1).bind fun t173 => (spec_Common.l0 k a2 t170 t173 ([] : List ByteArray) 0)) = some r := H
  have A4 := Aside0.mk A40
  clear A40
  replace H := Option.bind_eq_some_iff.mp H
  obtain ⟨t173, A50, H⟩ := H
  replace H : (spec_Common.l0 k a2 t170 t173 ([] : List ByteArray) 0) = some r := H
  have A5 := Aside0.mk A50
  clear A50
  have H' := Aside0.mk H
  clear H
  go_enter Try.func15, Try.ntmps15
  go_wp2_with (first | ((with_reducible refine gate_callee (f := 26) rfl ?_); refine goesL_ (some 14) rfl rfl Try.func26 (by kernel_rfl) rfl #[.string a0] rfl (by (try simp only [List.map_toArray, List.map_cons, List.map_nil]); first | done | rfl | (simp only [List.length_drop, List.length_take]; rfl)) ?_; (with_reducible refine (spec_Tokens.calls k a0 t170 _ A4.out).mono ?_); rintro e w6 ⟨v171, rfl, ho0, hb⟩; refine ⟨_, rfl, ?_⟩; have n0_ := Aside0.mk (Kd.R_lower ho0 (below_size (by repeat (first | (with_reducible first | exact HB.out | apply below_alloc | apply pw_below_drewN | apply below_drew1) | exact HB.out)))); have n1_ := Aside0.mk (below_step (by repeat (first | (with_reducible first | exact HB.out | apply below_alloc | apply pw_below_drewN | apply below_drew1) | exact HB.out)) hb); clear HB; have HO172 := n0_; have HB := n1_; clear n0_ n1_; (try clear hb); (try clear hb2); (try clear hk); (try clear hi); (try clear ho0)) | ((with_reducible refine gate_callee (f := 26) rfl ?_); refine goesL_ (some 16) rfl rfl Try.func26 (by kernel_rfl) rfl #[.string a1] rfl (by (try simp only [List.map_toArray, List.map_cons, List.map_nil]); first | done | rfl | (simp only [List.length_drop, List.length_take]; rfl)) ?_; (with_reducible refine (spec_Tokens.calls k a1 t173 _ A5.out).mono ?_); rintro e w7 ⟨v174, rfl, ho0, hb⟩; refine ⟨_, rfl, ?_⟩; have n0_ := Aside0.mk (Kd.R_elder' (by (with_reducible repeat (first | apply Kd.R_alloc | apply Kd.R_drewN | apply Kd.R_drew)); exact HO172.out) (Kd.R_base ho0) hb); have n1_ := Aside0.mk (Kd.R_lower (Kd.R_new' ho0 (Kd.R_lt (by (with_reducible repeat (first | apply Kd.R_alloc | apply Kd.R_drewN | apply Kd.R_drew)); exact HO172.out))) (below_size (by repeat (first | (with_reducible first | exact HB.out | apply below_alloc | apply pw_below_drewN | apply below_drew1) | exact HB.out)))); have n2_ := Aside0.mk (below_step (by repeat (first | (with_reducible first | exact HB.out | apply below_alloc | apply pw_below_drewN | apply below_drew1) | exact HB.out)) hb); clear HO172; clear HB; have HO172 := n0_; have HO175 := n1_; have HB := n2_; clear n0_ n1_ n2_; (try clear hb); (try clear hb2); (try clear hk); (try clear hi); (try clear ho0)))
  go_loopg [9, 10] k (fun kq v9 v10 w' => ∃ (x9_1 : List ByteArray) (x10_1 : Int), v10 = .int .i64 x10_1 ∧ Aside0 (spec_Common.l0 kq a2 t170 t173 x9_1 x10_1 = some r) ∧ Aside0 (kq ≤ k) ∧ Aside0 (Kd.R Kd.string 9 w' w.heap.size (fun k_ => some k_ ≠ (v174 : Value).ownBlock ∧ some k_ ≠ (v9 : Value).ownBlock) v171 t170) ∧ Aside0 (Kd.R Kd.string 9 w' w.heap.size (fun k_ => some k_ ≠ (v171 : Value).ownBlock ∧ some k_ ≠ (v9 : Value).ownBlock) v174 t173) ∧ Aside0 (Kd.R Kd.string 9 w' w.heap.size (fun k_ => some k_ ≠ (v171 : Value).ownBlock ∧ some k_ ≠ (v174 : Value).ownBlock) v9 x9_1) ∧ Aside0 (Below w.heap.size w w'))
  case atStart => exact ⟨(([] : List ByteArray)), (0), (by first | rfl | (simp; done) | (simp [*]; done)), H', ⟨Nat.le_refl _⟩, ⟨by (with_reducible repeat (first | apply Kd.R_alloc | apply Kd.R_drewN | apply Kd.R_drew)); exact Kd.R_mono HO172.out (fun _ hk => ⟨hk.2, (by simp [Value.ownBlock])⟩)⟩, ⟨by (with_reducible repeat (first | apply Kd.R_alloc | apply Kd.R_drewN | apply Kd.R_drew)); exact Kd.R_mono HO175.out (fun _ hk => ⟨hk.2, (by simp [Value.ownBlock])⟩)⟩, ⟨by first | exact Kd.R_nil _ _ _ _ _ | exact Kd.N_nil _ _ _ _ _ | exact Kd.V_nil _ _ _ _ _ | exact Kd.Q_nil _ _ _ _ _ | exact Kd.S_nil _ _ _ _ _⟩, ⟨by repeat (first | (with_reducible first | exact HB.out | apply below_alloc | apply pw_below_drewN | apply below_drew1) | exact HB.out)⟩⟩
  case round =>
    clear H'
    try clear c1
    try clear c2
    try clear p2
    obtain ⟨x9_1, x10_1, rfl, HA, HK1, HO_7, HO_8, HO_9, HB⟩ := hrel
    cases gk with
    | zero => exact absurd HA.out (by simp [spec_Common.l0])
    | succ k1 =>
      have H := HA.out
      clear HA
      simp only [spec_Common.l0] at H
      have HC8 := Aside0.mk H
      clear H
      go_upto_region 4 with (fail)
      go_cut [26] (fun v26 wc => ∃ (kq : Nat) (x26_7 : Bool), v26 = .bool x26_7 ∧ Aside0 (spec_Common.j1 kq a2 t170 t173 x9_1 x10_1 x26_7 = some r) ∧ Aside0 (kq ≤ k1) ∧ Aside0 (Kd.R Kd.string 9 wc w.heap.size (fun k_ => some k_ ≠ (v174 : Value).ownBlock ∧ some k_ ≠ (u9 : Value).ownBlock) v171 t170) ∧ Aside0 (Kd.R Kd.string 9 wc w.heap.size (fun k_ => some k_ ≠ (v171 : Value).ownBlock ∧ some k_ ≠ (u9 : Value).ownBlock) v174 t173) ∧ Aside0 (Kd.R Kd.string 9 wc w.heap.size (fun k_ => some k_ ≠ (v171 : Value).ownBlock ∧ some k_ ≠ (v174 : Value).ownBlock) u9 x9_1) ∧ Aside0 (Below w.heap.size w wc))
      case first =>
        have H := HC8.out
        clear HC8
        by_cases c9 : x10_1 < (t170.length : Int)
        · rw [if_pos c9] at H
          have c9b0 : decide (x10_1 < (t170.length : Int)) = true := decide_eq_true c9
          clear c9
          (first | rw [c9b0] | (simp only [i64_w, i32_w]; rw [c9b0]) | skip)
          have H' := Aside0.mk H
          clear H
          obtain ⟨Ao10, co10, eo10⟩ := Kd.R_slice HO_7.out
          subst eo10
          go_wp2
          go_meet
          case rel => exact ⟨_, (true), (by first | rfl | (simp; done) | (simp [*]; done)), H', ⟨by have := HK1.out; first | omega | exact Nat.le_refl _⟩, ⟨by (with_reducible repeat (first | apply Kd.R_alloc | apply Kd.R_drewN | apply Kd.R_drew)); exact HO_7.out⟩, ⟨by (with_reducible repeat (first | apply Kd.R_alloc | apply Kd.R_drewN | apply Kd.R_drew)); exact HO_8.out⟩, ⟨by (with_reducible repeat (first | apply Kd.R_alloc | apply Kd.R_drewN | apply Kd.R_drew)); exact HO_9.out⟩, ⟨by repeat (first | (with_reducible first | exact HB.out | apply below_alloc | apply pw_below_drewN | apply below_drew1) | exact HB.out)⟩⟩
        · rw [if_neg c9] at H
          have c9b0 : decide (x10_1 < (t170.length : Int)) = false := decide_eq_false c9
          clear c9
          (first | rw [c9b0] | (simp only [i64_w, i32_w]; rw [c9b0]) | skip)
          have H' := Aside0.mk H
          clear H
          obtain ⟨Ao11, co11, eo11⟩ := Kd.R_slice HO_7.out
          subst eo11
          obtain ⟨Ao12, co12, eo12⟩ := Kd.R_slice HO_8.out
          subst eo12
          go_wp2
          go_meet
          case rel => exact ⟨_, (decide (x10_1 < (t173.length : Int))), (by first | rfl | (simp; done) | (simp [*]; done)), H', ⟨by have := HK1.out; first | omega | exact Nat.le_refl _⟩, ⟨by (with_reducible repeat (first | apply Kd.R_alloc | apply Kd.R_drewN | apply Kd.R_drew)); exact HO_7.out⟩, ⟨by (with_reducible repeat (first | apply Kd.R_alloc | apply Kd.R_drewN | apply Kd.R_drew)); exact HO_8.out⟩, ⟨by (with_reducible repeat (first | apply Kd.R_alloc | apply Kd.R_drewN | apply Kd.R_drew)); exact HO_9.out⟩, ⟨by repeat (first | (with_reducible first | exact HB.out | apply below_alloc | apply pw_below_drewN | apply below_drew1) | exact HB.out)⟩⟩
      case rest =>
        clear HC8
        try clear c1
        try clear c2
        try clear p2
        try clear c9
        try clear c9b0
        try clear p2
        obtain ⟨kq, x26_7, rfl, HA, HJ7, HO_7, HO_8, HO_9, HB⟩ := hcut
        cases kq with
        | zero => exact absurd HA.out (by simp [spec_Common.j1])
        | succ kj7 =>
          have H := HA.out
          clear HA
          simp only [spec_Common.j1] at H
          by_cases c13 : x26_7 = true
          · subst c13
            have H1 : (if x10_1 < (t170.length : Int) then (if 0 ≤ x10_1 then (spec_Common.j2 kj7 a2 t170 t173 x9_1 x10_1 (rdOf ByteArray.empty t170 x10_1) (⟨#[62]⟩ : ByteArray)) else (none)) else (spec_Common.j2 kj7 a2 t170 t173 x9_1 x10_1 (⟨#[62]⟩ : ByteArray) (⟨#[62]⟩ : ByteArray))) = some r := by rw [if_pos rfl] at H; exact H
            clear H
            have H := H1
            clear H1
            have HC14 := Aside0.mk H
            clear H
            obtain ⟨Ao15, co15, eo15⟩ := Kd.R_slice HO_7.out
            subst eo15
            go_upto_if 32 with (fail)
            go_cut [11] (fun v11 wc => ∃ (kq : Nat) (x11_13 : ByteArray), v11 = .string x11_13 ∧ Aside0 (spec_Common.j2 kq a2 t170 t173 x9_1 x10_1 x11_13 (⟨#[62]⟩ : ByteArray) = some r) ∧ Aside0 (kq ≤ kj7) ∧ Aside0 (Kd.R Kd.string 9 wc w.heap.size (fun k_ => some k_ ≠ (v174 : Value).ownBlock ∧ some k_ ≠ (u9 : Value).ownBlock) (.slice Ao15 t170.length co15) t170) ∧ Aside0 (Kd.R Kd.string 9 wc w.heap.size (fun k_ => some k_ ≠ ((.slice Ao15 t170.length co15) : Value).ownBlock ∧ some k_ ≠ (u9 : Value).ownBlock) v174 t173) ∧ Aside0 (Kd.R Kd.string 9 wc w.heap.size (fun k_ => some k_ ≠ ((.slice Ao15 t170.length co15) : Value).ownBlock ∧ some k_ ≠ (v174 : Value).ownBlock) u9 x9_1) ∧ Aside0 (Below w.heap.size w wc))
            case first =>
              have H := HC14.out
              clear HC14
              by_cases c16 : x10_1 < (t170.length : Int)
              · rw [if_pos c16] at H
                have c16b0 : decide (x10_1 < (t170.length : Int)) = true := decide_eq_true c16
                clear c16
                (first | rw [c16b0] | (simp only [i64_w, i32_w]; rw [c16b0]) | skip)
                by_cases c17 : 0 ≤ x10_1
                · rw [if_pos c17] at H
                  have c17b0 : decide (0 ≤ x10_1) = true := decide_eq_true c17
                  clear c17
                  have H' := Aside0.mk H
                  clear H
                  have p177 : 0 ≤ (x10_1 : Int) := of_decide_eq_true (by first | (with_reducible assumption) | assumption)
                  have q177 : x10_1 < (t170.length : Int) := of_decide_eq_true (by first | (with_reducible assumption) | assumption)
                  obtain ⟨ad177, e177, hx177_0⟩ := Kd.at_string (Kd.R_reads' HO_7.out).2.2 x10_1 p177 q177
                  cases e177
                  replace p177 := eq_true p177
                  replace q177 := eq_true q177
                  go_wp2
                  go_meet
                  case rel => exact ⟨_, (rdOf ByteArray.empty t170 x10_1), (by first | rfl | (simp; done) | (simp [*]; done)), H', ⟨by have := HK1.out; have := HJ7.out; first | omega | exact Nat.le_refl _⟩, ⟨by (with_reducible repeat (first | apply Kd.R_alloc | apply Kd.R_drewN | apply Kd.R_drew)); exact HO_7.out⟩, ⟨by (with_reducible repeat (first | apply Kd.R_alloc | apply Kd.R_drewN | apply Kd.R_drew)); exact HO_8.out⟩, ⟨by (with_reducible repeat (first | apply Kd.R_alloc | apply Kd.R_drewN | apply Kd.R_drew)); exact HO_9.out⟩, ⟨by repeat (first | (with_reducible first | exact HB.out | apply below_alloc | apply pw_below_drewN | apply below_drew1) | exact HB.out)⟩⟩
                · rw [if_neg c17] at H
                  exact absurd H (by simp)
              · rw [if_neg c16] at H
                have c16b0 : decide (x10_1 < (t170.length : Int)) = false := decide_eq_false c16
                clear c16
                (first | rw [c16b0] | (simp only [i64_w, i32_w]; rw [c16b0]) | skip)
                have H' := Aside0.mk H
                clear H
                go_wp2
                go_meet
                case rel => exact ⟨_, ((⟨#[62]⟩ : ByteArray)), (by first | rfl | (simp; done) | (simp [*]; done)), H', ⟨by have := HK1.out; have := HJ7.out; first | omega | exact Nat.le_refl _⟩, ⟨by (with_reducible repeat (first | apply Kd.R_alloc | apply Kd.R_drewN | apply Kd.R_drew)); exact HO_7.out⟩, ⟨by (with_reducible repeat (first | apply Kd.R_alloc | apply Kd.R_drewN | apply Kd.R_drew)); exact HO_8.out⟩, ⟨by (with_reducible repeat (first | apply Kd.R_alloc | apply Kd.R_drewN | apply Kd.R_drew)); exact HO_9.out⟩, ⟨by repeat (first | (with_reducible first | exact HB.out | apply below_alloc | apply pw_below_drewN | apply below_drew1) | exact HB.out)⟩⟩
            case rest =>
              clear HC14
              try clear c1
              try clear p1
              try clear q1
              try clear hx1
              try clear c2
              try clear p2
              try clear c9
              try clear c9b0
              try clear c13
              try clear c15
              try clear c16
              try clear c16b0
              try clear c17
              try clear c17b0
              try clear p17
              try clear q17
              try clear hx17
              try clear hx177_0
              try clear p177
              try clear p2
              try clear q177
              obtain ⟨kq, x11_13, rfl, HA, HJ13, HO_7, HO_8, HO_9, HB⟩ := hcut
              cases kq with
              | zero => exact absurd HA.out (by simp [spec_Common.j2])
              | succ kj13 =>
                have H := HA.out
                clear HA
                simp only [spec_Common.j2] at H
                have HC18 := Aside0.mk H
                clear H
                obtain ⟨Ao19, co19, eo19⟩ := Kd.R_slice HO_8.out
                subst eo19
                go_upto_if 40 with (fail)
                go_cut [12] (fun v12 wc => ∃ (kq : Nat) (x12_17 : ByteArray), v12 = .string x12_17 ∧ Aside0 (spec_Common.j3 kq a2 t170 t173 x9_1 x10_1 x11_13 x12_17 = some r) ∧ Aside0 (kq ≤ kj13) ∧ Aside0 (Kd.R Kd.string 9 wc w.heap.size (fun k_ => some k_ ≠ ((.slice Ao19 t173.length co19) : Value).ownBlock ∧ some k_ ≠ (u9 : Value).ownBlock) (.slice Ao15 t170.length co15) t170) ∧ Aside0 (Kd.R Kd.string 9 wc w.heap.size (fun k_ => some k_ ≠ ((.slice Ao15 t170.length co15) : Value).ownBlock ∧ some k_ ≠ (u9 : Value).ownBlock) (.slice Ao19 t173.length co19) t173) ∧ Aside0 (Kd.R Kd.string 9 wc w.heap.size (fun k_ => some k_ ≠ ((.slice Ao15 t170.length co15) : Value).ownBlock ∧ some k_ ≠ ((.slice Ao19 t173.length co19) : Value).ownBlock) u9 x9_1) ∧ Aside0 (Below w.heap.size w wc))
                case first =>
                  have H := HC18.out
                  clear HC18
                  by_cases c20 : x10_1 < (t173.length : Int)
                  · rw [if_pos c20] at H
                    have c20b0 : decide (x10_1 < (t173.length : Int)) = true := decide_eq_true c20
                    clear c20
                    (first | rw [c20b0] | (simp only [i64_w, i32_w]; rw [c20b0]) | skip)
                    by_cases c21 : 0 ≤ x10_1
                    · rw [if_pos c21] at H
                      have c21b0 : decide (0 ≤ x10_1) = true := decide_eq_true c21
                      clear c21
                      have H' := Aside0.mk H
                      clear H
                      have p178 : 0 ≤ (x10_1 : Int) := of_decide_eq_true (by first | (with_reducible assumption) | assumption)
                      have q178 : x10_1 < (t173.length : Int) := of_decide_eq_true (by first | (with_reducible assumption) | assumption)
                      obtain ⟨ad178, e178, hx178_0⟩ := Kd.at_string (Kd.R_reads' HO_8.out).2.2 x10_1 p178 q178
                      cases e178
                      replace p178 := eq_true p178
                      replace q178 := eq_true q178
                      go_wp2
                      go_meet
                      case rel => exact ⟨_, (rdOf ByteArray.empty t173 x10_1), (by first | rfl | (simp; done) | (simp [*]; done)), H', ⟨by have := HK1.out; have := HJ7.out; have := HJ13.out; first | omega | exact Nat.le_refl _⟩, ⟨by (with_reducible repeat (first | apply Kd.R_alloc | apply Kd.R_drewN | apply Kd.R_drew)); exact HO_7.out⟩, ⟨by (with_reducible repeat (first | apply Kd.R_alloc | apply Kd.R_drewN | apply Kd.R_drew)); exact HO_8.out⟩, ⟨by (with_reducible repeat (first | apply Kd.R_alloc | apply Kd.R_drewN | apply Kd.R_drew)); exact HO_9.out⟩, ⟨by repeat (first | (with_reducible first | exact HB.out | apply below_alloc | apply pw_below_drewN | apply below_drew1) | exact HB.out)⟩⟩
                    · rw [if_neg c21] at H
                      exact absurd H (by simp)
                  · rw [if_neg c20] at H
                    have c20b0 : decide (x10_1 < (t173.length : Int)) = false := decide_eq_false c20
                    clear c20
                    (first | rw [c20b0] | (simp only [i64_w, i32_w]; rw [c20b0]) | skip)
                    have H' := Aside0.mk H
                    clear H
                    go_wp2
                    go_meet
                    case rel => exact ⟨_, ((⟨#[62]⟩ : ByteArray)), (by first | rfl | (simp; done) | (simp [*]; done)), H', ⟨by have := HK1.out; have := HJ7.out; have := HJ13.out; first | omega | exact Nat.le_refl _⟩, ⟨by (with_reducible repeat (first | apply Kd.R_alloc | apply Kd.R_drewN | apply Kd.R_drew)); exact HO_7.out⟩, ⟨by (with_reducible repeat (first | apply Kd.R_alloc | apply Kd.R_drewN | apply Kd.R_drew)); exact HO_8.out⟩, ⟨by (with_reducible repeat (first | apply Kd.R_alloc | apply Kd.R_drewN | apply Kd.R_drew)); exact HO_9.out⟩, ⟨by repeat (first | (with_reducible first | exact HB.out | apply below_alloc | apply pw_below_drewN | apply below_drew1) | exact HB.out)⟩⟩
                case rest =>
                  clear HC18
                  try clear c1
                  try clear p1
                  try clear q1
                  try clear hx1
                  try clear c2
                  try clear p2
                  try clear c9
                  try clear c9b0
                  try clear c13
                  try clear c15
                  try clear c16
                  try clear c16b0
                  try clear c17
                  try clear c17b0
                  try clear p17
                  try clear q17
                  try clear hx17
                  try clear c20
                  try clear c20b0
                  try clear c21
                  try clear c21b0
                  try clear hx177_0
                  try clear hx178_0
                  try clear p1
                  try clear p17
                  try clear p177
                  try clear p178
                  try clear p2
                  try clear q1
                  try clear q17
                  try clear q177
                  try clear q178
                  obtain ⟨kq, x12_17, rfl, HA, HJ17, HO_7, HO_8, HO_9, HB⟩ := hcut
                  cases kq with
                  | zero => exact absurd HA.out (by simp [spec_Common.j3])
                  | succ kj17 =>
                    have H := HA.out
                    clear HA
                    simp only [spec_Common.j3] at H
                    have HC22 := Aside0.mk H
                    clear H
                    go_upto_region 11 with (fail)
                    go_cut [50] (fun v50 wc => ∃ (kq : Nat) (x50_21 : Bool), v50 = .bool x50_21 ∧ Aside0 (spec_Common.j4 kq a2 t170 t173 x9_1 x10_1 x11_13 x12_17 x50_21 = some r) ∧ Aside0 (kq ≤ kj17) ∧ Aside0 (Kd.R Kd.string 9 wc w.heap.size (fun k_ => some k_ ≠ ((.slice Ao19 t173.length co19) : Value).ownBlock ∧ some k_ ≠ (u9 : Value).ownBlock) (.slice Ao15 t170.length co15) t170) ∧ Aside0 (Kd.R Kd.string 9 wc w.heap.size (fun k_ => some k_ ≠ ((.slice Ao15 t170.length co15) : Value).ownBlock ∧ some k_ ≠ (u9 : Value).ownBlock) (.slice Ao19 t173.length co19) t173) ∧ Aside0 (Kd.R Kd.string 9 wc w.heap.size (fun k_ => some k_ ≠ ((.slice Ao15 t170.length co15) : Value).ownBlock ∧ some k_ ≠ ((.slice Ao19 t173.length co19) : Value).ownBlock) u9 x9_1) ∧ Aside0 (Below w.heap.size w wc))
                    case first =>
                      have H := HC22.out
                      clear HC22
                      by_cases c23 : x11_13.toList = ([62] : List UInt8)
                      · rw [if_pos c23] at H
                        have c23b0 : (x11_13.toList == ([62] : List UInt8)) = true := beq_iff_eq.mpr c23
                        have c23b1 : (x11_13.toList != ([62] : List UInt8)) = false := bne_eq_false_iff_eq.mpr c23
                        clear c23
                        (first | rw [c23b0] | (simp only [i64_w, i32_w]; rw [c23b0]) | skip)
                        have H' := Aside0.mk H
                        clear H
                        go_wp2
                        go_meet
                        case rel => exact ⟨_, (true), (by first | rfl | (simp; done) | (simp [*]; done)), H', ⟨by have := HK1.out; have := HJ7.out; have := HJ13.out; have := HJ17.out; first | omega | exact Nat.le_refl _⟩, ⟨by (with_reducible repeat (first | apply Kd.R_alloc | apply Kd.R_drewN | apply Kd.R_drew)); exact HO_7.out⟩, ⟨by (with_reducible repeat (first | apply Kd.R_alloc | apply Kd.R_drewN | apply Kd.R_drew)); exact HO_8.out⟩, ⟨by (with_reducible repeat (first | apply Kd.R_alloc | apply Kd.R_drewN | apply Kd.R_drew)); exact HO_9.out⟩, ⟨by repeat (first | (with_reducible first | exact HB.out | apply below_alloc | apply pw_below_drewN | apply below_drew1) | exact HB.out)⟩⟩
                      · rw [if_neg c23] at H
                        have c23b0 : (x11_13.toList == ([62] : List UInt8)) = false := beq_eq_false_iff_ne.mpr c23
                        have c23b1 : (x11_13.toList != ([62] : List UInt8)) = true := bne_iff_ne.mpr c23
                        (first | rw [c23b0] | (simp only [i64_w, i32_w]; rw [c23b0]) | skip)
                        have H' := Aside0.mk H
                        clear H
                        go_wp2
                        go_meet
                        case rel => exact ⟨_, ((x11_13.toList == ([42] : List UInt8))), (by first | rfl | (simp; done) | (simp [*]; done)), H', ⟨by have := HK1.out; have := HJ7.out; have := HJ13.out; have := HJ17.out; first | omega | exact Nat.le_refl _⟩, ⟨by (with_reducible repeat (first | apply Kd.R_alloc | apply Kd.R_drewN | apply Kd.R_drew)); exact HO_7.out⟩, ⟨by (with_reducible repeat (first | apply Kd.R_alloc | apply Kd.R_drewN | apply Kd.R_drew)); exact HO_8.out⟩, ⟨by (with_reducible repeat (first | apply Kd.R_alloc | apply Kd.R_drewN | apply Kd.R_drew)); exact HO_9.out⟩, ⟨by repeat (first | (with_reducible first | exact HB.out | apply below_alloc | apply pw_below_drewN | apply below_drew1) | exact HB.out)⟩⟩
                    case rest =>
                      clear HC22
                      try clear c1
                      try clear p1
                      try clear q1
                      try clear hx1
                      try clear c2
                      try clear p2
                      try clear c9
                      try clear c9b0
                      try clear c13
                      try clear c15
                      try clear c16
                      try clear c16b0
                      try clear c17
                      try clear c17b0
                      try clear p17
                      try clear q17
                      try clear hx17
                      try clear c20
                      try clear c20b0
                      try clear c21
                      try clear c21b0
                      try clear c23
                      try clear c23b0
                      try clear c23b1
                      try clear hx177_0
                      try clear hx178_0
                      try clear p1
                      try clear p17
                      try clear p177
                      try clear p178
                      try clear p2
                      try clear q1
                      try clear q17
                      try clear q177
                      try clear q178
                      obtain ⟨kq, x50_21, rfl, HA, HJ21, HO_7, HO_8, HO_9, HB⟩ := hcut
                      cases kq with
                      | zero => exact absurd HA.out (by simp [spec_Common.j4])
                      | succ kj21 =>
                        have H := HA.out
                        clear HA
                        simp only [spec_Common.j4] at H
                        by_cases c24 : x50_21 = true
                        · subst c24
                          have H1 : (if x12_17.toList = ([62] : List UInt8) then (if x9_1.length < 8796093022208 then (spec_Common.l0 kj21 a2 t170 t173 (x9_1 ++ [a2]) (wrap64 (x10_1 + 1))) else (none)) else (if x12_17.toList = ([42] : List UInt8) then (if x9_1.length < 8796093022208 then (spec_Common.l0 kj21 a2 t170 t173 (x9_1 ++ [a2]) (wrap64 (x10_1 + 1))) else (none)) else (if x9_1.length < 8796093022208 then (spec_Common.l0 kj21 a2 t170 t173 (x9_1 ++ [x12_17]) (wrap64 (x10_1 + 1))) else (none)))) = some r := by rw [if_pos rfl] at H; exact H
                          clear H
                          have H := H1
                          clear H1
                          by_cases c25 : x12_17.toList = ([62] : List UInt8)
                          · rw [if_pos c25] at H
                            have c25b0 : (x12_17.toList == ([62] : List UInt8)) = true := beq_iff_eq.mpr c25
                            have c25b1 : (x12_17.toList != ([62] : List UInt8)) = false := bne_eq_false_iff_eq.mpr c25
                            clear c25
                            by_cases c26 : x9_1.length < 8796093022208
                            · rw [if_pos c26] at H
                              have LMc26 := Aside0.mk c26
                              clear c26
                              obtain ⟨y179, hy179⟩ : ∃ y_ : List ByteArray, y_ = (x9_1 ++ [a2]) := ⟨_, rfl⟩
                              replace H : (spec_Common.l0 kj21 a2 t170 t173 y179 (wrap64 (x10_1 + 1))) = some r := by first | (rw [hy179]; with_reducible exact H) | (have H2_ := (Option.bind_some _ _).symm.trans H; rw [hy179]; with_reducible exact H2_) | (have H2_ := (Option.bind_some _ _).symm.trans H; with_reducible exact H2_) | with_reducible exact H | (rw [hy179]; exact H) | exact H
                              have Ny179 := Aside0.mk hy179
                              clear hy179
                              have H' := Aside0.mk H
                              clear H
                              go_wp2_with (first | ((with_reducible refine gate_builtin (b := .append) (xs := #[.tmp 59, .tmp 61]) rfl ?_); (try (refine gate_guard (by rfl) ?_; dsimp only)); at_builtin; refine Kd.R_append Kd.string (w0 := w) w.heap.size rfl (.tmp 59) (.tmp 61) 31 9 (.string ⟨#[]⟩) 16 rfl Try.underlying31 info9 rfl (by decide) (by omega) u9 x9_1 a2 [.string a2] (fun k_ => some k_ ≠ (.slice Ao15 t170.length co15 : Value).ownBlock ∧ some k_ ≠ (.slice Ao19 t173.length co19 : Value).ownBlock) (fun _ => False) rfl rfl ?aP (fun _ hk => hk.elim) ?aF ?aO ?aB ?aS ?aL ?_; (case aP => exact rfl); (case aB => exact (by repeat (first | (with_reducible first | exact HB.out | apply below_alloc | apply pw_below_drewN | apply below_drew1) | exact HB.out))); (case aF => exact (fun k_ hk => ⟨Kd.fresh' (Kd.R_lt (by (with_reducible repeat (first | apply Kd.R_alloc | apply Kd.R_drewN | apply Kd.R_drew)); exact HO_7.out)) k_ hk, Kd.fresh' (Kd.R_lt (by (with_reducible repeat (first | apply Kd.R_alloc | apply Kd.R_drewN | apply Kd.R_drew)); exact HO_8.out)) k_ hk⟩)); (case aO => exact (by (with_reducible repeat (first | apply Kd.R_alloc | apply Kd.R_drewN | apply Kd.R_drew)); exact HO_9.out)); (case aS => exact (below_size (by repeat (first | (with_reducible first | exact HB.out | apply below_alloc | apply pw_below_drewN | apply below_drew1) | exact HB.out)))); (case aL => have := LMc26.out; omega); intro v180 w27 ho hb hg hat; rw [← Ny179.out] at ho; have n0_ := Aside0.mk (Kd.R_after (ok := (fun k_ => some k_ ≠ (.slice Ao19 t173.length co19 : Value).ownBlock)) (by (with_reducible repeat (first | apply Kd.R_alloc | apply Kd.R_drewN | apply Kd.R_drew)); exact HO_7.out) hg hat); have n1_ := Aside0.mk (Kd.R_after (ok := (fun k_ => some k_ ≠ (.slice Ao15 t170.length co15 : Value).ownBlock)) (by (with_reducible repeat (first | apply Kd.R_alloc | apply Kd.R_drewN | apply Kd.R_drew)); exact HO_8.out) hg hat); have n2_ := Aside0.mk (hb); have n3_ := Aside0.mk (ho); clear HO_7; clear HO_8; clear HB; clear HO_9; have HO_7 := n0_; have HO_8 := n1_; have HB := n2_; have HO181 := n3_; clear n0_ n1_ n2_ n3_; clear ho hb hg hat))
                              go_roundg kj21
                              case measure => have := HK1.out; have := HJ7.out; have := HJ13.out; have := HJ17.out; have := HJ21.out; omega
                              case rel => exact ⟨(y179), (wrap64 (x10_1 + 1)), (by first | rfl | (simp; done) | (simp [*]; done)), H', ⟨by have := HK1.out; have := HJ7.out; have := HJ13.out; have := HJ17.out; have := HJ21.out; omega⟩, ⟨by (with_reducible repeat (first | apply Kd.R_alloc | apply Kd.R_drewN | apply Kd.R_drew)); exact HO_7.out⟩, ⟨by (with_reducible repeat (first | apply Kd.R_alloc | apply Kd.R_drewN | apply Kd.R_drew)); exact HO_8.out⟩, ⟨by (with_reducible repeat (first | apply Kd.R_alloc | apply Kd.R_drewN | apply Kd.R_drew)); exact HO181.out⟩, ⟨by repeat (first | (with_reducible first | exact HB.out | apply below_alloc | apply pw_below_drewN | apply below_drew1) | exact HB.out)⟩⟩
                            · rw [if_neg c26] at H
                              exact absurd H (by simp)
                          · rw [if_neg c25] at H
                            have c25b0 : (x12_17.toList == ([62] : List UInt8)) = false := beq_eq_false_iff_ne.mpr c25
                            have c25b1 : (x12_17.toList != ([62] : List UInt8)) = true := bne_iff_ne.mpr c25
                            by_cases c28 : x12_17.toList = ([42] : List UInt8)
                            · rw [if_pos c28] at H
                              have c28b0 : (x12_17.toList == ([42] : List UInt8)) = true := beq_iff_eq.mpr c28
                              have c28b1 : (x12_17.toList != ([42] : List UInt8)) = false := bne_eq_false_iff_eq.mpr c28
                              clear c28
                              by_cases c29 : x9_1.length < 8796093022208
                              · rw [if_pos c29] at H
                                have LMc29 := Aside0.mk c29
                                clear c29
                                obtain ⟨y182, hy182⟩ : ∃ y_ : List ByteArray, y_ = (x9_1 ++ [a2]) := ⟨_, rfl⟩
                                replace H : (spec_Common.l0 kj21 a2 t170 t173 y182 (wrap64 (x10_1 + 1))) = some r := by first | (rw [hy182]; with_reducible exact H) | (have H2_ := (Option.bind_some _ _).symm.trans H; rw [hy182]; with_reducible exact H2_) | (have H2_ := (Option.bind_some _ _).symm.trans H; with_reducible exact H2_) | with_reducible exact H | (rw [hy182]; exact H) | exact H
                                have Ny182 := Aside0.mk hy182
                                clear hy182
                                have H' := Aside0.mk H
                                clear H
                                go_wp2_with (first | ((with_reducible refine gate_builtin (b := .append) (xs := #[.tmp 59, .tmp 61]) rfl ?_); (try (refine gate_guard (by rfl) ?_; dsimp only)); at_builtin; refine Kd.R_append Kd.string (w0 := w) w.heap.size rfl (.tmp 59) (.tmp 61) 31 9 (.string ⟨#[]⟩) 16 rfl Try.underlying31 info9 rfl (by decide) (by omega) u9 x9_1 a2 [.string a2] (fun k_ => some k_ ≠ (.slice Ao15 t170.length co15 : Value).ownBlock ∧ some k_ ≠ (.slice Ao19 t173.length co19 : Value).ownBlock) (fun _ => False) rfl rfl ?aP (fun _ hk => hk.elim) ?aF ?aO ?aB ?aS ?aL ?_; (case aP => exact rfl); (case aB => exact (by repeat (first | (with_reducible first | exact HB.out | apply below_alloc | apply pw_below_drewN | apply below_drew1) | exact HB.out))); (case aF => exact (fun k_ hk => ⟨Kd.fresh' (Kd.R_lt (by (with_reducible repeat (first | apply Kd.R_alloc | apply Kd.R_drewN | apply Kd.R_drew)); exact HO_7.out)) k_ hk, Kd.fresh' (Kd.R_lt (by (with_reducible repeat (first | apply Kd.R_alloc | apply Kd.R_drewN | apply Kd.R_drew)); exact HO_8.out)) k_ hk⟩)); (case aO => exact (by (with_reducible repeat (first | apply Kd.R_alloc | apply Kd.R_drewN | apply Kd.R_drew)); exact HO_9.out)); (case aS => exact (below_size (by repeat (first | (with_reducible first | exact HB.out | apply below_alloc | apply pw_below_drewN | apply below_drew1) | exact HB.out)))); (case aL => have := LMc29.out; omega); intro v183 w30 ho hb hg hat; rw [← Ny182.out] at ho; have n0_ := Aside0.mk (Kd.R_after (ok := (fun k_ => some k_ ≠ (.slice Ao19 t173.length co19 : Value).ownBlock)) (by (with_reducible repeat (first | apply Kd.R_alloc | apply Kd.R_drewN | apply Kd.R_drew)); exact HO_7.out) hg hat); have n1_ := Aside0.mk (Kd.R_after (ok := (fun k_ => some k_ ≠ (.slice Ao15 t170.length co15 : Value).ownBlock)) (by (with_reducible repeat (first | apply Kd.R_alloc | apply Kd.R_drewN | apply Kd.R_drew)); exact HO_8.out) hg hat); have n2_ := Aside0.mk (hb); have n3_ := Aside0.mk (ho); clear HO_7; clear HO_8; clear HB; clear HO_9; have HO_7 := n0_; have HO_8 := n1_; have HB := n2_; have HO184 := n3_; clear n0_ n1_ n2_ n3_; clear ho hb hg hat))
                                go_roundg kj21
                                case measure => have := HK1.out; have := HJ7.out; have := HJ13.out; have := HJ17.out; have := HJ21.out; omega
                                case rel => exact ⟨(y182), (wrap64 (x10_1 + 1)), (by first | rfl | (simp; done) | (simp [*]; done)), H', ⟨by have := HK1.out; have := HJ7.out; have := HJ13.out; have := HJ17.out; have := HJ21.out; omega⟩, ⟨by (with_reducible repeat (first | apply Kd.R_alloc | apply Kd.R_drewN | apply Kd.R_drew)); exact HO_7.out⟩, ⟨by (with_reducible repeat (first | apply Kd.R_alloc | apply Kd.R_drewN | apply Kd.R_drew)); exact HO_8.out⟩, ⟨by (with_reducible repeat (first | apply Kd.R_alloc | apply Kd.R_drewN | apply Kd.R_drew)); exact HO184.out⟩, ⟨by repeat (first | (with_reducible first | exact HB.out | apply below_alloc | apply pw_below_drewN | apply below_drew1) | exact HB.out)⟩⟩
                              · rw [if_neg c29] at H
                                exact absurd H (by simp)
                            · rw [if_neg c28] at H
                              have c28b0 : (x12_17.toList == ([42] : List UInt8)) = false := beq_eq_false_iff_ne.mpr c28
                              have c28b1 : (x12_17.toList != ([42] : List UInt8)) = true := bne_iff_ne.mpr c28
                              by_cases c31 : x9_1.length < 8796093022208
                              · rw [if_pos c31] at H
                                have LMc31 := Aside0.mk c31
                                clear c31
                                obtain ⟨y185, hy185⟩ : ∃ y_ : List ByteArray, y_ = (x9_1 ++ [x12_17]) := ⟨_, rfl⟩
                                replace H : (spec_Common.l0 kj21 a2 t170 t173 y185 (wrap64 (x10_1 + 1))) = some r := by first | (rw [hy185]; with_reducible exact H) | (have H2_ := (Option.bind_some _ _).symm.trans H; rw [hy185]; with_reducible exact H2_) | (have H2_ := (Option.bind_some _ _).symm.trans H; with_reducible exact H2_) | with_reducible exact H | (rw [hy185]; exact H) | exact H
                                have Ny185 := Aside0.mk hy185
                                clear hy185
                                have H' := Aside0.mk H
                                clear H
                                go_wp2_with (first | ((with_reducible refine gate_builtin (b := .append) (xs := #[.tmp 59, .tmp 61]) rfl ?_); (try (refine gate_guard (by rfl) ?_; dsimp only)); at_builtin; refine Kd.R_append Kd.string (w0 := w) w.heap.size rfl (.tmp 59) (.tmp 61) 31 9 (.string ⟨#[]⟩) 16 rfl Try.underlying31 info9 rfl (by decide) (by omega) u9 x9_1 x12_17 [.string x12_17] (fun k_ => some k_ ≠ (.slice Ao15 t170.length co15 : Value).ownBlock ∧ some k_ ≠ (.slice Ao19 t173.length co19 : Value).ownBlock) (fun _ => False) rfl rfl ?aP (fun _ hk => hk.elim) ?aF ?aO ?aB ?aS ?aL ?_; (case aP => exact rfl); (case aB => exact (by repeat (first | (with_reducible first | exact HB.out | apply below_alloc | apply pw_below_drewN | apply below_drew1) | exact HB.out))); (case aF => exact (fun k_ hk => ⟨Kd.fresh' (Kd.R_lt (by (with_reducible repeat (first | apply Kd.R_alloc | apply Kd.R_drewN | apply Kd.R_drew)); exact HO_7.out)) k_ hk, Kd.fresh' (Kd.R_lt (by (with_reducible repeat (first | apply Kd.R_alloc | apply Kd.R_drewN | apply Kd.R_drew)); exact HO_8.out)) k_ hk⟩)); (case aO => exact (by (with_reducible repeat (first | apply Kd.R_alloc | apply Kd.R_drewN | apply Kd.R_drew)); exact HO_9.out)); (case aS => exact (below_size (by repeat (first | (with_reducible first | exact HB.out | apply below_alloc | apply pw_below_drewN | apply below_drew1) | exact HB.out)))); (case aL => have := LMc31.out; omega); intro v186 w32 ho hb hg hat; rw [← Ny185.out] at ho; have n0_ := Aside0.mk (Kd.R_after (ok := (fun k_ => some k_ ≠ (.slice Ao19 t173.length co19 : Value).ownBlock)) (by (with_reducible repeat (first | apply Kd.R_alloc | apply Kd.R_drewN | apply Kd.R_drew)); exact HO_7.out) hg hat); have n1_ := Aside0.mk (Kd.R_after (ok := (fun k_ => some k_ ≠ (.slice Ao15 t170.length co15 : Value).ownBlock)) (by (with_reducible repeat (first | apply Kd.R_alloc | apply Kd.R_drewN | apply Kd.R_drew)); exact HO_8.out) hg hat); have n2_ := Aside0.mk (hb); have n3_ := Aside0.mk (ho); clear HO_7; clear HO_8; clear HB; clear HO_9; have HO_7 := n0_; have HO_8 := n1_; have HB := n2_; have HO187 := n3_; clear n0_ n1_ n2_ n3_; clear ho hb hg hat))
                                go_roundg kj21
                                case measure => have := HK1.out; have := HJ7.out; have := HJ13.out; have := HJ17.out; have := HJ21.out; omega
                                case rel => exact ⟨(y185), (wrap64 (x10_1 + 1)), (by first | rfl | (simp; done) | (simp [*]; done)), H', ⟨by have := HK1.out; have := HJ7.out; have := HJ13.out; have := HJ17.out; have := HJ21.out; omega⟩, ⟨by (with_reducible repeat (first | apply Kd.R_alloc | apply Kd.R_drewN | apply Kd.R_drew)); exact HO_7.out⟩, ⟨by (with_reducible repeat (first | apply Kd.R_alloc | apply Kd.R_drewN | apply Kd.R_drew)); exact HO_8.out⟩, ⟨by (with_reducible repeat (first | apply Kd.R_alloc | apply Kd.R_drewN | apply Kd.R_drew)); exact HO187.out⟩, ⟨by repeat (first | (with_reducible first | exact HB.out | apply below_alloc | apply pw_below_drewN | apply below_drew1) | exact HB.out)⟩⟩
                              · rw [if_neg c31] at H
                                exact absurd H (by simp)
                        · replace c24 := Bool.eq_false_iff.mpr c24
                          subst c24
                          have H1 : (if x11_13.toList = ([62] : List UInt8) then (if x9_1.length < 8796093022208 then (spec_Common.l0 kj21 a2 t170 t173 (x9_1 ++ [a2]) (wrap64 (x10_1 + 1))) else (none)) else (if x11_13.toList = ([42] : List UInt8) then (if x9_1.length < 8796093022208 then (spec_Common.l0 kj21 a2 t170 t173 (x9_1 ++ [a2]) (wrap64 (x10_1 + 1))) else (none)) else (if x9_1.length < 8796093022208 then (spec_Common.l0 kj21 a2 t170 t173 (x9_1 ++ [x11_13]) (wrap64 (x10_1 + 1))) else (none)))) = some r := by rw [if_neg (show ¬ (false = true) by decide)] at H; exact H
                          clear H
                          have H := H1
                          clear H1
                          by_cases c33 : x11_13.toList = ([62] : List UInt8)
                          · rw [if_pos c33] at H
                            have c33b0 : (x11_13.toList == ([62] : List UInt8)) = true := beq_iff_eq.mpr c33
                            have c33b1 : (x11_13.toList != ([62] : List UInt8)) = false := bne_eq_false_iff_eq.mpr c33
                            clear c33
                            by_cases c34 : x9_1.length < 8796093022208
                            · rw [if_pos c34] at H
                              have LMc34 := Aside0.mk c34
                              clear c34
                              obtain ⟨y188, hy188⟩ : ∃ y_ : List ByteArray, y_ = (x9_1 ++ [a2]) := ⟨_, rfl⟩
                              replace H : (spec_Common.l0 kj21 a2 t170 t173 y188 (wrap64 (x10_1 + 1))) = some r := by first | (rw [hy188]; with_reducible exact H) | (have H2_ := (Option.bind_some _ _).symm.trans H; rw [hy188]; with_reducible exact H2_) | (have H2_ := (Option.bind_some _ _).symm.trans H; with_reducible exact H2_) | with_reducible exact H | (rw [hy188]; exact H) | exact H
                              have Ny188 := Aside0.mk hy188
                              clear hy188
                              have H' := Aside0.mk H
                              clear H
                              go_wp2_with (first | ((with_reducible refine gate_builtin (b := .append) (xs := #[.tmp 59, .tmp 61]) rfl ?_); (try (refine gate_guard (by rfl) ?_; dsimp only)); at_builtin; refine Kd.R_append Kd.string (w0 := w) w.heap.size rfl (.tmp 59) (.tmp 61) 31 9 (.string ⟨#[]⟩) 16 rfl Try.underlying31 info9 rfl (by decide) (by omega) u9 x9_1 a2 [.string a2] (fun k_ => some k_ ≠ (.slice Ao15 t170.length co15 : Value).ownBlock ∧ some k_ ≠ (.slice Ao19 t173.length co19 : Value).ownBlock) (fun _ => False) rfl rfl ?aP (fun _ hk => hk.elim) ?aF ?aO ?aB ?aS ?aL ?_; (case aP => exact rfl); (case aB => exact (by repeat (first | (with_reducible first | exact HB.out | apply below_alloc | apply pw_below_drewN | apply below_drew1) | exact HB.out))); (case aF => exact (fun k_ hk => ⟨Kd.fresh' (Kd.R_lt (by (with_reducible repeat (first | apply Kd.R_alloc | apply Kd.R_drewN | apply Kd.R_drew)); exact HO_7.out)) k_ hk, Kd.fresh' (Kd.R_lt (by (with_reducible repeat (first | apply Kd.R_alloc | apply Kd.R_drewN | apply Kd.R_drew)); exact HO_8.out)) k_ hk⟩)); (case aO => exact (by (with_reducible repeat (first | apply Kd.R_alloc | apply Kd.R_drewN | apply Kd.R_drew)); exact HO_9.out)); (case aS => exact (below_size (by repeat (first | (with_reducible first | exact HB.out | apply below_alloc | apply pw_below_drewN | apply below_drew1) | exact HB.out)))); (case aL => have := LMc34.out; omega); intro v189 w35 ho hb hg hat; rw [← Ny188.out] at ho; have n0_ := Aside0.mk (Kd.R_after (ok := (fun k_ => some k_ ≠ (.slice Ao19 t173.length co19 : Value).ownBlock)) (by (with_reducible repeat (first | apply Kd.R_alloc | apply Kd.R_drewN | apply Kd.R_drew)); exact HO_7.out) hg hat); have n1_ := Aside0.mk (Kd.R_after (ok := (fun k_ => some k_ ≠ (.slice Ao15 t170.length co15 : Value).ownBlock)) (by (with_reducible repeat (first | apply Kd.R_alloc | apply Kd.R_drewN | apply Kd.R_drew)); exact HO_8.out) hg hat); have n2_ := Aside0.mk (hb); have n3_ := Aside0.mk (ho); clear HO_7; clear HO_8; clear HB; clear HO_9; have HO_7 := n0_; have HO_8 := n1_; have HB := n2_; have HO190 := n3_; clear n0_ n1_ n2_ n3_; clear ho hb hg hat))
                              go_roundg kj21
                              case measure => have := HK1.out; have := HJ7.out; have := HJ13.out; have := HJ17.out; have := HJ21.out; omega
                              case rel => exact ⟨(y188), (wrap64 (x10_1 + 1)), (by first | rfl | (simp; done) | (simp [*]; done)), H', ⟨by have := HK1.out; have := HJ7.out; have := HJ13.out; have := HJ17.out; have := HJ21.out; omega⟩, ⟨by (with_reducible repeat (first | apply Kd.R_alloc | apply Kd.R_drewN | apply Kd.R_drew)); exact HO_7.out⟩, ⟨by (with_reducible repeat (first | apply Kd.R_alloc | apply Kd.R_drewN | apply Kd.R_drew)); exact HO_8.out⟩, ⟨by (with_reducible repeat (first | apply Kd.R_alloc | apply Kd.R_drewN | apply Kd.R_drew)); exact HO190.out⟩, ⟨by repeat (first | (with_reducible first | exact HB.out | apply below_alloc | apply pw_below_drewN | apply below_drew1) | exact HB.out)⟩⟩
                            · rw [if_neg c34] at H
                              exact absurd H (by simp)
                          · rw [if_neg c33] at H
                            have c33b0 : (x11_13.toList == ([62] : List UInt8)) = false := beq_eq_false_iff_ne.mpr c33
                            have c33b1 : (x11_13.toList != ([62] : List UInt8)) = true := bne_iff_ne.mpr c33
                            by_cases c36 : x11_13.toList = ([42] : List UInt8)
                            · rw [if_pos c36] at H
                              have c36b0 : (x11_13.toList == ([42] : List UInt8)) = true := beq_iff_eq.mpr c36
                              have c36b1 : (x11_13.toList != ([42] : List UInt8)) = false := bne_eq_false_iff_eq.mpr c36
                              clear c36
                              by_cases c37 : x9_1.length < 8796093022208
                              · rw [if_pos c37] at H
                                have LMc37 := Aside0.mk c37
                                clear c37
                                obtain ⟨y191, hy191⟩ : ∃ y_ : List ByteArray, y_ = (x9_1 ++ [a2]) := ⟨_, rfl⟩
                                replace H : (spec_Common.l0 kj21 a2 t170 t173 y191 (wrap64 (x10_1 + 1))) = some r := by first | (rw [hy191]; with_reducible exact H) | (have H2_ := (Option.bind_some _ _).symm.trans H; rw [hy191]; with_reducible exact H2_) | (have H2_ := (Option.bind_some _ _).symm.trans H; with_reducible exact H2_) | with_reducible exact H | (rw [hy191]; exact H) | exact H
                                have Ny191 := Aside0.mk hy191
                                clear hy191
                                have H' := Aside0.mk H
                                clear H
                                go_wp2_with (first | ((with_reducible refine gate_builtin (b := .append) (xs := #[.tmp 59, .tmp 61]) rfl ?_); (try (refine gate_guard (by rfl) ?_; dsimp only)); at_builtin; refine Kd.R_append Kd.string (w0 := w) w.heap.size rfl (.tmp 59) (.tmp 61) 31 9 (.string ⟨#[]⟩) 16 rfl Try.underlying31 info9 rfl (by decide) (by omega) u9 x9_1 a2 [.string a2] (fun k_ => some k_ ≠ (.slice Ao15 t170.length co15 : Value).ownBlock ∧ some k_ ≠ (.slice Ao19 t173.length co19 : Value).ownBlock) (fun _ => False) rfl rfl ?aP (fun _ hk => hk.elim) ?aF ?aO ?aB ?aS ?aL ?_; (case aP => exact rfl); (case aB => exact (by repeat (first | (with_reducible first | exact HB.out | apply below_alloc | apply pw_below_drewN | apply below_drew1) | exact HB.out))); (case aF => exact (fun k_ hk => ⟨Kd.fresh' (Kd.R_lt (by (with_reducible repeat (first | apply Kd.R_alloc | apply Kd.R_drewN | apply Kd.R_drew)); exact HO_7.out)) k_ hk, Kd.fresh' (Kd.R_lt (by (with_reducible repeat (first | apply Kd.R_alloc | apply Kd.R_drewN | apply Kd.R_drew)); exact HO_8.out)) k_ hk⟩)); (case aO => exact (by (with_reducible repeat (first | apply Kd.R_alloc | apply Kd.R_drewN | apply Kd.R_drew)); exact HO_9.out)); (case aS => exact (below_size (by repeat (first | (with_reducible first | exact HB.out | apply below_alloc | apply pw_below_drewN | apply below_drew1) | exact HB.out)))); (case aL => have := LMc37.out; omega); intro v192 w38 ho hb hg hat; rw [← Ny191.out] at ho; have n0_ := Aside0.mk (Kd.R_after (ok := (fun k_ => some k_ ≠ (.slice Ao19 t173.length co19 : Value).ownBlock)) (by (with_reducible repeat (first | apply Kd.R_alloc | apply Kd.R_drewN | apply Kd.R_drew)); exact HO_7.out) hg hat); have n1_ := Aside0.mk (Kd.R_after (ok := (fun k_ => some k_ ≠ (.slice Ao15 t170.length co15 : Value).ownBlock)) (by (with_reducible repeat (first | apply Kd.R_alloc | apply Kd.R_drewN | apply Kd.R_drew)); exact HO_8.out) hg hat); have n2_ := Aside0.mk (hb); have n3_ := Aside0.mk (ho); clear HO_7; clear HO_8; clear HB; clear HO_9; have HO_7 := n0_; have HO_8 := n1_; have HB := n2_; have HO193 := n3_; clear n0_ n1_ n2_ n3_; clear ho hb hg hat))
                                go_roundg kj21
                                case measure => have := HK1.out; have := HJ7.out; have := HJ13.out; have := HJ17.out; have := HJ21.out; omega
                                case rel => exact ⟨(y191), (wrap64 (x10_1 + 1)), (by first | rfl | (simp; done) | (simp [*]; done)), H', ⟨by have := HK1.out; have := HJ7.out; have := HJ13.out; have := HJ17.out; have := HJ21.out; omega⟩, ⟨by (with_reducible repeat (first | apply Kd.R_alloc | apply Kd.R_drewN | apply Kd.R_drew)); exact HO_7.out⟩, ⟨by (with_reducible repeat (first | apply Kd.R_alloc | apply Kd.R_drewN | apply Kd.R_drew)); exact HO_8.out⟩, ⟨by (with_reducible repeat (first | apply Kd.R_alloc | apply Kd.R_drewN | apply Kd.R_drew)); exact HO193.out⟩, ⟨by repeat (first | (with_reducible first | exact HB.out | apply below_alloc | apply pw_below_drewN | apply below_drew1) | exact HB.out)⟩⟩
                              · rw [if_neg c37] at H
                                exact absurd H (by simp)
                            · rw [if_neg c36] at H
                              have c36b0 : (x11_13.toList == ([42] : List UInt8)) = false := beq_eq_false_iff_ne.mpr c36
                              have c36b1 : (x11_13.toList != ([42] : List UInt8)) = true := bne_iff_ne.mpr c36
                              by_cases c39 : x9_1.length < 8796093022208
                              · rw [if_pos c39] at H
                                have LMc39 := Aside0.mk c39
                                clear c39
                                obtain ⟨y194, hy194⟩ : ∃ y_ : List ByteArray, y_ = (x9_1 ++ [x11_13]) := ⟨_, rfl⟩
                                replace H : (spec_Common.l0 kj21 a2 t170 t173 y194 (wrap64 (x10_1 + 1))) = some r := by first | (rw [hy194]; with_reducible exact H) | (have H2_ := (Option.bind_some _ _).symm.trans H; rw [hy194]; with_reducible exact H2_) | (have H2_ := (Option.bind_some _ _).symm.trans H; with_reducible exact H2_) | with_reducible exact H | (rw [hy194]; exact H) | exact H
                                have Ny194 := Aside0.mk hy194
                                clear hy194
                                have H' := Aside0.mk H
                                clear H
                                go_wp2_with (first | ((with_reducible refine gate_builtin (b := .append) (xs := #[.tmp 59, .tmp 61]) rfl ?_); (try (refine gate_guard (by rfl) ?_; dsimp only)); at_builtin; refine Kd.R_append Kd.string (w0 := w) w.heap.size rfl (.tmp 59) (.tmp 61) 31 9 (.string ⟨#[]⟩) 16 rfl Try.underlying31 info9 rfl (by decide) (by omega) u9 x9_1 x11_13 [.string x11_13] (fun k_ => some k_ ≠ (.slice Ao15 t170.length co15 : Value).ownBlock ∧ some k_ ≠ (.slice Ao19 t173.length co19 : Value).ownBlock) (fun _ => False) rfl rfl ?aP (fun _ hk => hk.elim) ?aF ?aO ?aB ?aS ?aL ?_; (case aP => exact rfl); (case aB => exact (by repeat (first | (with_reducible first | exact HB.out | apply below_alloc | apply pw_below_drewN | apply below_drew1) | exact HB.out))); (case aF => exact (fun k_ hk => ⟨Kd.fresh' (Kd.R_lt (by (with_reducible repeat (first | apply Kd.R_alloc | apply Kd.R_drewN | apply Kd.R_drew)); exact HO_7.out)) k_ hk, Kd.fresh' (Kd.R_lt (by (with_reducible repeat (first | apply Kd.R_alloc | apply Kd.R_drewN | apply Kd.R_drew)); exact HO_8.out)) k_ hk⟩)); (case aO => exact (by (with_reducible repeat (first | apply Kd.R_alloc | apply Kd.R_drewN | apply Kd.R_drew)); exact HO_9.out)); (case aS => exact (below_size (by repeat (first | (with_reducible first | exact HB.out | apply below_alloc | apply pw_below_drewN | apply below_drew1) | exact HB.out)))); (case aL => have := LMc39.out; omega); intro v195 w40 ho hb hg hat; rw [← Ny194.out] at ho; have n0_ := Aside0.mk (Kd.R_after (ok := (fun k_ => some k_ ≠ (.slice Ao19 t173.length co19 : Value).ownBlock)) (by (with_reducible repeat (first | apply Kd.R_alloc | apply Kd.R_drewN | apply Kd.R_drew)); exact HO_7.out) hg hat); have n1_ := Aside0.mk (Kd.R_after (ok := (fun k_ => some k_ ≠ (.slice Ao15 t170.length co15 : Value).ownBlock)) (by (with_reducible repeat (first | apply Kd.R_alloc | apply Kd.R_drewN | apply Kd.R_drew)); exact HO_8.out) hg hat); have n2_ := Aside0.mk (hb); have n3_ := Aside0.mk (ho); clear HO_7; clear HO_8; clear HB; clear HO_9; have HO_7 := n0_; have HO_8 := n1_; have HB := n2_; have HO196 := n3_; clear n0_ n1_ n2_ n3_; clear ho hb hg hat))
                                go_roundg kj21
                                case measure => have := HK1.out; have := HJ7.out; have := HJ13.out; have := HJ17.out; have := HJ21.out; omega
                                case rel => exact ⟨(y194), (wrap64 (x10_1 + 1)), (by first | rfl | (simp; done) | (simp [*]; done)), H', ⟨by have := HK1.out; have := HJ7.out; have := HJ13.out; have := HJ17.out; have := HJ21.out; omega⟩, ⟨by (with_reducible repeat (first | apply Kd.R_alloc | apply Kd.R_drewN | apply Kd.R_drew)); exact HO_7.out⟩, ⟨by (with_reducible repeat (first | apply Kd.R_alloc | apply Kd.R_drewN | apply Kd.R_drew)); exact HO_8.out⟩, ⟨by (with_reducible repeat (first | apply Kd.R_alloc | apply Kd.R_drewN | apply Kd.R_drew)); exact HO196.out⟩, ⟨by repeat (first | (with_reducible first | exact HB.out | apply below_alloc | apply pw_below_drewN | apply below_drew1) | exact HB.out)⟩⟩
                              · rw [if_neg c39] at H
                                exact absurd H (by simp)
          · replace c13 := Bool.eq_false_iff.mpr c13
            subst c13
            have H1 : ((spec_Join.f kj7 x9_1).bind fun t176 => (some t176)) = some r := by rw [if_neg (show ¬ (false = true) by decide)] at H; exact H
            clear H
            have H := H1
            clear H1
            replace H := Option.bind_eq_some_iff.mp H
            obtain ⟨t176, A410, H⟩ := H
            replace H : (some t176) = some r := H
            have A41 := Aside0.mk A410
            clear A410
            obtain rfl := Option.some.inj H
            obtain ⟨Ao42, co42, eo42⟩ := Kd.R_slice HO_9.out
            subst eo42
            go_wp2_with (first | ((with_reducible refine gate_callee (f := 31) rfl ?_); refine goesL_ (some 64) rfl rfl Try.func31 (by kernel_rfl) rfl #[.slice Ao42 x9_1.length co42] rfl (by (try simp only [List.map_toArray, List.map_cons, List.map_nil]); first | done | rfl | (simp only [List.length_drop, List.length_take]; rfl)) ?_; (with_reducible refine (spec_Join.calls kj7 _ _ x9_1 t176 _ ?side1 ?side2 A41.out).mono ?_); (case side1 => repeat (first | exact (Kd.R_reads' HO_9.out).2.2 | (with_reducible refine Kd.C_alloc ?_ _) | (with_reducible refine Kd.C_drewN ?_ _) | (with_reducible refine Kd.C_drew ?_))); (case side2 => exact (Kd.R_reads' HO_9.out).2.1); rintro e w' ⟨rfl, ⟨nd, rfl⟩⟩; refine ⟨_, rfl, ?_⟩))
            go_ret
            exact ⟨by first | rfl | (simp [errW_none, errW_some] <;> rfl) | (simp [*, errW_none, errW_some] <;> rfl), by repeat (first | (with_reducible first | exact HB.out | apply below_alloc | apply pw_below_drewN | apply below_drew1) | exact HB.out)⟩

end Go.Proofs.Ytgbdjinanflhaaa.GFnCollideMeans
