/- A walk of Go functions (plain functions of theirs, and that the machine's calls do what these say), written by a program of this session's. -/
import Derived.Test.YtpgjcelglimpcaaGFnFrameHeadx0
import Derived.Test.YtpgjcelglimpcaaGFnFrameHeadx1
import Derived.Test.YtpgjcelglimpcaaGFnFrameHeadx2
namespace Go.Proofs.Ytpgjcelglimpcaa.GFnFrameHead
open Go.RowKit Go.Proofs.YtpgjcelglimpcaaW.PrintWords Go.Proofs.YtpgjcelglimpcaaW.PrintLast Go.Proofs.YtpgjcelglimpcaaW.PrintMore
attribute [local go_sem] max2_int min2_int max_two min_two max_three min_three max_four min_four   -- for this text's walks alone
set_option linter.unusedVariables false
set_option linter.unusedSimpArgs false

/-! ### impl_FrameHead: function 22 -/
def impl_FrameHead.f (a0 : Bool) (a1 : Bool) (a2 : Bool) (a3 : Int) (a4 : Int) : Option (List Int) := (server_FrameHeader.f a0 a1 a2 a3 a4).bind fun t107 => (some t107)
set_option maxHeartbeats 8000000 in
set_option maxRecDepth 100000 in
theorem impl_FrameHead.calls (a0 : Bool) (a1 : Bool) (a2 : Bool) (a3 : Int) (a4 : Int) (r : List Int) (w : World) (h : impl_FrameHead.f a0 a1 a2 a3 a4 = some r) :
    Calls Try.prog 22 #[.bool a0, .bool a1, .bool a2, .int .i64 a3, .int .i64 a4] w fun e w' => ∃ v0_ : Value, e = .returned (v0_) ∧ Kd.R (Kd.int .u8) 5 w' w.heap.size (fun _ => True) v0_ r ∧ Below w.heap.size w w' := by
  have HB := Aside0.mk (Below.refl w.heap.size w)
  have H : ((server_FrameHeader.f a0 a1 a2 a3 a4).bind fun t107 => (some t107)) = some r := h
  clear h
  replace H := Option.bind_eq_some_iff.mp H
  obtain ⟨t107, A60, H⟩ := H
  replace H : (some t107) = some r := H
  have A6 := Aside0.mk A60
  clear A60
  obtain rfl := Option.some.inj H
  go_enter Try.func22, Try.ntmps22
  go_wp2_with (first | ((with_reducible refine gate_callee (f := 36) rfl ?_); refine goesL_ (some 16) rfl rfl Try.func36 (by kernel_rfl) rfl #[.bool a0, .bool a1, .bool a2, .int .i64 a3, .int .i64 a4] rfl (by (try simp only [List.map_toArray, List.map_cons, List.map_nil]); first | done | rfl | (simp only [List.length_drop, List.length_take]; rfl)) ?_; (with_reducible refine (server_FrameHeader.calls a0 a1 a2 a3 a4 t107 _ A6.out).mono ?_); rintro e w7 ⟨v108, rfl, ho0, hb⟩; refine ⟨_, rfl, ?_⟩; have n0_ := Aside0.mk (Kd.R_lower ho0 (below_size (by repeat (first | (with_reducible first | exact HB.out | apply below_alloc | apply pw_below_drewN | apply below_drew1) | exact HB.out)))); have n1_ := Aside0.mk (below_step (by repeat (first | (with_reducible first | exact HB.out | apply below_alloc | apply pw_below_drewN | apply below_drew1) | exact HB.out)) hb); clear HB; have HO109 := n0_; have HB := n1_; clear n0_ n1_; (try clear hb); (try clear hb2); (try clear hk); (try clear hi); (try clear ho0)))
  go_ret
  exact ⟨_, by first | rfl | (simp [errW_none, errW_some] <;> rfl) | (simp [*, errW_none, errW_some] <;> rfl), by (with_reducible repeat (first | apply Kd.R_alloc | apply Kd.R_drewN | apply Kd.R_drew)); exact HO109.out, by repeat (first | (with_reducible first | exact HB.out | apply below_alloc | apply pw_below_drewN | apply below_drew1) | exact HB.out)⟩

/-! ### spec_Head: function 23 -/
mutual
def spec_Head.j0 : Nat → Bool → Int → Int → Option (List Int)
  | 0, _, _, _ => none
  | k + 1, x1, x4, x11 => if x1 = true then (spec_Head.j1 k x4 ((x11 + 128) % 256)) else (spec_Head.j1 k x4 x11)
def spec_Head.j1 : Nat → Int → Int → Option (List Int)
  | 0, _, _ => none
  | k + 1, x4, x11 => if x4 ≤ 125 then (some (([x11, (x4) % 256] : List Int))) else (if x4 < 65536 then (some (([x11, 126, (x4 / 256) % 256, (x4) % 256] : List Int))) else (spec_Head.l0 k x4 (([x11, 127] : List Int)) 7))
def spec_Head.l0 : Nat → Int → List Int → Int → Option (List Int)
  | 0, _, _, _ => none
  | k + 1, x4, x12, x13 => if x13 ≥ 0 then (if 0 ≤ (IntKind.u64.wrap (8 * (IntKind.u64.wrap (x13)))) then (if x12.length < 140737488355328 then (spec_Head.l0 k x4 (x12 ++ [(shr .u64 x4 (IntKind.u64.wrap (8 * (IntKind.u64.wrap (x13))))) % 256]) (wrap64 (x13 - 1))) else (none)) else (none)) else (some x12)
end
def spec_Head.f (k : Nat) (a0 : Bool) (a1 : Bool) (a2 : Bool) (a3 : Int) (a4 : Int) : Option (List Int) := if a0 = true then (if a2 = true then (spec_Head.j0 k a1 a4 (((Int.tmod a3 16) + 64) % 256)) else (spec_Head.j0 k a1 a4 (Int.tmod a3 16))) else (spec_Head.j0 k a1 a4 0)
theorem spec_Head.mono_l : ∀ k, (∀ y0 y1 y2, LeO (spec_Head.j0 k y0 y1 y2) (spec_Head.j0 (k + 1) y0 y1 y2)) ∧ (∀ y0 y1, LeO (spec_Head.j1 k y0 y1) (spec_Head.j1 (k + 1) y0 y1)) ∧ (∀ y0 y1 y2, LeO (spec_Head.l0 k y0 y1 y2) (spec_Head.l0 (k + 1) y0 y1 y2))
  | 0 => ⟨fun _ _ _ r h => by simp [spec_Head.j0] at h, fun _ _ r h => by simp [spec_Head.j1] at h, fun _ _ _ r h => by simp [spec_Head.l0] at h⟩
  | k + 1 => by
    obtain ⟨ih0, ih1, ih2⟩ := spec_Head.mono_l k
    refine ⟨?_, ?_, ?_⟩
    · intro y0 y1 y2
      unfold spec_Head.j0
      repeat' first
      | (with_reducible exact ih0 _ _ _)
      | (with_reducible exact ih1 _ _)
      | (with_reducible exact ih2 _ _ _)
      | (with_reducible exact LeO.refl _)
      | (with_reducible exact LeO.none _)
      | (with_reducible refine LeO.ite ?_ ?_)
      | (with_reducible refine LeO.bind ?_ (fun _ => ?_))
      | exact ih0 _ _ _
      | exact ih1 _ _
      | exact ih2 _ _ _
      | exact LeO.none _
      | refine LeO.ite ?_ ?_
      | refine LeO.bind ?_ (fun _ => ?_)
    · intro y0 y1
      unfold spec_Head.j1
      repeat' first
      | (with_reducible exact ih0 _ _ _)
      | (with_reducible exact ih1 _ _)
      | (with_reducible exact ih2 _ _ _)
      | (with_reducible exact LeO.refl _)
      | (with_reducible exact LeO.none _)
      | (with_reducible refine LeO.ite ?_ ?_)
      | (with_reducible refine LeO.bind ?_ (fun _ => ?_))
      | exact ih0 _ _ _
      | exact ih1 _ _
      | exact ih2 _ _ _
      | exact LeO.none _
      | refine LeO.ite ?_ ?_
      | refine LeO.bind ?_ (fun _ => ?_)
    · intro y0 y1 y2
      unfold spec_Head.l0
      repeat' first
      | (with_reducible exact ih0 _ _ _)
      | (with_reducible exact ih1 _ _)
      | (with_reducible exact ih2 _ _ _)
      | (with_reducible exact LeO.refl _)
      | (with_reducible exact LeO.none _)
      | (with_reducible refine LeO.ite ?_ ?_)
      | (with_reducible refine LeO.bind ?_ (fun _ => ?_))
      | exact ih0 _ _ _
      | exact ih1 _ _
      | exact ih2 _ _ _
      | exact LeO.none _
      | refine LeO.ite ?_ ?_
      | refine LeO.bind ?_ (fun _ => ?_)
theorem spec_Head.mono : ∀ a0 a1 a2 a3 a4 k, LeO (spec_Head.f k a0 a1 a2 a3 a4) (spec_Head.f (k + 1) a0 a1 a2 a3 a4) := by
  intro a0 a1 a2 a3 a4 k
  obtain ⟨ih0, ih1, ih2⟩ := spec_Head.mono_l k
  unfold spec_Head.f
  repeat' first
      | (with_reducible exact ih0 _ _ _)
      | (with_reducible exact ih1 _ _)
      | (with_reducible exact ih2 _ _ _)
      | (with_reducible exact LeO.refl _)
      | (with_reducible exact LeO.none _)
      | (with_reducible refine LeO.ite ?_ ?_)
      | (with_reducible refine LeO.bind ?_ (fun _ => ?_))
      | exact ih0 _ _ _
      | exact ih1 _ _
      | exact ih2 _ _ _
      | exact LeO.none _
      | refine LeO.ite ?_ ?_
      | refine LeO.bind ?_ (fun _ => ?_)
set_option maxHeartbeats 8000000 in
set_option maxRecDepth 100000 in
theorem spec_Head.calls (k : Nat) (a0 : Bool) (a1 : Bool) (a2 : Bool) (a3 : Int) (a4 : Int) (r : List Int) (w : World) (h : spec_Head.f k a0 a1 a2 a3 a4 = some r) :
    Calls Try.prog 23 #[.bool a0, .bool a1, .bool a2, .int .u8 a3, .int .u64 a4] w fun e w' => ∃ v0_ : Value, e = .returned (v0_) ∧ Kd.R (Kd.int .u8) 5 w' w.heap.size (fun _ => True) v0_ r ∧ Below w.heap.size w w' := by
  have HB := Aside0.mk (Below.refl w.heap.size w)
  have H : (if a0 = true then (if a2 = true then (spec_Head.j0 k a1 a4 (((Int.tmod a3 16) + 64) % 256)) else (spec_Head.j0 k a1 a4 (Int.tmod a3 16))) else (spec_Head.j0 k a1 a4 0)) = some r := h
  clear h
  have HC6 := Aside0.mk H
  clear H
  go_enter Try.func23, Try.ntmps23
  go_upto_if 14 with (fail)
  go_cut [11] (fun v11 wc => ∃ (kq : Nat) (x11_5 : Int), v11 = .int .u8 x11_5 ∧ Aside0 (spec_Head.j0 kq a1 a4 x11_5 = some r) ∧ Aside0 (kq ≤ k) ∧ Aside0 (Below w.heap.size w wc))
  case first =>
    have H := HC6.out
    clear HC6
    by_cases c7 : a0 = true
    · subst c7
      have H1 : (if a2 = true then (spec_Head.j0 k a1 a4 (((Int.tmod a3 16) + 64) % 256)) else (spec_Head.j0 k a1 a4 (Int.tmod a3 16))) = some r := by rw [if_pos rfl] at H; exact H
      clear H
      have H := H1
      clear H1
      by_cases c8 : a2 = true
      · subst c8
        have H1 : (spec_Head.j0 k a1 a4 (((Int.tmod a3 16) + 64) % 256)) = some r := by rw [if_pos rfl] at H; exact H
        clear H
        have H := H1
        clear H1
        have H' := Aside0.mk H
        clear H
        go_wp2
        go_meet
        case rel => exact ⟨_, (((Int.tmod a3 16) + 64) % 256), (by first | rfl | (simp; done) | (simp [*]; done)), H', ⟨by first | omega | exact Nat.le_refl _⟩, ⟨by repeat (first | (with_reducible first | exact HB.out | apply below_alloc | apply pw_below_drewN | apply below_drew1) | exact HB.out)⟩⟩
      · replace c8 := Bool.eq_false_iff.mpr c8
        subst c8
        have H1 : (spec_Head.j0 k a1 a4 (Int.tmod a3 16)) = some r := by rw [if_neg (show ¬ (false = true) by decide)] at H; exact H
        clear H
        have H := H1
        clear H1
        have H' := Aside0.mk H
        clear H
        go_wp2
        go_meet
        case rel => exact ⟨_, (Int.tmod a3 16), (by first | rfl | (simp; done) | (simp [*]; done)), H', ⟨by first | omega | exact Nat.le_refl _⟩, ⟨by repeat (first | (with_reducible first | exact HB.out | apply below_alloc | apply pw_below_drewN | apply below_drew1) | exact HB.out)⟩⟩
    · replace c7 := Bool.eq_false_iff.mpr c7
      subst c7
      have H1 : (spec_Head.j0 k a1 a4 0) = some r := by rw [if_neg (show ¬ (false = true) by decide)] at H; exact H
      clear H
      have H := H1
      clear H1
      have H' := Aside0.mk H
      clear H
      go_wp2
      go_meet
      case rel => exact ⟨_, (0), (by first | rfl | (simp; done) | (simp [*]; done)), H', ⟨by first | omega | exact Nat.le_refl _⟩, ⟨by repeat (first | (with_reducible first | exact HB.out | apply below_alloc | apply pw_below_drewN | apply below_drew1) | exact HB.out)⟩⟩
  case rest =>
    clear HC6
    try clear c2
    try clear p2
    try clear c7
    try clear c8
    obtain ⟨kq, x11_5, rfl, HA, HJ5, HB⟩ := hcut
    cases kq with
    | zero => exact absurd HA.out (by simp [spec_Head.j0])
    | succ kj5 =>
      have H := HA.out
      clear HA
      simp only [spec_Head.j0] at H
      have HC9 := Aside0.mk H
      clear H
      go_upto_if 20 with (fail)
      go_cut [11] (fun v11 wc => ∃ (kq : Nat) (x11_8 : Int), v11 = .int .u8 x11_8 ∧ Aside0 (spec_Head.j1 kq a4 x11_8 = some r) ∧ Aside0 (kq ≤ kj5) ∧ Aside0 (Below w.heap.size w wc))
      case first =>
        have H := HC9.out
        clear HC9
        by_cases c10 : a1 = true
        · subst c10
          have H1 : (spec_Head.j1 kj5 a4 ((x11_5 + 128) % 256)) = some r := by rw [if_pos rfl] at H; exact H
          clear H
          have H := H1
          clear H1
          have H' := Aside0.mk H
          clear H
          go_wp2
          go_meet
          case rel => exact ⟨_, ((x11_5 + 128) % 256), (by first | rfl | (simp; done) | (simp [*]; done)), H', ⟨by have := HJ5.out; first | omega | exact Nat.le_refl _⟩, ⟨by repeat (first | (with_reducible first | exact HB.out | apply below_alloc | apply pw_below_drewN | apply below_drew1) | exact HB.out)⟩⟩
        · replace c10 := Bool.eq_false_iff.mpr c10
          subst c10
          have H1 : (spec_Head.j1 kj5 a4 x11_5) = some r := by rw [if_neg (show ¬ (false = true) by decide)] at H; exact H
          clear H
          have H := H1
          clear H1
          have H' := Aside0.mk H
          clear H
          go_wp2
          go_meet
          case rel => exact ⟨_, (x11_5), (by first | rfl | (simp; done) | (simp [*]; done)), H', ⟨by have := HJ5.out; first | omega | exact Nat.le_refl _⟩, ⟨by repeat (first | (with_reducible first | exact HB.out | apply below_alloc | apply pw_below_drewN | apply below_drew1) | exact HB.out)⟩⟩
      case rest =>
        clear HC9
        try clear c1
        try clear c2
        try clear p2
        try clear c7
        try clear c8
        try clear c10
        try clear p2
        obtain ⟨kq, x11_8, rfl, HA, HJ8, HB⟩ := hcut
        cases kq with
        | zero => exact absurd HA.out (by simp [spec_Head.j1])
        | succ kj8 =>
          have H := HA.out
          clear HA
          simp only [spec_Head.j1] at H
          by_cases c11 : a4 ≤ 125
          · rw [if_pos c11] at H
            have c11b0 : decide (a4 ≤ 125) = true := decide_eq_true c11
            clear c11
            obtain ⟨y110, hy110⟩ : ∃ y_ : List Int, y_ = (([x11_8, (a4) % 256] : List Int)) := ⟨_, rfl⟩
            replace H : (some y110) = some r := by first | (rw [hy110]; with_reducible exact H) | (have H2_ := (Option.bind_some _ _).symm.trans H; rw [hy110]; with_reducible exact H2_) | (have H2_ := (Option.bind_some _ _).symm.trans H; with_reducible exact H2_) | with_reducible exact H | (rw [hy110]; exact H) | exact H
            have Ny110 := Aside0.mk hy110
            clear hy110
            obtain rfl := Option.some.inj H
            go_wp2_with (first | ((with_reducible refine gate_dst (N := 29) rfl ?_); refine Kd.R_lit (Kd.int .u8) _ 5 ?hg (N := 29) ?hd (xs := ([x11_8, (a4) % 256] : List Int)) (inner := [.int .u8 x11_8, .int .u8 ((a4) % 256)]) (ok := fun _ => True) (okp := fun _ => True) ?hr ?hp (fun _ hk => hk) trivial (Below.refl _ _) (Nat.le_refl _) (by simp) ?_; (case hd => rfl); (case hg => rfl); (case hr => first | (go_simp; done) | (go_simp; rfl)); (case hp => exact (Reps.one (show Kd.M (Kd.int .u8) _ _ _ x11_8 [.int .u8 x11_8] from rfl) (Reps.one (show Kd.M (Kd.int .u8) _ _ _ ((a4) % 256) [.int .u8 ((a4) % 256)] from rfl) (Reps.none _ _)))); intro v111 w12 ho13 hb hg_ hnew_; clear hg_ hnew_; (first | rw [← Ny110.out] at ho13 | (simp only [Int.reduceToNat] at ho13; rw [← Ny110.out] at ho13)); have n0_ := Aside0.mk (Kd.R_lower ho13 (below_size (by repeat (first | (with_reducible first | exact HB.out | apply below_alloc | apply pw_below_drewN | apply below_drew1) | exact HB.out)))); have n1_ := Aside0.mk (below_step (by repeat (first | (with_reducible first | exact HB.out | apply below_alloc | apply pw_below_drewN | apply below_drew1) | exact HB.out)) hb); clear HB; have HO112 := n0_; have HB := n1_; clear n0_ n1_; clear hb ho13))
            go_ret
            exact ⟨_, by first | rfl | (simp [errW_none, errW_some] <;> rfl) | (simp [*, errW_none, errW_some] <;> rfl), by (with_reducible repeat (first | apply Kd.R_alloc | apply Kd.R_drewN | apply Kd.R_drew)); exact HO112.out, by repeat (first | (with_reducible first | exact HB.out | apply below_alloc | apply pw_below_drewN | apply below_drew1) | exact HB.out)⟩
          · rw [if_neg c11] at H
            have c11b0 : decide (a4 ≤ 125) = false := decide_eq_false c11
            clear c11
            by_cases c14 : a4 < 65536
            · rw [if_pos c14] at H
              have c14b0 : decide (a4 < 65536) = true := decide_eq_true c14
              clear c14
              obtain ⟨y113, hy113⟩ : ∃ y_ : List Int, y_ = (([x11_8, 126, (a4 / 256) % 256, (a4) % 256] : List Int)) := ⟨_, rfl⟩
              replace H : (some y113) = some r := by first | (rw [hy113]; with_reducible exact H) | (have H2_ := (Option.bind_some _ _).symm.trans H; rw [hy113]; with_reducible exact H2_) | (have H2_ := (Option.bind_some _ _).symm.trans H; with_reducible exact H2_) | with_reducible exact H | (rw [hy113]; exact H) | exact H
              have Ny113 := Aside0.mk hy113
              clear hy113
              obtain rfl := Option.some.inj H
              go_wp2_with (first | ((with_reducible refine gate_dst (N := 39) rfl ?_); refine Kd.R_lit (Kd.int .u8) _ 5 ?hg (N := 39) ?hd (xs := ([x11_8, 126, (a4 / 256) % 256, (a4) % 256] : List Int)) (inner := [.int .u8 x11_8, .int .u8 126, .int .u8 ((a4 / 256) % 256), .int .u8 ((a4) % 256)]) (ok := fun _ => True) (okp := fun _ => True) ?hr ?hp (fun _ hk => hk) trivial (Below.refl _ _) (Nat.le_refl _) (by simp) ?_; (case hd => rfl); (case hg => rfl); (case hr => first | (go_simp; done) | (go_simp; rfl)); (case hp => exact (Reps.one (show Kd.M (Kd.int .u8) _ _ _ x11_8 [.int .u8 x11_8] from rfl) (Reps.one (show Kd.M (Kd.int .u8) _ _ _ 126 [.int .u8 126] from rfl) (Reps.one (show Kd.M (Kd.int .u8) _ _ _ ((a4 / 256) % 256) [.int .u8 ((a4 / 256) % 256)] from rfl) (Reps.one (show Kd.M (Kd.int .u8) _ _ _ ((a4) % 256) [.int .u8 ((a4) % 256)] from rfl) (Reps.none _ _)))))); intro v114 w15 ho16 hb hg_ hnew_; clear hg_ hnew_; (first | rw [← Ny113.out] at ho16 | (simp only [Int.reduceToNat] at ho16; rw [← Ny113.out] at ho16)); have n0_ := Aside0.mk (Kd.R_lower ho16 (below_size (by repeat (first | (with_reducible first | exact HB.out | apply below_alloc | apply pw_below_drewN | apply below_drew1) | exact HB.out)))); have n1_ := Aside0.mk (below_step (by repeat (first | (with_reducible first | exact HB.out | apply below_alloc | apply pw_below_drewN | apply below_drew1) | exact HB.out)) hb); clear HB; have HO115 := n0_; have HB := n1_; clear n0_ n1_; clear hb ho16))
              go_ret
              exact ⟨_, by first | rfl | (simp [errW_none, errW_some] <;> rfl) | (simp [*, errW_none, errW_some] <;> rfl), by (with_reducible repeat (first | apply Kd.R_alloc | apply Kd.R_drewN | apply Kd.R_drew)); exact HO115.out, by repeat (first | (with_reducible first | exact HB.out | apply below_alloc | apply pw_below_drewN | apply below_drew1) | exact HB.out)⟩
            · rw [if_neg c14] at H
              have c14b0 : decide (a4 < 65536) = false := decide_eq_false c14
              clear c14
              obtain ⟨y116, hy116⟩ : ∃ y_ : List Int, y_ = (([x11_8, 127] : List Int)) := ⟨_, rfl⟩
              replace H : (spec_Head.l0 kj8 a4 y116 7) = some r := by first | (rw [hy116]; with_reducible exact H) | (have H2_ := (Option.bind_some _ _).symm.trans H; rw [hy116]; with_reducible exact H2_) | (have H2_ := (Option.bind_some _ _).symm.trans H; with_reducible exact H2_) | with_reducible exact H | (rw [hy116]; exact H) | exact H
              have Ny116 := Aside0.mk hy116
              clear hy116
              have H' := Aside0.mk H
              clear H
              go_wp2_with (first | ((with_reducible refine gate_dst (N := 41) rfl ?_); refine Kd.R_lit (Kd.int .u8) _ 5 ?hg (N := 41) ?hd (xs := ([x11_8, 127] : List Int)) (inner := [.int .u8 x11_8, .int .u8 127]) (ok := fun _ => True) (okp := fun _ => True) ?hr ?hp (fun _ hk => hk) trivial (Below.refl _ _) (Nat.le_refl _) (by simp) ?_; (case hd => rfl); (case hg => rfl); (case hr => first | (go_simp; done) | (go_simp; rfl)); (case hp => exact (Reps.one (show Kd.M (Kd.int .u8) _ _ _ x11_8 [.int .u8 x11_8] from rfl) (Reps.one (show Kd.M (Kd.int .u8) _ _ _ 127 [.int .u8 127] from rfl) (Reps.none _ _)))); intro v117 w17 ho18 hb hg_ hnew_; clear hg_ hnew_; (first | rw [← Ny116.out] at ho18 | (simp only [Int.reduceToNat] at ho18; rw [← Ny116.out] at ho18)); have n0_ := Aside0.mk (Kd.R_lower ho18 (below_size (by repeat (first | (with_reducible first | exact HB.out | apply below_alloc | apply pw_below_drewN | apply below_drew1) | exact HB.out)))); have n1_ := Aside0.mk (below_step (by repeat (first | (with_reducible first | exact HB.out | apply below_alloc | apply pw_below_drewN | apply below_drew1) | exact HB.out)) hb); clear HB; have HO118 := n0_; have HB := n1_; clear n0_ n1_; clear hb ho18))
              go_loopg [12, 13] kj8 (fun kq v12 v13 w' => ∃ (x12_3 : List Int) (x13_3 : Int), v13 = .int .i64 x13_3 ∧ Aside0 (spec_Head.l0 kq a4 x12_3 x13_3 = some r) ∧ Aside0 (kq ≤ kj8) ∧ Aside0 (Kd.R (Kd.int .u8) 5 w' w.heap.size (fun _ => True) v12 x12_3) ∧ Aside0 (Below w.heap.size w w'))
              case atStart => exact ⟨(y116), (7), (by first | rfl | (simp; done) | (simp [*]; done)), H', ⟨Nat.le_refl _⟩, ⟨by (with_reducible repeat (first | apply Kd.R_alloc | apply Kd.R_drewN | apply Kd.R_drew)); exact HO118.out⟩, ⟨by repeat (first | (with_reducible first | exact HB.out | apply below_alloc | apply pw_below_drewN | apply below_drew1) | exact HB.out)⟩⟩
              case round =>
                clear H'
                try clear c1
                try clear c2
                try clear p2
                try clear c7
                try clear c8
                try clear c10
                try clear c11
                try clear c11b0
                try clear c14
                try clear c14b0
                try clear p2
                obtain ⟨x12_3, x13_3, rfl, HA, HK3, HO_12, HB⟩ := hrel
                cases gk with
                | zero => exact absurd HA.out (by simp [spec_Head.l0])
                | succ k3 =>
                  have H := HA.out
                  clear HA
                  simp only [spec_Head.l0] at H
                  by_cases c19 : x13_3 ≥ 0
                  · rw [if_pos c19] at H
                    have c19b0 : decide (0 ≤ x13_3) = true := decide_eq_true c19
                    clear c19
                    obtain ⟨ji20, hji20⟩ : ∃ j_ : Int, (IntKind.u64.wrap (8 * (IntKind.u64.wrap (x13_3)))) = j_ := ⟨_, rfl⟩
                    replace H : (if 0 ≤ (ji20) then (if x12_3.length < 140737488355328 then (spec_Head.l0 k3 a4 (x12_3 ++ [(shr .u64 a4 (ji20)) % 256]) (wrap64 (x13_3 - 1))) else (none)) else (none)) = some r := by first | (rw [hji20] at H; exact H) | (simp only [hji20] at H ⊢; exact H)
                    by_cases c21 : 0 ≤ (ji20)
                    · rw [if_pos c21] at H
                      have c21b0 := eq_true c21
                      have c21b1 : decide (0 ≤ (ji20)) = true := decide_eq_true c21
                      clear c21
                      obtain ⟨ji22, hji22⟩ : ∃ j_ : Int, (shr .u64 a4 (ji20)) = j_ := ⟨_, rfl⟩
                      replace H : (if x12_3.length < 140737488355328 then (spec_Head.l0 k3 a4 (x12_3 ++ [(ji22) % 256]) (wrap64 (x13_3 - 1))) else (none)) = some r := by first | (rw [hji22] at H; exact H) | (simp only [hji22] at H ⊢; exact H)
                      have hji22_ : (a4 / 2 ^ min (ji20).toNat 64) = ji22 := hji22
                      have hji22z : (ji20) ≤ 64 → (a4 / 2 ^ (ji20).toNat) = ji22 := shr_small hji22
                      by_cases c23 : x12_3.length < 140737488355328
                      · rw [if_pos c23] at H
                        have LMc23 := Aside0.mk c23
                        clear c23
                        obtain ⟨y119, hy119⟩ : ∃ y_ : List Int, y_ = (x12_3 ++ [(ji22) % 256]) := ⟨_, rfl⟩
                        replace H : (spec_Head.l0 k3 a4 y119 (wrap64 (x13_3 - 1))) = some r := by first | (rw [hy119]; with_reducible exact H) | (have H2_ := (Option.bind_some _ _).symm.trans H; rw [hy119]; with_reducible exact H2_) | (have H2_ := (Option.bind_some _ _).symm.trans H; with_reducible exact H2_) | with_reducible exact H | (rw [hy119]; exact H) | exact H
                        have Ny119 := Aside0.mk hy119
                        clear hy119
                        have H' := Aside0.mk H
                        clear H
                        go_wp2_with (first | ((with_reducible refine gate_builtin (b := .append) (xs := #[.tmp 46, .tmp 53]) rfl ?_); at_builtin; refine Kd.R_append (Kd.int .u8) (w0 := w) w.heap.size rfl (.tmp 46) (.tmp 53) 24 5 (.int .u8 0) 1 rfl Try.underlying24 info5 rfl (by decide) (by omega) u12 x12_3 ((ji22) % 256) [.int .u8 ((ji22) % 256)] (fun _ => True) (fun _ => False) rfl rfl ?aP (fun _ hk => hk.elim) ?aF ?aO ?aB ?aS ?aL ?_; (case aP => exact rfl); (case aB => exact (by repeat (first | (with_reducible first | exact HB.out | apply below_alloc | apply pw_below_drewN | apply below_drew1) | exact HB.out))); (case aF => exact (fun _ _ => trivial)); (case aO => exact (by (with_reducible repeat (first | apply Kd.R_alloc | apply Kd.R_drewN | apply Kd.R_drew)); exact HO_12.out)); (case aS => exact (below_size (by repeat (first | (with_reducible first | exact HB.out | apply below_alloc | apply pw_below_drewN | apply below_drew1) | exact HB.out)))); (case aL => have := LMc23.out; omega); intro v120 w24 ho hb hg hat; rw [← Ny119.out] at ho; have n0_ := Aside0.mk (hb); have n1_ := Aside0.mk (ho); clear HB; clear HO_12; have HB := n0_; have HO121 := n1_; clear n0_ n1_; clear ho hb hg hat))
                        go_roundg k3
                        case measure => have := HJ5.out; have := HJ8.out; have := HK3.out; omega
                        case rel => exact ⟨(y119), (wrap64 (x13_3 - 1)), (by first | rfl | (simp; done) | (simp [*]; done)), H', ⟨by have := HJ5.out; have := HJ8.out; have := HK3.out; omega⟩, ⟨by (with_reducible repeat (first | apply Kd.R_alloc | apply Kd.R_drewN | apply Kd.R_drew)); exact HO121.out⟩, ⟨by repeat (first | (with_reducible first | exact HB.out | apply below_alloc | apply pw_below_drewN | apply below_drew1) | exact HB.out)⟩⟩
                      · rw [if_neg c23] at H
                        exact absurd H (by simp)
                    · rw [if_neg c21] at H
                      exact absurd H (by simp)
                  · rw [if_neg c19] at H
                    have c19b0 : decide (0 ≤ x13_3) = false := decide_eq_false c19
                    clear c19
                    obtain rfl := Option.some.inj H
                    go_wp2
                    go_ret
                    exact ⟨_, by first | rfl | (simp [errW_none, errW_some] <;> rfl) | (simp [*, errW_none, errW_some] <;> rfl), by (with_reducible repeat (first | apply Kd.R_alloc | apply Kd.R_drewN | apply Kd.R_drew)); exact HO_12.out, by repeat (first | (with_reducible first | exact HB.out | apply below_alloc | apply pw_below_drewN | apply below_drew1) | exact HB.out)⟩

/-! ### laws_FnFrameHead: function 7 -/
def laws_FnFrameHead.j0 : Nat → Bool → Bool → Bool → Int → Int → Bool → Option (Bool)
  | 0, _, _, _, _, _, _ => none
  | k + 1, x0, x1, x2, x3, x4, x31 => if x31 = true then (some true) else ((impl_FrameHead.f x0 x1 x2 x3 x4).bind fun t122 => ((spec_Head.f k x0 x1 x2 ((x3) % 256) (IntKind.u64.wrap (x4))).bind fun t125 => ((laws_sameBytes.f k t122 t125).bind fun t128 => (some t128))))
def laws_FnFrameHead.f (k : Nat) (a0 : Bool) (a1 : Bool) (a2 : Bool) (a3 : Int) (a4 : Int) : Option (Bool) := if a3 < 0 then (laws_FnFrameHead.j0 k a0 a1 a2 a3 a4 true) else (if a3 > 15 then (laws_FnFrameHead.j0 k a0 a1 a2 a3 a4 true) else (if a4 < 0 then (laws_FnFrameHead.j0 k a0 a1 a2 a3 a4 true) else (if a4 > 1099511627776 then (laws_FnFrameHead.j0 k a0 a1 a2 a3 a4 true) else (if a2 = true then (laws_FnFrameHead.j0 k a0 a1 a2 a3 a4 (!a0)) else (laws_FnFrameHead.j0 k a0 a1 a2 a3 a4 false)))))
theorem laws_FnFrameHead.mono_l : ∀ k, (∀ y0 y1 y2 y3 y4 y5, LeO (laws_FnFrameHead.j0 k y0 y1 y2 y3 y4 y5) (laws_FnFrameHead.j0 (k + 1) y0 y1 y2 y3 y4 y5))
  | 0 => fun _ _ _ _ _ _ r h => by simp [laws_FnFrameHead.j0] at h
  | k + 1 => by
    have ih0 := laws_FnFrameHead.mono_l k
    · intro y0 y1 y2 y3 y4 y5
      unfold laws_FnFrameHead.j0
      repeat' first
      | (with_reducible exact ih0 _ _ _ _ _ _)
      | (with_reducible exact laws_sameBytes.mono _ _ _)
      | (with_reducible exact spec_Head.mono _ _ _ _ _ _)
      | (with_reducible exact LeO.refl _)
      | (with_reducible exact LeO.none _)
      | (with_reducible refine LeO.ite ?_ ?_)
      | (with_reducible refine LeO.bind ?_ (fun _ => ?_))
      | exact ih0 _ _ _ _ _ _
      | exact laws_sameBytes.mono _ _ _
      | exact spec_Head.mono _ _ _ _ _ _
      | exact LeO.none _
      | refine LeO.ite ?_ ?_
      | refine LeO.bind ?_ (fun _ => ?_)
theorem laws_FnFrameHead.mono : ∀ a0 a1 a2 a3 a4 k, LeO (laws_FnFrameHead.f k a0 a1 a2 a3 a4) (laws_FnFrameHead.f (k + 1) a0 a1 a2 a3 a4) := by
  intro a0 a1 a2 a3 a4 k
  have ih0 := laws_FnFrameHead.mono_l k
  unfold laws_FnFrameHead.f
  repeat' first
      | (with_reducible exact ih0 _ _ _ _ _ _)
      | (with_reducible exact laws_sameBytes.mono _ _ _)
      | (with_reducible exact spec_Head.mono _ _ _ _ _ _)
      | (with_reducible exact LeO.refl _)
      | (with_reducible exact LeO.none _)
      | (with_reducible refine LeO.ite ?_ ?_)
      | (with_reducible refine LeO.bind ?_ (fun _ => ?_))
      | exact ih0 _ _ _ _ _ _
      | exact laws_sameBytes.mono _ _ _
      | exact spec_Head.mono _ _ _ _ _ _
      | exact LeO.none _
      | refine LeO.ite ?_ ?_
      | refine LeO.bind ?_ (fun _ => ?_)
set_option maxHeartbeats 8000000 in
set_option maxRecDepth 100000 in
theorem laws_FnFrameHead.calls (k : Nat) (a0 : Bool) (a1 : Bool) (a2 : Bool) (a3 : Int) (a4 : Int) (r : Bool) (w : World) (h : laws_FnFrameHead.f k a0 a1 a2 a3 a4 = some r) :
    Calls Try.prog 7 #[.bool a0, .bool a1, .bool a2, .int .i64 a3, .int .i64 a4] w fun e w' => e = .returned (.bool r) ∧ Below w.heap.size w w' := by
  have HB := Aside0.mk (Below.refl w.heap.size w)
  have H : (if a3 < 0 then (laws_FnFrameHead.j0 k a0 a1 a2 a3 a4 true) else (if a3 > 15 then (laws_FnFrameHead.j0 k a0 a1 a2 a3 a4 true) else (if a4 < 0 then (laws_FnFrameHead.j0 k a0 a1 a2 a3 a4 true) else (if a4 > 1099511627776 then (laws_FnFrameHead.j0 k a0 a1 a2 a3 a4 true) else (if a2 = true then (laws_FnFrameHead.j0 k a0 a1 a2 a3 a4 (!a0)) else (laws_FnFrameHead.j0 k a0 a1 a2 a3 a4 false)))))) = some r := h
  clear h
  have HC6 := Aside0.mk H
  clear H
  go_enter Try.func7, Try.ntmps7
  go_upto_region 1 with (fail)
  go_cut [31] (fun v31 wc => ∃ (kq : Nat) (x31_5 : Bool), v31 = .bool x31_5 ∧ Aside0 (laws_FnFrameHead.j0 kq a0 a1 a2 a3 a4 x31_5 = some r) ∧ Aside0 (kq ≤ k) ∧ Aside0 (Below w.heap.size w wc))
  case first =>
    have H := HC6.out
    clear HC6
    by_cases c7 : a3 < 0
    · rw [if_pos c7] at H
      have c7b0 : decide (a3 < 0) = true := decide_eq_true c7
      clear c7
      (first | rw [c7b0] | (simp only [i64_w, i32_w]; rw [c7b0]) | skip)
      have H' := Aside0.mk H
      clear H
      go_wp2
      go_meet
      case rel => exact ⟨_, (true), (by first | rfl | (simp; done) | (simp [*]; done)), H', ⟨by first | omega | exact Nat.le_refl _⟩, ⟨by repeat (first | (with_reducible first | exact HB.out | apply below_alloc | apply pw_below_drewN | apply below_drew1) | exact HB.out)⟩⟩
    · rw [if_neg c7] at H
      have c7b0 : decide (a3 < 0) = false := decide_eq_false c7
      clear c7
      (first | rw [c7b0] | (simp only [i64_w, i32_w]; rw [c7b0]) | skip)
      by_cases c8 : a3 > 15
      · rw [if_pos c8] at H
        have c8b0 : decide (15 < a3) = true := decide_eq_true c8
        clear c8
        have H' := Aside0.mk H
        clear H
        go_wp2
        go_meet
        case rel => exact ⟨_, (true), (by first | rfl | (simp; done) | (simp [*]; done)), H', ⟨by first | omega | exact Nat.le_refl _⟩, ⟨by repeat (first | (with_reducible first | exact HB.out | apply below_alloc | apply pw_below_drewN | apply below_drew1) | exact HB.out)⟩⟩
      · rw [if_neg c8] at H
        have c8b0 : decide (15 < a3) = false := decide_eq_false c8
        clear c8
        by_cases c9 : a4 < 0
        · rw [if_pos c9] at H
          have c9b0 : decide (a4 < 0) = true := decide_eq_true c9
          clear c9
          have H' := Aside0.mk H
          clear H
          go_wp2
          go_meet
          case rel => exact ⟨_, (true), (by first | rfl | (simp; done) | (simp [*]; done)), H', ⟨by first | omega | exact Nat.le_refl _⟩, ⟨by repeat (first | (with_reducible first | exact HB.out | apply below_alloc | apply pw_below_drewN | apply below_drew1) | exact HB.out)⟩⟩
        · rw [if_neg c9] at H
          have c9b0 : decide (a4 < 0) = false := decide_eq_false c9
          clear c9
          by_cases c10 : a4 > 1099511627776
          · rw [if_pos c10] at H
            have c10b0 : decide (1099511627776 < a4) = true := decide_eq_true c10
            clear c10
            have H' := Aside0.mk H
            clear H
            go_wp2
            go_meet
            case rel => exact ⟨_, (true), (by first | rfl | (simp; done) | (simp [*]; done)), H', ⟨by first | omega | exact Nat.le_refl _⟩, ⟨by repeat (first | (with_reducible first | exact HB.out | apply below_alloc | apply pw_below_drewN | apply below_drew1) | exact HB.out)⟩⟩
          · rw [if_neg c10] at H
            have c10b0 : decide (1099511627776 < a4) = false := decide_eq_false c10
            clear c10
            by_cases c11 : a2 = true
            · subst c11
              have H1 : (laws_FnFrameHead.j0 k a0 a1 true a3 a4 (!a0)) = some r := by rw [if_pos rfl] at H; exact H
              clear H
              have H := H1
              clear H1
              have H' := Aside0.mk H
              clear H
              go_wp2
              go_meet
              case rel => exact ⟨_, (!a0), (by first | rfl | (simp; done) | (simp [*]; done)), H', ⟨by first | omega | exact Nat.le_refl _⟩, ⟨by repeat (first | (with_reducible first | exact HB.out | apply below_alloc | apply pw_below_drewN | apply below_drew1) | exact HB.out)⟩⟩
            · replace c11 := Bool.eq_false_iff.mpr c11
              subst c11
              have H1 : (laws_FnFrameHead.j0 k a0 a1 false a3 a4 false) = some r := by rw [if_neg (show ¬ (false = true) by decide)] at H; exact H
              clear H
              have H := H1
              clear H1
              have H' := Aside0.mk H
              clear H
              go_wp2
              go_meet
              case rel => exact ⟨_, (false), (by first | rfl | (simp; done) | (simp [*]; done)), H', ⟨by first | omega | exact Nat.le_refl _⟩, ⟨by repeat (first | (with_reducible first | exact HB.out | apply below_alloc | apply pw_below_drewN | apply below_drew1) | exact HB.out)⟩⟩
  case rest =>
    clear HC6
    try clear c1
    try clear p2
    try clear c7
    try clear c7b0
    try clear c8
    try clear c8b0
    try clear c9
    try clear c9b0
    try clear c10
    try clear c10b0
    try clear c11
    obtain ⟨kq, x31_5, rfl, HA, HJ5, HB⟩ := hcut
    cases kq with
    | zero => exact absurd HA.out (by simp [laws_FnFrameHead.j0])
    | succ kj5 =>
      have H := HA.out
      clear HA
      simp only [laws_FnFrameHead.j0] at H
      by_cases c12 : x31_5 = true
      · subst c12
        have H1 : (some true) = some r := by rw [if_pos rfl] at H; exact H
        clear H
        have H := H1
        clear H1
        obtain rfl := Option.some.inj H
        go_wp2
        go_ret
        exact ⟨by first | rfl | (simp [errW_none, errW_some] <;> rfl) | (simp [*, errW_none, errW_some] <;> rfl), by repeat (first | (with_reducible first | exact HB.out | apply below_alloc | apply pw_below_drewN | apply below_drew1) | exact HB.out)⟩
      · replace c12 := Bool.eq_false_iff.mpr c12
        subst c12
        have H1 : ((impl_FrameHead.f a0 a1 a2 a3 a4).bind fun t122 => ((spec_Head.f kj5 a0 a1 a2 ((a3) % 256) (IntKind.u64.wrap (a4))).bind fun t125 => ((laws_sameBytes.f kj5 t122 t125).bind fun t128 => (some t128)))) = some r := by rw [if_neg (show ¬ (false = true) by decide)] at H; exact H
        clear H
        have H := H1
        clear H1
        replace H := Option.bind_eq_some_iff.mp H
        obtain ⟨t122, A130, H⟩ := H
        replace H : ((spec_Head.f kj5 a0 a1 a2 ((a3) % 256) (IntKind.u64.wrap (a4))).bind fun t125 => ((laws_sameBytes.f kj5 t122 t125).bind fun t128 => (some t128))) = some r := H
        have A13 := Aside0.mk A130
        clear A130
        replace H := Option.bind_eq_some_iff.mp H
        obtain ⟨t125, A140, H⟩ := H
        replace H : ((laws_sameBytes.f kj5 t122 t125).bind fun t128 => (some t128)) = some r := H
        have A14 := Aside0.mk A140
        clear A140
        replace H := Option.bind_eq_some_iff.mp H
        obtain ⟨t128, A150, H⟩ := H
        replace H : (some t128) = some r := H
        have A15 := Aside0.mk A150
        clear A150
        obtain rfl := Option.some.inj H
        go_wp2_with (first | ((with_reducible refine gate_callee (f := 22) rfl ?_); refine goesL_ (some 37) rfl rfl Try.func22 (by kernel_rfl) rfl #[.bool a0, .bool a1, .bool a2, .int .i64 a3, .int .i64 a4] rfl (by (try simp only [List.map_toArray, List.map_cons, List.map_nil]); first | done | rfl | (simp only [List.length_drop, List.length_take]; rfl)) ?_; (with_reducible refine (impl_FrameHead.calls a0 a1 a2 a3 a4 t122 _ A13.out).mono ?_); rintro e w16 ⟨v123, rfl, ho0, hb⟩; refine ⟨_, rfl, ?_⟩; have n0_ := Aside0.mk (Kd.R_lower ho0 (below_size (by repeat (first | (with_reducible first | exact HB.out | apply below_alloc | apply pw_below_drewN | apply below_drew1) | exact HB.out)))); have n1_ := Aside0.mk (below_step (by repeat (first | (with_reducible first | exact HB.out | apply below_alloc | apply pw_below_drewN | apply below_drew1) | exact HB.out)) hb); clear HB; have HO124 := n0_; have HB := n1_; clear n0_ n1_; (try clear hb); (try clear hb2); (try clear hk); (try clear hi); (try clear ho0)) | ((with_reducible refine gate_callee (f := 23) rfl ?_); refine goesL_ (some 45) rfl rfl Try.func23 (by kernel_rfl) rfl #[.bool a0, .bool a1, .bool a2, .int .u8 ((a3) % 256), .int .u64 (IntKind.u64.wrap (a4))] rfl (by (try simp only [List.map_toArray, List.map_cons, List.map_nil]); first | done | rfl | (simp only [List.length_drop, List.length_take]; rfl)) ?_; (with_reducible refine (spec_Head.calls kj5 a0 a1 a2 ((a3) % 256) (IntKind.u64.wrap (a4)) t125 _ A14.out).mono ?_); rintro e w17 ⟨v126, rfl, ho0, hb⟩; refine ⟨_, rfl, ?_⟩; have n0_ := Aside0.mk (Kd.R_elder' (by (with_reducible repeat (first | apply Kd.R_alloc | apply Kd.R_drewN | apply Kd.R_drew)); exact HO124.out) (Kd.R_base ho0) hb); have n1_ := Aside0.mk (Kd.R_lower (Kd.R_new' ho0 (Kd.R_lt (by (with_reducible repeat (first | apply Kd.R_alloc | apply Kd.R_drewN | apply Kd.R_drew)); exact HO124.out))) (below_size (by repeat (first | (with_reducible first | exact HB.out | apply below_alloc | apply pw_below_drewN | apply below_drew1) | exact HB.out)))); have n2_ := Aside0.mk (below_step (by repeat (first | (with_reducible first | exact HB.out | apply below_alloc | apply pw_below_drewN | apply below_drew1) | exact HB.out)) hb); clear HO124; clear HB; have HO124 := n0_; have HO127 := n1_; have HB := n2_; clear n0_ n1_ n2_; (try clear hb); (try clear hb2); (try clear hk); (try clear hi); (try clear ho0); obtain ⟨Ao18, co18, eo18⟩ := Kd.R_slice HO124.out; subst eo18; obtain ⟨Ao19, co19, eo19⟩ := Kd.R_slice HO127.out; subst eo19) | ((with_reducible refine gate_callee (f := 20) rfl ?_); refine goesL_ (some 46) rfl rfl Try.func20 (by kernel_rfl) rfl #[.slice Ao18 t122.length co18, .slice Ao19 t125.length co19] rfl (by (try simp only [List.map_toArray, List.map_cons, List.map_nil]); first | done | rfl | (simp only [List.length_drop, List.length_take]; rfl)) ?_; (with_reducible refine (laws_sameBytes.calls kj5 _ _ t122 _ _ t125 t128 _ ?side1 ?side2 ?side3 ?side4 A15.out).mono ?_); (case side1 => repeat (first | exact (Kd.R_reads' HO124.out).2.2 | (with_reducible refine Kd.C_alloc ?_ _) | (with_reducible refine Kd.C_drewN ?_ _) | (with_reducible refine Kd.C_drew ?_))); (case side2 => exact (Kd.R_reads' HO124.out).2.1); (case side3 => repeat (first | exact (Kd.R_reads' HO127.out).2.2 | (with_reducible refine Kd.C_alloc ?_ _) | (with_reducible refine Kd.C_drewN ?_ _) | (with_reducible refine Kd.C_drew ?_))); (case side4 => exact (Kd.R_reads' HO127.out).2.1); rintro e w' ⟨rfl, ⟨nd, rfl⟩⟩; refine ⟨_, rfl, ?_⟩))
        go_ret
        exact ⟨by first | rfl | (simp [errW_none, errW_some] <;> rfl) | (simp [*, errW_none, errW_some] <;> rfl), by repeat (first | (with_reducible first | exact HB.out | apply below_alloc | apply pw_below_drewN | apply below_drew1) | exact HB.out)⟩

/-- THE ONE PURE STATEMENT of laws_FnFrameHead: yours. -/
def laws_FnFrameHead.Pure : Prop := ∀ (a0 : Bool) (a1 : Bool) (a2 : Bool) (a3 : Int) (a4 : Int), (Lit.int .i64 a3).wf = true → (Lit.int .i64 a4).wf = true → ∃ k, laws_FnFrameHead.f k a0 a1 a2 a3 a4 = some true
theorem laws_FnFrameHead.walk (P : laws_FnFrameHead.Pure) (a0 : Bool) (a1 : Bool) (a2 : Bool) (a3 : Int) (a4 : Int) (w : World) (w3 : (Lit.int .i64 a3).wf = true) (w4 : (Lit.int .i64 a4).wf = true) :
    Calls Try.prog 7 #[.bool a0, .bool a1, .bool a2, .int .i64 a3, .int .i64 a4] w fun e w' => e = .returned (.bool true) ∧ Below w.heap.size w w' := by
  obtain ⟨k, h⟩ := P a0 a1 a2 a3 a4 w3 w4
  refine (laws_FnFrameHead.calls k a0 a1 a2 a3 a4 true w h).mono ?_
  rintro e w' ⟨rfl, hd⟩
  exact ⟨rfl, hd⟩

end Go.Proofs.Ytpgjcelglimpcaa.GFnFrameHead
