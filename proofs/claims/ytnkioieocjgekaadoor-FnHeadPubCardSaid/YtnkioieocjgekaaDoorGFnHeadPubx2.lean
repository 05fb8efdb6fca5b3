/- A walk of Go functions (plain functions of theirs, and that the machine's calls do what these say), written by a program of this session's. -/
import Derived.Test.YtnkioieocjgekaaDoorGFnHeadPubx0
import Derived.Test.YtnkioieocjgekaaDoorGFnHeadPubx1
namespace Go.Proofs.YtnkioieocjgekaaDoor.GFnHeadPub
open Go.RowKit Go.Proofs.YtnkioieocjgekaaDoorW.PrintWords Go.Proofs.YtnkioieocjgekaaDoorW.PrintLast Go.Proofs.YtnkioieocjgekaaDoorW.PrintMore
attribute [local go_sem] max2_int min2_int max_two min_two max_three min_three max_four min_four   -- for this text's walks alone
set_option linter.unusedVariables false
set_option linter.unusedSimpArgs false

/-! ### spec_ReadHPub: function 8 -/
def spec_ReadHPub.j0 : Nat → List ByteArray → Bool → Option (ByteArray × ByteArray × Int × Int × Bool)
  | 0, _, _ => none
  | k + 1, x4, x15 => if x15 = true then (some ((⟨#[]⟩ : ByteArray), (⟨#[]⟩ : ByteArray), 0, 0, false)) else (if 0 < (x4.length : Int) then (if 0 ≤ (wrap64 ((x4.length : Int) - 2)) then (if (wrap64 ((x4.length : Int) - 2)) < (x4.length : Int) then ((spec_Size.f k (rdOf ByteArray.empty x4 (wrap64 ((x4.length : Int) - 2)))).bind fun t112 => (if 0 ≤ (wrap64 ((x4.length : Int) - 1)) then (if (wrap64 ((x4.length : Int) - 1)) < (x4.length : Int) then ((spec_Size.f k (rdOf ByteArray.empty x4 (wrap64 ((x4.length : Int) - 1)))).bind fun t114 => (if (x4.length : Int) = 4 then (if 1 < (x4.length : Int) then (if t112 ≥ 0 then (some (rdOf ByteArray.empty x4 0, rdOf ByteArray.empty x4 1, t112, t114, decide (t114 ≥ t112))) else (some (rdOf ByteArray.empty x4 0, rdOf ByteArray.empty x4 1, t112, t114, false))) else (none)) else (if t112 ≥ 0 then (some (rdOf ByteArray.empty x4 0, (⟨#[]⟩ : ByteArray), t112, t114, decide (t114 ≥ t112))) else (some (rdOf ByteArray.empty x4 0, (⟨#[]⟩ : ByteArray), t112, t114, false))))) else (none)) else (none))) else (none)) else (none)) else (none))
def spec_ReadHPub.f (k : Nat) (a0 : ByteArray) : Option (ByteArray × ByteArray × Int × Int × Bool) := (spec_Words.f k a0).bind fun t107 => (if (t107.length : Int) < 3 then (spec_ReadHPub.j0 k t107 true) else (spec_ReadHPub.j0 k t107 (decide ((t107.length : Int) > 4))))
theorem spec_ReadHPub.mono_l : ∀ k, (∀ y0 y1, LeO (spec_ReadHPub.j0 k y0 y1) (spec_ReadHPub.j0 (k + 1) y0 y1))
  | 0 => fun _ _ r h => by simp [spec_ReadHPub.j0] at h
  | k + 1 => by
    have ih0 := spec_ReadHPub.mono_l k
    · intro y0 y1
      unfold spec_ReadHPub.j0
      repeat' first
      | (with_reducible exact ih0 _ _)
      | (with_reducible exact spec_Size.mono _ _)
      | (with_reducible exact spec_Words.mono _ _)
      | (with_reducible exact LeO.refl _)
      | (with_reducible exact LeO.none _)
      | (with_reducible refine LeO.ite ?_ ?_)
      | (with_reducible refine LeO.bind ?_ (fun _ => ?_))
      | exact ih0 _ _
      | exact spec_Size.mono _ _
      | exact spec_Words.mono _ _
      | exact LeO.none _
      | refine LeO.ite ?_ ?_
      | refine LeO.bind ?_ (fun _ => ?_)
theorem spec_ReadHPub.mono : ∀ a0 k, LeO (spec_ReadHPub.f k a0) (spec_ReadHPub.f (k + 1) a0) := by
  intro a0 k
  have ih0 := spec_ReadHPub.mono_l k
  unfold spec_ReadHPub.f
  repeat' first
      | (with_reducible exact ih0 _ _)
      | (with_reducible exact spec_Size.mono _ _)
      | (with_reducible exact spec_Words.mono _ _)
      | (with_reducible exact LeO.refl _)
      | (with_reducible exact LeO.none _)
      | (with_reducible refine LeO.ite ?_ ?_)
      | (with_reducible refine LeO.bind ?_ (fun _ => ?_))
      | exact ih0 _ _
      | exact spec_Size.mono _ _
      | exact spec_Words.mono _ _
      | exact LeO.none _
      | refine LeO.ite ?_ ?_
      | refine LeO.bind ?_ (fun _ => ?_)
def spec_ReadHPub.T4 : Bool × List (List Nat × List Nat) := (true, [([], []), ([0], [0]), ([1], [1]), ([], []), ([], []), ([4], [4]), ([5], [5]), ([3, 6], [3, 6]), ([7], [7]), ([8], [8]), ([], []), ([], []), ([11], [11]), ([12], [12]), ([10, 13], [10, 13]), ([14], [14]), ([15, 9], [15]), ([2, 9, 16], [2, 9, 16]), ([], []), ([18, 17, 16, 0, 1, 2, 3, 4, 5, 6, 7, 8, 9, 10, 11, 12, 13, 14, 15, 16, 17, 18], [17, 18])])
def spec_ReadHPub.B4 : List Nat := [0, 1, 3, 0, 0, 16, 48, 120, 248, 504, 0, 0, 2048, 6144, 15360, 31744, 65528, 131071, 0, 524287]
theorem spec_ReadHPub.tab4 : rtab .any (opsOf Tryd.f8 4) = spec_ReadHPub.T4 := by kernel_rfl
theorem spec_ReadHPub.bits4 : waitsOk spec_ReadHPub.T4.2 spec_ReadHPub.B4 = true := by kernel_rfl
def spec_ReadHPub.T7 : Bool × List (List Nat × List Nat) := (true, [([], []), ([], []), ([1], [1]), ([2], [2]), ([3], [3]), ([4], [4]), ([5, 4], [4, 5]), ([4], [4]), ([7, 4], [4, 7]), ([6, 8, 4], [4, 6, 8]), ([4, 9], [4, 9]), ([0, 4, 0], [0]), ([10, 11, 0, 1, 2, 3, 4, 5, 6, 7, 8, 9, 10, 11], [10])])
def spec_ReadHPub.B7 : List Nat := [0, 0, 2, 6, 14, 30, 62, 30, 158, 510, 1022, 31, 4095]
theorem spec_ReadHPub.tab7 : rtab .any (opsOf Tryd.f8 7) = spec_ReadHPub.T7 := by kernel_rfl
theorem spec_ReadHPub.bits7 : waitsOk spec_ReadHPub.T7.2 spec_ReadHPub.B7 = true := by kernel_rfl
set_option maxHeartbeats 8000000 in
set_option maxRecDepth 100000 in
theorem spec_ReadHPub.calls (k : Nat) (a0 : ByteArray) (r1 : ByteArray) (r2 : ByteArray) (r3 : Int) (r4 : Int) (r5 : Bool) (w : World) (h : spec_ReadHPub.f k a0 = some (r1, r2, r3, r4, r5)) :
    Calls Tryd.prog 8 #[.string a0] w fun e w' => e = .returned (.tuple #[.agg #[.string r1, .string r2, .int .i64 r3, .int .i64 r4], .bool r5]) ∧ Below w.heap.size w w' := by
  have hu25 := Tryd.underlying25
  have HB := Aside0.mk (Below.refl w.heap.size w)
  have H : ((spec_Words.f k a0).bind fun t107 => (if (t107.length : Int) < 3 then (spec_ReadHPub.j0 k t107 true) else (spec_ReadHPub.j0 k t107 (decide ((t107.length : Int) > 4))))) = some (r1, r2, r3, r4, r5) := h
  clear h
  replace H := Option.bind_eq_some_iff.mp H
  obtain ⟨t107, A20, H⟩ := H
  replace H : (if (t107.length : Int) < 3 then (spec_ReadHPub.j0 k t107 true) else (spec_ReadHPub.j0 k t107 (decide ((t107.length : Int) > 4)))) = some (r1, r2, r3, r4, r5) := H
  have A2 := Aside0.mk A20
  clear A20
  have HC3 := Aside0.mk H
  clear H
  go_enter Tryd.func8, Tryd.ntmps8
  go_upto_region 2 with (first | ((with_reducible refine gate_dst (N := 2) rfl ?_); (try (refine gate_guard (by rfl) ?_; dsimp only)); refine box_event ?hg (N := 2) ?hd (cs := #[.string (⟨#[]⟩ : ByteArray), .string (⟨#[]⟩ : ByteArray), .int .i64 0, .int .i64 0]) (t := 25) ?hr ?_; (case hd => rfl); (case hg => rfl); (case hr => first | (go_simp; done) | (go_simp; rfl)); intro gb106 hg w4 hbox hb; have n0_ := Aside0.mk (below_step (by repeat (first | (with_reducible first | exact HB.out | apply below_alloc | apply pw_below_drewN | apply below_drew1) | exact HB.out)) hb); have n1_ := Aside0.mk (hbox); have n2_ := Aside0.mk ((by rw [hg]; exact (below_size (by repeat (first | (with_reducible first | exact HB.out | apply below_alloc | apply pw_below_drewN | apply below_drew1) | exact HB.out))) : w.heap.size ≤ gb106)); have n3_ := Aside0.mk ((by rw [hg]; exact (below_size (by repeat (first | (with_reducible first | exact HB.out | apply below_alloc | apply pw_below_drewN | apply below_drew1) | exact HB.out))) : w.heap.size ≤ gb106)); clear HB; have HB := n0_; have BK106 := n1_; have GW106 := n2_; have GE106 := n3_; clear n0_ n1_ n2_ n3_; clear hb hbox hg) | ((with_reducible refine gate_callee (f := 17) rfl ?_); refine goesL_ (some 7) rfl rfl Tryd.func17 (by kernel_rfl) rfl #[.string a0] rfl (by (try simp only [List.map_toArray, List.map_cons, List.map_nil]); first | done | rfl | (simp only [List.length_drop, List.length_take]; rfl)) ?_; (with_reducible refine (spec_Words.calls k a0 t107 _ A2.out).mono ?_); rintro e w5 ⟨v108, rfl, ho0, hb⟩; refine ⟨_, rfl, ?_⟩; have n0_ := Aside0.mk (Kd.R_lower ho0 (below_size (by repeat (first | (with_reducible first | exact HB.out | apply below_alloc | apply pw_below_drewN | apply below_drew1 | refine below_set ?_ GE106.out) | exact HB.out)))); have n1_ := Aside0.mk (blk_below (g := gb106) (o := .cells #[.string (⟨#[]⟩ : ByteArray), .string (⟨#[]⟩ : ByteArray), .int .i64 0, .int .i64 0] 25 (0, 0)) (by (with_reducible repeat (first | refine blk_drewN ?_ _ | refine blk_drew ?_ | refine blk_alloc ?_ _)); exact BK106.out) hb); have n2_ := Aside0.mk (below_step (by repeat (first | (with_reducible first | exact HB.out | apply below_alloc | apply pw_below_drewN | apply below_drew1 | refine below_set ?_ GE106.out) | exact HB.out)) hb); clear BK106; clear HB; have HO109 := n0_; have BK106 := n1_; have HB := n2_; clear n0_ n1_ n2_; (try clear hb); (try clear hb2); (try clear hk); (try clear hi); (try clear ho0)))
  (try simp only [Act.put, List.setIfInBounds_toArray, List.set_cons_zero, List.set_cons_succ])
  go_cut [15] (fun v15 wc => ∃ (kq : Nat) (x15_2 : Bool), v15 = .bool x15_2 ∧ Aside0 (spec_ReadHPub.j0 kq t107 x15_2 = some (r1, r2, r3, r4, r5)) ∧ Aside0 (kq ≤ k) ∧ Aside0 (Kd.R Kd.string 9 wc w.heap.size (fun _ => True) v108 t107) ∧ Aside0 (wc.heap[gb106]? = some (.cells #[.string (⟨#[]⟩ : ByteArray), .string (⟨#[]⟩ : ByteArray), .int .i64 0, .int .i64 0] 25 (0, 0))) ∧ Aside0 (Below w.heap.size w wc))
  case first =>
    have H := HC3.out
    clear HC3
    by_cases c6 : (t107.length : Int) < 3
    · rw [if_pos c6] at H
      have c6b0 : decide ((t107.length : Int) < 3) = true := decide_eq_true c6
      have c6b1 : decide (t107.length < 3) = true := decide_eq_true (by omega)
      clear c6
      (first | rw [c6b0] | (simp only [i64_w, i32_w]; rw [c6b0]) | skip)
      have H' := Aside0.mk H
      clear H
      obtain ⟨Ao7, co7, eo7⟩ := Kd.R_slice HO109.out
      subst eo7
      go_wp2
      go_meet
      case rel => exact ⟨_, (true), (by first | rfl | (simp; done) | (simp [*]; done)), H', ⟨by first | omega | exact Nat.le_refl _⟩, ⟨by (with_reducible repeat (first | apply Kd.R_alloc | apply Kd.R_drewN | apply Kd.R_drew)); exact HO109.out⟩, ⟨by (with_reducible repeat (first | refine blk_drewN ?_ _ | refine blk_drew ?_ | refine blk_alloc ?_ _)); exact BK106.out⟩, ⟨by repeat (first | (with_reducible first | exact HB.out | apply below_alloc | apply pw_below_drewN | apply below_drew1 | refine below_set ?_ GE106.out) | exact HB.out)⟩⟩
    · rw [if_neg c6] at H
      have c6b0 : decide ((t107.length : Int) < 3) = false := decide_eq_false c6
      have c6b1 : decide (t107.length < 3) = false := decide_eq_false (by omega)
      clear c6
      (first | rw [c6b0] | (simp only [i64_w, i32_w]; rw [c6b0]) | skip)
      have H' := Aside0.mk H
      clear H
      obtain ⟨Ao8, co8, eo8⟩ := Kd.R_slice HO109.out
      subst eo8
      go_wp2
      go_meet
      case rel => exact ⟨_, (decide ((t107.length : Int) > 4)), (by first | rfl | (simp; done) | (simp [*]; done)), H', ⟨by first | omega | exact Nat.le_refl _⟩, ⟨by (with_reducible repeat (first | apply Kd.R_alloc | apply Kd.R_drewN | apply Kd.R_drew)); exact HO109.out⟩, ⟨by (with_reducible repeat (first | refine blk_drewN ?_ _ | refine blk_drew ?_ | refine blk_alloc ?_ _)); exact BK106.out⟩, ⟨by repeat (first | (with_reducible first | exact HB.out | apply below_alloc | apply pw_below_drewN | apply below_drew1 | refine below_set ?_ GE106.out) | exact HB.out)⟩⟩
  case rest =>
    clear HC3
    try clear c1
    try clear p2
    try clear c6
    try clear c6b0
    try clear c6b1
    try clear c8
    obtain ⟨kq, x15_2, rfl, HA, HJ2, HO_4, BK106, HB⟩ := hcut
    cases kq with
    | zero => exact absurd HA.out (by simp [spec_ReadHPub.j0])
    | succ kj2 =>
      have H := HA.out
      clear HA
      simp only [spec_ReadHPub.j0] at H
      by_cases c9 : x15_2 = true
      · subst c9
        have H1 : (some ((⟨#[]⟩ : ByteArray), (⟨#[]⟩ : ByteArray), 0, 0, false)) = some (r1, r2, r3, r4, r5) := by rw [if_pos rfl] at H; exact H
        clear H
        have H := H1
        clear H1
        simp only [Option.some.injEq, Prod.mk.injEq] at H
        obtain ⟨rfl, rfl, rfl, rfl, rfl⟩ := H
        have hcz10_0 : wc.cell? ⟨gb106, 0, none⟩ = some (.string (⟨#[]⟩ : ByteArray)) := (blk_cell BK106.out 0).trans rfl
        have hcz10_1 : wc.cell? ⟨gb106, 1, none⟩ = some (.string (⟨#[]⟩ : ByteArray)) := (blk_cell BK106.out 1).trans rfl
        have hcz10_2 : wc.cell? ⟨gb106, 2, none⟩ = some (.int .i64 0) := (blk_cell BK106.out 2).trans rfl
        have hcz10_3 : wc.cell? ⟨gb106, 3, none⟩ = some (.int .i64 0) := (blk_cell BK106.out 3).trans rfl
        have hfz10_0 := blk_frozen BK106.out 0
        have hfz10_1 := blk_frozen BK106.out 1
        have hfz10_2 := blk_frozen BK106.out 2
        have hfz10_3 := blk_frozen BK106.out 3
        go_wp2
        refine bodyPost_ret (results_ct rfl _ _ gb106 25 #[.string (⟨#[]⟩ : ByteArray), .string (⟨#[]⟩ : ByteArray), .int .i64 0, .int .i64 0] (0, 0) _ rfl (by (with_reducible repeat (first | refine blk_drewN ?_ _ | refine blk_drew ?_ | refine blk_alloc ?_ _)); refine blk_put (cs := #[.string (⟨#[]⟩ : ByteArray), .string (⟨#[]⟩ : ByteArray), .int .i64 0, .int .i64 0]) ?_ 3 _ rfl; (with_reducible repeat (first | refine blk_drewN ?_ _ | refine blk_drew ?_ | refine blk_alloc ?_ _)); refine blk_put (cs := #[.string (⟨#[]⟩ : ByteArray), .string (⟨#[]⟩ : ByteArray), .int .i64 0, .int .i64 0]) ?_ 2 _ rfl; (with_reducible repeat (first | refine blk_drewN ?_ _ | refine blk_drew ?_ | refine blk_alloc ?_ _)); refine blk_put (cs := #[.string (⟨#[]⟩ : ByteArray), .string (⟨#[]⟩ : ByteArray), .int .i64 0, .int .i64 0]) ?_ 1 _ rfl; (with_reducible repeat (first | refine blk_drewN ?_ _ | refine blk_drew ?_ | refine blk_alloc ?_ _)); refine blk_put (cs := #[.string (⟨#[]⟩ : ByteArray), .string (⟨#[]⟩ : ByteArray), .int .i64 0, .int .i64 0]) ?_ 0 _ rfl; (with_reducible repeat (first | refine blk_drewN ?_ _ | refine blk_drew ?_ | refine blk_alloc ?_ _)); exact BK106.out) Tryd.underlying25 rfl (by kernel_rfl)) rfl ?_
        exact ⟨by first | rfl | (simp [errW_none, errW_some] <;> rfl) | (simp [*, errW_none, errW_some] <;> rfl), by repeat (first | (with_reducible first | exact HB.out | apply below_alloc | apply pw_below_drewN | apply below_drew1 | refine below_set ?_ GE106.out) | exact HB.out)⟩
      · replace c9 := Bool.eq_false_iff.mpr c9
        subst c9
        have H1 : (if 0 < (t107.length : Int) then (if 0 ≤ (wrap64 ((t107.length : Int) - 2)) then (if (wrap64 ((t107.length : Int) - 2)) < (t107.length : Int) then ((spec_Size.f kj2 (rdOf ByteArray.empty t107 (wrap64 ((t107.length : Int) - 2)))).bind fun t112 => (if 0 ≤ (wrap64 ((t107.length : Int) - 1)) then (if (wrap64 ((t107.length : Int) - 1)) < (t107.length : Int) then ((spec_Size.f kj2 (rdOf ByteArray.empty t107 (wrap64 ((t107.length : Int) - 1)))).bind fun t114 => (if (t107.length : Int) = 4 then (if 1 < (t107.length : Int) then (if t112 ≥ 0 then (some (rdOf ByteArray.empty t107 0, rdOf ByteArray.empty t107 1, t112, t114, decide (t114 ≥ t112))) else (some (rdOf ByteArray.empty t107 0, rdOf ByteArray.empty t107 1, t112, t114, false))) else (none)) else (if t112 ≥ 0 then (some (rdOf ByteArray.empty t107 0, (⟨#[]⟩ : ByteArray), t112, t114, decide (t114 ≥ t112))) else (some (rdOf ByteArray.empty t107 0, (⟨#[]⟩ : ByteArray), t112, t114, false))))) else (none)) else (none))) else (none)) else (none)) else (none)) = some (r1, r2, r3, r4, r5) := by rw [if_neg (show ¬ (false = true) by decide)] at H; exact H
        clear H
        have H := H1
        clear H1
        by_cases c11 : 0 < (t107.length : Int)
        · rw [if_pos c11] at H
          have c11b0 : decide (0 < (t107.length : Int)) = true := decide_eq_true c11
          have c11b1 : decide (0 < t107.length) = true := decide_eq_true (by omega)
          clear c11
          obtain ⟨ji12, hji12⟩ : ∃ j_ : Int, (wrap64 ((t107.length : Int) - 2)) = j_ := ⟨_, rfl⟩
          replace H : (if 0 ≤ (ji12) then (if (ji12) < (t107.length : Int) then ((spec_Size.f kj2 (rdOf ByteArray.empty t107 (ji12))).bind fun t112 => (if 0 ≤ (wrap64 ((t107.length : Int) - 1)) then (if (wrap64 ((t107.length : Int) - 1)) < (t107.length : Int) then ((spec_Size.f kj2 (rdOf ByteArray.empty t107 (wrap64 ((t107.length : Int) - 1)))).bind fun t114 => (if (t107.length : Int) = 4 then (if 1 < (t107.length : Int) then (if t112 ≥ 0 then (some (rdOf ByteArray.empty t107 0, rdOf ByteArray.empty t107 1, t112, t114, decide (t114 ≥ t112))) else (some (rdOf ByteArray.empty t107 0, rdOf ByteArray.empty t107 1, t112, t114, false))) else (none)) else (if t112 ≥ 0 then (some (rdOf ByteArray.empty t107 0, (⟨#[]⟩ : ByteArray), t112, t114, decide (t114 ≥ t112))) else (some (rdOf ByteArray.empty t107 0, (⟨#[]⟩ : ByteArray), t112, t114, false))))) else (none)) else (none))) else (none)) else (none)) = some (r1, r2, r3, r4, r5) := by first | (rw [hji12] at H; exact H) | (simp only [hji12] at H ⊢; exact H)
          have hji12w : (IntKind.i64.wrap ((t107.length : Int) - 2)) = ji12 := (i64_w _).trans hji12
          by_cases c13 : 0 ≤ (ji12)
          · rw [if_pos c13] at H
            have c13b0 : decide (0 ≤ (ji12)) = true := decide_eq_true c13
            clear c13
            by_cases c14 : (ji12) < (t107.length : Int)
            · rw [if_pos c14] at H
              have c14b0 : decide ((ji12) < (t107.length : Int)) = true := decide_eq_true c14
              clear c14
              replace H := Option.bind_eq_some_iff.mp H
              obtain ⟨t112, A150, H⟩ := H
              replace H : (if 0 ≤ (wrap64 ((t107.length : Int) - 1)) then (if (wrap64 ((t107.length : Int) - 1)) < (t107.length : Int) then ((spec_Size.f kj2 (rdOf ByteArray.empty t107 (wrap64 ((t107.length : Int) - 1)))).bind fun t114 => (if (t107.length : Int) = 4 then (if 1 < (t107.length : Int) then (if t112 ≥ 0 then (some (rdOf ByteArray.empty t107 0, rdOf ByteArray.empty t107 1, t112, t114, decide (t114 ≥ t112))) else (some (rdOf ByteArray.empty t107 0, rdOf ByteArray.empty t107 1, t112, t114, false))) else (none)) else (if t112 ≥ 0 then (some (rdOf ByteArray.empty t107 0, (⟨#[]⟩ : ByteArray), t112, t114, decide (t114 ≥ t112))) else (some (rdOf ByteArray.empty t107 0, (⟨#[]⟩ : ByteArray), t112, t114, false))))) else (none)) else (none)) = some (r1, r2, r3, r4, r5) := H
              have A15 := Aside0.mk A150
              clear A150
              obtain ⟨ji16, hji16⟩ : ∃ j_ : Int, (wrap64 ((t107.length : Int) - 1)) = j_ := ⟨_, rfl⟩
              replace H : (if 0 ≤ (ji16) then (if (ji16) < (t107.length : Int) then ((spec_Size.f kj2 (rdOf ByteArray.empty t107 (ji16))).bind fun t114 => (if (t107.length : Int) = 4 then (if 1 < (t107.length : Int) then (if t112 ≥ 0 then (some (rdOf ByteArray.empty t107 0, rdOf ByteArray.empty t107 1, t112, t114, decide (t114 ≥ t112))) else (some (rdOf ByteArray.empty t107 0, rdOf ByteArray.empty t107 1, t112, t114, false))) else (none)) else (if t112 ≥ 0 then (some (rdOf ByteArray.empty t107 0, (⟨#[]⟩ : ByteArray), t112, t114, decide (t114 ≥ t112))) else (some (rdOf ByteArray.empty t107 0, (⟨#[]⟩ : ByteArray), t112, t114, false))))) else (none)) else (none)) = some (r1, r2, r3, r4, r5) := by first | (rw [hji16] at H; exact H) | (simp only [hji16] at H ⊢; exact H)
              (try rw [hji16] at A15)
              have hji16w : (IntKind.i64.wrap ((t107.length : Int) - 1)) = ji16 := (i64_w _).trans hji16
              by_cases c17 : 0 ≤ (ji16)
              · rw [if_pos c17] at H
                have c17b0 : decide (0 ≤ (ji16)) = true := decide_eq_true c17
                clear c17
                by_cases c18 : (ji16) < (t107.length : Int)
                · rw [if_pos c18] at H
                  have c18b0 : decide ((ji16) < (t107.length : Int)) = true := decide_eq_true c18
                  clear c18
                  replace H := Option.bind_eq_some_iff.mp H
                  obtain ⟨t114, A190, H⟩ := H
                  replace H : (if (t107.length : Int) = 4 then (if 1 < (t107.length : Int) then (if t112 ≥ 0 then (some (rdOf ByteArray.empty t107 0, rdOf ByteArray.empty t107 1, t112, t114, decide (t114 ≥ t112))) else (some (rdOf ByteArray.empty t107 0, rdOf ByteArray.empty t107 1, t112, t114, false))) else (none)) else (if t112 ≥ 0 then (some (rdOf ByteArray.empty t107 0, (⟨#[]⟩ : ByteArray), t112, t114, decide (t114 ≥ t112))) else (some (rdOf ByteArray.empty t107 0, (⟨#[]⟩ : ByteArray), t112, t114, false)))) = some (r1, r2, r3, r4, r5) := H
                  have A19 := Aside0.mk A190
                  clear A190
                  by_cases c20 : (t107.length : Int) = 4
                  · rw [if_pos c20] at H
                    have c20b0 : ((t107.length : Int) == 4) = true := beq_iff_eq.mpr c20
                    have c20b1 : ((t107.length : Int) != 4) = false := bne_eq_false_iff_eq.mpr c20
                    clear c20
                    by_cases c21 : 1 < (t107.length : Int)
                    · rw [if_pos c21] at H
                      have c21b0 : decide (1 < (t107.length : Int)) = true := decide_eq_true c21
                      have c21b1 : decide (1 < t107.length) = true := decide_eq_true (by omega)
                      clear c21
                      by_cases c22 : t112 ≥ 0
                      · rw [if_pos c22] at H
                        have c22b0 : decide (0 ≤ t112) = true := decide_eq_true c22
                        clear c22
                        simp only [Option.some.injEq, Prod.mk.injEq] at H
                        obtain ⟨rfl, rfl, rfl, rfl, rfl⟩ := H
                        try go_wp2
                        have n0_ := Aside0.mk (Kd.R_drew HO_4.out)
                        have n1_ := Aside0.mk (blk_drew BK106.out)
                        have n2_ := Aside0.mk (below_drew1 HB.out)
                        clear HO_4
                        clear BK106
                        clear HB
                        have HO_4 := n0_
                        have BK106 := n1_
                        have HB := n2_
                        clear n0_ n1_ n2_
                        obtain ⟨Ao24, co24, eo24⟩ := Kd.R_slice HO_4.out
                        (first | subst eo24 | (injection eo24 with f1_ f2_ f3_; have f4_ := f1_.symm; have f5_ := f3_.symm; clear f1_ f2_ f3_; subst f4_; subst f5_))
                        have p110 : 0 ≤ (0 : Int) := (by omega)
                        have q110 : 0 < (t107.length : Int) := of_decide_eq_true (by first | (with_reducible assumption) | assumption)
                        obtain ⟨ad110, e110, hx110_0⟩ := Kd.at_string (Kd.R_reads' HO_4.out).2.2 0 p110 q110
                        cases e110
                        have qi110 : (0 < t107.length) = True := eq_true (by omega)
                        (try rw [show ((0 : Int)).toNat = 0 from rfl] at hx110_0)
                        (try rw [Addr.add_zero'] at hx110_0)
                        replace p110 := eq_true p110
                        replace q110 := eq_true q110
                        have p111 : 0 ≤ ((ji12) : Int) := of_decide_eq_true (by first | (with_reducible assumption) | assumption)
                        have q111 : (ji12) < (t107.length : Int) := of_decide_eq_true (by first | (with_reducible assumption) | assumption)
                        obtain ⟨ad111, e111, hx111_0⟩ := Kd.at_string (Kd.R_reads' HO_4.out).2.2 (ji12) p111 q111
                        obtain rfl : ad110 = ad111 := (by injection e111)
                        replace p111 := eq_true p111
                        replace q111 := eq_true q111
                        have p113 : 0 ≤ ((ji16) : Int) := of_decide_eq_true (by first | (with_reducible assumption) | assumption)
                        have q113 : (ji16) < (t107.length : Int) := of_decide_eq_true (by first | (with_reducible assumption) | assumption)
                        obtain ⟨ad113, e113, hx113_0⟩ := Kd.at_string (Kd.R_reads' HO_4.out).2.2 (ji16) p113 q113
                        obtain rfl : ad110 = ad113 := (by injection e113)
                        replace p113 := eq_true p113
                        replace q113 := eq_true q113
                        refine start_ (n := 20) (S := fun w' => w'.cell? ad110 = some (.string (rdOf ByteArray.empty t107 0)) ∧ w'.cell? (ad110.add ((ji12)).toNat) = some (.string (rdOf ByteArray.empty t107 (ji12))) ∧ w'.cell? (ad110.add ((ji16)).toNat) = some (.string (rdOf ByteArray.empty t107 (ji16)))) (ds := []) #[false, false, false, false, false, false, false, false, false, false, false, false, false, false, false, false, false, false, false, false] (by kernel_rfl) rfl rfl ⟨hx110_0, hx111_0, hx113_0⟩ (fun hHeld => ?_); refine with_tabW spec_ReadHPub.tab4 spec_ReadHPub.bits4 (fun HT_ HW_ => ?_)
                        generalize wc.drew = w23 at HO_4 BK106 HB hx110_0 hx111_0 hx113_0 hHeld ⊢
                        refine pure_ (i := 0) (N := some 17) (v := ?_) (a' := ?_) #[true, false, false, false, false, false, false, false, false, false, false, false, false, false, false, false, false, false, false, false] rfl rfl (any_of HT_.out (by kernel_rfl)) (fun _ _ _ h => h) (Or.inl ⟨by rfl, ?_⟩) ?_ ?_
                        rotate_left
                        · intro w'
                          go_simp
                          with_reducible rfl
                        rotate_left
                        · simp only [Act.put, List.setIfInBounds_toArray, List.set_cons_zero, List.set_cons_succ, i64_w, i32_w]
                          rfl
                        refine pure_ (i := 1) (N := some 18) (v := ?_) (a' := ?_) #[true, true, false, false, false, false, false, false, false, false, false, false, false, false, false, false, false, false, false, false] rfl rfl (any_of HT_.out (by kernel_rfl)) (fun _ _ _ h => h) (Or.inl ⟨by rfl, ?_⟩) ?_ ?_
                        rotate_left
                        · intro w'
                          go_simp
                          with_reducible rfl
                        rotate_left
                        · simp only [Act.put, List.setIfInBounds_toArray, List.set_cons_zero, List.set_cons_succ, i64_w, i32_w]
                          rfl
                        refine pure_ (i := 3) (N := some 20) (v := ?_) (a' := ?_) #[true, true, false, true, false, false, false, false, false, false, false, false, false, false, false, false, false, false, false, false] rfl rfl (any_of HT_.out (by kernel_rfl)) (fun _ _ _ h => h) (Or.inl ⟨by rfl, ?_⟩) ?_ ?_
                        rotate_left
                        · intro w'
                          go_simp
                          with_reducible rfl
                        rotate_left
                        · simp only [Act.put, List.setIfInBounds_toArray, List.set_cons_zero, List.set_cons_succ, i64_w, i32_w]
                          rfl
                        refine pure_ (i := 4) (N := some 21) (v := ?_) (a' := ?_) #[true, true, false, true, true, false, false, false, false, false, false, false, false, false, false, false, false, false, false, false] rfl rfl (any_of HT_.out (by kernel_rfl)) (fun _ _ _ h => h) (Or.inl ⟨by rfl, ?_⟩) ?_ ?_
                        rotate_left
                        · intro w'
                          go_simp
                          with_reducible rfl
                        rotate_left
                        · simp only [Act.put, List.setIfInBounds_toArray, List.set_cons_zero, List.set_cons_succ, i64_w, i32_w]
                          rfl
                        refine pure_ (i := 5) (N := some 22) (v := ?_) (a' := ?_) #[true, true, false, true, true, true, false, false, false, false, false, false, false, false, false, false, false, false, false, false] rfl rfl (any_of HT_.out (by kernel_rfl)) (fun _ _ _ h => h) (Or.inl ⟨by rfl, ?_⟩) ?_ ?_
                        rotate_left
                        · intro w'
                          go_simp
                          with_reducible rfl
                        rotate_left
                        · simp only [Act.put, List.setIfInBounds_toArray, List.set_cons_zero, List.set_cons_succ, i64_w, i32_w]
                          rfl
                        refine pure_ (i := 6) (N := some 23) (v := ?_) (a' := ?_) #[true, true, false, true, true, true, true, false, false, false, false, false, false, false, false, false, false, false, false, false] rfl rfl (any_of HT_.out (by kernel_rfl)) (fun _ _ _ h => h) (Or.inl ⟨by rfl, ?_⟩) ?_ ?_
                        rotate_left
                        · intro w'
                          go_simp
                          with_reducible rfl
                        rotate_left
                        · simp only [Act.put, List.setIfInBounds_toArray, List.set_cons_zero, List.set_cons_succ, i64_w, i32_w]
                          rfl
                        refine pure_ (i := 7) (N := some 24) (v := ?_) (a' := ?_) #[true, true, false, true, true, true, true, true, false, false, false, false, false, false, false, false, false, false, false, false] rfl rfl (any_of HT_.out (by kernel_rfl)) (fun _ _ _ h => h) (Or.inl ⟨by rfl, ?_⟩) ?_ ?_
                        rotate_left
                        · intro w'
                          go_simp
                          with_reducible rfl
                        rotate_left
                        · simp only [Act.put, List.setIfInBounds_toArray, List.set_cons_zero, List.set_cons_succ, i64_w, i32_w]
                          rfl
                        refine pure_ (i := 10) (N := some 27) (v := ?_) (a' := ?_) #[true, true, false, true, true, true, true, true, false, false, true, false, false, false, false, false, false, false, false, false] rfl rfl (any_of HT_.out (by kernel_rfl)) (fun _ _ _ h => h) (Or.inl ⟨by rfl, ?_⟩) ?_ ?_
                        rotate_left
                        · intro w'
                          go_simp
                          with_reducible rfl
                        rotate_left
                        · simp only [Act.put, List.setIfInBounds_toArray, List.set_cons_zero, List.set_cons_succ, i64_w, i32_w]
                          rfl
                        refine pure_ (i := 11) (N := some 28) (v := ?_) (a' := ?_) #[true, true, false, true, true, true, true, true, false, false, true, true, false, false, false, false, false, false, false, false] rfl rfl (any_of HT_.out (by kernel_rfl)) (fun _ _ _ h => h) (Or.inl ⟨by rfl, ?_⟩) ?_ ?_
                        rotate_left
                        · intro w'
                          go_simp
                          with_reducible rfl
                        rotate_left
                        · simp only [Act.put, List.setIfInBounds_toArray, List.set_cons_zero, List.set_cons_succ, i64_w, i32_w]
                          rfl
                        refine pure_ (i := 12) (N := some 29) (v := ?_) (a' := ?_) #[true, true, false, true, true, true, true, true, false, false, true, true, true, false, false, false, false, false, false, false] rfl rfl (any_of HT_.out (by kernel_rfl)) (fun _ _ _ h => h) (Or.inl ⟨by rfl, ?_⟩) ?_ ?_
                        rotate_left
                        · intro w'
                          go_simp
                          with_reducible rfl
                        rotate_left
                        · simp only [Act.put, List.setIfInBounds_toArray, List.set_cons_zero, List.set_cons_succ, i64_w, i32_w]
                          rfl
                        refine pure_ (i := 13) (N := some 30) (v := ?_) (a' := ?_) #[true, true, false, true, true, true, true, true, false, false, true, true, true, true, false, false, false, false, false, false] rfl rfl (any_of HT_.out (by kernel_rfl)) (fun _ _ _ h => h) (Or.inl ⟨by rfl, ?_⟩) ?_ ?_
                        rotate_left
                        · intro w'
                          go_simp
                          with_reducible rfl
                        rotate_left
                        · simp only [Act.put, List.setIfInBounds_toArray, List.set_cons_zero, List.set_cons_succ, i64_w, i32_w]
                          rfl
                        refine pure_ (i := 14) (N := some 31) (v := ?_) (a' := ?_) #[true, true, false, true, true, true, true, true, false, false, true, true, true, true, true, false, false, false, false, false] rfl rfl (any_of HT_.out (by kernel_rfl)) (fun _ _ _ h => h) (Or.inl ⟨by rfl, ?_⟩) ?_ ?_
                        rotate_left
                        · intro w'
                          go_simp
                          with_reducible rfl
                        rotate_left
                        · simp only [Act.put, List.setIfInBounds_toArray, List.set_cons_zero, List.set_cons_succ, i64_w, i32_w]
                          rfl
                        refine take_ (i := 2) (N := some 19) (v := ?_) (a' := ?_) #[true, true, true, true, true, true, true, true, false, false, true, true, true, true, true, false, false, false, false, false] rfl rfl (take_ofW HT_.out HW_.out (by kernel_rfl)) (fun _ _ _ h => h) (Or.inl ⟨by rfl, ?_⟩) hHeld ?_ ?_
                        rotate_left
                        · rintro w' ⟨s0, s1, s2⟩
                          go_simp
                          with_reducible rfl
                        rotate_left
                        · simp only [Act.put, List.setIfInBounds_toArray, List.set_cons_zero, List.set_cons_succ, i64_w, i32_w]
                          rfl
                        refine take_ (i := 8) (N := some 25) (v := ?_) (a' := ?_) #[true, true, true, true, true, true, true, true, true, false, true, true, true, true, true, false, false, false, false, false] rfl rfl (take_ofW HT_.out HW_.out (by kernel_rfl)) (fun _ _ _ h => h) (Or.inl ⟨by rfl, ?_⟩) hHeld ?_ ?_
                        rotate_left
                        · rintro w' ⟨s0, s1, s2⟩
                          go_simp
                          with_reducible rfl
                        rotate_left
                        · simp only [Act.put, List.setIfInBounds_toArray, List.set_cons_zero, List.set_cons_succ, i64_w, i32_w]
                          rfl
                        refine take_ (i := 15) (N := some 32) (v := ?_) (a' := ?_) #[true, true, true, true, true, true, true, true, true, false, true, true, true, true, true, true, false, false, false, false] rfl rfl (take_ofW HT_.out HW_.out (by kernel_rfl)) (fun _ _ _ h => h) (Or.inl ⟨by rfl, ?_⟩) hHeld ?_ ?_
                        rotate_left
                        · rintro w' ⟨s0, s1, s2⟩
                          go_simp
                          with_reducible rfl
                        rotate_left
                        · simp only [Act.put, List.setIfInBounds_toArray, List.set_cons_zero, List.set_cons_succ, i64_w, i32_w]
                          rfl
                        refine join_ (σ := Nat) 1 #[true, true, true, true, true, true, true, true, true, true, true, true, true, true, true, true, true, true, true, false] (fun s_ => [(26, .int .i64 t112), (33, .int .i64 t114), (5, .pointer (some ⟨s_, 0, none⟩)), (34, .agg #[.string (rdOf ByteArray.empty t107 0), .string (⟨#[]⟩ : ByteArray), .int .i64 t112, .int .i64 t114])]) (fun s_ w' => (w'.cell? ad110 = some (.string (rdOf ByteArray.empty t107 0)) ∧ w'.cell? (ad110.add ((ji12)).toNat) = some (.string (rdOf ByteArray.empty t107 (ji12))) ∧ w'.cell? (ad110.add ((ji16)).toNat) = some (.string (rdOf ByteArray.empty t107 (ji16)))) ∧ (Kd.R Kd.string 9 w' w.heap.size (fun _ => True) (.slice (some ad110) t107.length co24) t107) ∧ (w'.heap[gb106]? = some (.cells #[.string (⟨#[]⟩ : ByteArray), .string (⟨#[]⟩ : ByteArray), .int .i64 0, .int .i64 0] 25 (0, 0))) ∧ (w'.heap[s_]? = some (.cells #[.string (⟨#[]⟩ : ByteArray), .string (⟨#[]⟩ : ByteArray), .int .i64 0, .int .i64 0] 25 (0, 0))) ∧ (w.heap.size ≤ s_) ∧ (w.heap.size ≤ s_) ∧ (gb106 ≠ s_) ∧ (s_ ≠ gb106) ∧ (Below w.heap.size w w')) ?_ ?_
                        rotate_left
                        · intro hCont
                          refine two_ (i := 9) (j := 18) (Ni := some 26) (Nj := some 5) #[true, true, true, true, true, true, true, true, true, true, true, true, true, true, true, true, false, false, false, false] #[true, true, true, true, true, true, true, true, true, false, true, true, true, true, true, true, false, false, true, false] rfl rfl rfl rfl (two_of HT_.out (by kernel_rfl)) (by decide) (by decide) (fun K hK => ?_) (fun K hK => ?_)
                          · skip
                            refine goes_ Tryd.func18 (by kernel_rfl) rfl #[.string (rdOf ByteArray.empty t107 (ji12))] (by rfl) rfl rfl (by (try simp only [List.map_toArray, List.map_cons, List.map_nil]); first | done | (simp only [hji12]; rfl) | rfl | (simp only [List.length_drop, List.length_take]; rfl)) ?_
                            with_reducible refine (spec_Size.calls kj2 (rdOf ByteArray.empty t107 (ji12)) t112 _ A15.out).mono ?_
                            rintro e w' ⟨rfl, ⟨nd, rfl⟩⟩
                            refine ⟨_, rfl, ?_⟩
                            refine hK.out _ _ ⟨hHeld.1, hHeld.2.1, hHeld.2.2⟩ (fun hHeld => ?_)
                            clear hK K
                            refine norm_ (a' := ?_) ?_ ?_
                            rotate_left
                            · show Act.put _ (some 26) _ = _
                              simp only [Act.put, List.setIfInBounds_toArray, List.set_cons_zero, List.set_cons_succ, i64_w, i32_w]
                              rfl
                            refine two_ (i := 16) (j := 18) (Ni := some 33) (Nj := some 5) #[true, true, true, true, true, true, true, true, true, true, true, true, true, true, true, true, true, false, false, false] #[true, true, true, true, true, true, true, true, true, true, true, true, true, true, true, true, false, false, true, false] rfl rfl rfl rfl (two_of HT_.out (by kernel_rfl)) (by decide) (by decide) (fun K hK => ?_) (fun K hK => ?_)
                            · skip
                              refine goes_ Tryd.func18 (by kernel_rfl) rfl #[.string (rdOf ByteArray.empty t107 (ji16))] (by rfl) rfl rfl (by (try simp only [List.map_toArray, List.map_cons, List.map_nil]); first | done | (simp only [hji16]; rfl) | rfl | (simp only [List.length_drop, List.length_take]; rfl)) ?_
                              with_reducible refine (spec_Size.calls kj2 (rdOf ByteArray.empty t107 (ji16)) t114 _ A19.out).mono ?_
                              rintro e w' ⟨rfl, ⟨nd, rfl⟩⟩
                              refine ⟨_, rfl, ?_⟩
                              refine hK.out _ _ ⟨hHeld.1, hHeld.2.1, hHeld.2.2⟩ (fun hHeld => ?_)
                              clear hK K
                              refine norm_ (a' := ?_) ?_ ?_
                              rotate_left
                              · show Act.put _ (some 33) _ = _
                                simp only [Act.put, List.setIfInBounds_toArray, List.set_cons_zero, List.set_cons_succ, i64_w, i32_w]
                                rfl
                              refine pure_ (i := 17) (N := some 34) (v := ?_) (a' := ?_) #[true, true, true, true, true, true, true, true, true, true, true, true, true, true, true, true, true, true, false, false] rfl rfl (any_of HT_.out (by kernel_rfl)) (fun _ _ _ h => h) (Or.inl ⟨by rfl, ?_⟩) ?_ ?_
                              rotate_left
                              · intro w'
                                go_simp
                                with_reducible rfl
                              rotate_left
                              · simp only [Act.put, List.setIfInBounds_toArray, List.set_cons_zero, List.set_cons_succ, i64_w, i32_w]
                                rfl
                              refine one_ (i := 18) (N := some 5) #[true, true, true, true, true, true, true, true, true, true, true, true, true, true, true, true, true, true, true, false] rfl rfl (one_of HT_.out (by kernel_rfl)) (by decide) (fun K hK => ?_)
                              refine box_step ?hg (N := 5) ?hd (cs := #[.string (⟨#[]⟩ : ByteArray), .string (⟨#[]⟩ : ByteArray), .int .i64 0, .int .i64 0]) (t := 25) ?hr ?_; (case hd => rfl); (case hg => rfl); (case hr => first | (go_simp; done) | (go_simp; rfl))
                              intro gb115 hg w25 hbox hb
                              have HS0_ := (hb.cell (World.block_lt_of_cell? _ _ (hHeld.1))).trans (hHeld.1)
                              have HS1_ := (hb.cell (World.block_lt_of_cell? _ _ (hHeld.2.1))).trans (hHeld.2.1)
                              have HS2_ := (hb.cell (World.block_lt_of_cell? _ _ (hHeld.2.2))).trans (hHeld.2.2)
                              have n0_ := Aside0.mk (Kd.R_below (by (with_reducible repeat (first | apply Kd.R_alloc | apply Kd.R_drewN | apply Kd.R_drew)); exact HO_4.out) hb)
                              have n1_ := Aside0.mk (blk_below (g := gb106) (o := .cells #[.string (⟨#[]⟩ : ByteArray), .string (⟨#[]⟩ : ByteArray), .int .i64 0, .int .i64 0] 25 (0, 0)) (by (with_reducible repeat (first | refine blk_drewN ?_ _ | refine blk_drew ?_ | refine blk_alloc ?_ _)); exact BK106.out) hb)
                              have n2_ := Aside0.mk (below_step (by repeat (first | (with_reducible first | exact HB.out | apply below_alloc | apply pw_below_drewN | apply below_drew1 | refine below_set ?_ GE106.out) | exact HB.out)) hb)
                              have n3_ := Aside0.mk (hbox)
                              have n4_ := Aside0.mk ((by rw [hg]; exact (below_size (by repeat (first | (with_reducible first | exact HB.out | apply below_alloc | apply pw_below_drewN | apply below_drew1 | refine below_set ?_ GE106.out) | exact HB.out))) : w.heap.size ≤ gb115))
                              have n5_ := Aside0.mk ((by rw [hg]; exact (below_size (by repeat (first | (with_reducible first | exact HB.out | apply below_alloc | apply pw_below_drewN | apply below_drew1 | refine below_set ?_ GE106.out) | exact HB.out))) : w.heap.size ≤ gb115))
                              have n6_ := Aside0.mk ((by rw [hg]; exact Nat.ne_of_lt (blk_lt (g := gb106) (o := .cells #[.string (⟨#[]⟩ : ByteArray), .string (⟨#[]⟩ : ByteArray), .int .i64 0, .int .i64 0] 25 (0, 0)) (by (with_reducible repeat (first | refine blk_drewN ?_ _ | refine blk_drew ?_ | refine blk_alloc ?_ _)); exact BK106.out)) : gb106 ≠ gb115))
                              have n7_ := Aside0.mk ((by rw [hg]; exact Nat.ne_of_gt (blk_lt (g := gb106) (o := .cells #[.string (⟨#[]⟩ : ByteArray), .string (⟨#[]⟩ : ByteArray), .int .i64 0, .int .i64 0] 25 (0, 0)) (by (with_reducible repeat (first | refine blk_drewN ?_ _ | refine blk_drew ?_ | refine blk_alloc ?_ _)); exact BK106.out)) : gb115 ≠ gb106))
                              clear HO_4
                              clear BK106
                              clear HB
                              have HO_4 := n0_
                              have BK106 := n1_
                              have HB := n2_
                              have BK115 := n3_
                              have GW115 := n4_
                              have GE115 := n5_
                              have NB106_115 := n6_
                              have NB115_106 := n7_
                              clear n0_ n1_ n2_ n3_ n4_ n5_ n6_ n7_
                              clear hb hbox hg
                              refine hK.out _ _ ⟨HS0_, HS1_, HS2_⟩ (fun hHeld => ?_)
                              clear hK K
                              refine norm_ (a' := ?_) ?_ ?_
                              rotate_left
                              · show Act.put _ (some 5) _ = _
                                simp only [Act.put, List.setIfInBounds_toArray, List.set_cons_zero, List.set_cons_succ, i64_w, i32_w]
                                rfl
                              exact norm_ (by simp only [putAll, Act.put, List.setIfInBounds_toArray, List.set_cons_zero, List.set_cons_succ]) (hCont (gb115) _ ⟨hHeld, (by (with_reducible repeat (first | apply Kd.R_alloc | apply Kd.R_drewN | apply Kd.R_drew)); exact HO_4.out), (by (with_reducible repeat (first | refine blk_drewN ?_ _ | refine blk_drew ?_ | refine blk_alloc ?_ _)); exact BK106.out), (by (with_reducible repeat (first | refine blk_drewN ?_ _ | refine blk_drew ?_ | refine blk_alloc ?_ _)); exact BK115.out), GW115.out, GE115.out, NB106_115.out, NB115_106.out, (by repeat (first | (with_reducible first | exact HB.out | apply below_alloc | apply pw_below_drewN | apply below_drew1 | refine below_set ?_ GE106.out | refine below_set ?_ GE115.out) | exact HB.out))⟩)
                            · skip
                              refine box_step ?hg (N := 5) ?hd (cs := #[.string (⟨#[]⟩ : ByteArray), .string (⟨#[]⟩ : ByteArray), .int .i64 0, .int .i64 0]) (t := 25) ?hr ?_; (case hd => rfl); (case hg => rfl); (case hr => first | (go_simp; done) | (go_simp; rfl))
                              intro gb115 hg w25 hbox hb
                              have HS0_ := (hb.cell (World.block_lt_of_cell? _ _ (hHeld.1))).trans (hHeld.1)
                              have HS1_ := (hb.cell (World.block_lt_of_cell? _ _ (hHeld.2.1))).trans (hHeld.2.1)
                              have HS2_ := (hb.cell (World.block_lt_of_cell? _ _ (hHeld.2.2))).trans (hHeld.2.2)
                              have n0_ := Aside0.mk (Kd.R_below (by (with_reducible repeat (first | apply Kd.R_alloc | apply Kd.R_drewN | apply Kd.R_drew)); exact HO_4.out) hb)
                              have n1_ := Aside0.mk (blk_below (g := gb106) (o := .cells #[.string (⟨#[]⟩ : ByteArray), .string (⟨#[]⟩ : ByteArray), .int .i64 0, .int .i64 0] 25 (0, 0)) (by (with_reducible repeat (first | refine blk_drewN ?_ _ | refine blk_drew ?_ | refine blk_alloc ?_ _)); exact BK106.out) hb)
                              have n2_ := Aside0.mk (below_step (by repeat (first | (with_reducible first | exact HB.out | apply below_alloc | apply pw_below_drewN | apply below_drew1 | refine below_set ?_ GE106.out) | exact HB.out)) hb)
                              have n3_ := Aside0.mk (hbox)
                              have n4_ := Aside0.mk ((by rw [hg]; exact (below_size (by repeat (first | (with_reducible first | exact HB.out | apply below_alloc | apply pw_below_drewN | apply below_drew1 | refine below_set ?_ GE106.out) | exact HB.out))) : w.heap.size ≤ gb115))
                              have n5_ := Aside0.mk ((by rw [hg]; exact (below_size (by repeat (first | (with_reducible first | exact HB.out | apply below_alloc | apply pw_below_drewN | apply below_drew1 | refine below_set ?_ GE106.out) | exact HB.out))) : w.heap.size ≤ gb115))
                              have n6_ := Aside0.mk ((by rw [hg]; exact Nat.ne_of_lt (blk_lt (g := gb106) (o := .cells #[.string (⟨#[]⟩ : ByteArray), .string (⟨#[]⟩ : ByteArray), .int .i64 0, .int .i64 0] 25 (0, 0)) (by (with_reducible repeat (first | refine blk_drewN ?_ _ | refine blk_drew ?_ | refine blk_alloc ?_ _)); exact BK106.out)) : gb106 ≠ gb115))
                              have n7_ := Aside0.mk ((by rw [hg]; exact Nat.ne_of_gt (blk_lt (g := gb106) (o := .cells #[.string (⟨#[]⟩ : ByteArray), .string (⟨#[]⟩ : ByteArray), .int .i64 0, .int .i64 0] 25 (0, 0)) (by (with_reducible repeat (first | refine blk_drewN ?_ _ | refine blk_drew ?_ | refine blk_alloc ?_ _)); exact BK106.out)) : gb115 ≠ gb106))
                              clear HO_4
                              clear BK106
                              clear HB
                              have HO_4 := n0_
                              have BK106 := n1_
                              have HB := n2_
                              have BK115 := n3_
                              have GW115 := n4_
                              have GE115 := n5_
                              have NB106_115 := n6_
                              have NB115_106 := n7_
                              clear n0_ n1_ n2_ n3_ n4_ n5_ n6_ n7_
                              clear hb hbox hg
                              refine hK.out _ _ ⟨HS0_, HS1_, HS2_⟩ (fun hHeld => ?_)
                              clear hK K
                              refine norm_ (a' := ?_) ?_ ?_
                              rotate_left
                              · show Act.put _ (some 5) _ = _
                                simp only [Act.put, List.setIfInBounds_toArray, List.set_cons_zero, List.set_cons_succ, i64_w, i32_w]
                                rfl
                              refine one_ (i := 16) (N := some 33) #[true, true, true, true, true, true, true, true, true, true, true, true, true, true, true, true, true, false, true, false] rfl rfl (one_of HT_.out (by kernel_rfl)) (by decide) (fun K hK => ?_)
                              refine goes_ Tryd.func18 (by kernel_rfl) rfl #[.string (rdOf ByteArray.empty t107 (ji16))] (by rfl) rfl rfl (by (try simp only [List.map_toArray, List.map_cons, List.map_nil]); first | done | (simp only [hji16]; rfl) | rfl | (simp only [List.length_drop, List.length_take]; rfl)) ?_
                              with_reducible refine (spec_Size.calls kj2 (rdOf ByteArray.empty t107 (ji16)) t114 _ A19.out).mono ?_
                              rintro e w' ⟨rfl, ⟨nd, rfl⟩⟩
                              refine ⟨_, rfl, ?_⟩
                              refine hK.out _ _ ⟨hHeld.1, hHeld.2.1, hHeld.2.2⟩ (fun hHeld => ?_)
                              clear hK K
                              refine norm_ (a' := ?_) ?_ ?_
                              rotate_left
                              · show Act.put _ (some 33) _ = _
                                simp only [Act.put, List.setIfInBounds_toArray, List.set_cons_zero, List.set_cons_succ, i64_w, i32_w]
                                rfl
                              refine pure_ (i := 17) (N := some 34) (v := ?_) (a' := ?_) #[true, true, true, true, true, true, true, true, true, true, true, true, true, true, true, true, true, true, true, false] rfl rfl (any_of HT_.out (by kernel_rfl)) (fun _ _ _ h => h) (Or.inl ⟨by rfl, ?_⟩) ?_ ?_
                              rotate_left
                              · intro w'
                                go_simp
                                with_reducible rfl
                              rotate_left
                              · simp only [Act.put, List.setIfInBounds_toArray, List.set_cons_zero, List.set_cons_succ, i64_w, i32_w]
                                rfl
                              exact norm_ (by simp only [putAll, Act.put, List.setIfInBounds_toArray, List.set_cons_zero, List.set_cons_succ]) (hCont (gb115) _ ⟨hHeld, (by (with_reducible repeat (first | apply Kd.R_alloc | apply Kd.R_drewN | apply Kd.R_drew)); exact HO_4.out), (by (with_reducible repeat (first | refine blk_drewN ?_ _ | refine blk_drew ?_ | refine blk_alloc ?_ _)); exact BK106.out), (by (with_reducible repeat (first | refine blk_drewN ?_ _ | refine blk_drew ?_ | refine blk_alloc ?_ _)); exact BK115.out), GW115.out, GE115.out, NB106_115.out, NB115_106.out, (by repeat (first | (with_reducible first | exact HB.out | apply below_alloc | apply pw_below_drewN | apply below_drew1 | refine below_set ?_ GE106.out | refine below_set ?_ GE115.out) | exact HB.out))⟩)
                          · skip
                            refine box_step ?hg (N := 5) ?hd (cs := #[.string (⟨#[]⟩ : ByteArray), .string (⟨#[]⟩ : ByteArray), .int .i64 0, .int .i64 0]) (t := 25) ?hr ?_; (case hd => rfl); (case hg => rfl); (case hr => first | (go_simp; done) | (go_simp; rfl))
                            intro gb115 hg w25 hbox hb
                            have HS0_ := (hb.cell (World.block_lt_of_cell? _ _ (hHeld.1))).trans (hHeld.1)
                            have HS1_ := (hb.cell (World.block_lt_of_cell? _ _ (hHeld.2.1))).trans (hHeld.2.1)
                            have HS2_ := (hb.cell (World.block_lt_of_cell? _ _ (hHeld.2.2))).trans (hHeld.2.2)
                            have n0_ := Aside0.mk (Kd.R_below (by (with_reducible repeat (first | apply Kd.R_alloc | apply Kd.R_drewN | apply Kd.R_drew)); exact HO_4.out) hb)
                            have n1_ := Aside0.mk (blk_below (g := gb106) (o := .cells #[.string (⟨#[]⟩ : ByteArray), .string (⟨#[]⟩ : ByteArray), .int .i64 0, .int .i64 0] 25 (0, 0)) (by (with_reducible repeat (first | refine blk_drewN ?_ _ | refine blk_drew ?_ | refine blk_alloc ?_ _)); exact BK106.out) hb)
                            have n2_ := Aside0.mk (below_step (by repeat (first | (with_reducible first | exact HB.out | apply below_alloc | apply pw_below_drewN | apply below_drew1 | refine below_set ?_ GE106.out) | exact HB.out)) hb)
                            have n3_ := Aside0.mk (hbox)
                            have n4_ := Aside0.mk ((by rw [hg]; exact (below_size (by repeat (first | (with_reducible first | exact HB.out | apply below_alloc | apply pw_below_drewN | apply below_drew1 | refine below_set ?_ GE106.out) | exact HB.out))) : w.heap.size ≤ gb115))
                            have n5_ := Aside0.mk ((by rw [hg]; exact (below_size (by repeat (first | (with_reducible first | exact HB.out | apply below_alloc | apply pw_below_drewN | apply below_drew1 | refine below_set ?_ GE106.out) | exact HB.out))) : w.heap.size ≤ gb115))
                            have n6_ := Aside0.mk ((by rw [hg]; exact Nat.ne_of_lt (blk_lt (g := gb106) (o := .cells #[.string (⟨#[]⟩ : ByteArray), .string (⟨#[]⟩ : ByteArray), .int .i64 0, .int .i64 0] 25 (0, 0)) (by (with_reducible repeat (first | refine blk_drewN ?_ _ | refine blk_drew ?_ | refine blk_alloc ?_ _)); exact BK106.out)) : gb106 ≠ gb115))
                            have n7_ := Aside0.mk ((by rw [hg]; exact Nat.ne_of_gt (blk_lt (g := gb106) (o := .cells #[.string (⟨#[]⟩ : ByteArray), .string (⟨#[]⟩ : ByteArray), .int .i64 0, .int .i64 0] 25 (0, 0)) (by (with_reducible repeat (first | refine blk_drewN ?_ _ | refine blk_drew ?_ | refine blk_alloc ?_ _)); exact BK106.out)) : gb115 ≠ gb106))
                            clear HO_4
                            clear BK106
                            clear HB
                            have HO_4 := n0_
                            have BK106 := n1_
                            have HB := n2_
                            have BK115 := n3_
                            have GW115 := n4_
                            have GE115 := n5_
                            have NB106_115 := n6_
                            have NB115_106 := n7_
                            clear n0_ n1_ n2_ n3_ n4_ n5_ n6_ n7_
                            clear hb hbox hg
                            refine hK.out _ _ ⟨HS0_, HS1_, HS2_⟩ (fun hHeld => ?_)
                            clear hK K
                            refine norm_ (a' := ?_) ?_ ?_
                            rotate_left
                            · show Act.put _ (some 5) _ = _
                              simp only [Act.put, List.setIfInBounds_toArray, List.set_cons_zero, List.set_cons_succ, i64_w, i32_w]
                              rfl
                            refine one_ (i := 9) (N := some 26) #[true, true, true, true, true, true, true, true, true, true, true, true, true, true, true, true, false, false, true, false] rfl rfl (one_of HT_.out (by kernel_rfl)) (by decide) (fun K hK => ?_)
                            refine goes_ Tryd.func18 (by kernel_rfl) rfl #[.string (rdOf ByteArray.empty t107 (ji12))] (by rfl) rfl rfl (by (try simp only [List.map_toArray, List.map_cons, List.map_nil]); first | done | (simp only [hji12]; rfl) | rfl | (simp only [List.length_drop, List.length_take]; rfl)) ?_
                            with_reducible refine (spec_Size.calls kj2 (rdOf ByteArray.empty t107 (ji12)) t112 _ A15.out).mono ?_
                            rintro e w' ⟨rfl, ⟨nd, rfl⟩⟩
                            refine ⟨_, rfl, ?_⟩
                            refine hK.out _ _ ⟨hHeld.1, hHeld.2.1, hHeld.2.2⟩ (fun hHeld => ?_)
                            clear hK K
                            refine norm_ (a' := ?_) ?_ ?_
                            rotate_left
                            · show Act.put _ (some 26) _ = _
                              simp only [Act.put, List.setIfInBounds_toArray, List.set_cons_zero, List.set_cons_succ, i64_w, i32_w]
                              rfl
                            refine one_ (i := 16) (N := some 33) #[true, true, true, true, true, true, true, true, true, true, true, true, true, true, true, true, true, false, true, false] rfl rfl (one_of HT_.out (by kernel_rfl)) (by decide) (fun K hK => ?_)
                            refine goes_ Tryd.func18 (by kernel_rfl) rfl #[.string (rdOf ByteArray.empty t107 (ji16))] (by rfl) rfl rfl (by (try simp only [List.map_toArray, List.map_cons, List.map_nil]); first | done | (simp only [hji16]; rfl) | rfl | (simp only [List.length_drop, List.length_take]; rfl)) ?_
                            with_reducible refine (spec_Size.calls kj2 (rdOf ByteArray.empty t107 (ji16)) t114 _ A19.out).mono ?_
                            rintro e w' ⟨rfl, ⟨nd, rfl⟩⟩
                            refine ⟨_, rfl, ?_⟩
                            refine hK.out _ _ ⟨hHeld.1, hHeld.2.1, hHeld.2.2⟩ (fun hHeld => ?_)
                            clear hK K
                            refine norm_ (a' := ?_) ?_ ?_
                            rotate_left
                            · show Act.put _ (some 33) _ = _
                              simp only [Act.put, List.setIfInBounds_toArray, List.set_cons_zero, List.set_cons_succ, i64_w, i32_w]
                              rfl
                            refine pure_ (i := 17) (N := some 34) (v := ?_) (a' := ?_) #[true, true, true, true, true, true, true, true, true, true, true, true, true, true, true, true, true, true, true, false] rfl rfl (any_of HT_.out (by kernel_rfl)) (fun _ _ _ h => h) (Or.inl ⟨by rfl, ?_⟩) ?_ ?_
                            rotate_left
                            · intro w'
                              go_simp
                              with_reducible rfl
                            rotate_left
                            · simp only [Act.put, List.setIfInBounds_toArray, List.set_cons_zero, List.set_cons_succ, i64_w, i32_w]
                              rfl
                            exact norm_ (by simp only [putAll, Act.put, List.setIfInBounds_toArray, List.set_cons_zero, List.set_cons_succ]) (hCont (gb115) _ ⟨hHeld, (by (with_reducible repeat (first | apply Kd.R_alloc | apply Kd.R_drewN | apply Kd.R_drew)); exact HO_4.out), (by (with_reducible repeat (first | refine blk_drewN ?_ _ | refine blk_drew ?_ | refine blk_alloc ?_ _)); exact BK106.out), (by (with_reducible repeat (first | refine blk_drewN ?_ _ | refine blk_drew ?_ | refine blk_alloc ?_ _)); exact BK115.out), GW115.out, GE115.out, NB106_115.out, NB115_106.out, (by repeat (first | (with_reducible first | exact HB.out | apply below_alloc | apply pw_below_drewN | apply below_drew1 | refine below_set ?_ GE106.out | refine below_set ?_ GE115.out) | exact HB.out))⟩)
                        rintro gb115 w26 ⟨hS_, h0_, h1_, h2_, h3_, h4_, h5_, h6_, h7_⟩
                        have n0_ : Aside0 (Kd.R Kd.string 9 w26 w.heap.size (fun _ => True) (.slice (some ad110) t107.length co24) t107) := ⟨h0_⟩
                        have n1_ : Aside0 (w26.heap[gb106]? = some (.cells #[.string (⟨#[]⟩ : ByteArray), .string (⟨#[]⟩ : ByteArray), .int .i64 0, .int .i64 0] 25 (0, 0))) := ⟨h1_⟩
                        have n2_ : Aside0 (w26.heap[gb115]? = some (.cells #[.string (⟨#[]⟩ : ByteArray), .string (⟨#[]⟩ : ByteArray), .int .i64 0, .int .i64 0] 25 (0, 0))) := ⟨h2_⟩
                        have n3_ : Aside0 (w.heap.size ≤ gb115) := ⟨h3_⟩
                        have n4_ : Aside0 (w.heap.size ≤ gb115) := ⟨h4_⟩
                        have n5_ : Aside0 (gb106 ≠ gb115) := ⟨h5_⟩
                        have n6_ : Aside0 (gb115 ≠ gb106) := ⟨h6_⟩
                        have n7_ : Aside0 (Below w.heap.size w w26) := ⟨h7_⟩
                        clear HO_4
                        clear BK106
                        clear HB
                        clear h0_ h1_ h2_ h3_ h4_ h5_ h6_ h7_
                        have HO_4 := n0_
                        have BK106 := n1_
                        have BK115 := n2_
                        have GW115 := n3_
                        have GE115 := n4_
                        have NB106_115 := n5_
                        have NB115_106 := n6_
                        have HB := n7_
                        clear n0_ n1_ n2_ n3_ n4_ n5_ n6_ n7_
                        have hHeld : w26.cell? ad110 = some (.string (rdOf ByteArray.empty t107 0)) ∧ w26.cell? (ad110.add ((ji12)).toNat) = some (.string (rdOf ByteArray.empty t107 (ji12))) ∧ w26.cell? (ad110.add ((ji16)).toNat) = some (.string (rdOf ByteArray.empty t107 (ji16))) := hS_
                        refine norm_ (a' := ?_) ?_ ?_
                        rotate_left
                        · simp only [putAll, Act.put, List.setIfInBounds_toArray, List.set_cons_zero, List.set_cons_succ]
                          rfl
                        refine one_ (i := 19) (N := none) #[true, true, true, true, true, true, true, true, true, true, true, true, true, true, true, true, true, true, true, true] rfl rfl (one_of HT_.out (by kernel_rfl)) (by decide) (fun K hK => ?_)
                        have hs27 : w26.cell? ⟨gb115, 0, none⟩ = some (.string (⟨#[]⟩ : ByteArray)) := (blk_cell BK115.out 0).trans rfl
                        have hfs27 := blk_frozen BK115.out 0
                        have hns27_0 := NB106_115.out
                        have hms27_0 := NB115_106.out
                        have hs28 : w26.cell? ⟨gb115, 1, none⟩ = some (.string (⟨#[]⟩ : ByteArray)) := (blk_cell BK115.out 1).trans rfl
                        have hfs28 := blk_frozen BK115.out 1
                        have hns28_0 := NB106_115.out
                        have hms28_0 := NB115_106.out
                        have hs29 : w26.cell? ⟨gb115, 2, none⟩ = some (.int .i64 0) := (blk_cell BK115.out 2).trans rfl
                        have hfs29 := blk_frozen BK115.out 2
                        have hns29_0 := NB106_115.out
                        have hms29_0 := NB115_106.out
                        have hs30 : w26.cell? ⟨gb115, 3, none⟩ = some (.int .i64 0) := (blk_cell BK115.out 3).trans rfl
                        have hfs30 := blk_frozen BK115.out 3
                        have hns30_0 := NB106_115.out
                        have hms30_0 := NB115_106.out
                        refine skip_ (w1 := ?_) (by rfl) rfl ?_ ?_
                        rotate_left
                        · go_simp
                          rfl
                        refine hK.out _ _ ⟨((cell_far (p := ⟨gb115, _, none⟩) (by first | exact Kd.own_blk (Kd.R_ne HO_4.out BK115.out (by decide)) | (rw [add_block]; exact Kd.own_blk (Kd.R_ne HO_4.out BK115.out (by decide))) | (show (Addr.add _ _).block ≠ _; rw [add_block]; exact Kd.own_blk (Kd.R_ne HO_4.out BK115.out (by decide))) | (dsimp only; exact Kd.own_blk (Kd.R_ne HO_4.out BK115.out (by decide)))) _).trans (((cell_far (p := ⟨gb115, _, none⟩) (by first | exact Kd.own_blk (Kd.R_ne HO_4.out BK115.out (by decide)) | (rw [add_block]; exact Kd.own_blk (Kd.R_ne HO_4.out BK115.out (by decide))) | (show (Addr.add _ _).block ≠ _; rw [add_block]; exact Kd.own_blk (Kd.R_ne HO_4.out BK115.out (by decide))) | (dsimp only; exact Kd.own_blk (Kd.R_ne HO_4.out BK115.out (by decide)))) _).trans (((cell_far (p := ⟨gb115, _, none⟩) (by first | exact Kd.own_blk (Kd.R_ne HO_4.out BK115.out (by decide)) | (rw [add_block]; exact Kd.own_blk (Kd.R_ne HO_4.out BK115.out (by decide))) | (show (Addr.add _ _).block ≠ _; rw [add_block]; exact Kd.own_blk (Kd.R_ne HO_4.out BK115.out (by decide))) | (dsimp only; exact Kd.own_blk (Kd.R_ne HO_4.out BK115.out (by decide)))) _).trans (((cell_far (p := ⟨gb115, _, none⟩) (by first | exact Kd.own_blk (Kd.R_ne HO_4.out BK115.out (by decide)) | (rw [add_block]; exact Kd.own_blk (Kd.R_ne HO_4.out BK115.out (by decide))) | (show (Addr.add _ _).block ≠ _; rw [add_block]; exact Kd.own_blk (Kd.R_ne HO_4.out BK115.out (by decide))) | (dsimp only; exact Kd.own_blk (Kd.R_ne HO_4.out BK115.out (by decide)))) _).trans (hHeld.1)))))))), ((cell_far (p := ⟨gb115, _, none⟩) (by first | exact Kd.own_blk (Kd.R_ne HO_4.out BK115.out (by decide)) | (rw [add_block]; exact Kd.own_blk (Kd.R_ne HO_4.out BK115.out (by decide))) | (show (Addr.add _ _).block ≠ _; rw [add_block]; exact Kd.own_blk (Kd.R_ne HO_4.out BK115.out (by decide))) | (dsimp only; exact Kd.own_blk (Kd.R_ne HO_4.out BK115.out (by decide)))) _).trans (((cell_far (p := ⟨gb115, _, none⟩) (by first | exact Kd.own_blk (Kd.R_ne HO_4.out BK115.out (by decide)) | (rw [add_block]; exact Kd.own_blk (Kd.R_ne HO_4.out BK115.out (by decide))) | (show (Addr.add _ _).block ≠ _; rw [add_block]; exact Kd.own_blk (Kd.R_ne HO_4.out BK115.out (by decide))) | (dsimp only; exact Kd.own_blk (Kd.R_ne HO_4.out BK115.out (by decide)))) _).trans (((cell_far (p := ⟨gb115, _, none⟩) (by first | exact Kd.own_blk (Kd.R_ne HO_4.out BK115.out (by decide)) | (rw [add_block]; exact Kd.own_blk (Kd.R_ne HO_4.out BK115.out (by decide))) | (show (Addr.add _ _).block ≠ _; rw [add_block]; exact Kd.own_blk (Kd.R_ne HO_4.out BK115.out (by decide))) | (dsimp only; exact Kd.own_blk (Kd.R_ne HO_4.out BK115.out (by decide)))) _).trans (((cell_far (p := ⟨gb115, _, none⟩) (by first | exact Kd.own_blk (Kd.R_ne HO_4.out BK115.out (by decide)) | (rw [add_block]; exact Kd.own_blk (Kd.R_ne HO_4.out BK115.out (by decide))) | (show (Addr.add _ _).block ≠ _; rw [add_block]; exact Kd.own_blk (Kd.R_ne HO_4.out BK115.out (by decide))) | (dsimp only; exact Kd.own_blk (Kd.R_ne HO_4.out BK115.out (by decide)))) _).trans (hHeld.2.1)))))))), ((cell_far (p := ⟨gb115, _, none⟩) (by first | exact Kd.own_blk (Kd.R_ne HO_4.out BK115.out (by decide)) | (rw [add_block]; exact Kd.own_blk (Kd.R_ne HO_4.out BK115.out (by decide))) | (show (Addr.add _ _).block ≠ _; rw [add_block]; exact Kd.own_blk (Kd.R_ne HO_4.out BK115.out (by decide))) | (dsimp only; exact Kd.own_blk (Kd.R_ne HO_4.out BK115.out (by decide)))) _).trans (((cell_far (p := ⟨gb115, _, none⟩) (by first | exact Kd.own_blk (Kd.R_ne HO_4.out BK115.out (by decide)) | (rw [add_block]; exact Kd.own_blk (Kd.R_ne HO_4.out BK115.out (by decide))) | (show (Addr.add _ _).block ≠ _; rw [add_block]; exact Kd.own_blk (Kd.R_ne HO_4.out BK115.out (by decide))) | (dsimp only; exact Kd.own_blk (Kd.R_ne HO_4.out BK115.out (by decide)))) _).trans (((cell_far (p := ⟨gb115, _, none⟩) (by first | exact Kd.own_blk (Kd.R_ne HO_4.out BK115.out (by decide)) | (rw [add_block]; exact Kd.own_blk (Kd.R_ne HO_4.out BK115.out (by decide))) | (show (Addr.add _ _).block ≠ _; rw [add_block]; exact Kd.own_blk (Kd.R_ne HO_4.out BK115.out (by decide))) | (dsimp only; exact Kd.own_blk (Kd.R_ne HO_4.out BK115.out (by decide)))) _).trans (((cell_far (p := ⟨gb115, _, none⟩) (by first | exact Kd.own_blk (Kd.R_ne HO_4.out BK115.out (by decide)) | (rw [add_block]; exact Kd.own_blk (Kd.R_ne HO_4.out BK115.out (by decide))) | (show (Addr.add _ _).block ≠ _; rw [add_block]; exact Kd.own_blk (Kd.R_ne HO_4.out BK115.out (by decide))) | (dsimp only; exact Kd.own_blk (Kd.R_ne HO_4.out BK115.out (by decide)))) _).trans (hHeld.2.2))))))))⟩ (fun hHeld => ?_)
                        clear hK K
                        refine done_ (done_of HT_.out (by kernel_rfl)) ?_
                        have p116 : 0 ≤ (1 : Int) := (by omega)
                        have q116 : 1 < (t107.length : Int) := of_decide_eq_true (by first | (with_reducible assumption) | assumption)
                        obtain ⟨ad116, e116, hx116_0⟩ := Kd.at_string (Kd.R_reads' HO_4.out).2.2 1 p116 q116
                        obtain rfl : ad110 = ad116 := (by injection e116)
                        (try simp only [show (1 : Int).toNat = 1 from rfl, Nat.reduceMul, Nat.reduceEqDiff, Go.Addr.add, ↓reduceIte] at hx116_0)
                        have qi116 : (1 < t107.length) = True := eq_true (by omega)
                        (try rw [show ((1 : Int)).toNat = 1 from rfl] at hx116_0)
                        have hn116_0 : ad110.block ≠ gb115 := Kd.own_blk (Kd.R_ne HO_4.out BK115.out (by decide))
                        have hn116_1 : ad110.block ≠ gb115 := Kd.own_blk (Kd.R_ne HO_4.out BK115.out (by decide))
                        have hn116_2 : ad110.block ≠ gb115 := Kd.own_blk (Kd.R_ne HO_4.out BK115.out (by decide))
                        have hn116_3 : ad110.block ≠ gb115 := Kd.own_blk (Kd.R_ne HO_4.out BK115.out (by decide))
                        replace hx116_0 := (cell_far (p := ⟨gb115, 0, none⟩) (by first | (rw [add_block]; exact hn116_0) | (show (Addr.add _ _).block ≠ _; rw [add_block]; exact hn116_0) | exact hn116_0) (.string (rdOf ByteArray.empty t107 0))).trans hx116_0
                        replace hx116_0 := (cell_far (p := ⟨gb115, 1, none⟩) (by first | (rw [add_block]; exact hn116_1) | (show (Addr.add _ _).block ≠ _; rw [add_block]; exact hn116_1) | exact hn116_1) (.string (⟨#[]⟩ : ByteArray))).trans hx116_0
                        replace hx116_0 := (cell_far (p := ⟨gb115, 2, none⟩) (by first | (rw [add_block]; exact hn116_2) | (show (Addr.add _ _).block ≠ _; rw [add_block]; exact hn116_2) | exact hn116_2) (.int .i64 t112)).trans hx116_0
                        replace hx116_0 := (cell_far (p := ⟨gb115, 3, none⟩) (by first | (rw [add_block]; exact hn116_3) | (show (Addr.add _ _).block ≠ _; rw [add_block]; exact hn116_3) | exact hn116_3) (.int .i64 t114)).trans hx116_0
                        clear hn116_0
                        clear hn116_1
                        clear hn116_2
                        clear hn116_3
                        replace p116 := eq_true p116
                        replace q116 := eq_true q116
                        have hnb31 := NB115_106.out
                        have hnc31 := NB106_115.out
                        have hcz32_0 : w26.cell? ⟨gb115, 0, none⟩ = some (.string (⟨#[]⟩ : ByteArray)) := (blk_cell BK115.out 0).trans rfl
                        have hcz32_1 : w26.cell? ⟨gb115, 1, none⟩ = some (.string (⟨#[]⟩ : ByteArray)) := (blk_cell BK115.out 1).trans rfl
                        have hcz32_2 : w26.cell? ⟨gb115, 2, none⟩ = some (.int .i64 0) := (blk_cell BK115.out 2).trans rfl
                        have hcz32_3 : w26.cell? ⟨gb115, 3, none⟩ = some (.int .i64 0) := (blk_cell BK115.out 3).trans rfl
                        have hfz32_0 := blk_frozen BK115.out 0
                        have hfz32_1 := blk_frozen BK115.out 1
                        have hfz32_2 := blk_frozen BK115.out 2
                        have hfz32_3 := blk_frozen BK115.out 3
                        try go_wp2
                        have n0_ : Aside0 (Kd.R Kd.string 9 (((((w26.setCell ⟨gb115, 0, none⟩ (.string (rdOf ByteArray.empty t107 0))).setCell ⟨gb115, 1, none⟩ (.string (⟨#[]⟩ : ByteArray))).setCell ⟨gb115, 2, none⟩ (.int .i64 t112)).setCell ⟨gb115, 3, none⟩ (.int .i64 t114)).setCell ⟨gb115, 1, none⟩ (.string (rdOf ByteArray.empty t107 1))) w.heap.size (fun _ => True) (.slice (some ad110) t107.length co24) t107) := ⟨by (with_reducible repeat (first | apply Kd.R_alloc | apply Kd.R_drewN | apply Kd.R_drew)); exact Kd.R_mono (Kd.R_far (p := ⟨gb115, 1, none⟩) (Kd.R_far (p := ⟨gb115, 3, none⟩) (Kd.R_far (p := ⟨gb115, 2, none⟩) (Kd.R_far (p := ⟨gb115, 1, none⟩) (Kd.R_far (p := ⟨gb115, 0, none⟩) (Kd.R_types HO_4.out BK115.out (by decide)) (fun _ hk => hk.2) (.string (rdOf ByteArray.empty t107 0))) (fun _ hk => hk.2) (.string (⟨#[]⟩ : ByteArray))) (fun _ hk => hk.2) (.int .i64 t112)) (fun _ hk => hk.2) (.int .i64 t114)) (fun _ hk => hk.2) (.string (rdOf ByteArray.empty t107 1))) (fun _ hk => trivial)⟩
                        have n1_ : Aside0 ((((((w26.setCell ⟨gb115, 0, none⟩ (.string (rdOf ByteArray.empty t107 0))).setCell ⟨gb115, 1, none⟩ (.string (⟨#[]⟩ : ByteArray))).setCell ⟨gb115, 2, none⟩ (.int .i64 t112)).setCell ⟨gb115, 3, none⟩ (.int .i64 t114)).setCell ⟨gb115, 1, none⟩ (.string (rdOf ByteArray.empty t107 1))).heap[gb106]? = some (.cells #[.string (⟨#[]⟩ : ByteArray), .string (⟨#[]⟩ : ByteArray), .int .i64 0, .int .i64 0] 25 (0, 0))) := ⟨by (with_reducible repeat (first | refine blk_drewN ?_ _ | refine blk_drew ?_ | refine blk_alloc ?_ _)); refine blk_far ?_ NB106_115.out _; (with_reducible repeat (first | refine blk_drewN ?_ _ | refine blk_drew ?_ | refine blk_alloc ?_ _)); refine blk_far ?_ NB106_115.out _; (with_reducible repeat (first | refine blk_drewN ?_ _ | refine blk_drew ?_ | refine blk_alloc ?_ _)); refine blk_far ?_ NB106_115.out _; (with_reducible repeat (first | refine blk_drewN ?_ _ | refine blk_drew ?_ | refine blk_alloc ?_ _)); refine blk_far ?_ NB106_115.out _; (with_reducible repeat (first | refine blk_drewN ?_ _ | refine blk_drew ?_ | refine blk_alloc ?_ _)); refine blk_far ?_ NB106_115.out _; (with_reducible repeat (first | refine blk_drewN ?_ _ | refine blk_drew ?_ | refine blk_alloc ?_ _)); exact BK106.out⟩
                        have n2_ : Aside0 ((((((w26.setCell ⟨gb115, 0, none⟩ (.string (rdOf ByteArray.empty t107 0))).setCell ⟨gb115, 1, none⟩ (.string (⟨#[]⟩ : ByteArray))).setCell ⟨gb115, 2, none⟩ (.int .i64 t112)).setCell ⟨gb115, 3, none⟩ (.int .i64 t114)).setCell ⟨gb115, 1, none⟩ (.string (rdOf ByteArray.empty t107 1))).heap[gb115]? = some (.cells #[.string (rdOf ByteArray.empty t107 0), .string (rdOf ByteArray.empty t107 1), .int .i64 t112, .int .i64 t114] 25 (0, 0))) := ⟨by (with_reducible repeat (first | refine blk_drewN ?_ _ | refine blk_drew ?_ | refine blk_alloc ?_ _)); refine blk_put (cs := #[.string (rdOf ByteArray.empty t107 0), .string (⟨#[]⟩ : ByteArray), .int .i64 t112, .int .i64 t114]) ?_ 1 _ rfl; (with_reducible repeat (first | refine blk_drewN ?_ _ | refine blk_drew ?_ | refine blk_alloc ?_ _)); refine blk_put (cs := #[.string (rdOf ByteArray.empty t107 0), .string (⟨#[]⟩ : ByteArray), .int .i64 t112, .int .i64 0]) ?_ 3 _ rfl; (with_reducible repeat (first | refine blk_drewN ?_ _ | refine blk_drew ?_ | refine blk_alloc ?_ _)); refine blk_put (cs := #[.string (rdOf ByteArray.empty t107 0), .string (⟨#[]⟩ : ByteArray), .int .i64 0, .int .i64 0]) ?_ 2 _ rfl; (with_reducible repeat (first | refine blk_drewN ?_ _ | refine blk_drew ?_ | refine blk_alloc ?_ _)); refine blk_put (cs := #[.string (rdOf ByteArray.empty t107 0), .string (⟨#[]⟩ : ByteArray), .int .i64 0, .int .i64 0]) ?_ 1 _ rfl; (with_reducible repeat (first | refine blk_drewN ?_ _ | refine blk_drew ?_ | refine blk_alloc ?_ _)); refine blk_put (cs := #[.string (⟨#[]⟩ : ByteArray), .string (⟨#[]⟩ : ByteArray), .int .i64 0, .int .i64 0]) ?_ 0 _ rfl; (with_reducible repeat (first | refine blk_drewN ?_ _ | refine blk_drew ?_ | refine blk_alloc ?_ _)); exact BK115.out⟩
                        have n3_ : Aside0 (Below w.heap.size w (((((w26.setCell ⟨gb115, 0, none⟩ (.string (rdOf ByteArray.empty t107 0))).setCell ⟨gb115, 1, none⟩ (.string (⟨#[]⟩ : ByteArray))).setCell ⟨gb115, 2, none⟩ (.int .i64 t112)).setCell ⟨gb115, 3, none⟩ (.int .i64 t114)).setCell ⟨gb115, 1, none⟩ (.string (rdOf ByteArray.empty t107 1)))) := ⟨by repeat (first | (with_reducible first | exact HB.out | apply below_alloc | apply pw_below_drewN | apply below_drew1 | refine below_set ?_ GE106.out | refine below_set ?_ GE115.out) | exact HB.out)⟩
                        (try clear HO_4)
                        (try clear BK106)
                        (try clear BK115)
                        (try clear HB)
                        generalize (((((w26.setCell ⟨gb115, 0, none⟩ (.string (rdOf ByteArray.empty t107 0))).setCell ⟨gb115, 1, none⟩ (.string (⟨#[]⟩ : ByteArray))).setCell ⟨gb115, 2, none⟩ (.int .i64 t112)).setCell ⟨gb115, 3, none⟩ (.int .i64 t114)).setCell ⟨gb115, 1, none⟩ (.string (rdOf ByteArray.empty t107 1))) = w33 at n0_ n1_ n2_ n3_ ⊢
                        have HO_4 := n0_
                        have BK106 := n1_
                        have BK115 := n2_
                        have HB := n3_
                        clear n0_ n1_ n2_ n3_
                        have n0_ := Aside0.mk (Kd.R_drew HO_4.out)
                        have n1_ := Aside0.mk (blk_drew BK106.out)
                        have n2_ := Aside0.mk (blk_drew BK115.out)
                        have n3_ := Aside0.mk (below_drew1 HB.out)
                        clear HO_4
                        clear BK106
                        clear BK115
                        clear HB
                        have HO_4 := n0_
                        have BK106 := n1_
                        have BK115 := n2_
                        have HB := n3_
                        clear n0_ n1_ n2_ n3_
                        refine start_ (n := 13) (S := fun w' => w'.cell? ⟨gb115, 0, none⟩ = some (.string (rdOf ByteArray.empty t107 0)) ∧ w'.cell? ⟨gb115, 1, none⟩ = some (.string (rdOf ByteArray.empty t107 1)) ∧ w'.cell? ⟨gb115, 2, none⟩ = some (.int .i64 t112) ∧ w'.cell? ⟨gb115, 3, none⟩ = some (.int .i64 t114)) (ds := []) #[false, false, false, false, false, false, false, false, false, false, false, false, false] (by kernel_rfl) rfl rfl ⟨(blk_cell BK115.out 0).trans rfl, (blk_cell BK115.out 1).trans rfl, (blk_cell BK115.out 2).trans rfl, (blk_cell BK115.out 3).trans rfl⟩ (fun hHeld => ?_); refine with_tabW spec_ReadHPub.tab7 spec_ReadHPub.bits7 (fun HT_ HW_ => ?_)
                        generalize w33.drew = w34 at HO_4 BK106 BK115 HB hHeld ⊢
                        refine pure_ (i := 1) (N := some 43) (v := ?_) (a' := ?_) #[false, true, false, false, false, false, false, false, false, false, false, false, false] rfl rfl (any_of HT_.out (by kernel_rfl)) (fun _ _ _ h => h) (Or.inl ⟨by rfl, ?_⟩) ?_ ?_
                        rotate_left
                        · intro w'
                          go_simp
                          with_reducible rfl
                        rotate_left
                        · simp only [Act.put, List.setIfInBounds_toArray, List.set_cons_zero, List.set_cons_succ, i64_w, i32_w]
                          rfl
                        refine take_ (i := 0) (N := some 42) (v := ?_) (a' := ?_) #[true, true, false, false, false, false, false, false, false, false, false, false, false] rfl rfl (take_ofW HT_.out HW_.out (by kernel_rfl)) (fun _ _ _ h => h) (Or.inl ⟨by rfl, ?_⟩) hHeld ?_ ?_
                        rotate_left
                        · rintro w' ⟨s0, s1, s2, s3⟩
                          go_simp
                          with_reducible rfl
                        rotate_left
                        · simp only [Act.put, List.setIfInBounds_toArray, List.set_cons_zero, List.set_cons_succ, i64_w, i32_w]
                          rfl
                        refine take_ (i := 2) (N := some 44) (v := ?_) (a' := ?_) #[true, true, true, false, false, false, false, false, false, false, false, false, false] rfl rfl (take_ofW HT_.out HW_.out (by kernel_rfl)) (fun _ _ _ h => h) (Or.inl ⟨by rfl, ?_⟩) hHeld ?_ ?_
                        rotate_left
                        · rintro w' ⟨s0, s1, s2, s3⟩
                          go_simp
                          with_reducible rfl
                        rotate_left
                        · simp only [Act.put, List.setIfInBounds_toArray, List.set_cons_zero, List.set_cons_succ, i64_w, i32_w]
                          rfl
                        refine pure_ (i := 3) (N := some 45) (v := ?_) (a' := ?_) #[true, true, true, true, false, false, false, false, false, false, false, false, false] rfl rfl (any_of HT_.out (by kernel_rfl)) (fun _ _ _ h => h) (Or.inl ⟨by rfl, ?_⟩) ?_ ?_
                        rotate_left
                        · intro w'
                          go_simp
                          with_reducible rfl
                        rotate_left
                        · simp only [Act.put, List.setIfInBounds_toArray, List.set_cons_zero, List.set_cons_succ, i64_w, i32_w]
                          rfl
                        refine pure_ (i := 4) (N := some 46) (v := ?_) (a' := ?_) #[true, true, true, true, true, false, false, false, false, false, false, false, false] rfl rfl (any_of HT_.out (by kernel_rfl)) (fun _ _ _ h => h) (Or.inl ⟨by rfl, ?_⟩) ?_ ?_
                        rotate_left
                        · intro w'
                          go_simp
                          with_reducible rfl
                        rotate_left
                        · simp only [Act.put, List.setIfInBounds_toArray, List.set_cons_zero, List.set_cons_succ, i64_w, i32_w]
                          rfl
                        refine pure_ (i := 5) (N := some 47) (v := ?_) (a' := ?_) #[true, true, true, true, true, true, false, false, false, false, false, false, false] rfl rfl (any_of HT_.out (by kernel_rfl)) (fun _ _ _ h => h) (Or.inl ⟨by rfl, ?_⟩) ?_ ?_
                        rotate_left
                        · intro w'
                          go_simp
                          with_reducible rfl
                        rotate_left
                        · simp only [Act.put, List.setIfInBounds_toArray, List.set_cons_zero, List.set_cons_succ, i64_w, i32_w]
                          rfl
                        refine pure_ (i := 7) (N := some 49) (v := ?_) (a' := ?_) #[true, true, true, true, true, true, false, true, false, false, false, false, false] rfl rfl (any_of HT_.out (by kernel_rfl)) (fun _ _ _ h => h) (Or.inl ⟨by rfl, ?_⟩) ?_ ?_
                        rotate_left
                        · intro w'
                          go_simp
                          with_reducible rfl
                        rotate_left
                        · simp only [Act.put, List.setIfInBounds_toArray, List.set_cons_zero, List.set_cons_succ, i64_w, i32_w]
                          rfl
                        refine take_ (i := 6) (N := some 48) (v := ?_) (a' := ?_) #[true, true, true, true, true, true, true, true, false, false, false, false, false] rfl rfl (take_ofW HT_.out HW_.out (by kernel_rfl)) (fun _ _ _ h => h) (Or.inl ⟨by rfl, ?_⟩) hHeld ?_ ?_
                        rotate_left
                        · rintro w' ⟨s0, s1, s2, s3⟩
                          go_simp
                          with_reducible rfl
                        rotate_left
                        · simp only [Act.put, List.setIfInBounds_toArray, List.set_cons_zero, List.set_cons_succ, i64_w, i32_w]
                          rfl
                        refine take_ (i := 8) (N := some 50) (v := ?_) (a' := ?_) #[true, true, true, true, true, true, true, true, true, false, false, false, false] rfl rfl (take_ofW HT_.out HW_.out (by kernel_rfl)) (fun _ _ _ h => h) (Or.inl ⟨by rfl, ?_⟩) hHeld ?_ ?_
                        rotate_left
                        · rintro w' ⟨s0, s1, s2, s3⟩
                          go_simp
                          with_reducible rfl
                        rotate_left
                        · simp only [Act.put, List.setIfInBounds_toArray, List.set_cons_zero, List.set_cons_succ, i64_w, i32_w]
                          rfl
                        refine pure_ (i := 9) (N := some 51) (v := ?_) (a' := ?_) #[true, true, true, true, true, true, true, true, true, true, false, false, false] rfl rfl (any_of HT_.out (by kernel_rfl)) (fun _ _ _ h => h) (Or.inl ⟨by rfl, ?_⟩) ?_ ?_
                        rotate_left
                        · intro w'
                          go_simp
                          with_reducible rfl
                        rotate_left
                        · simp only [Act.put, List.setIfInBounds_toArray, List.set_cons_zero, List.set_cons_succ, i64_w, i32_w]
                          rfl
                        refine pure_ (i := 10) (N := some 52) (v := ?_) (a' := ?_) #[true, true, true, true, true, true, true, true, true, true, true, false, false] rfl rfl (any_of HT_.out (by kernel_rfl)) (fun _ _ _ h => h) (Or.inl ⟨by rfl, ?_⟩) ?_ ?_
                        rotate_left
                        · intro w'
                          go_simp
                          with_reducible rfl
                        rotate_left
                        · simp only [Act.put, List.setIfInBounds_toArray, List.set_cons_zero, List.set_cons_succ, i64_w, i32_w]
                          rfl
                        refine one_ (i := 11) (N := none) #[true, true, true, true, true, true, true, true, true, true, true, true, false] rfl rfl (one_of HT_.out (by kernel_rfl)) (by decide) (fun K hK => ?_)
                        have hs35 : w34.cell? ⟨gb106, 0, none⟩ = some (.string (⟨#[]⟩ : ByteArray)) := (blk_cell BK106.out 0).trans rfl
                        have hfs35 := blk_frozen BK106.out 0
                        have hns35_1 := NB115_106.out
                        have hms35_1 := NB106_115.out
                        have hs36 : w34.cell? ⟨gb106, 1, none⟩ = some (.string (⟨#[]⟩ : ByteArray)) := (blk_cell BK106.out 1).trans rfl
                        have hfs36 := blk_frozen BK106.out 1
                        have hns36_1 := NB115_106.out
                        have hms36_1 := NB106_115.out
                        have hs37 : w34.cell? ⟨gb106, 2, none⟩ = some (.int .i64 0) := (blk_cell BK106.out 2).trans rfl
                        have hfs37 := blk_frozen BK106.out 2
                        have hns37_1 := NB115_106.out
                        have hms37_1 := NB106_115.out
                        have hs38 : w34.cell? ⟨gb106, 3, none⟩ = some (.int .i64 0) := (blk_cell BK106.out 3).trans rfl
                        have hfs38 := blk_frozen BK106.out 3
                        have hns38_1 := NB115_106.out
                        have hms38_1 := NB106_115.out
                        refine skip_ (w1 := ?_) (by rfl) rfl ?_ ?_
                        rotate_left
                        · go_simp
                          rfl
                        refine hK.out _ _ ⟨((cell_far (p := ⟨gb106, _, none⟩) NB115_106.out _).trans (((cell_far (p := ⟨gb106, _, none⟩) NB115_106.out _).trans (((cell_far (p := ⟨gb106, _, none⟩) NB115_106.out _).trans (((cell_far (p := ⟨gb106, _, none⟩) NB115_106.out _).trans (hHeld.1)))))))), ((cell_far (p := ⟨gb106, _, none⟩) NB115_106.out _).trans (((cell_far (p := ⟨gb106, _, none⟩) NB115_106.out _).trans (((cell_far (p := ⟨gb106, _, none⟩) NB115_106.out _).trans (((cell_far (p := ⟨gb106, _, none⟩) NB115_106.out _).trans (hHeld.2.1)))))))), ((cell_far (p := ⟨gb106, _, none⟩) NB115_106.out _).trans (((cell_far (p := ⟨gb106, _, none⟩) NB115_106.out _).trans (((cell_far (p := ⟨gb106, _, none⟩) NB115_106.out _).trans (((cell_far (p := ⟨gb106, _, none⟩) NB115_106.out _).trans (hHeld.2.2.1)))))))), ((cell_far (p := ⟨gb106, _, none⟩) NB115_106.out _).trans (((cell_far (p := ⟨gb106, _, none⟩) NB115_106.out _).trans (((cell_far (p := ⟨gb106, _, none⟩) NB115_106.out _).trans (((cell_far (p := ⟨gb106, _, none⟩) NB115_106.out _).trans (hHeld.2.2.2))))))))⟩ (fun hHeld => ?_)
                        clear hK K
                        refine pure_ (i := 12) (N := some 3) (v := ?_) (a' := ?_) #[true, true, true, true, true, true, true, true, true, true, true, true, true] rfl rfl (any_of HT_.out (by kernel_rfl)) (fun _ _ _ h => h) (Or.inl ⟨by rfl, ?_⟩) ?_ ?_
                        rotate_left
                        · intro w'
                          go_simp
                          with_reducible rfl
                        rotate_left
                        · simp only [Act.put, List.setIfInBounds_toArray, List.set_cons_zero, List.set_cons_succ, i64_w, i32_w]
                          rfl
                        refine done_ (done_of HT_.out (by kernel_rfl)) ?_
                        try go_wp2
                        refine bodyPost_ret (results_ct rfl _ _ gb106 25 #[.string (rdOf ByteArray.empty t107 0), .string (rdOf ByteArray.empty t107 1), .int .i64 t112, .int .i64 t114] (0, 0) _ rfl (by (with_reducible repeat (first | refine blk_drewN ?_ _ | refine blk_drew ?_ | refine blk_alloc ?_ _)); refine blk_put (cs := #[.string (rdOf ByteArray.empty t107 0), .string (rdOf ByteArray.empty t107 1), .int .i64 t112, .int .i64 0]) ?_ 3 _ rfl; (with_reducible repeat (first | refine blk_drewN ?_ _ | refine blk_drew ?_ | refine blk_alloc ?_ _)); refine blk_put (cs := #[.string (rdOf ByteArray.empty t107 0), .string (rdOf ByteArray.empty t107 1), .int .i64 0, .int .i64 0]) ?_ 2 _ rfl; (with_reducible repeat (first | refine blk_drewN ?_ _ | refine blk_drew ?_ | refine blk_alloc ?_ _)); refine blk_put (cs := #[.string (rdOf ByteArray.empty t107 0), .string (⟨#[]⟩ : ByteArray), .int .i64 0, .int .i64 0]) ?_ 1 _ rfl; (with_reducible repeat (first | refine blk_drewN ?_ _ | refine blk_drew ?_ | refine blk_alloc ?_ _)); refine blk_put (cs := #[.string (⟨#[]⟩ : ByteArray), .string (⟨#[]⟩ : ByteArray), .int .i64 0, .int .i64 0]) ?_ 0 _ rfl; (with_reducible repeat (first | refine blk_drewN ?_ _ | refine blk_drew ?_ | refine blk_alloc ?_ _)); exact BK106.out) Tryd.underlying25 rfl (by kernel_rfl)) rfl ?_
                        exact ⟨by first | rfl | (simp [errW_none, errW_some] <;> rfl) | (simp only [← hji12, ← hji16]; first | rfl | (simp [errW_none, errW_some] <;> rfl)) | (simp [*, errW_none, errW_some] <;> rfl), by repeat (first | (with_reducible first | exact HB.out | apply below_alloc | apply pw_below_drewN | apply below_drew1 | refine below_set ?_ GE106.out | refine below_set ?_ GE115.out) | exact HB.out)⟩
                      · rw [if_neg c22] at H
                        have c22b0 : decide (0 ≤ t112) = false := decide_eq_false c22
                        clear c22
                        simp only [Option.some.injEq, Prod.mk.injEq] at H
                        obtain ⟨rfl, rfl, rfl, rfl, rfl⟩ := H
                        try go_wp2
                        have n0_ := Aside0.mk (Kd.R_drew HO_4.out)
                        have n1_ := Aside0.mk (blk_drew BK106.out)
                        have n2_ := Aside0.mk (below_drew1 HB.out)
                        clear HO_4
                        clear BK106
                        clear HB
                        have HO_4 := n0_
                        have BK106 := n1_
                        have HB := n2_
                        clear n0_ n1_ n2_
                        obtain ⟨Ao40, co40, eo40⟩ := Kd.R_slice HO_4.out
                        (first | subst eo40 | (injection eo40 with f1_ f2_ f3_; have f4_ := f1_.symm; have f5_ := f3_.symm; clear f1_ f2_ f3_; subst f4_; subst f5_))
                        have p110 : 0 ≤ (0 : Int) := (by omega)
                        have q110 : 0 < (t107.length : Int) := of_decide_eq_true (by first | (with_reducible assumption) | assumption)
                        obtain ⟨ad110, e110, hx110_0⟩ := Kd.at_string (Kd.R_reads' HO_4.out).2.2 0 p110 q110
                        cases e110
                        have qi110 : (0 < t107.length) = True := eq_true (by omega)
                        (try rw [show ((0 : Int)).toNat = 0 from rfl] at hx110_0)
                        (try rw [Addr.add_zero'] at hx110_0)
                        replace p110 := eq_true p110
                        replace q110 := eq_true q110
                        have p111 : 0 ≤ ((ji12) : Int) := of_decide_eq_true (by first | (with_reducible assumption) | assumption)
                        have q111 : (ji12) < (t107.length : Int) := of_decide_eq_true (by first | (with_reducible assumption) | assumption)
                        obtain ⟨ad111, e111, hx111_0⟩ := Kd.at_string (Kd.R_reads' HO_4.out).2.2 (ji12) p111 q111
                        obtain rfl : ad110 = ad111 := (by injection e111)
                        replace p111 := eq_true p111
                        replace q111 := eq_true q111
                        have p113 : 0 ≤ ((ji16) : Int) := of_decide_eq_true (by first | (with_reducible assumption) | assumption)
                        have q113 : (ji16) < (t107.length : Int) := of_decide_eq_true (by first | (with_reducible assumption) | assumption)
                        obtain ⟨ad113, e113, hx113_0⟩ := Kd.at_string (Kd.R_reads' HO_4.out).2.2 (ji16) p113 q113
                        obtain rfl : ad110 = ad113 := (by injection e113)
                        replace p113 := eq_true p113
                        replace q113 := eq_true q113
                        refine start_ (n := 20) (S := fun w' => w'.cell? ad110 = some (.string (rdOf ByteArray.empty t107 0)) ∧ w'.cell? (ad110.add ((ji12)).toNat) = some (.string (rdOf ByteArray.empty t107 (ji12))) ∧ w'.cell? (ad110.add ((ji16)).toNat) = some (.string (rdOf ByteArray.empty t107 (ji16)))) (ds := []) #[false, false, false, false, false, false, false, false, false, false, false, false, false, false, false, false, false, false, false, false] (by kernel_rfl) rfl rfl ⟨hx110_0, hx111_0, hx113_0⟩ (fun hHeld => ?_); refine with_tabW spec_ReadHPub.tab4 spec_ReadHPub.bits4 (fun HT_ HW_ => ?_)
                        generalize wc.drew = w39 at HO_4 BK106 HB hx110_0 hx111_0 hx113_0 hHeld ⊢
                        refine pure_ (i := 0) (N := some 17) (v := ?_) (a' := ?_) #[true, false, false, false, false, false, false, false, false, false, false, false, false, false, false, false, false, false, false, false] rfl rfl (any_of HT_.out (by kernel_rfl)) (fun _ _ _ h => h) (Or.inl ⟨by rfl, ?_⟩) ?_ ?_
                        rotate_left
                        · intro w'
                          go_simp
                          with_reducible rfl
                        rotate_left
                        · simp only [Act.put, List.setIfInBounds_toArray, List.set_cons_zero, List.set_cons_succ, i64_w, i32_w]
                          rfl
                        refine pure_ (i := 1) (N := some 18) (v := ?_) (a' := ?_) #[true, true, false, false, false, false, false, false, false, false, false, false, false, false, false, false, false, false, false, false] rfl rfl (any_of HT_.out (by kernel_rfl)) (fun _ _ _ h => h) (Or.inl ⟨by rfl, ?_⟩) ?_ ?_
                        rotate_left
                        · intro w'
                          go_simp
                          with_reducible rfl
                        rotate_left
                        · simp only [Act.put, List.setIfInBounds_toArray, List.set_cons_zero, List.set_cons_succ, i64_w, i32_w]
                          rfl
                        refine pure_ (i := 3) (N := some 20) (v := ?_) (a' := ?_) #[true, true, false, true, false, false, false, false, false, false, false, false, false, false, false, false, false, false, false, false] rfl rfl (any_of HT_.out (by kernel_rfl)) (fun _ _ _ h => h) (Or.inl ⟨by rfl, ?_⟩) ?_ ?_
                        rotate_left
                        · intro w'
                          go_simp
                          with_reducible rfl
                        rotate_left
                        · simp only [Act.put, List.setIfInBounds_toArray, List.set_cons_zero, List.set_cons_succ, i64_w, i32_w]
                          rfl
                        refine pure_ (i := 4) (N := some 21) (v := ?_) (a' := ?_) #[true, true, false, true, true, false, false, false, false, false, false, false, false, false, false, false, false, false, false, false] rfl rfl (any_of HT_.out (by kernel_rfl)) (fun _ _ _ h => h) (Or.inl ⟨by rfl, ?_⟩) ?_ ?_
                        rotate_left
                        · intro w'
                          go_simp
                          with_reducible rfl
                        rotate_left
                        · simp only [Act.put, List.setIfInBounds_toArray, List.set_cons_zero, List.set_cons_succ, i64_w, i32_w]
                          rfl
                        refine pure_ (i := 5) (N := some 22) (v := ?_) (a' := ?_) #[true, true, false, true, true, true, false, false, false, false, false, false, false, false, false, false, false, false, false, false] rfl rfl (any_of HT_.out (by kernel_rfl)) (fun _ _ _ h => h) (Or.inl ⟨by rfl, ?_⟩) ?_ ?_
                        rotate_left
                        · intro w'
                          go_simp
                          with_reducible rfl
                        rotate_left
                        · simp only [Act.put, List.setIfInBounds_toArray, List.set_cons_zero, List.set_cons_succ, i64_w, i32_w]
                          rfl
                        refine pure_ (i := 6) (N := some 23) (v := ?_) (a' := ?_) #[true, true, false, true, true, true, true, false, false, false, false, false, false, false, false, false, false, false, false, false] rfl rfl (any_of HT_.out (by kernel_rfl)) (fun _ _ _ h => h) (Or.inl ⟨by rfl, ?_⟩) ?_ ?_
                        rotate_left
                        · intro w'
                          go_simp
                          with_reducible rfl
                        rotate_left
                        · simp only [Act.put, List.setIfInBounds_toArray, List.set_cons_zero, List.set_cons_succ, i64_w, i32_w]
                          rfl
                        refine pure_ (i := 7) (N := some 24) (v := ?_) (a' := ?_) #[true, true, false, true, true, true, true, true, false, false, false, false, false, false, false, false, false, false, false, false] rfl rfl (any_of HT_.out (by kernel_rfl)) (fun _ _ _ h => h) (Or.inl ⟨by rfl, ?_⟩) ?_ ?_
                        rotate_left
                        · intro w'
                          go_simp
                          with_reducible rfl
                        rotate_left
                        · simp only [Act.put, List.setIfInBounds_toArray, List.set_cons_zero, List.set_cons_succ, i64_w, i32_w]
                          rfl
                        refine pure_ (i := 10) (N := some 27) (v := ?_) (a' := ?_) #[true, true, false, true, true, true, true, true, false, false, true, false, false, false, false, false, false, false, false, false] rfl rfl (any_of HT_.out (by kernel_rfl)) (fun _ _ _ h => h) (Or.inl ⟨by rfl, ?_⟩) ?_ ?_
                        rotate_left
                        · intro w'
                          go_simp
                          with_reducible rfl
                        rotate_left
                        · simp only [Act.put, List.setIfInBounds_toArray, List.set_cons_zero, List.set_cons_succ, i64_w, i32_w]
                          rfl
                        refine pure_ (i := 11) (N := some 28) (v := ?_) (a' := ?_) #[true, true, false, true, true, true, true, true, false, false, true, true, false, false, false, false, false, false, false, false] rfl rfl (any_of HT_.out (by kernel_rfl)) (fun _ _ _ h => h) (Or.inl ⟨by rfl, ?_⟩) ?_ ?_
                        rotate_left
                        · intro w'
                          go_simp
                          with_reducible rfl
                        rotate_left
                        · simp only [Act.put, List.setIfInBounds_toArray, List.set_cons_zero, List.set_cons_succ, i64_w, i32_w]
                          rfl
                        refine pure_ (i := 12) (N := some 29) (v := ?_) (a' := ?_) #[true, true, false, true, true, true, true, true, false, false, true, true, true, false, false, false, false, false, false, false] rfl rfl (any_of HT_.out (by kernel_rfl)) (fun _ _ _ h => h) (Or.inl ⟨by rfl, ?_⟩) ?_ ?_
                        rotate_left
                        · intro w'
                          go_simp
                          with_reducible rfl
                        rotate_left
                        · simp only [Act.put, List.setIfInBounds_toArray, List.set_cons_zero, List.set_cons_succ, i64_w, i32_w]
                          rfl
                        refine pure_ (i := 13) (N := some 30) (v := ?_) (a' := ?_) #[true, true, false, true, true, true, true, true, false, false, true, true, true, true, false, false, false, false, false, false] rfl rfl (any_of HT_.out (by kernel_rfl)) (fun _ _ _ h => h) (Or.inl ⟨by rfl, ?_⟩) ?_ ?_
                        rotate_left
                        · intro w'
                          go_simp
                          with_reducible rfl
                        rotate_left
                        · simp only [Act.put, List.setIfInBounds_toArray, List.set_cons_zero, List.set_cons_succ, i64_w, i32_w]
                          rfl
                        refine pure_ (i := 14) (N := some 31) (v := ?_) (a' := ?_) #[true, true, false, true, true, true, true, true, false, false, true, true, true, true, true, false, false, false, false, false] rfl rfl (any_of HT_.out (by kernel_rfl)) (fun _ _ _ h => h) (Or.inl ⟨by rfl, ?_⟩) ?_ ?_
                        rotate_left
                        · intro w'
                          go_simp
                          with_reducible rfl
                        rotate_left
                        · simp only [Act.put, List.setIfInBounds_toArray, List.set_cons_zero, List.set_cons_succ, i64_w, i32_w]
                          rfl
                        refine take_ (i := 2) (N := some 19) (v := ?_) (a' := ?_) #[true, true, true, true, true, true, true, true, false, false, true, true, true, true, true, false, false, false, false, false] rfl rfl (take_ofW HT_.out HW_.out (by kernel_rfl)) (fun _ _ _ h => h) (Or.inl ⟨by rfl, ?_⟩) hHeld ?_ ?_
                        rotate_left
                        · rintro w' ⟨s0, s1, s2⟩
                          go_simp
                          with_reducible rfl
                        rotate_left
                        · simp only [Act.put, List.setIfInBounds_toArray, List.set_cons_zero, List.set_cons_succ, i64_w, i32_w]
                          rfl
                        refine take_ (i := 8) (N := some 25) (v := ?_) (a' := ?_) #[true, true, true, true, true, true, true, true, true, false, true, true, true, true, true, false, false, false, false, false] rfl rfl (take_ofW HT_.out HW_.out (by kernel_rfl)) (fun _ _ _ h => h) (Or.inl ⟨by rfl, ?_⟩) hHeld ?_ ?_
                        rotate_left
                        · rintro w' ⟨s0, s1, s2⟩
                          go_simp
                          with_reducible rfl
                        rotate_left
                        · simp only [Act.put, List.setIfInBounds_toArray, List.set_cons_zero, List.set_cons_succ, i64_w, i32_w]
                          rfl
                        refine take_ (i := 15) (N := some 32) (v := ?_) (a' := ?_) #[true, true, true, true, true, true, true, true, true, false, true, true, true, true, true, true, false, false, false, false] rfl rfl (take_ofW HT_.out HW_.out (by kernel_rfl)) (fun _ _ _ h => h) (Or.inl ⟨by rfl, ?_⟩) hHeld ?_ ?_
                        rotate_left
                        · rintro w' ⟨s0, s1, s2⟩
                          go_simp
                          with_reducible rfl
                        rotate_left
                        · simp only [Act.put, List.setIfInBounds_toArray, List.set_cons_zero, List.set_cons_succ, i64_w, i32_w]
                          rfl
                        refine join_ (σ := Nat) 1 #[true, true, true, true, true, true, true, true, true, true, true, true, true, true, true, true, true, true, true, false] (fun s_ => [(26, .int .i64 t112), (33, .int .i64 t114), (5, .pointer (some ⟨s_, 0, none⟩)), (34, .agg #[.string (rdOf ByteArray.empty t107 0), .string (⟨#[]⟩ : ByteArray), .int .i64 t112, .int .i64 t114])]) (fun s_ w' => (w'.cell? ad110 = some (.string (rdOf ByteArray.empty t107 0)) ∧ w'.cell? (ad110.add ((ji12)).toNat) = some (.string (rdOf ByteArray.empty t107 (ji12))) ∧ w'.cell? (ad110.add ((ji16)).toNat) = some (.string (rdOf ByteArray.empty t107 (ji16)))) ∧ (Kd.R Kd.string 9 w' w.heap.size (fun _ => True) (.slice (some ad110) t107.length co40) t107) ∧ (w'.heap[gb106]? = some (.cells #[.string (⟨#[]⟩ : ByteArray), .string (⟨#[]⟩ : ByteArray), .int .i64 0, .int .i64 0] 25 (0, 0))) ∧ (w'.heap[s_]? = some (.cells #[.string (⟨#[]⟩ : ByteArray), .string (⟨#[]⟩ : ByteArray), .int .i64 0, .int .i64 0] 25 (0, 0))) ∧ (w.heap.size ≤ s_) ∧ (w.heap.size ≤ s_) ∧ (gb106 ≠ s_) ∧ (s_ ≠ gb106) ∧ (Below w.heap.size w w')) ?_ ?_
                        rotate_left
                        · intro hCont
                          refine two_ (i := 9) (j := 18) (Ni := some 26) (Nj := some 5) #[true, true, true, true, true, true, true, true, true, true, true, true, true, true, true, true, false, false, false, false] #[true, true, true, true, true, true, true, true, true, false, true, true, true, true, true, true, false, false, true, false] rfl rfl rfl rfl (two_of HT_.out (by kernel_rfl)) (by decide) (by decide) (fun K hK => ?_) (fun K hK => ?_)
                          · skip
                            refine goes_ Tryd.func18 (by kernel_rfl) rfl #[.string (rdOf ByteArray.empty t107 (ji12))] (by rfl) rfl rfl (by (try simp only [List.map_toArray, List.map_cons, List.map_nil]); first | done | (simp only [hji12]; rfl) | rfl | (simp only [List.length_drop, List.length_take]; rfl)) ?_
                            with_reducible refine (spec_Size.calls kj2 (rdOf ByteArray.empty t107 (ji12)) t112 _ A15.out).mono ?_
                            rintro e w' ⟨rfl, ⟨nd, rfl⟩⟩
                            refine ⟨_, rfl, ?_⟩
                            refine hK.out _ _ ⟨hHeld.1, hHeld.2.1, hHeld.2.2⟩ (fun hHeld => ?_)
                            clear hK K
                            refine norm_ (a' := ?_) ?_ ?_
                            rotate_left
                            · show Act.put _ (some 26) _ = _
                              simp only [Act.put, List.setIfInBounds_toArray, List.set_cons_zero, List.set_cons_succ, i64_w, i32_w]
                              rfl
                            refine two_ (i := 16) (j := 18) (Ni := some 33) (Nj := some 5) #[true, true, true, true, true, true, true, true, true, true, true, true, true, true, true, true, true, false, false, false] #[true, true, true, true, true, true, true, true, true, true, true, true, true, true, true, true, false, false, true, false] rfl rfl rfl rfl (two_of HT_.out (by kernel_rfl)) (by decide) (by decide) (fun K hK => ?_) (fun K hK => ?_)
                            · skip
                              refine goes_ Tryd.func18 (by kernel_rfl) rfl #[.string (rdOf ByteArray.empty t107 (ji16))] (by rfl) rfl rfl (by (try simp only [List.map_toArray, List.map_cons, List.map_nil]); first | done | (simp only [hji16]; rfl) | rfl | (simp only [List.length_drop, List.length_take]; rfl)) ?_
                              with_reducible refine (spec_Size.calls kj2 (rdOf ByteArray.empty t107 (ji16)) t114 _ A19.out).mono ?_
                              rintro e w' ⟨rfl, ⟨nd, rfl⟩⟩
                              refine ⟨_, rfl, ?_⟩
                              refine hK.out _ _ ⟨hHeld.1, hHeld.2.1, hHeld.2.2⟩ (fun hHeld => ?_)
                              clear hK K
                              refine norm_ (a' := ?_) ?_ ?_
                              rotate_left
                              · show Act.put _ (some 33) _ = _
                                simp only [Act.put, List.setIfInBounds_toArray, List.set_cons_zero, List.set_cons_succ, i64_w, i32_w]
                                rfl
                              refine pure_ (i := 17) (N := some 34) (v := ?_) (a' := ?_) #[true, true, true, true, true, true, true, true, true, true, true, true, true, true, true, true, true, true, false, false] rfl rfl (any_of HT_.out (by kernel_rfl)) (fun _ _ _ h => h) (Or.inl ⟨by rfl, ?_⟩) ?_ ?_
                              rotate_left
                              · intro w'
                                go_simp
                                with_reducible rfl
                              rotate_left
                              · simp only [Act.put, List.setIfInBounds_toArray, List.set_cons_zero, List.set_cons_succ, i64_w, i32_w]
                                rfl
                              refine one_ (i := 18) (N := some 5) #[true, true, true, true, true, true, true, true, true, true, true, true, true, true, true, true, true, true, true, false] rfl rfl (one_of HT_.out (by kernel_rfl)) (by decide) (fun K hK => ?_)
                              refine box_step ?hg (N := 5) ?hd (cs := #[.string (⟨#[]⟩ : ByteArray), .string (⟨#[]⟩ : ByteArray), .int .i64 0, .int .i64 0]) (t := 25) ?hr ?_; (case hd => rfl); (case hg => rfl); (case hr => first | (go_simp; done) | (go_simp; rfl))
                              intro gb115 hg w41 hbox hb
                              have HS0_ := (hb.cell (World.block_lt_of_cell? _ _ (hHeld.1))).trans (hHeld.1)
                              have HS1_ := (hb.cell (World.block_lt_of_cell? _ _ (hHeld.2.1))).trans (hHeld.2.1)
                              have HS2_ := (hb.cell (World.block_lt_of_cell? _ _ (hHeld.2.2))).trans (hHeld.2.2)
                              have n0_ := Aside0.mk (Kd.R_below (by (with_reducible repeat (first | apply Kd.R_alloc | apply Kd.R_drewN | apply Kd.R_drew)); exact HO_4.out) hb)
                              have n1_ := Aside0.mk (blk_below (g := gb106) (o := .cells #[.string (⟨#[]⟩ : ByteArray), .string (⟨#[]⟩ : ByteArray), .int .i64 0, .int .i64 0] 25 (0, 0)) (by (with_reducible repeat (first | refine blk_drewN ?_ _ | refine blk_drew ?_ | refine blk_alloc ?_ _)); exact BK106.out) hb)
                              have n2_ := Aside0.mk (below_step (by repeat (first | (with_reducible first | exact HB.out | apply below_alloc | apply pw_below_drewN | apply below_drew1 | refine below_set ?_ GE106.out) | exact HB.out)) hb)
                              have n3_ := Aside0.mk (hbox)
                              have n4_ := Aside0.mk ((by rw [hg]; exact (below_size (by repeat (first | (with_reducible first | exact HB.out | apply below_alloc | apply pw_below_drewN | apply below_drew1 | refine below_set ?_ GE106.out) | exact HB.out))) : w.heap.size ≤ gb115))
                              have n5_ := Aside0.mk ((by rw [hg]; exact (below_size (by repeat (first | (with_reducible first | exact HB.out | apply below_alloc | apply pw_below_drewN | apply below_drew1 | refine below_set ?_ GE106.out) | exact HB.out))) : w.heap.size ≤ gb115))
                              have n6_ := Aside0.mk ((by rw [hg]; exact Nat.ne_of_lt (blk_lt (g := gb106) (o := .cells #[.string (⟨#[]⟩ : ByteArray), .string (⟨#[]⟩ : ByteArray), .int .i64 0, .int .i64 0] 25 (0, 0)) (by (with_reducible repeat (first | refine blk_drewN ?_ _ | refine blk_drew ?_ | refine blk_alloc ?_ _)); exact BK106.out)) : gb106 ≠ gb115))
                              have n7_ := Aside0.mk ((by rw [hg]; exact Nat.ne_of_gt (blk_lt (g := gb106) (o := .cells #[.string (⟨#[]⟩ : ByteArray), .string (⟨#[]⟩ : ByteArray), .int .i64 0, .int .i64 0] 25 (0, 0)) (by (with_reducible repeat (first | refine blk_drewN ?_ _ | refine blk_drew ?_ | refine blk_alloc ?_ _)); exact BK106.out)) : gb115 ≠ gb106))
                              clear HO_4
                              clear BK106
                              clear HB
                              have HO_4 := n0_
                              have BK106 := n1_
                              have HB := n2_
                              have BK115 := n3_
                              have GW115 := n4_
                              have GE115 := n5_
                              have NB106_115 := n6_
                              have NB115_106 := n7_
                              clear n0_ n1_ n2_ n3_ n4_ n5_ n6_ n7_
                              clear hb hbox hg
                              refine hK.out _ _ ⟨HS0_, HS1_, HS2_⟩ (fun hHeld => ?_)
                              clear hK K
                              refine norm_ (a' := ?_) ?_ ?_
                              rotate_left
                              · show Act.put _ (some 5) _ = _
                                simp only [Act.put, List.setIfInBounds_toArray, List.set_cons_zero, List.set_cons_succ, i64_w, i32_w]
                                rfl
                              exact norm_ (by simp only [putAll, Act.put, List.setIfInBounds_toArray, List.set_cons_zero, List.set_cons_succ]) (hCont (gb115) _ ⟨hHeld, (by (with_reducible repeat (first | apply Kd.R_alloc | apply Kd.R_drewN | apply Kd.R_drew)); exact HO_4.out), (by (with_reducible repeat (first | refine blk_drewN ?_ _ | refine blk_drew ?_ | refine blk_alloc ?_ _)); exact BK106.out), (by (with_reducible repeat (first | refine blk_drewN ?_ _ | refine blk_drew ?_ | refine blk_alloc ?_ _)); exact BK115.out), GW115.out, GE115.out, NB106_115.out, NB115_106.out, (by repeat (first | (with_reducible first | exact HB.out | apply below_alloc | apply pw_below_drewN | apply below_drew1 | refine below_set ?_ GE106.out | refine below_set ?_ GE115.out) | exact HB.out))⟩)
                            · skip
                              refine box_step ?hg (N := 5) ?hd (cs := #[.string (⟨#[]⟩ : ByteArray), .string (⟨#[]⟩ : ByteArray), .int .i64 0, .int .i64 0]) (t := 25) ?hr ?_; (case hd => rfl); (case hg => rfl); (case hr => first | (go_simp; done) | (go_simp; rfl))
                              intro gb115 hg w41 hbox hb
                              have HS0_ := (hb.cell (World.block_lt_of_cell? _ _ (hHeld.1))).trans (hHeld.1)
                              have HS1_ := (hb.cell (World.block_lt_of_cell? _ _ (hHeld.2.1))).trans (hHeld.2.1)
                              have HS2_ := (hb.cell (World.block_lt_of_cell? _ _ (hHeld.2.2))).trans (hHeld.2.2)
                              have n0_ := Aside0.mk (Kd.R_below (by (with_reducible repeat (first | apply Kd.R_alloc | apply Kd.R_drewN | apply Kd.R_drew)); exact HO_4.out) hb)
                              have n1_ := Aside0.mk (blk_below (g := gb106) (o := .cells #[.string (⟨#[]⟩ : ByteArray), .string (⟨#[]⟩ : ByteArray), .int .i64 0, .int .i64 0] 25 (0, 0)) (by (with_reducible repeat (first | refine blk_drewN ?_ _ | refine blk_drew ?_ | refine blk_alloc ?_ _)); exact BK106.out) hb)
                              have n2_ := Aside0.mk (below_step (by repeat (first | (with_reducible first | exact HB.out | apply below_alloc | apply pw_below_drewN | apply below_drew1 | refine below_set ?_ GE106.out) | exact HB.out)) hb)
                              have n3_ := Aside0.mk (hbox)
                              have n4_ := Aside0.mk ((by rw [hg]; exact (below_size (by repeat (first | (with_reducible first | exact HB.out | apply below_alloc | apply pw_below_drewN | apply below_drew1 | refine below_set ?_ GE106.out) | exact HB.out))) : w.heap.size ≤ gb115))
                              have n5_ := Aside0.mk ((by rw [hg]; exact (below_size (by repeat (first | (with_reducible first | exact HB.out | apply below_alloc | apply pw_below_drewN | apply below_drew1 | refine below_set ?_ GE106.out) | exact HB.out))) : w.heap.size ≤ gb115))
                              have n6_ := Aside0.mk ((by rw [hg]; exact Nat.ne_of_lt (blk_lt (g := gb106) (o := .cells #[.string (⟨#[]⟩ : ByteArray), .string (⟨#[]⟩ : ByteArray), .int .i64 0, .int .i64 0] 25 (0, 0)) (by (with_reducible repeat (first | refine blk_drewN ?_ _ | refine blk_drew ?_ | refine blk_alloc ?_ _)); exact BK106.out)) : gb106 ≠ gb115))
                              have n7_ := Aside0.mk ((by rw [hg]; exact Nat.ne_of_gt (blk_lt (g := gb106) (o := .cells #[.string (⟨#[]⟩ : ByteArray), .string (⟨#[]⟩ : ByteArray), .int .i64 0, .int .i64 0] 25 (0, 0)) (by (with_reducible repeat (first | refine blk_drewN ?_ _ | refine blk_drew ?_ | refine blk_alloc ?_ _)); exact BK106.out)) : gb115 ≠ gb106))
                              clear HO_4
                              clear BK106
                              clear HB
                              have HO_4 := n0_
                              have BK106 := n1_
                              have HB := n2_
                              have BK115 := n3_
                              have GW115 := n4_
                              have GE115 := n5_
                              have NB106_115 := n6_
                              have NB115_106 := n7_
                              clear n0_ n1_ n2_ n3_ n4_ n5_ n6_ n7_
                              clear hb hbox hg
                              refine hK.out _ _ ⟨HS0_, HS1_, HS2_⟩ (fun hHeld => ?_)
                              clear hK K
                              refine norm_ (a' := ?_) ?_ ?_
                              rotate_left
                              · show Act.put _ (some 5) _ = _
                                simp only [Act.put, List.setIfInBounds_toArray, List.set_cons_zero, List.set_cons_succ, i64_w, i32_w]
                                rfl
                              refine one_ (i := 16) (N := some 33) #[true, true, true, true, true, true, true, true, true, true, true, true, true, true, true, true, true, false, true, false] rfl rfl (one_of HT_.out (by kernel_rfl)) (by decide) (fun K hK => ?_)
                              refine goes_ Tryd.func18 (by kernel_rfl) rfl #[.string (rdOf ByteArray.empty t107 (ji16))] (by rfl) rfl rfl (by (try simp only [List.map_toArray, List.map_cons, List.map_nil]); first | done | (simp only [hji16]; rfl) | rfl | (simp only [List.length_drop, List.length_take]; rfl)) ?_
                              with_reducible refine (spec_Size.calls kj2 (rdOf ByteArray.empty t107 (ji16)) t114 _ A19.out).mono ?_
                              rintro e w' ⟨rfl, ⟨nd, rfl⟩⟩
                              refine ⟨_, rfl, ?_⟩
                              refine hK.out _ _ ⟨hHeld.1, hHeld.2.1, hHeld.2.2⟩ (fun hHeld => ?_)
                              clear hK K
                              refine norm_ (a' := ?_) ?_ ?_
                              rotate_left
                              · show Act.put _ (some 33) _ = _
                                simp only [Act.put, List.setIfInBounds_toArray, List.set_cons_zero, List.set_cons_succ, i64_w, i32_w]
                                rfl
                              refine pure_ (i := 17) (N := some 34) (v := ?_) (a' := ?_) #[true, true, true, true, true, true, true, true, true, true, true, true, true, true, true, true, true, true, true, false] rfl rfl (any_of HT_.out (by kernel_rfl)) (fun _ _ _ h => h) (Or.inl ⟨by rfl, ?_⟩) ?_ ?_
                              rotate_left
                              · intro w'
                                go_simp
                                with_reducible rfl
                              rotate_left
                              · simp only [Act.put, List.setIfInBounds_toArray, List.set_cons_zero, List.set_cons_succ, i64_w, i32_w]
                                rfl
                              exact norm_ (by simp only [putAll, Act.put, List.setIfInBounds_toArray, List.set_cons_zero, List.set_cons_succ]) (hCont (gb115) _ ⟨hHeld, (by (with_reducible repeat (first | apply Kd.R_alloc | apply Kd.R_drewN | apply Kd.R_drew)); exact HO_4.out), (by (with_reducible repeat (first | refine blk_drewN ?_ _ | refine blk_drew ?_ | refine blk_alloc ?_ _)); exact BK106.out), (by (with_reducible repeat (first | refine blk_drewN ?_ _ | refine blk_drew ?_ | refine blk_alloc ?_ _)); exact BK115.out), GW115.out, GE115.out, NB106_115.out, NB115_106.out, (by repeat (first | (with_reducible first | exact HB.out | apply below_alloc | apply pw_below_drewN | apply below_drew1 | refine below_set ?_ GE106.out | refine below_set ?_ GE115.out) | exact HB.out))⟩)
                          · skip
                            refine box_step ?hg (N := 5) ?hd (cs := #[.string (⟨#[]⟩ : ByteArray), .string (⟨#[]⟩ : ByteArray), .int .i64 0, .int .i64 0]) (t := 25) ?hr ?_; (case hd => rfl); (case hg => rfl); (case hr => first | (go_simp; done) | (go_simp; rfl))
                            intro gb115 hg w41 hbox hb
                            have HS0_ := (hb.cell (World.block_lt_of_cell? _ _ (hHeld.1))).trans (hHeld.1)
                            have HS1_ := (hb.cell (World.block_lt_of_cell? _ _ (hHeld.2.1))).trans (hHeld.2.1)
                            have HS2_ := (hb.cell (World.block_lt_of_cell? _ _ (hHeld.2.2))).trans (hHeld.2.2)
                            have n0_ := Aside0.mk (Kd.R_below (by (with_reducible repeat (first | apply Kd.R_alloc | apply Kd.R_drewN | apply Kd.R_drew)); exact HO_4.out) hb)
                            have n1_ := Aside0.mk (blk_below (g := gb106) (o := .cells #[.string (⟨#[]⟩ : ByteArray), .string (⟨#[]⟩ : ByteArray), .int .i64 0, .int .i64 0] 25 (0, 0)) (by (with_reducible repeat (first | refine blk_drewN ?_ _ | refine blk_drew ?_ | refine blk_alloc ?_ _)); exact BK106.out) hb)
                            have n2_ := Aside0.mk (below_step (by repeat (first | (with_reducible first | exact HB.out | apply below_alloc | apply pw_below_drewN | apply below_drew1 | refine below_set ?_ GE106.out) | exact HB.out)) hb)
                            have n3_ := Aside0.mk (hbox)
                            have n4_ := Aside0.mk ((by rw [hg]; exact (below_size (by repeat (first | (with_reducible first | exact HB.out | apply below_alloc | apply pw_below_drewN | apply below_drew1 | refine below_set ?_ GE106.out) | exact HB.out))) : w.heap.size ≤ gb115))
                            have n5_ := Aside0.mk ((by rw [hg]; exact (below_size (by repeat (first | (with_reducible first | exact HB.out | apply below_alloc | apply pw_below_drewN | apply below_drew1 | refine below_set ?_ GE106.out) | exact HB.out))) : w.heap.size ≤ gb115))
                            have n6_ := Aside0.mk ((by rw [hg]; exact Nat.ne_of_lt (blk_lt (g := gb106) (o := .cells #[.string (⟨#[]⟩ : ByteArray), .string (⟨#[]⟩ : ByteArray), .int .i64 0, .int .i64 0] 25 (0, 0)) (by (with_reducible repeat (first | refine blk_drewN ?_ _ | refine blk_drew ?_ | refine blk_alloc ?_ _)); exact BK106.out)) : gb106 ≠ gb115))
                            have n7_ := Aside0.mk ((by rw [hg]; exact Nat.ne_of_gt (blk_lt (g := gb106) (o := .cells #[.string (⟨#[]⟩ : ByteArray), .string (⟨#[]⟩ : ByteArray), .int .i64 0, .int .i64 0] 25 (0, 0)) (by (with_reducible repeat (first | refine blk_drewN ?_ _ | refine blk_drew ?_ | refine blk_alloc ?_ _)); exact BK106.out)) : gb115 ≠ gb106))
                            clear HO_4
                            clear BK106
                            clear HB
                            have HO_4 := n0_
                            have BK106 := n1_
                            have HB := n2_
                            have BK115 := n3_
                            have GW115 := n4_
                            have GE115 := n5_
                            have NB106_115 := n6_
                            have NB115_106 := n7_
                            clear n0_ n1_ n2_ n3_ n4_ n5_ n6_ n7_
                            clear hb hbox hg
                            refine hK.out _ _ ⟨HS0_, HS1_, HS2_⟩ (fun hHeld => ?_)
                            clear hK K
                            refine norm_ (a' := ?_) ?_ ?_
                            rotate_left
                            · show Act.put _ (some 5) _ = _
                              simp only [Act.put, List.setIfInBounds_toArray, List.set_cons_zero, List.set_cons_succ, i64_w, i32_w]
                              rfl
                            refine one_ (i := 9) (N := some 26) #[true, true, true, true, true, true, true, true, true, true, true, true, true, true, true, true, false, false, true, false] rfl rfl (one_of HT_.out (by kernel_rfl)) (by decide) (fun K hK => ?_)
                            refine goes_ Tryd.func18 (by kernel_rfl) rfl #[.string (rdOf ByteArray.empty t107 (ji12))] (by rfl) rfl rfl (by (try simp only [List.map_toArray, List.map_cons, List.map_nil]); first | done | (simp only [hji12]; rfl) | rfl | (simp only [List.length_drop, List.length_take]; rfl)) ?_
                            with_reducible refine (spec_Size.calls kj2 (rdOf ByteArray.empty t107 (ji12)) t112 _ A15.out).mono ?_
                            rintro e w' ⟨rfl, ⟨nd, rfl⟩⟩
                            refine ⟨_, rfl, ?_⟩
                            refine hK.out _ _ ⟨hHeld.1, hHeld.2.1, hHeld.2.2⟩ (fun hHeld => ?_)
                            clear hK K
                            refine norm_ (a' := ?_) ?_ ?_
                            rotate_left
                            · show Act.put _ (some 26) _ = _
                              simp only [Act.put, List.setIfInBounds_toArray, List.set_cons_zero, List.set_cons_succ, i64_w, i32_w]
                              rfl
                            refine one_ (i := 16) (N := some 33) #[true, true, true, true, true, true, true, true, true, true, true, true, true, true, true, true, true, false, true, false] rfl rfl (one_of HT_.out (by kernel_rfl)) (by decide) (fun K hK => ?_)
                            refine goes_ Tryd.func18 (by kernel_rfl) rfl #[.string (rdOf ByteArray.empty t107 (ji16))] (by rfl) rfl rfl (by (try simp only [List.map_toArray, List.map_cons, List.map_nil]); first | done | (simp only [hji16]; rfl) | rfl | (simp only [List.length_drop, List.length_take]; rfl)) ?_
                            with_reducible refine (spec_Size.calls kj2 (rdOf ByteArray.empty t107 (ji16)) t114 _ A19.out).mono ?_
                            rintro e w' ⟨rfl, ⟨nd, rfl⟩⟩
                            refine ⟨_, rfl, ?_⟩
                            refine hK.out _ _ ⟨hHeld.1, hHeld.2.1, hHeld.2.2⟩ (fun hHeld => ?_)
                            clear hK K
                            refine norm_ (a' := ?_) ?_ ?_
                            rotate_left
                            · show Act.put _ (some 33) _ = _
                              simp only [Act.put, List.setIfInBounds_toArray, List.set_cons_zero, List.set_cons_succ, i64_w, i32_w]
                              rfl
                            refine pure_ (i := 17) (N := some 34) (v := ?_) (a' := ?_) #[true, true, true, true, true, true, true, true, true, true, true, true, true, true, true, true, true, true, true, false] rfl rfl (any_of HT_.out (by kernel_rfl)) (fun _ _ _ h => h) (Or.inl ⟨by rfl, ?_⟩) ?_ ?_
                            rotate_left
                            · intro w'
                              go_simp
                              with_reducible rfl
                            rotate_left
                            · simp only [Act.put, List.setIfInBounds_toArray, List.set_cons_zero, List.set_cons_succ, i64_w, i32_w]
                              rfl
                            exact norm_ (by simp only [putAll, Act.put, List.setIfInBounds_toArray, List.set_cons_zero, List.set_cons_succ]) (hCont (gb115) _ ⟨hHeld, (by (with_reducible repeat (first | apply Kd.R_alloc | apply Kd.R_drewN | apply Kd.R_drew)); exact HO_4.out), (by (with_reducible repeat (first | refine blk_drewN ?_ _ | refine blk_drew ?_ | refine blk_alloc ?_ _)); exact BK106.out), (by (with_reducible repeat (first | refine blk_drewN ?_ _ | refine blk_drew ?_ | refine blk_alloc ?_ _)); exact BK115.out), GW115.out, GE115.out, NB106_115.out, NB115_106.out, (by repeat (first | (with_reducible first | exact HB.out | apply below_alloc | apply pw_below_drewN | apply below_drew1 | refine below_set ?_ GE106.out | refine below_set ?_ GE115.out) | exact HB.out))⟩)
                        rintro gb115 w42 ⟨hS_, h0_, h1_, h2_, h3_, h4_, h5_, h6_, h7_⟩
                        have n0_ : Aside0 (Kd.R Kd.string 9 w42 w.heap.size (fun _ => True) (.slice (some ad110) t107.length co40) t107) := ⟨h0_⟩
                        have n1_ : Aside0 (w42.heap[gb106]? = some (.cells #[.string (⟨#[]⟩ : ByteArray), .string (⟨#[]⟩ : ByteArray), .int .i64 0, .int .i64 0] 25 (0, 0))) := ⟨h1_⟩
                        have n2_ : Aside0 (w42.heap[gb115]? = some (.cells #[.string (⟨#[]⟩ : ByteArray), .string (⟨#[]⟩ : ByteArray), .int .i64 0, .int .i64 0] 25 (0, 0))) := ⟨h2_⟩
                        have n3_ : Aside0 (w.heap.size ≤ gb115) := ⟨h3_⟩
                        have n4_ : Aside0 (w.heap.size ≤ gb115) := ⟨h4_⟩
                        have n5_ : Aside0 (gb106 ≠ gb115) := ⟨h5_⟩
                        have n6_ : Aside0 (gb115 ≠ gb106) := ⟨h6_⟩
                        have n7_ : Aside0 (Below w.heap.size w w42) := ⟨h7_⟩
                        clear HO_4
                        clear BK106
                        clear HB
                        clear h0_ h1_ h2_ h3_ h4_ h5_ h6_ h7_
                        have HO_4 := n0_
                        have BK106 := n1_
                        have BK115 := n2_
                        have GW115 := n3_
                        have GE115 := n4_
                        have NB106_115 := n5_
                        have NB115_106 := n6_
                        have HB := n7_
                        clear n0_ n1_ n2_ n3_ n4_ n5_ n6_ n7_
                        have hHeld : w42.cell? ad110 = some (.string (rdOf ByteArray.empty t107 0)) ∧ w42.cell? (ad110.add ((ji12)).toNat) = some (.string (rdOf ByteArray.empty t107 (ji12))) ∧ w42.cell? (ad110.add ((ji16)).toNat) = some (.string (rdOf ByteArray.empty t107 (ji16))) := hS_
                        refine norm_ (a' := ?_) ?_ ?_
                        rotate_left
                        · simp only [putAll, Act.put, List.setIfInBounds_toArray, List.set_cons_zero, List.set_cons_succ]
                          rfl
                        refine one_ (i := 19) (N := none) #[true, true, true, true, true, true, true, true, true, true, true, true, true, true, true, true, true, true, true, true] rfl rfl (one_of HT_.out (by kernel_rfl)) (by decide) (fun K hK => ?_)
                        have hs43 : w42.cell? ⟨gb115, 0, none⟩ = some (.string (⟨#[]⟩ : ByteArray)) := (blk_cell BK115.out 0).trans rfl
                        have hfs43 := blk_frozen BK115.out 0
                        have hns43_0 := NB106_115.out
                        have hms43_0 := NB115_106.out
                        have hs44 : w42.cell? ⟨gb115, 1, none⟩ = some (.string (⟨#[]⟩ : ByteArray)) := (blk_cell BK115.out 1).trans rfl
                        have hfs44 := blk_frozen BK115.out 1
                        have hns44_0 := NB106_115.out
                        have hms44_0 := NB115_106.out
                        have hs45 : w42.cell? ⟨gb115, 2, none⟩ = some (.int .i64 0) := (blk_cell BK115.out 2).trans rfl
                        have hfs45 := blk_frozen BK115.out 2
                        have hns45_0 := NB106_115.out
                        have hms45_0 := NB115_106.out
                        have hs46 : w42.cell? ⟨gb115, 3, none⟩ = some (.int .i64 0) := (blk_cell BK115.out 3).trans rfl
                        have hfs46 := blk_frozen BK115.out 3
                        have hns46_0 := NB106_115.out
                        have hms46_0 := NB115_106.out
                        refine skip_ (w1 := ?_) (by rfl) rfl ?_ ?_
                        rotate_left
                        · go_simp
                          rfl
                        refine hK.out _ _ ⟨((cell_far (p := ⟨gb115, _, none⟩) (by first | exact Kd.own_blk (Kd.R_ne HO_4.out BK115.out (by decide)) | (rw [add_block]; exact Kd.own_blk (Kd.R_ne HO_4.out BK115.out (by decide))) | (show (Addr.add _ _).block ≠ _; rw [add_block]; exact Kd.own_blk (Kd.R_ne HO_4.out BK115.out (by decide))) | (dsimp only; exact Kd.own_blk (Kd.R_ne HO_4.out BK115.out (by decide)))) _).trans (((cell_far (p := ⟨gb115, _, none⟩) (by first | exact Kd.own_blk (Kd.R_ne HO_4.out BK115.out (by decide)) | (rw [add_block]; exact Kd.own_blk (Kd.R_ne HO_4.out BK115.out (by decide))) | (show (Addr.add _ _).block ≠ _; rw [add_block]; exact Kd.own_blk (Kd.R_ne HO_4.out BK115.out (by decide))) | (dsimp only; exact Kd.own_blk (Kd.R_ne HO_4.out BK115.out (by decide)))) _).trans (((cell_far (p := ⟨gb115, _, none⟩) (by first | exact Kd.own_blk (Kd.R_ne HO_4.out BK115.out (by decide)) | (rw [add_block]; exact Kd.own_blk (Kd.R_ne HO_4.out BK115.out (by decide))) | (show (Addr.add _ _).block ≠ _; rw [add_block]; exact Kd.own_blk (Kd.R_ne HO_4.out BK115.out (by decide))) | (dsimp only; exact Kd.own_blk (Kd.R_ne HO_4.out BK115.out (by decide)))) _).trans (((cell_far (p := ⟨gb115, _, none⟩) (by first | exact Kd.own_blk (Kd.R_ne HO_4.out BK115.out (by decide)) | (rw [add_block]; exact Kd.own_blk (Kd.R_ne HO_4.out BK115.out (by decide))) | (show (Addr.add _ _).block ≠ _; rw [add_block]; exact Kd.own_blk (Kd.R_ne HO_4.out BK115.out (by decide))) | (dsimp only; exact Kd.own_blk (Kd.R_ne HO_4.out BK115.out (by decide)))) _).trans (hHeld.1)))))))), ((cell_far (p := ⟨gb115, _, none⟩) (by first | exact Kd.own_blk (Kd.R_ne HO_4.out BK115.out (by decide)) | (rw [add_block]; exact Kd.own_blk (Kd.R_ne HO_4.out BK115.out (by decide))) | (show (Addr.add _ _).block ≠ _; rw [add_block]; exact Kd.own_blk (Kd.R_ne HO_4.out BK115.out (by decide))) | (dsimp only; exact Kd.own_blk (Kd.R_ne HO_4.out BK115.out (by decide)))) _).trans (((cell_far (p := ⟨gb115, _, none⟩) (by first | exact Kd.own_blk (Kd.R_ne HO_4.out BK115.out (by decide)) | (rw [add_block]; exact Kd.own_blk (Kd.R_ne HO_4.out BK115.out (by decide))) | (show (Addr.add _ _).block ≠ _; rw [add_block]; exact Kd.own_blk (Kd.R_ne HO_4.out BK115.out (by decide))) | (dsimp only; exact Kd.own_blk (Kd.R_ne HO_4.out BK115.out (by decide)))) _).trans (((cell_far (p := ⟨gb115, _, none⟩) (by first | exact Kd.own_blk (Kd.R_ne HO_4.out BK115.out (by decide)) | (rw [add_block]; exact Kd.own_blk (Kd.R_ne HO_4.out BK115.out (by decide))) | (show (Addr.add _ _).block ≠ _; rw [add_block]; exact Kd.own_blk (Kd.R_ne HO_4.out BK115.out (by decide))) | (dsimp only; exact Kd.own_blk (Kd.R_ne HO_4.out BK115.out (by decide)))) _).trans (((cell_far (p := ⟨gb115, _, none⟩) (by first | exact Kd.own_blk (Kd.R_ne HO_4.out BK115.out (by decide)) | (rw [add_block]; exact Kd.own_blk (Kd.R_ne HO_4.out BK115.out (by decide))) | (show (Addr.add _ _).block ≠ _; rw [add_block]; exact Kd.own_blk (Kd.R_ne HO_4.out BK115.out (by decide))) | (dsimp only; exact Kd.own_blk (Kd.R_ne HO_4.out BK115.out (by decide)))) _).trans (hHeld.2.1)))))))), ((cell_far (p := ⟨gb115, _, none⟩) (by first | exact Kd.own_blk (Kd.R_ne HO_4.out BK115.out (by decide)) | (rw [add_block]; exact Kd.own_blk (Kd.R_ne HO_4.out BK115.out (by decide))) | (show (Addr.add _ _).block ≠ _; rw [add_block]; exact Kd.own_blk (Kd.R_ne HO_4.out BK115.out (by decide))) | (dsimp only; exact Kd.own_blk (Kd.R_ne HO_4.out BK115.out (by decide)))) _).trans (((cell_far (p := ⟨gb115, _, none⟩) (by first | exact Kd.own_blk (Kd.R_ne HO_4.out BK115.out (by decide)) | (rw [add_block]; exact Kd.own_blk (Kd.R_ne HO_4.out BK115.out (by decide))) | (show (Addr.add _ _).block ≠ _; rw [add_block]; exact Kd.own_blk (Kd.R_ne HO_4.out BK115.out (by decide))) | (dsimp only; exact Kd.own_blk (Kd.R_ne HO_4.out BK115.out (by decide)))) _).trans (((cell_far (p := ⟨gb115, _, none⟩) (by first | exact Kd.own_blk (Kd.R_ne HO_4.out BK115.out (by decide)) | (rw [add_block]; exact Kd.own_blk (Kd.R_ne HO_4.out BK115.out (by decide))) | (show (Addr.add _ _).block ≠ _; rw [add_block]; exact Kd.own_blk (Kd.R_ne HO_4.out BK115.out (by decide))) | (dsimp only; exact Kd.own_blk (Kd.R_ne HO_4.out BK115.out (by decide)))) _).trans (((cell_far (p := ⟨gb115, _, none⟩) (by first | exact Kd.own_blk (Kd.R_ne HO_4.out BK115.out (by decide)) | (rw [add_block]; exact Kd.own_blk (Kd.R_ne HO_4.out BK115.out (by decide))) | (show (Addr.add _ _).block ≠ _; rw [add_block]; exact Kd.own_blk (Kd.R_ne HO_4.out BK115.out (by decide))) | (dsimp only; exact Kd.own_blk (Kd.R_ne HO_4.out BK115.out (by decide)))) _).trans (hHeld.2.2))))))))⟩ (fun hHeld => ?_)
                        clear hK K
                        refine done_ (done_of HT_.out (by kernel_rfl)) ?_
                        have p116 : 0 ≤ (1 : Int) := (by omega)
                        have q116 : 1 < (t107.length : Int) := of_decide_eq_true (by first | (with_reducible assumption) | assumption)
                        obtain ⟨ad116, e116, hx116_0⟩ := Kd.at_string (Kd.R_reads' HO_4.out).2.2 1 p116 q116
                        obtain rfl : ad110 = ad116 := (by injection e116)
                        (try simp only [show (1 : Int).toNat = 1 from rfl, Nat.reduceMul, Nat.reduceEqDiff, Go.Addr.add, ↓reduceIte] at hx116_0)
                        have qi116 : (1 < t107.length) = True := eq_true (by omega)
                        (try rw [show ((1 : Int)).toNat = 1 from rfl] at hx116_0)
                        have hn116_0 : ad110.block ≠ gb115 := Kd.own_blk (Kd.R_ne HO_4.out BK115.out (by decide))
                        have hn116_1 : ad110.block ≠ gb115 := Kd.own_blk (Kd.R_ne HO_4.out BK115.out (by decide))
                        have hn116_2 : ad110.block ≠ gb115 := Kd.own_blk (Kd.R_ne HO_4.out BK115.out (by decide))
                        have hn116_3 : ad110.block ≠ gb115 := Kd.own_blk (Kd.R_ne HO_4.out BK115.out (by decide))
                        replace hx116_0 := (cell_far (p := ⟨gb115, 0, none⟩) (by first | (rw [add_block]; exact hn116_0) | (show (Addr.add _ _).block ≠ _; rw [add_block]; exact hn116_0) | exact hn116_0) (.string (rdOf ByteArray.empty t107 0))).trans hx116_0
                        replace hx116_0 := (cell_far (p := ⟨gb115, 1, none⟩) (by first | (rw [add_block]; exact hn116_1) | (show (Addr.add _ _).block ≠ _; rw [add_block]; exact hn116_1) | exact hn116_1) (.string (⟨#[]⟩ : ByteArray))).trans hx116_0
                        replace hx116_0 := (cell_far (p := ⟨gb115, 2, none⟩) (by first | (rw [add_block]; exact hn116_2) | (show (Addr.add _ _).block ≠ _; rw [add_block]; exact hn116_2) | exact hn116_2) (.int .i64 t112)).trans hx116_0
                        replace hx116_0 := (cell_far (p := ⟨gb115, 3, none⟩) (by first | (rw [add_block]; exact hn116_3) | (show (Addr.add _ _).block ≠ _; rw [add_block]; exact hn116_3) | exact hn116_3) (.int .i64 t114)).trans hx116_0
                        clear hn116_0
                        clear hn116_1
                        clear hn116_2
                        clear hn116_3
                        replace p116 := eq_true p116
                        replace q116 := eq_true q116
                        have hnb47 := NB115_106.out
                        have hnc47 := NB106_115.out
                        have hcz48_0 : w42.cell? ⟨gb115, 0, none⟩ = some (.string (⟨#[]⟩ : ByteArray)) := (blk_cell BK115.out 0).trans rfl
                        have hcz48_1 : w42.cell? ⟨gb115, 1, none⟩ = some (.string (⟨#[]⟩ : ByteArray)) := (blk_cell BK115.out 1).trans rfl
                        have hcz48_2 : w42.cell? ⟨gb115, 2, none⟩ = some (.int .i64 0) := (blk_cell BK115.out 2).trans rfl
                        have hcz48_3 : w42.cell? ⟨gb115, 3, none⟩ = some (.int .i64 0) := (blk_cell BK115.out 3).trans rfl
                        have hfz48_0 := blk_frozen BK115.out 0
                        have hfz48_1 := blk_frozen BK115.out 1
                        have hfz48_2 := blk_frozen BK115.out 2
                        have hfz48_3 := blk_frozen BK115.out 3
                        try go_wp2
                        have n0_ : Aside0 (Kd.R Kd.string 9 (((((w42.setCell ⟨gb115, 0, none⟩ (.string (rdOf ByteArray.empty t107 0))).setCell ⟨gb115, 1, none⟩ (.string (⟨#[]⟩ : ByteArray))).setCell ⟨gb115, 2, none⟩ (.int .i64 t112)).setCell ⟨gb115, 3, none⟩ (.int .i64 t114)).setCell ⟨gb115, 1, none⟩ (.string (rdOf ByteArray.empty t107 1))) w.heap.size (fun _ => True) (.slice (some ad110) t107.length co40) t107) := ⟨by (with_reducible repeat (first | apply Kd.R_alloc | apply Kd.R_drewN | apply Kd.R_drew)); exact Kd.R_mono (Kd.R_far (p := ⟨gb115, 1, none⟩) (Kd.R_far (p := ⟨gb115, 3, none⟩) (Kd.R_far (p := ⟨gb115, 2, none⟩) (Kd.R_far (p := ⟨gb115, 1, none⟩) (Kd.R_far (p := ⟨gb115, 0, none⟩) (Kd.R_types HO_4.out BK115.out (by decide)) (fun _ hk => hk.2) (.string (rdOf ByteArray.empty t107 0))) (fun _ hk => hk.2) (.string (⟨#[]⟩ : ByteArray))) (fun _ hk => hk.2) (.int .i64 t112)) (fun _ hk => hk.2) (.int .i64 t114)) (fun _ hk => hk.2) (.string (rdOf ByteArray.empty t107 1))) (fun _ hk => trivial)⟩
                        have n1_ : Aside0 ((((((w42.setCell ⟨gb115, 0, none⟩ (.string (rdOf ByteArray.empty t107 0))).setCell ⟨gb115, 1, none⟩ (.string (⟨#[]⟩ : ByteArray))).setCell ⟨gb115, 2, none⟩ (.int .i64 t112)).setCell ⟨gb115, 3, none⟩ (.int .i64 t114)).setCell ⟨gb115, 1, none⟩ (.string (rdOf ByteArray.empty t107 1))).heap[gb106]? = some (.cells #[.string (⟨#[]⟩ : ByteArray), .string (⟨#[]⟩ : ByteArray), .int .i64 0, .int .i64 0] 25 (0, 0))) := ⟨by (with_reducible repeat (first | refine blk_drewN ?_ _ | refine blk_drew ?_ | refine blk_alloc ?_ _)); refine blk_far ?_ NB106_115.out _; (with_reducible repeat (first | refine blk_drewN ?_ _ | refine blk_drew ?_ | refine blk_alloc ?_ _)); refine blk_far ?_ NB106_115.out _; (with_reducible repeat (first | refine blk_drewN ?_ _ | refine blk_drew ?_ | refine blk_alloc ?_ _)); refine blk_far ?_ NB106_115.out _; (with_reducible repeat (first | refine blk_drewN ?_ _ | refine blk_drew ?_ | refine blk_alloc ?_ _)); refine blk_far ?_ NB106_115.out _; (with_reducible repeat (first | refine blk_drewN ?_ _ | refine blk_drew ?_ | refine blk_alloc ?_ _)); refine blk_far ?_ NB106_115.out _; (with_reducible repeat (first | refine blk_drewN ?_ _ | refine blk_drew ?_ | refine blk_alloc ?_ _)); exact BK106.out⟩
                        have n2_ : Aside0 ((((((w42.setCell ⟨gb115, 0, none⟩ (.string (rdOf ByteArray.empty t107 0))).setCell ⟨gb115, 1, none⟩ (.string (⟨#[]⟩ : ByteArray))).setCell ⟨gb115, 2, none⟩ (.int .i64 t112)).setCell ⟨gb115, 3, none⟩ (.int .i64 t114)).setCell ⟨gb115, 1, none⟩ (.string (rdOf ByteArray.empty t107 1))).heap[gb115]? = some (.cells #[.string (rdOf ByteArray.empty t107 0), .string (rdOf ByteArray.empty t107 1), .int .i64 t112, .int .i64 t114] 25 (0, 0))) := ⟨by (with_reducible repeat (first | refine blk_drewN ?_ _ | refine blk_drew ?_ | refine blk_alloc ?_ _)); refine blk_put (cs := #[.string (rdOf ByteArray.empty t107 0), .string (⟨#[]⟩ : ByteArray), .int .i64 t112, .int .i64 t114]) ?_ 1 _ rfl; (with_reducible repeat (first | refine blk_drewN ?_ _ | refine blk_drew ?_ | refine blk_alloc ?_ _)); refine blk_put (cs := #[.string (rdOf ByteArray.empty t107 0), .string (⟨#[]⟩ : ByteArray), .int .i64 t112, .int .i64 0]) ?_ 3 _ rfl; (with_reducible repeat (first | refine blk_drewN ?_ _ | refine blk_drew ?_ | refine blk_alloc ?_ _)); refine blk_put (cs := #[.string (rdOf ByteArray.empty t107 0), .string (⟨#[]⟩ : ByteArray), .int .i64 0, .int .i64 0]) ?_ 2 _ rfl; (with_reducible repeat (first | refine blk_drewN ?_ _ | refine blk_drew ?_ | refine blk_alloc ?_ _)); refine blk_put (cs := #[.string (rdOf ByteArray.empty t107 0), .string (⟨#[]⟩ : ByteArray), .int .i64 0, .int .i64 0]) ?_ 1 _ rfl; (with_reducible repeat (first | refine blk_drewN ?_ _ | refine blk_drew ?_ | refine blk_alloc ?_ _)); refine blk_put (cs := #[.string (⟨#[]⟩ : ByteArray), .string (⟨#[]⟩ : ByteArray), .int .i64 0, .int .i64 0]) ?_ 0 _ rfl; (with_reducible repeat (first | refine blk_drewN ?_ _ | refine blk_drew ?_ | refine blk_alloc ?_ _)); exact BK115.out⟩
                        have n3_ : Aside0 (Below w.heap.size w (((((w42.setCell ⟨gb115, 0, none⟩ (.string (rdOf ByteArray.empty t107 0))).setCell ⟨gb115, 1, none⟩ (.string (⟨#[]⟩ : ByteArray))).setCell ⟨gb115, 2, none⟩ (.int .i64 t112)).setCell ⟨gb115, 3, none⟩ (.int .i64 t114)).setCell ⟨gb115, 1, none⟩ (.string (rdOf ByteArray.empty t107 1)))) := ⟨by repeat (first | (with_reducible first | exact HB.out | apply below_alloc | apply pw_below_drewN | apply below_drew1 | refine below_set ?_ GE106.out | refine below_set ?_ GE115.out) | exact HB.out)⟩
                        (try clear HO_4)
                        (try clear BK106)
                        (try clear BK115)
                        (try clear HB)
                        generalize (((((w42.setCell ⟨gb115, 0, none⟩ (.string (rdOf ByteArray.empty t107 0))).setCell ⟨gb115, 1, none⟩ (.string (⟨#[]⟩ : ByteArray))).setCell ⟨gb115, 2, none⟩ (.int .i64 t112)).setCell ⟨gb115, 3, none⟩ (.int .i64 t114)).setCell ⟨gb115, 1, none⟩ (.string (rdOf ByteArray.empty t107 1))) = w49 at n0_ n1_ n2_ n3_ ⊢
                        have HO_4 := n0_
                        have BK106 := n1_
                        have BK115 := n2_
                        have HB := n3_
                        clear n0_ n1_ n2_ n3_
                        have n0_ := Aside0.mk (Kd.R_drew HO_4.out)
                        have n1_ := Aside0.mk (blk_drew BK106.out)
                        have n2_ := Aside0.mk (blk_drew BK115.out)
                        have n3_ := Aside0.mk (below_drew1 HB.out)
                        clear HO_4
                        clear BK106
                        clear BK115
                        clear HB
                        have HO_4 := n0_
                        have BK106 := n1_
                        have BK115 := n2_
                        have HB := n3_
                        clear n0_ n1_ n2_ n3_
                        refine start_ (n := 13) (S := fun w' => w'.cell? ⟨gb115, 0, none⟩ = some (.string (rdOf ByteArray.empty t107 0)) ∧ w'.cell? ⟨gb115, 1, none⟩ = some (.string (rdOf ByteArray.empty t107 1)) ∧ w'.cell? ⟨gb115, 2, none⟩ = some (.int .i64 t112) ∧ w'.cell? ⟨gb115, 3, none⟩ = some (.int .i64 t114)) (ds := []) #[false, false, false, false, false, false, false, false, false, false, false, false, false] (by kernel_rfl) rfl rfl ⟨(blk_cell BK115.out 0).trans rfl, (blk_cell BK115.out 1).trans rfl, (blk_cell BK115.out 2).trans rfl, (blk_cell BK115.out 3).trans rfl⟩ (fun hHeld => ?_); refine with_tabW spec_ReadHPub.tab7 spec_ReadHPub.bits7 (fun HT_ HW_ => ?_)
                        generalize w49.drew = w50 at HO_4 BK106 BK115 HB hHeld ⊢
                        refine pure_ (i := 1) (N := some 43) (v := ?_) (a' := ?_) #[false, true, false, false, false, false, false, false, false, false, false, false, false] rfl rfl (any_of HT_.out (by kernel_rfl)) (fun _ _ _ h => h) (Or.inl ⟨by rfl, ?_⟩) ?_ ?_
                        rotate_left
                        · intro w'
                          go_simp
                          with_reducible rfl
                        rotate_left
                        · simp only [Act.put, List.setIfInBounds_toArray, List.set_cons_zero, List.set_cons_succ, i64_w, i32_w]
                          rfl
                        refine take_ (i := 0) (N := some 42) (v := ?_) (a' := ?_) #[true, true, false, false, false, false, false, false, false, false, false, false, false] rfl rfl (take_ofW HT_.out HW_.out (by kernel_rfl)) (fun _ _ _ h => h) (Or.inl ⟨by rfl, ?_⟩) hHeld ?_ ?_
                        rotate_left
                        · rintro w' ⟨s0, s1, s2, s3⟩
                          go_simp
                          with_reducible rfl
                        rotate_left
                        · simp only [Act.put, List.setIfInBounds_toArray, List.set_cons_zero, List.set_cons_succ, i64_w, i32_w]
                          rfl
                        refine take_ (i := 2) (N := some 44) (v := ?_) (a' := ?_) #[true, true, true, false, false, false, false, false, false, false, false, false, false] rfl rfl (take_ofW HT_.out HW_.out (by kernel_rfl)) (fun _ _ _ h => h) (Or.inl ⟨by rfl, ?_⟩) hHeld ?_ ?_
                        rotate_left
                        · rintro w' ⟨s0, s1, s2, s3⟩
                          go_simp
                          with_reducible rfl
                        rotate_left
                        · simp only [Act.put, List.setIfInBounds_toArray, List.set_cons_zero, List.set_cons_succ, i64_w, i32_w]
                          rfl
                        refine pure_ (i := 3) (N := some 45) (v := ?_) (a' := ?_) #[true, true, true, true, false, false, false, false, false, false, false, false, false] rfl rfl (any_of HT_.out (by kernel_rfl)) (fun _ _ _ h => h) (Or.inl ⟨by rfl, ?_⟩) ?_ ?_
                        rotate_left
                        · intro w'
                          go_simp
                          with_reducible rfl
                        rotate_left
                        · simp only [Act.put, List.setIfInBounds_toArray, List.set_cons_zero, List.set_cons_succ, i64_w, i32_w]
                          rfl
                        refine pure_ (i := 4) (N := some 46) (v := ?_) (a' := ?_) #[true, true, true, true, true, false, false, false, false, false, false, false, false] rfl rfl (any_of HT_.out (by kernel_rfl)) (fun _ _ _ h => h) (Or.inl ⟨by rfl, ?_⟩) ?_ ?_
                        rotate_left
                        · intro w'
                          go_simp
                          with_reducible rfl
                        rotate_left
                        · simp only [Act.put, List.setIfInBounds_toArray, List.set_cons_zero, List.set_cons_succ, i64_w, i32_w]
                          rfl
                        refine pure_ (i := 5) (N := some 47) (v := undef) (a' := ?_) #[true, true, true, true, true, true, false, false, false, false, false, false, false] rfl rfl (any_of HT_.out (by kernel_rfl)) (fun _ _ _ h => h) (Or.inr ⟨by rfl, rfl⟩) ?_ ?_
                        rotate_left
                        · simp only [Act.put, List.setIfInBounds_toArray, List.set_cons_zero, List.set_cons_succ, i64_w, i32_w]
                          rfl
                        refine pure_ (i := 6) (N := some 48) (v := undef) (a' := ?_) #[true, true, true, true, true, true, true, false, false, false, false, false, false] rfl rfl (any_of HT_.out (by kernel_rfl)) (fun _ _ _ h => h) (Or.inr ⟨by rfl, rfl⟩) ?_ ?_
                        rotate_left
                        · simp only [Act.put, List.setIfInBounds_toArray, List.set_cons_zero, List.set_cons_succ, i64_w, i32_w]
                          rfl
                        refine pure_ (i := 7) (N := some 49) (v := undef) (a' := ?_) #[true, true, true, true, true, true, true, true, false, false, false, false, false] rfl rfl (any_of HT_.out (by kernel_rfl)) (fun _ _ _ h => h) (Or.inr ⟨by rfl, rfl⟩) ?_ ?_
                        rotate_left
                        · simp only [Act.put, List.setIfInBounds_toArray, List.set_cons_zero, List.set_cons_succ, i64_w, i32_w]
                          rfl
                        refine pure_ (i := 8) (N := some 50) (v := undef) (a' := ?_) #[true, true, true, true, true, true, true, true, true, false, false, false, false] rfl rfl (any_of HT_.out (by kernel_rfl)) (fun _ _ _ h => h) (Or.inr ⟨by rfl, rfl⟩) ?_ ?_
                        rotate_left
                        · simp only [Act.put, List.setIfInBounds_toArray, List.set_cons_zero, List.set_cons_succ, i64_w, i32_w]
                          rfl
                        refine pure_ (i := 9) (N := some 51) (v := undef) (a' := ?_) #[true, true, true, true, true, true, true, true, true, true, false, false, false] rfl rfl (any_of HT_.out (by kernel_rfl)) (fun _ _ _ h => h) (Or.inr ⟨by rfl, rfl⟩) ?_ ?_
                        rotate_left
                        · simp only [Act.put, List.setIfInBounds_toArray, List.set_cons_zero, List.set_cons_succ, i64_w, i32_w]
                          rfl
                        refine pure_ (i := 10) (N := some 52) (v := ?_) (a' := ?_) #[true, true, true, true, true, true, true, true, true, true, true, false, false] rfl rfl (any_of HT_.out (by kernel_rfl)) (fun _ _ _ h => h) (Or.inl ⟨by rfl, ?_⟩) ?_ ?_
                        rotate_left
                        · intro w'
                          go_simp
                          with_reducible rfl
                        rotate_left
                        · simp only [Act.put, List.setIfInBounds_toArray, List.set_cons_zero, List.set_cons_succ, i64_w, i32_w]
                          rfl
                        refine one_ (i := 11) (N := none) #[true, true, true, true, true, true, true, true, true, true, true, true, false] rfl rfl (one_of HT_.out (by kernel_rfl)) (by decide) (fun K hK => ?_)
                        have hs51 : w50.cell? ⟨gb106, 0, none⟩ = some (.string (⟨#[]⟩ : ByteArray)) := (blk_cell BK106.out 0).trans rfl
                        have hfs51 := blk_frozen BK106.out 0
                        have hns51_1 := NB115_106.out
                        have hms51_1 := NB106_115.out
                        have hs52 : w50.cell? ⟨gb106, 1, none⟩ = some (.string (⟨#[]⟩ : ByteArray)) := (blk_cell BK106.out 1).trans rfl
                        have hfs52 := blk_frozen BK106.out 1
                        have hns52_1 := NB115_106.out
                        have hms52_1 := NB106_115.out
                        have hs53 : w50.cell? ⟨gb106, 2, none⟩ = some (.int .i64 0) := (blk_cell BK106.out 2).trans rfl
                        have hfs53 := blk_frozen BK106.out 2
                        have hns53_1 := NB115_106.out
                        have hms53_1 := NB106_115.out
                        have hs54 : w50.cell? ⟨gb106, 3, none⟩ = some (.int .i64 0) := (blk_cell BK106.out 3).trans rfl
                        have hfs54 := blk_frozen BK106.out 3
                        have hns54_1 := NB115_106.out
                        have hms54_1 := NB106_115.out
                        refine skip_ (w1 := ?_) (by rfl) rfl ?_ ?_
                        rotate_left
                        · go_simp
                          rfl
                        refine hK.out _ _ ⟨((cell_far (p := ⟨gb106, _, none⟩) NB115_106.out _).trans (((cell_far (p := ⟨gb106, _, none⟩) NB115_106.out _).trans (((cell_far (p := ⟨gb106, _, none⟩) NB115_106.out _).trans (((cell_far (p := ⟨gb106, _, none⟩) NB115_106.out _).trans (hHeld.1)))))))), ((cell_far (p := ⟨gb106, _, none⟩) NB115_106.out _).trans (((cell_far (p := ⟨gb106, _, none⟩) NB115_106.out _).trans (((cell_far (p := ⟨gb106, _, none⟩) NB115_106.out _).trans (((cell_far (p := ⟨gb106, _, none⟩) NB115_106.out _).trans (hHeld.2.1)))))))), ((cell_far (p := ⟨gb106, _, none⟩) NB115_106.out _).trans (((cell_far (p := ⟨gb106, _, none⟩) NB115_106.out _).trans (((cell_far (p := ⟨gb106, _, none⟩) NB115_106.out _).trans (((cell_far (p := ⟨gb106, _, none⟩) NB115_106.out _).trans (hHeld.2.2.1)))))))), ((cell_far (p := ⟨gb106, _, none⟩) NB115_106.out _).trans (((cell_far (p := ⟨gb106, _, none⟩) NB115_106.out _).trans (((cell_far (p := ⟨gb106, _, none⟩) NB115_106.out _).trans (((cell_far (p := ⟨gb106, _, none⟩) NB115_106.out _).trans (hHeld.2.2.2))))))))⟩ (fun hHeld => ?_)
                        clear hK K
                        refine pure_ (i := 12) (N := some 3) (v := ?_) (a' := ?_) #[true, true, true, true, true, true, true, true, true, true, true, true, true] rfl rfl (any_of HT_.out (by kernel_rfl)) (fun _ _ _ h => h) (Or.inl ⟨by rfl, ?_⟩) ?_ ?_
                        rotate_left
                        · intro w'
                          go_simp
                          with_reducible rfl
                        rotate_left
                        · simp only [Act.put, List.setIfInBounds_toArray, List.set_cons_zero, List.set_cons_succ, i64_w, i32_w]
                          rfl
                        refine done_ (done_of HT_.out (by kernel_rfl)) ?_
                        try go_wp2
                        refine bodyPost_ret (results_ct rfl _ _ gb106 25 #[.string (rdOf ByteArray.empty t107 0), .string (rdOf ByteArray.empty t107 1), .int .i64 t112, .int .i64 t114] (0, 0) _ rfl (by (with_reducible repeat (first | refine blk_drewN ?_ _ | refine blk_drew ?_ | refine blk_alloc ?_ _)); refine blk_put (cs := #[.string (rdOf ByteArray.empty t107 0), .string (rdOf ByteArray.empty t107 1), .int .i64 t112, .int .i64 0]) ?_ 3 _ rfl; (with_reducible repeat (first | refine blk_drewN ?_ _ | refine blk_drew ?_ | refine blk_alloc ?_ _)); refine blk_put (cs := #[.string (rdOf ByteArray.empty t107 0), .string (rdOf ByteArray.empty t107 1), .int .i64 0, .int .i64 0]) ?_ 2 _ rfl; (with_reducible repeat (first | refine blk_drewN ?_ _ | refine blk_drew ?_ | refine blk_alloc ?_ _)); refine blk_put (cs := #[.string (rdOf ByteArray.empty t107 0), .string (⟨#[]⟩ : ByteArray), .int .i64 0, .int .i64 0]) ?_ 1 _ rfl; (with_reducible repeat (first | refine blk_drewN ?_ _ | refine blk_drew ?_ | refine blk_alloc ?_ _)); refine blk_put (cs := #[.string (⟨#[]⟩ : ByteArray), .string (⟨#[]⟩ : ByteArray), .int .i64 0, .int .i64 0]) ?_ 0 _ rfl; (with_reducible repeat (first | refine blk_drewN ?_ _ | refine blk_drew ?_ | refine blk_alloc ?_ _)); exact BK106.out) Tryd.underlying25 rfl (by kernel_rfl)) rfl ?_
                        exact ⟨by first | rfl | (simp [errW_none, errW_some] <;> rfl) | (simp only [← hji12, ← hji16]; first | rfl | (simp [errW_none, errW_some] <;> rfl)) | (simp [*, errW_none, errW_some] <;> rfl), by repeat (first | (with_reducible first | exact HB.out | apply below_alloc | apply pw_below_drewN | apply below_drew1 | refine below_set ?_ GE106.out | refine below_set ?_ GE115.out) | exact HB.out)⟩
                    · rw [if_neg c21] at H
                      exact absurd H (by simp)
                  · rw [if_neg c20] at H
                    have c20b0 : ((t107.length : Int) == 4) = false := beq_eq_false_iff_ne.mpr c20
                    have c20b1 : ((t107.length : Int) != 4) = true := bne_iff_ne.mpr c20
                    by_cases c55 : t112 ≥ 0
                    · rw [if_pos c55] at H
                      have c55b0 : decide (0 ≤ t112) = true := decide_eq_true c55
                      clear c55
                      simp only [Option.some.injEq, Prod.mk.injEq] at H
                      obtain ⟨rfl, rfl, rfl, rfl, rfl⟩ := H
                      try go_wp2
                      have n0_ := Aside0.mk (Kd.R_drew HO_4.out)
                      have n1_ := Aside0.mk (blk_drew BK106.out)
                      have n2_ := Aside0.mk (below_drew1 HB.out)
                      clear HO_4
                      clear BK106
                      clear HB
                      have HO_4 := n0_
                      have BK106 := n1_
                      have HB := n2_
                      clear n0_ n1_ n2_
                      obtain ⟨Ao57, co57, eo57⟩ := Kd.R_slice HO_4.out
                      (first | subst eo57 | (injection eo57 with f1_ f2_ f3_; have f4_ := f1_.symm; have f5_ := f3_.symm; clear f1_ f2_ f3_; subst f4_; subst f5_))
                      have p110 : 0 ≤ (0 : Int) := (by omega)
                      have q110 : 0 < (t107.length : Int) := of_decide_eq_true (by first | (with_reducible assumption) | assumption)
                      obtain ⟨ad110, e110, hx110_0⟩ := Kd.at_string (Kd.R_reads' HO_4.out).2.2 0 p110 q110
                      cases e110
                      have qi110 : (0 < t107.length) = True := eq_true (by omega)
                      (try rw [show ((0 : Int)).toNat = 0 from rfl] at hx110_0)
                      (try rw [Addr.add_zero'] at hx110_0)
                      replace p110 := eq_true p110
                      replace q110 := eq_true q110
                      have p111 : 0 ≤ ((ji12) : Int) := of_decide_eq_true (by first | (with_reducible assumption) | assumption)
                      have q111 : (ji12) < (t107.length : Int) := of_decide_eq_true (by first | (with_reducible assumption) | assumption)
                      obtain ⟨ad111, e111, hx111_0⟩ := Kd.at_string (Kd.R_reads' HO_4.out).2.2 (ji12) p111 q111
                      obtain rfl : ad110 = ad111 := (by injection e111)
                      replace p111 := eq_true p111
                      replace q111 := eq_true q111
                      have p113 : 0 ≤ ((ji16) : Int) := of_decide_eq_true (by first | (with_reducible assumption) | assumption)
                      have q113 : (ji16) < (t107.length : Int) := of_decide_eq_true (by first | (with_reducible assumption) | assumption)
                      obtain ⟨ad113, e113, hx113_0⟩ := Kd.at_string (Kd.R_reads' HO_4.out).2.2 (ji16) p113 q113
                      obtain rfl : ad110 = ad113 := (by injection e113)
                      replace p113 := eq_true p113
                      replace q113 := eq_true q113
                      refine start_ (n := 20) (S := fun w' => w'.cell? ad110 = some (.string (rdOf ByteArray.empty t107 0)) ∧ w'.cell? (ad110.add ((ji12)).toNat) = some (.string (rdOf ByteArray.empty t107 (ji12))) ∧ w'.cell? (ad110.add ((ji16)).toNat) = some (.string (rdOf ByteArray.empty t107 (ji16)))) (ds := []) #[false, false, false, false, false, false, false, false, false, false, false, false, false, false, false, false, false, false, false, false] (by kernel_rfl) rfl rfl ⟨hx110_0, hx111_0, hx113_0⟩ (fun hHeld => ?_); refine with_tabW spec_ReadHPub.tab4 spec_ReadHPub.bits4 (fun HT_ HW_ => ?_)
                      generalize wc.drew = w56 at HO_4 BK106 HB hx110_0 hx111_0 hx113_0 hHeld ⊢
                      refine pure_ (i := 0) (N := some 17) (v := ?_) (a' := ?_) #[true, false, false, false, false, false, false, false, false, false, false, false, false, false, false, false, false, false, false, false] rfl rfl (any_of HT_.out (by kernel_rfl)) (fun _ _ _ h => h) (Or.inl ⟨by rfl, ?_⟩) ?_ ?_
                      rotate_left
                      · intro w'
                        go_simp
                        with_reducible rfl
                      rotate_left
                      · simp only [Act.put, List.setIfInBounds_toArray, List.set_cons_zero, List.set_cons_succ, i64_w, i32_w]
                        rfl
                      refine pure_ (i := 1) (N := some 18) (v := ?_) (a' := ?_) #[true, true, false, false, false, false, false, false, false, false, false, false, false, false, false, false, false, false, false, false] rfl rfl (any_of HT_.out (by kernel_rfl)) (fun _ _ _ h => h) (Or.inl ⟨by rfl, ?_⟩) ?_ ?_
                      rotate_left
                      · intro w'
                        go_simp
                        with_reducible rfl
                      rotate_left
                      · simp only [Act.put, List.setIfInBounds_toArray, List.set_cons_zero, List.set_cons_succ, i64_w, i32_w]
                        rfl
                      refine pure_ (i := 3) (N := some 20) (v := ?_) (a' := ?_) #[true, true, false, true, false, false, false, false, false, false, false, false, false, false, false, false, false, false, false, false] rfl rfl (any_of HT_.out (by kernel_rfl)) (fun _ _ _ h => h) (Or.inl ⟨by rfl, ?_⟩) ?_ ?_
                      rotate_left
                      · intro w'
                        go_simp
                        with_reducible rfl
                      rotate_left
                      · simp only [Act.put, List.setIfInBounds_toArray, List.set_cons_zero, List.set_cons_succ, i64_w, i32_w]
                        rfl
                      refine pure_ (i := 4) (N := some 21) (v := ?_) (a' := ?_) #[true, true, false, true, true, false, false, false, false, false, false, false, false, false, false, false, false, false, false, false] rfl rfl (any_of HT_.out (by kernel_rfl)) (fun _ _ _ h => h) (Or.inl ⟨by rfl, ?_⟩) ?_ ?_
                      rotate_left
                      · intro w'
                        go_simp
                        with_reducible rfl
                      rotate_left
                      · simp only [Act.put, List.setIfInBounds_toArray, List.set_cons_zero, List.set_cons_succ, i64_w, i32_w]
                        rfl
                      refine pure_ (i := 5) (N := some 22) (v := ?_) (a' := ?_) #[true, true, false, true, true, true, false, false, false, false, false, false, false, false, false, false, false, false, false, false] rfl rfl (any_of HT_.out (by kernel_rfl)) (fun _ _ _ h => h) (Or.inl ⟨by rfl, ?_⟩) ?_ ?_
                      rotate_left
                      · intro w'
                        go_simp
                        with_reducible rfl
                      rotate_left
                      · simp only [Act.put, List.setIfInBounds_toArray, List.set_cons_zero, List.set_cons_succ, i64_w, i32_w]
                        rfl
                      refine pure_ (i := 6) (N := some 23) (v := ?_) (a' := ?_) #[true, true, false, true, true, true, true, false, false, false, false, false, false, false, false, false, false, false, false, false] rfl rfl (any_of HT_.out (by kernel_rfl)) (fun _ _ _ h => h) (Or.inl ⟨by rfl, ?_⟩) ?_ ?_
                      rotate_left
                      · intro w'
                        go_simp
                        with_reducible rfl
                      rotate_left
                      · simp only [Act.put, List.setIfInBounds_toArray, List.set_cons_zero, List.set_cons_succ, i64_w, i32_w]
                        rfl
                      refine pure_ (i := 7) (N := some 24) (v := ?_) (a' := ?_) #[true, true, false, true, true, true, true, true, false, false, false, false, false, false, false, false, false, false, false, false] rfl rfl (any_of HT_.out (by kernel_rfl)) (fun _ _ _ h => h) (Or.inl ⟨by rfl, ?_⟩) ?_ ?_
                      rotate_left
                      · intro w'
                        go_simp
                        with_reducible rfl
                      rotate_left
                      · simp only [Act.put, List.setIfInBounds_toArray, List.set_cons_zero, List.set_cons_succ, i64_w, i32_w]
                        rfl
                      refine pure_ (i := 10) (N := some 27) (v := ?_) (a' := ?_) #[true, true, false, true, true, true, true, true, false, false, true, false, false, false, false, false, false, false, false, false] rfl rfl (any_of HT_.out (by kernel_rfl)) (fun _ _ _ h => h) (Or.inl ⟨by rfl, ?_⟩) ?_ ?_
                      rotate_left
                      · intro w'
                        go_simp
                        with_reducible rfl
                      rotate_left
                      · simp only [Act.put, List.setIfInBounds_toArray, List.set_cons_zero, List.set_cons_succ, i64_w, i32_w]
                        rfl
                      refine pure_ (i := 11) (N := some 28) (v := ?_) (a' := ?_) #[true, true, false, true, true, true, true, true, false, false, true, true, false, false, false, false, false, false, false, false] rfl rfl (any_of HT_.out (by kernel_rfl)) (fun _ _ _ h => h) (Or.inl ⟨by rfl, ?_⟩) ?_ ?_
                      rotate_left
                      · intro w'
                        go_simp
                        with_reducible rfl
                      rotate_left
                      · simp only [Act.put, List.setIfInBounds_toArray, List.set_cons_zero, List.set_cons_succ, i64_w, i32_w]
                        rfl
                      refine pure_ (i := 12) (N := some 29) (v := ?_) (a' := ?_) #[true, true, false, true, true, true, true, true, false, false, true, true, true, false, false, false, false, false, false, false] rfl rfl (any_of HT_.out (by kernel_rfl)) (fun _ _ _ h => h) (Or.inl ⟨by rfl, ?_⟩) ?_ ?_
                      rotate_left
                      · intro w'
                        go_simp
                        with_reducible rfl
                      rotate_left
                      · simp only [Act.put, List.setIfInBounds_toArray, List.set_cons_zero, List.set_cons_succ, i64_w, i32_w]
                        rfl
                      refine pure_ (i := 13) (N := some 30) (v := ?_) (a' := ?_) #[true, true, false, true, true, true, true, true, false, false, true, true, true, true, false, false, false, false, false, false] rfl rfl (any_of HT_.out (by kernel_rfl)) (fun _ _ _ h => h) (Or.inl ⟨by rfl, ?_⟩) ?_ ?_
                      rotate_left
                      · intro w'
                        go_simp
                        with_reducible rfl
                      rotate_left
                      · simp only [Act.put, List.setIfInBounds_toArray, List.set_cons_zero, List.set_cons_succ, i64_w, i32_w]
                        rfl
                      refine pure_ (i := 14) (N := some 31) (v := ?_) (a' := ?_) #[true, true, false, true, true, true, true, true, false, false, true, true, true, true, true, false, false, false, false, false] rfl rfl (any_of HT_.out (by kernel_rfl)) (fun _ _ _ h => h) (Or.inl ⟨by rfl, ?_⟩) ?_ ?_
                      rotate_left
                      · intro w'
                        go_simp
                        with_reducible rfl
                      rotate_left
                      · simp only [Act.put, List.setIfInBounds_toArray, List.set_cons_zero, List.set_cons_succ, i64_w, i32_w]
                        rfl
                      refine take_ (i := 2) (N := some 19) (v := ?_) (a' := ?_) #[true, true, true, true, true, true, true, true, false, false, true, true, true, true, true, false, false, false, false, false] rfl rfl (take_ofW HT_.out HW_.out (by kernel_rfl)) (fun _ _ _ h => h) (Or.inl ⟨by rfl, ?_⟩) hHeld ?_ ?_
                      rotate_left
                      · rintro w' ⟨s0, s1, s2⟩
                        go_simp
                        with_reducible rfl
                      rotate_left
                      · simp only [Act.put, List.setIfInBounds_toArray, List.set_cons_zero, List.set_cons_succ, i64_w, i32_w]
                        rfl
                      refine take_ (i := 8) (N := some 25) (v := ?_) (a' := ?_) #[true, true, true, true, true, true, true, true, true, false, true, true, true, true, true, false, false, false, false, false] rfl rfl (take_ofW HT_.out HW_.out (by kernel_rfl)) (fun _ _ _ h => h) (Or.inl ⟨by rfl, ?_⟩) hHeld ?_ ?_
                      rotate_left
                      · rintro w' ⟨s0, s1, s2⟩
                        go_simp
                        with_reducible rfl
                      rotate_left
                      · simp only [Act.put, List.setIfInBounds_toArray, List.set_cons_zero, List.set_cons_succ, i64_w, i32_w]
                        rfl
                      refine take_ (i := 15) (N := some 32) (v := ?_) (a' := ?_) #[true, true, true, true, true, true, true, true, true, false, true, true, true, true, true, true, false, false, false, false] rfl rfl (take_ofW HT_.out HW_.out (by kernel_rfl)) (fun _ _ _ h => h) (Or.inl ⟨by rfl, ?_⟩) hHeld ?_ ?_
                      rotate_left
                      · rintro w' ⟨s0, s1, s2⟩
                        go_simp
                        with_reducible rfl
                      rotate_left
                      · simp only [Act.put, List.setIfInBounds_toArray, List.set_cons_zero, List.set_cons_succ, i64_w, i32_w]
                        rfl
                      refine join_ (σ := Nat) 1 #[true, true, true, true, true, true, true, true, true, true, true, true, true, true, true, true, true, true, true, false] (fun s_ => [(26, .int .i64 t112), (33, .int .i64 t114), (5, .pointer (some ⟨s_, 0, none⟩)), (34, .agg #[.string (rdOf ByteArray.empty t107 0), .string (⟨#[]⟩ : ByteArray), .int .i64 t112, .int .i64 t114])]) (fun s_ w' => (w'.cell? ad110 = some (.string (rdOf ByteArray.empty t107 0)) ∧ w'.cell? (ad110.add ((ji12)).toNat) = some (.string (rdOf ByteArray.empty t107 (ji12))) ∧ w'.cell? (ad110.add ((ji16)).toNat) = some (.string (rdOf ByteArray.empty t107 (ji16)))) ∧ (Kd.R Kd.string 9 w' w.heap.size (fun _ => True) (.slice (some ad110) t107.length co57) t107) ∧ (w'.heap[gb106]? = some (.cells #[.string (⟨#[]⟩ : ByteArray), .string (⟨#[]⟩ : ByteArray), .int .i64 0, .int .i64 0] 25 (0, 0))) ∧ (w'.heap[s_]? = some (.cells #[.string (⟨#[]⟩ : ByteArray), .string (⟨#[]⟩ : ByteArray), .int .i64 0, .int .i64 0] 25 (0, 0))) ∧ (w.heap.size ≤ s_) ∧ (w.heap.size ≤ s_) ∧ (gb106 ≠ s_) ∧ (s_ ≠ gb106) ∧ (Below w.heap.size w w')) ?_ ?_
                      rotate_left
                      · intro hCont
                        refine two_ (i := 9) (j := 18) (Ni := some 26) (Nj := some 5) #[true, true, true, true, true, true, true, true, true, true, true, true, true, true, true, true, false, false, false, false] #[true, true, true, true, true, true, true, true, true, false, true, true, true, true, true, true, false, false, true, false] rfl rfl rfl rfl (two_of HT_.out (by kernel_rfl)) (by decide) (by decide) (fun K hK => ?_) (fun K hK => ?_)
                        · skip
                          refine goes_ Tryd.func18 (by kernel_rfl) rfl #[.string (rdOf ByteArray.empty t107 (ji12))] (by rfl) rfl rfl (by (try simp only [List.map_toArray, List.map_cons, List.map_nil]); first | done | (simp only [hji12]; rfl) | rfl | (simp only [List.length_drop, List.length_take]; rfl)) ?_
                          with_reducible refine (spec_Size.calls kj2 (rdOf ByteArray.empty t107 (ji12)) t112 _ A15.out).mono ?_
                          rintro e w' ⟨rfl, ⟨nd, rfl⟩⟩
                          refine ⟨_, rfl, ?_⟩
                          refine hK.out _ _ ⟨hHeld.1, hHeld.2.1, hHeld.2.2⟩ (fun hHeld => ?_)
                          clear hK K
                          refine norm_ (a' := ?_) ?_ ?_
                          rotate_left
                          · show Act.put _ (some 26) _ = _
                            simp only [Act.put, List.setIfInBounds_toArray, List.set_cons_zero, List.set_cons_succ, i64_w, i32_w]
                            rfl
                          refine two_ (i := 16) (j := 18) (Ni := some 33) (Nj := some 5) #[true, true, true, true, true, true, true, true, true, true, true, true, true, true, true, true, true, false, false, false] #[true, true, true, true, true, true, true, true, true, true, true, true, true, true, true, true, false, false, true, false] rfl rfl rfl rfl (two_of HT_.out (by kernel_rfl)) (by decide) (by decide) (fun K hK => ?_) (fun K hK => ?_)
                          · skip
                            refine goes_ Tryd.func18 (by kernel_rfl) rfl #[.string (rdOf ByteArray.empty t107 (ji16))] (by rfl) rfl rfl (by (try simp only [List.map_toArray, List.map_cons, List.map_nil]); first | done | (simp only [hji16]; rfl) | rfl | (simp only [List.length_drop, List.length_take]; rfl)) ?_
                            with_reducible refine (spec_Size.calls kj2 (rdOf ByteArray.empty t107 (ji16)) t114 _ A19.out).mono ?_
                            rintro e w' ⟨rfl, ⟨nd, rfl⟩⟩
                            refine ⟨_, rfl, ?_⟩
                            refine hK.out _ _ ⟨hHeld.1, hHeld.2.1, hHeld.2.2⟩ (fun hHeld => ?_)
                            clear hK K
                            refine norm_ (a' := ?_) ?_ ?_
                            rotate_left
                            · show Act.put _ (some 33) _ = _
                              simp only [Act.put, List.setIfInBounds_toArray, List.set_cons_zero, List.set_cons_succ, i64_w, i32_w]
                              rfl
                            refine pure_ (i := 17) (N := some 34) (v := ?_) (a' := ?_) #[true, true, true, true, true, true, true, true, true, true, true, true, true, true, true, true, true, true, false, false] rfl rfl (any_of HT_.out (by kernel_rfl)) (fun _ _ _ h => h) (Or.inl ⟨by rfl, ?_⟩) ?_ ?_
                            rotate_left
                            · intro w'
                              go_simp
                              with_reducible rfl
                            rotate_left
                            · simp only [Act.put, List.setIfInBounds_toArray, List.set_cons_zero, List.set_cons_succ, i64_w, i32_w]
                              rfl
                            refine one_ (i := 18) (N := some 5) #[true, true, true, true, true, true, true, true, true, true, true, true, true, true, true, true, true, true, true, false] rfl rfl (one_of HT_.out (by kernel_rfl)) (by decide) (fun K hK => ?_)
                            refine box_step ?hg (N := 5) ?hd (cs := #[.string (⟨#[]⟩ : ByteArray), .string (⟨#[]⟩ : ByteArray), .int .i64 0, .int .i64 0]) (t := 25) ?hr ?_; (case hd => rfl); (case hg => rfl); (case hr => first | (go_simp; done) | (go_simp; rfl))
                            intro gb115 hg w58 hbox hb
                            have HS0_ := (hb.cell (World.block_lt_of_cell? _ _ (hHeld.1))).trans (hHeld.1)
                            have HS1_ := (hb.cell (World.block_lt_of_cell? _ _ (hHeld.2.1))).trans (hHeld.2.1)
                            have HS2_ := (hb.cell (World.block_lt_of_cell? _ _ (hHeld.2.2))).trans (hHeld.2.2)
                            have n0_ := Aside0.mk (Kd.R_below (by (with_reducible repeat (first | apply Kd.R_alloc | apply Kd.R_drewN | apply Kd.R_drew)); exact HO_4.out) hb)
                            have n1_ := Aside0.mk (blk_below (g := gb106) (o := .cells #[.string (⟨#[]⟩ : ByteArray), .string (⟨#[]⟩ : ByteArray), .int .i64 0, .int .i64 0] 25 (0, 0)) (by (with_reducible repeat (first | refine blk_drewN ?_ _ | refine blk_drew ?_ | refine blk_alloc ?_ _)); exact BK106.out) hb)
                            have n2_ := Aside0.mk (below_step (by repeat (first | (with_reducible first | exact HB.out | apply below_alloc | apply pw_below_drewN | apply below_drew1 | refine below_set ?_ GE106.out) | exact HB.out)) hb)
                            have n3_ := Aside0.mk (hbox)
                            have n4_ := Aside0.mk ((by rw [hg]; exact (below_size (by repeat (first | (with_reducible first | exact HB.out | apply below_alloc | apply pw_below_drewN | apply below_drew1 | refine below_set ?_ GE106.out) | exact HB.out))) : w.heap.size ≤ gb115))
                            have n5_ := Aside0.mk ((by rw [hg]; exact (below_size (by repeat (first | (with_reducible first | exact HB.out | apply below_alloc | apply pw_below_drewN | apply below_drew1 | refine below_set ?_ GE106.out) | exact HB.out))) : w.heap.size ≤ gb115))
                            have n6_ := Aside0.mk ((by rw [hg]; exact Nat.ne_of_lt (blk_lt (g := gb106) (o := .cells #[.string (⟨#[]⟩ : ByteArray), .string (⟨#[]⟩ : ByteArray), .int .i64 0, .int .i64 0] 25 (0, 0)) (by (with_reducible repeat (first | refine blk_drewN ?_ _ | refine blk_drew ?_ | refine blk_alloc ?_ _)); exact BK106.out)) : gb106 ≠ gb115))
                            have n7_ := Aside0.mk ((by rw [hg]; exact Nat.ne_of_gt (blk_lt (g := gb106) (o := .cells #[.string (⟨#[]⟩ : ByteArray), .string (⟨#[]⟩ : ByteArray), .int .i64 0, .int .i64 0] 25 (0, 0)) (by (with_reducible repeat (first | refine blk_drewN ?_ _ | refine blk_drew ?_ | refine blk_alloc ?_ _)); exact BK106.out)) : gb115 ≠ gb106))
                            clear HO_4
                            clear BK106
                            clear HB
                            have HO_4 := n0_
                            have BK106 := n1_
                            have HB := n2_
                            have BK115 := n3_
                            have GW115 := n4_
                            have GE115 := n5_
                            have NB106_115 := n6_
                            have NB115_106 := n7_
                            clear n0_ n1_ n2_ n3_ n4_ n5_ n6_ n7_
                            clear hb hbox hg
                            refine hK.out _ _ ⟨HS0_, HS1_, HS2_⟩ (fun hHeld => ?_)
                            clear hK K
                            refine norm_ (a' := ?_) ?_ ?_
                            rotate_left
                            · show Act.put _ (some 5) _ = _
                              simp only [Act.put, List.setIfInBounds_toArray, List.set_cons_zero, List.set_cons_succ, i64_w, i32_w]
                              rfl
                            exact norm_ (by simp only [putAll, Act.put, List.setIfInBounds_toArray, List.set_cons_zero, List.set_cons_succ]) (hCont (gb115) _ ⟨hHeld, (by (with_reducible repeat (first | apply Kd.R_alloc | apply Kd.R_drewN | apply Kd.R_drew)); exact HO_4.out), (by (with_reducible repeat (first | refine blk_drewN ?_ _ | refine blk_drew ?_ | refine blk_alloc ?_ _)); exact BK106.out), (by (with_reducible repeat (first | refine blk_drewN ?_ _ | refine blk_drew ?_ | refine blk_alloc ?_ _)); exact BK115.out), GW115.out, GE115.out, NB106_115.out, NB115_106.out, (by repeat (first | (with_reducible first | exact HB.out | apply below_alloc | apply pw_below_drewN | apply below_drew1 | refine below_set ?_ GE106.out | refine below_set ?_ GE115.out) | exact HB.out))⟩)
                          · skip
                            refine box_step ?hg (N := 5) ?hd (cs := #[.string (⟨#[]⟩ : ByteArray), .string (⟨#[]⟩ : ByteArray), .int .i64 0, .int .i64 0]) (t := 25) ?hr ?_; (case hd => rfl); (case hg => rfl); (case hr => first | (go_simp; done) | (go_simp; rfl))
                            intro gb115 hg w58 hbox hb
                            have HS0_ := (hb.cell (World.block_lt_of_cell? _ _ (hHeld.1))).trans (hHeld.1)
                            have HS1_ := (hb.cell (World.block_lt_of_cell? _ _ (hHeld.2.1))).trans (hHeld.2.1)
                            have HS2_ := (hb.cell (World.block_lt_of_cell? _ _ (hHeld.2.2))).trans (hHeld.2.2)
                            have n0_ := Aside0.mk (Kd.R_below (by (with_reducible repeat (first | apply Kd.R_alloc | apply Kd.R_drewN | apply Kd.R_drew)); exact HO_4.out) hb)
                            have n1_ := Aside0.mk (blk_below (g := gb106) (o := .cells #[.string (⟨#[]⟩ : ByteArray), .string (⟨#[]⟩ : ByteArray), .int .i64 0, .int .i64 0] 25 (0, 0)) (by (with_reducible repeat (first | refine blk_drewN ?_ _ | refine blk_drew ?_ | refine blk_alloc ?_ _)); exact BK106.out) hb)
                            have n2_ := Aside0.mk (below_step (by repeat (first | (with_reducible first | exact HB.out | apply below_alloc | apply pw_below_drewN | apply below_drew1 | refine below_set ?_ GE106.out) | exact HB.out)) hb)
                            have n3_ := Aside0.mk (hbox)
                            have n4_ := Aside0.mk ((by rw [hg]; exact (below_size (by repeat (first | (with_reducible first | exact HB.out | apply below_alloc | apply pw_below_drewN | apply below_drew1 | refine below_set ?_ GE106.out) | exact HB.out))) : w.heap.size ≤ gb115))
                            have n5_ := Aside0.mk ((by rw [hg]; exact (below_size (by repeat (first | (with_reducible first | exact HB.out | apply below_alloc | apply pw_below_drewN | apply below_drew1 | refine below_set ?_ GE106.out) | exact HB.out))) : w.heap.size ≤ gb115))
                            have n6_ := Aside0.mk ((by rw [hg]; exact Nat.ne_of_lt (blk_lt (g := gb106) (o := .cells #[.string (⟨#[]⟩ : ByteArray), .string (⟨#[]⟩ : ByteArray), .int .i64 0, .int .i64 0] 25 (0, 0)) (by (with_reducible repeat (first | refine blk_drewN ?_ _ | refine blk_drew ?_ | refine blk_alloc ?_ _)); exact BK106.out)) : gb106 ≠ gb115))
                            have n7_ := Aside0.mk ((by rw [hg]; exact Nat.ne_of_gt (blk_lt (g := gb106) (o := .cells #[.string (⟨#[]⟩ : ByteArray), .string (⟨#[]⟩ : ByteArray), .int .i64 0, .int .i64 0] 25 (0, 0)) (by (with_reducible repeat (first | refine blk_drewN ?_ _ | refine blk_drew ?_ | refine blk_alloc ?_ _)); exact BK106.out)) : gb115 ≠ gb106))
                            clear HO_4
                            clear BK106
                            clear HB
                            have HO_4 := n0_
                            have BK106 := n1_
                            have HB := n2_
                            have BK115 := n3_
                            have GW115 := n4_
                            have GE115 := n5_
                            have NB106_115 := n6_
                            have NB115_106 := n7_
                            clear n0_ n1_ n2_ n3_ n4_ n5_ n6_ n7_
                            clear hb hbox hg
                            refine hK.out _ _ ⟨HS0_, HS1_, HS2_⟩ (fun hHeld => ?_)
                            clear hK K
                            refine norm_ (a' := ?_) ?_ ?_
                            rotate_left
                            · show Act.put _ (some 5) _ = _
                              simp only [Act.put, List.setIfInBounds_toArray, List.set_cons_zero, List.set_cons_succ, i64_w, i32_w]
                              rfl
                            refine one_ (i := 16) (N := some 33) #[true, true, true, true, true, true, true, true, true, true, true, true, true, true, true, true, true, false, true, false] rfl rfl (one_of HT_.out (by kernel_rfl)) (by decide) (fun K hK => ?_)
                            refine goes_ Tryd.func18 (by kernel_rfl) rfl #[.string (rdOf ByteArray.empty t107 (ji16))] (by rfl) rfl rfl (by (try simp only [List.map_toArray, List.map_cons, List.map_nil]); first | done | (simp only [hji16]; rfl) | rfl | (simp only [List.length_drop, List.length_take]; rfl)) ?_
                            with_reducible refine (spec_Size.calls kj2 (rdOf ByteArray.empty t107 (ji16)) t114 _ A19.out).mono ?_
                            rintro e w' ⟨rfl, ⟨nd, rfl⟩⟩
                            refine ⟨_, rfl, ?_⟩
                            refine hK.out _ _ ⟨hHeld.1, hHeld.2.1, hHeld.2.2⟩ (fun hHeld => ?_)
                            clear hK K
                            refine norm_ (a' := ?_) ?_ ?_
                            rotate_left
                            · show Act.put _ (some 33) _ = _
                              simp only [Act.put, List.setIfInBounds_toArray, List.set_cons_zero, List.set_cons_succ, i64_w, i32_w]
                              rfl
                            refine pure_ (i := 17) (N := some 34) (v := ?_) (a' := ?_) #[true, true, true, true, true, true, true, true, true, true, true, true, true, true, true, true, true, true, true, false] rfl rfl (any_of HT_.out (by kernel_rfl)) (fun _ _ _ h => h) (Or.inl ⟨by rfl, ?_⟩) ?_ ?_
                            rotate_left
                            · intro w'
                              go_simp
                              with_reducible rfl
                            rotate_left
                            · simp only [Act.put, List.setIfInBounds_toArray, List.set_cons_zero, List.set_cons_succ, i64_w, i32_w]
                              rfl
                            exact norm_ (by simp only [putAll, Act.put, List.setIfInBounds_toArray, List.set_cons_zero, List.set_cons_succ]) (hCont (gb115) _ ⟨hHeld, (by (with_reducible repeat (first | apply Kd.R_alloc | apply Kd.R_drewN | apply Kd.R_drew)); exact HO_4.out), (by (with_reducible repeat (first | refine blk_drewN ?_ _ | refine blk_drew ?_ | refine blk_alloc ?_ _)); exact BK106.out), (by (with_reducible repeat (first | refine blk_drewN ?_ _ | refine blk_drew ?_ | refine blk_alloc ?_ _)); exact BK115.out), GW115.out, GE115.out, NB106_115.out, NB115_106.out, (by repeat (first | (with_reducible first | exact HB.out | apply below_alloc | apply pw_below_drewN | apply below_drew1 | refine below_set ?_ GE106.out | refine below_set ?_ GE115.out) | exact HB.out))⟩)
                        · skip
                          refine box_step ?hg (N := 5) ?hd (cs := #[.string (⟨#[]⟩ : ByteArray), .string (⟨#[]⟩ : ByteArray), .int .i64 0, .int .i64 0]) (t := 25) ?hr ?_; (case hd => rfl); (case hg => rfl); (case hr => first | (go_simp; done) | (go_simp; rfl))
                          intro gb115 hg w58 hbox hb
                          have HS0_ := (hb.cell (World.block_lt_of_cell? _ _ (hHeld.1))).trans (hHeld.1)
                          have HS1_ := (hb.cell (World.block_lt_of_cell? _ _ (hHeld.2.1))).trans (hHeld.2.1)
                          have HS2_ := (hb.cell (World.block_lt_of_cell? _ _ (hHeld.2.2))).trans (hHeld.2.2)
                          have n0_ := Aside0.mk (Kd.R_below (by (with_reducible repeat (first | apply Kd.R_alloc | apply Kd.R_drewN | apply Kd.R_drew)); exact HO_4.out) hb)
                          have n1_ := Aside0.mk (blk_below (g := gb106) (o := .cells #[.string (⟨#[]⟩ : ByteArray), .string (⟨#[]⟩ : ByteArray), .int .i64 0, .int .i64 0] 25 (0, 0)) (by (with_reducible repeat (first | refine blk_drewN ?_ _ | refine blk_drew ?_ | refine blk_alloc ?_ _)); exact BK106.out) hb)
                          have n2_ := Aside0.mk (below_step (by repeat (first | (with_reducible first | exact HB.out | apply below_alloc | apply pw_below_drewN | apply below_drew1 | refine below_set ?_ GE106.out) | exact HB.out)) hb)
                          have n3_ := Aside0.mk (hbox)
                          have n4_ := Aside0.mk ((by rw [hg]; exact (below_size (by repeat (first | (with_reducible first | exact HB.out | apply below_alloc | apply pw_below_drewN | apply below_drew1 | refine below_set ?_ GE106.out) | exact HB.out))) : w.heap.size ≤ gb115))
                          have n5_ := Aside0.mk ((by rw [hg]; exact (below_size (by repeat (first | (with_reducible first | exact HB.out | apply below_alloc | apply pw_below_drewN | apply below_drew1 | refine below_set ?_ GE106.out) | exact HB.out))) : w.heap.size ≤ gb115))
                          have n6_ := Aside0.mk ((by rw [hg]; exact Nat.ne_of_lt (blk_lt (g := gb106) (o := .cells #[.string (⟨#[]⟩ : ByteArray), .string (⟨#[]⟩ : ByteArray), .int .i64 0, .int .i64 0] 25 (0, 0)) (by (with_reducible repeat (first | refine blk_drewN ?_ _ | refine blk_drew ?_ | refine blk_alloc ?_ _)); exact BK106.out)) : gb106 ≠ gb115))
                          have n7_ := Aside0.mk ((by rw [hg]; exact Nat.ne_of_gt (blk_lt (g := gb106) (o := .cells #[.string (⟨#[]⟩ : ByteArray), .string (⟨#[]⟩ : ByteArray), .int .i64 0, .int .i64 0] 25 (0, 0)) (by (with_reducible repeat (first | refine blk_drewN ?_ _ | refine blk_drew ?_ | refine blk_alloc ?_ _)); exact BK106.out)) : gb115 ≠ gb106))
                          clear HO_4
                          clear BK106
                          clear HB
                          have HO_4 := n0_
                          have BK106 := n1_
                          have HB := n2_
                          have BK115 := n3_
                          have GW115 := n4_
                          have GE115 := n5_
                          have NB106_115 := n6_
                          have NB115_106 := n7_
                          clear n0_ n1_ n2_ n3_ n4_ n5_ n6_ n7_
                          clear hb hbox hg
                          refine hK.out _ _ ⟨HS0_, HS1_, HS2_⟩ (fun hHeld => ?_)
                          clear hK K
                          refine norm_ (a' := ?_) ?_ ?_
                          rotate_left
                          · show Act.put _ (some 5) _ = _
                            simp only [Act.put, List.setIfInBounds_toArray, List.set_cons_zero, List.set_cons_succ, i64_w, i32_w]
                            rfl
                          refine one_ (i := 9) (N := some 26) #[true, true, true, true, true, true, true, true, true, true, true, true, true, true, true, true, false, false, true, false] rfl rfl (one_of HT_.out (by kernel_rfl)) (by decide) (fun K hK => ?_)
                          refine goes_ Tryd.func18 (by kernel_rfl) rfl #[.string (rdOf ByteArray.empty t107 (ji12))] (by rfl) rfl rfl (by (try simp only [List.map_toArray, List.map_cons, List.map_nil]); first | done | (simp only [hji12]; rfl) | rfl | (simp only [List.length_drop, List.length_take]; rfl)) ?_
                          with_reducible refine (spec_Size.calls kj2 (rdOf ByteArray.empty t107 (ji12)) t112 _ A15.out).mono ?_
                          rintro e w' ⟨rfl, ⟨nd, rfl⟩⟩
                          refine ⟨_, rfl, ?_⟩
                          refine hK.out _ _ ⟨hHeld.1, hHeld.2.1, hHeld.2.2⟩ (fun hHeld => ?_)
                          clear hK K
                          refine norm_ (a' := ?_) ?_ ?_
                          rotate_left
                          · show Act.put _ (some 26) _ = _
                            simp only [Act.put, List.setIfInBounds_toArray, List.set_cons_zero, List.set_cons_succ, i64_w, i32_w]
                            rfl
                          refine one_ (i := 16) (N := some 33) #[true, true, true, true, true, true, true, true, true, true, true, true, true, true, true, true, true, false, true, false] rfl rfl (one_of HT_.out (by kernel_rfl)) (by decide) (fun K hK => ?_)
                          refine goes_ Tryd.func18 (by kernel_rfl) rfl #[.string (rdOf ByteArray.empty t107 (ji16))] (by rfl) rfl rfl (by (try simp only [List.map_toArray, List.map_cons, List.map_nil]); first | done | (simp only [hji16]; rfl) | rfl | (simp only [List.length_drop, List.length_take]; rfl)) ?_
                          with_reducible refine (spec_Size.calls kj2 (rdOf ByteArray.empty t107 (ji16)) t114 _ A19.out).mono ?_
                          rintro e w' ⟨rfl, ⟨nd, rfl⟩⟩
                          refine ⟨_, rfl, ?_⟩
                          refine hK.out _ _ ⟨hHeld.1, hHeld.2.1, hHeld.2.2⟩ (fun hHeld => ?_)
                          clear hK K
                          refine norm_ (a' := ?_) ?_ ?_
                          rotate_left
                          · show Act.put _ (some 33) _ = _
                            simp only [Act.put, List.setIfInBounds_toArray, List.set_cons_zero, List.set_cons_succ, i64_w, i32_w]
                            rfl
                          refine pure_ (i := 17) (N := some 34) (v := ?_) (a' := ?_) #[true, true, true, true, true, true, true, true, true, true, true, true, true, true, true, true, true, true, true, false] rfl rfl (any_of HT_.out (by kernel_rfl)) (fun _ _ _ h => h) (Or.inl ⟨by rfl, ?_⟩) ?_ ?_
                          rotate_left
                          · intro w'
                            go_simp
                            with_reducible rfl
                          rotate_left
                          · simp only [Act.put, List.setIfInBounds_toArray, List.set_cons_zero, List.set_cons_succ, i64_w, i32_w]
                            rfl
                          exact norm_ (by simp only [putAll, Act.put, List.setIfInBounds_toArray, List.set_cons_zero, List.set_cons_succ]) (hCont (gb115) _ ⟨hHeld, (by (with_reducible repeat (first | apply Kd.R_alloc | apply Kd.R_drewN | apply Kd.R_drew)); exact HO_4.out), (by (with_reducible repeat (first | refine blk_drewN ?_ _ | refine blk_drew ?_ | refine blk_alloc ?_ _)); exact BK106.out), (by (with_reducible repeat (first | refine blk_drewN ?_ _ | refine blk_drew ?_ | refine blk_alloc ?_ _)); exact BK115.out), GW115.out, GE115.out, NB106_115.out, NB115_106.out, (by repeat (first | (with_reducible first | exact HB.out | apply below_alloc | apply pw_below_drewN | apply below_drew1 | refine below_set ?_ GE106.out | refine below_set ?_ GE115.out) | exact HB.out))⟩)
                      rintro gb115 w59 ⟨hS_, h0_, h1_, h2_, h3_, h4_, h5_, h6_, h7_⟩
                      have n0_ : Aside0 (Kd.R Kd.string 9 w59 w.heap.size (fun _ => True) (.slice (some ad110) t107.length co57) t107) := ⟨h0_⟩
                      have n1_ : Aside0 (w59.heap[gb106]? = some (.cells #[.string (⟨#[]⟩ : ByteArray), .string (⟨#[]⟩ : ByteArray), .int .i64 0, .int .i64 0] 25 (0, 0))) := ⟨h1_⟩
                      have n2_ : Aside0 (w59.heap[gb115]? = some (.cells #[.string (⟨#[]⟩ : ByteArray), .string (⟨#[]⟩ : ByteArray), .int .i64 0, .int .i64 0] 25 (0, 0))) := ⟨h2_⟩
                      have n3_ : Aside0 (w.heap.size ≤ gb115) := ⟨h3_⟩
                      have n4_ : Aside0 (w.heap.size ≤ gb115) := ⟨h4_⟩
                      have n5_ : Aside0 (gb106 ≠ gb115) := ⟨h5_⟩
                      have n6_ : Aside0 (gb115 ≠ gb106) := ⟨h6_⟩
                      have n7_ : Aside0 (Below w.heap.size w w59) := ⟨h7_⟩
                      clear HO_4
                      clear BK106
                      clear HB
                      clear h0_ h1_ h2_ h3_ h4_ h5_ h6_ h7_
                      have HO_4 := n0_
                      have BK106 := n1_
                      have BK115 := n2_
                      have GW115 := n3_
                      have GE115 := n4_
                      have NB106_115 := n5_
                      have NB115_106 := n6_
                      have HB := n7_
                      clear n0_ n1_ n2_ n3_ n4_ n5_ n6_ n7_
                      have hHeld : w59.cell? ad110 = some (.string (rdOf ByteArray.empty t107 0)) ∧ w59.cell? (ad110.add ((ji12)).toNat) = some (.string (rdOf ByteArray.empty t107 (ji12))) ∧ w59.cell? (ad110.add ((ji16)).toNat) = some (.string (rdOf ByteArray.empty t107 (ji16))) := hS_
                      refine norm_ (a' := ?_) ?_ ?_
                      rotate_left
                      · simp only [putAll, Act.put, List.setIfInBounds_toArray, List.set_cons_zero, List.set_cons_succ]
                        rfl
                      refine one_ (i := 19) (N := none) #[true, true, true, true, true, true, true, true, true, true, true, true, true, true, true, true, true, true, true, true] rfl rfl (one_of HT_.out (by kernel_rfl)) (by decide) (fun K hK => ?_)
                      have hs60 : w59.cell? ⟨gb115, 0, none⟩ = some (.string (⟨#[]⟩ : ByteArray)) := (blk_cell BK115.out 0).trans rfl
                      have hfs60 := blk_frozen BK115.out 0
                      have hns60_0 := NB106_115.out
                      have hms60_0 := NB115_106.out
                      have hs61 : w59.cell? ⟨gb115, 1, none⟩ = some (.string (⟨#[]⟩ : ByteArray)) := (blk_cell BK115.out 1).trans rfl
                      have hfs61 := blk_frozen BK115.out 1
                      have hns61_0 := NB106_115.out
                      have hms61_0 := NB115_106.out
                      have hs62 : w59.cell? ⟨gb115, 2, none⟩ = some (.int .i64 0) := (blk_cell BK115.out 2).trans rfl
                      have hfs62 := blk_frozen BK115.out 2
                      have hns62_0 := NB106_115.out
                      have hms62_0 := NB115_106.out
                      have hs63 : w59.cell? ⟨gb115, 3, none⟩ = some (.int .i64 0) := (blk_cell BK115.out 3).trans rfl
                      have hfs63 := blk_frozen BK115.out 3
                      have hns63_0 := NB106_115.out
                      have hms63_0 := NB115_106.out
                      refine skip_ (w1 := ?_) (by rfl) rfl ?_ ?_
                      rotate_left
                      · go_simp
                        rfl
                      refine hK.out _ _ ⟨((cell_far (p := ⟨gb115, _, none⟩) (by first | exact Kd.own_blk (Kd.R_ne HO_4.out BK115.out (by decide)) | (rw [add_block]; exact Kd.own_blk (Kd.R_ne HO_4.out BK115.out (by decide))) | (show (Addr.add _ _).block ≠ _; rw [add_block]; exact Kd.own_blk (Kd.R_ne HO_4.out BK115.out (by decide))) | (dsimp only; exact Kd.own_blk (Kd.R_ne HO_4.out BK115.out (by decide)))) _).trans (((cell_far (p := ⟨gb115, _, none⟩) (by first | exact Kd.own_blk (Kd.R_ne HO_4.out BK115.out (by decide)) | (rw [add_block]; exact Kd.own_blk (Kd.R_ne HO_4.out BK115.out (by decide))) | (show (Addr.add _ _).block ≠ _; rw [add_block]; exact Kd.own_blk (Kd.R_ne HO_4.out BK115.out (by decide))) | (dsimp only; exact Kd.own_blk (Kd.R_ne HO_4.out BK115.out (by decide)))) _).trans (((cell_far (p := ⟨gb115, _, none⟩) (by first | exact Kd.own_blk (Kd.R_ne HO_4.out BK115.out (by decide)) | (rw [add_block]; exact Kd.own_blk (Kd.R_ne HO_4.out BK115.out (by decide))) | (show (Addr.add _ _).block ≠ _; rw [add_block]; exact Kd.own_blk (Kd.R_ne HO_4.out BK115.out (by decide))) | (dsimp only; exact Kd.own_blk (Kd.R_ne HO_4.out BK115.out (by decide)))) _).trans (((cell_far (p := ⟨gb115, _, none⟩) (by first | exact Kd.own_blk (Kd.R_ne HO_4.out BK115.out (by decide)) | (rw [add_block]; exact Kd.own_blk (Kd.R_ne HO_4.out BK115.out (by decide))) | (show (Addr.add _ _).block ≠ _; rw [add_block]; exact Kd.own_blk (Kd.R_ne HO_4.out BK115.out (by decide))) | (dsimp only; exact Kd.own_blk (Kd.R_ne HO_4.out BK115.out (by decide)))) _).trans (hHeld.1)))))))), ((cell_far (p := ⟨gb115, _, none⟩) (by first | exact Kd.own_blk (Kd.R_ne HO_4.out BK115.out (by decide)) | (rw [add_block]; exact Kd.own_blk (Kd.R_ne HO_4.out BK115.out (by decide))) | (show (Addr.add _ _).block ≠ _; rw [add_block]; exact Kd.own_blk (Kd.R_ne HO_4.out BK115.out (by decide))) | (dsimp only; exact Kd.own_blk (Kd.R_ne HO_4.out BK115.out (by decide)))) _).trans (((cell_far (p := ⟨gb115, _, none⟩) (by first | exact Kd.own_blk (Kd.R_ne HO_4.out BK115.out (by decide)) | (rw [add_block]; exact Kd.own_blk (Kd.R_ne HO_4.out BK115.out (by decide))) | (show (Addr.add _ _).block ≠ _; rw [add_block]; exact Kd.own_blk (Kd.R_ne HO_4.out BK115.out (by decide))) | (dsimp only; exact Kd.own_blk (Kd.R_ne HO_4.out BK115.out (by decide)))) _).trans (((cell_far (p := ⟨gb115, _, none⟩) (by first | exact Kd.own_blk (Kd.R_ne HO_4.out BK115.out (by decide)) | (rw [add_block]; exact Kd.own_blk (Kd.R_ne HO_4.out BK115.out (by decide))) | (show (Addr.add _ _).block ≠ _; rw [add_block]; exact Kd.own_blk (Kd.R_ne HO_4.out BK115.out (by decide))) | (dsimp only; exact Kd.own_blk (Kd.R_ne HO_4.out BK115.out (by decide)))) _).trans (((cell_far (p := ⟨gb115, _, none⟩) (by first | exact Kd.own_blk (Kd.R_ne HO_4.out BK115.out (by decide)) | (rw [add_block]; exact Kd.own_blk (Kd.R_ne HO_4.out BK115.out (by decide))) | (show (Addr.add _ _).block ≠ _; rw [add_block]; exact Kd.own_blk (Kd.R_ne HO_4.out BK115.out (by decide))) | (dsimp only; exact Kd.own_blk (Kd.R_ne HO_4.out BK115.out (by decide)))) _).trans (hHeld.2.1)))))))), ((cell_far (p := ⟨gb115, _, none⟩) (by first | exact Kd.own_blk (Kd.R_ne HO_4.out BK115.out (by decide)) | (rw [add_block]; exact Kd.own_blk (Kd.R_ne HO_4.out BK115.out (by decide))) | (show (Addr.add _ _).block ≠ _; rw [add_block]; exact Kd.own_blk (Kd.R_ne HO_4.out BK115.out (by decide))) | (dsimp only; exact Kd.own_blk (Kd.R_ne HO_4.out BK115.out (by decide)))) _).trans (((cell_far (p := ⟨gb115, _, none⟩) (by first | exact Kd.own_blk (Kd.R_ne HO_4.out BK115.out (by decide)) | (rw [add_block]; exact Kd.own_blk (Kd.R_ne HO_4.out BK115.out (by decide))) | (show (Addr.add _ _).block ≠ _; rw [add_block]; exact Kd.own_blk (Kd.R_ne HO_4.out BK115.out (by decide))) | (dsimp only; exact Kd.own_blk (Kd.R_ne HO_4.out BK115.out (by decide)))) _).trans (((cell_far (p := ⟨gb115, _, none⟩) (by first | exact Kd.own_blk (Kd.R_ne HO_4.out BK115.out (by decide)) | (rw [add_block]; exact Kd.own_blk (Kd.R_ne HO_4.out BK115.out (by decide))) | (show (Addr.add _ _).block ≠ _; rw [add_block]; exact Kd.own_blk (Kd.R_ne HO_4.out BK115.out (by decide))) | (dsimp only; exact Kd.own_blk (Kd.R_ne HO_4.out BK115.out (by decide)))) _).trans (((cell_far (p := ⟨gb115, _, none⟩) (by first | exact Kd.own_blk (Kd.R_ne HO_4.out BK115.out (by decide)) | (rw [add_block]; exact Kd.own_blk (Kd.R_ne HO_4.out BK115.out (by decide))) | (show (Addr.add _ _).block ≠ _; rw [add_block]; exact Kd.own_blk (Kd.R_ne HO_4.out BK115.out (by decide))) | (dsimp only; exact Kd.own_blk (Kd.R_ne HO_4.out BK115.out (by decide)))) _).trans (hHeld.2.2))))))))⟩ (fun hHeld => ?_)
                      clear hK K
                      refine done_ (done_of HT_.out (by kernel_rfl)) ?_
                      try go_wp2
                      have n0_ : Aside0 (Kd.R Kd.string 9 ((((w59.setCell ⟨gb115, 0, none⟩ (.string (rdOf ByteArray.empty t107 0))).setCell ⟨gb115, 1, none⟩ (.string (⟨#[]⟩ : ByteArray))).setCell ⟨gb115, 2, none⟩ (.int .i64 t112)).setCell ⟨gb115, 3, none⟩ (.int .i64 t114)) w.heap.size (fun _ => True) (.slice (some ad110) t107.length co57) t107) := ⟨by (with_reducible repeat (first | apply Kd.R_alloc | apply Kd.R_drewN | apply Kd.R_drew)); exact Kd.R_mono (Kd.R_far (p := ⟨gb115, 3, none⟩) (Kd.R_far (p := ⟨gb115, 2, none⟩) (Kd.R_far (p := ⟨gb115, 1, none⟩) (Kd.R_far (p := ⟨gb115, 0, none⟩) (Kd.R_types HO_4.out BK115.out (by decide)) (fun _ hk => hk.2) (.string (rdOf ByteArray.empty t107 0))) (fun _ hk => hk.2) (.string (⟨#[]⟩ : ByteArray))) (fun _ hk => hk.2) (.int .i64 t112)) (fun _ hk => hk.2) (.int .i64 t114)) (fun _ hk => trivial)⟩
                      have n1_ : Aside0 (((((w59.setCell ⟨gb115, 0, none⟩ (.string (rdOf ByteArray.empty t107 0))).setCell ⟨gb115, 1, none⟩ (.string (⟨#[]⟩ : ByteArray))).setCell ⟨gb115, 2, none⟩ (.int .i64 t112)).setCell ⟨gb115, 3, none⟩ (.int .i64 t114)).heap[gb106]? = some (.cells #[.string (⟨#[]⟩ : ByteArray), .string (⟨#[]⟩ : ByteArray), .int .i64 0, .int .i64 0] 25 (0, 0))) := ⟨by (with_reducible repeat (first | refine blk_drewN ?_ _ | refine blk_drew ?_ | refine blk_alloc ?_ _)); refine blk_far ?_ NB106_115.out _; (with_reducible repeat (first | refine blk_drewN ?_ _ | refine blk_drew ?_ | refine blk_alloc ?_ _)); refine blk_far ?_ NB106_115.out _; (with_reducible repeat (first | refine blk_drewN ?_ _ | refine blk_drew ?_ | refine blk_alloc ?_ _)); refine blk_far ?_ NB106_115.out _; (with_reducible repeat (first | refine blk_drewN ?_ _ | refine blk_drew ?_ | refine blk_alloc ?_ _)); refine blk_far ?_ NB106_115.out _; (with_reducible repeat (first | refine blk_drewN ?_ _ | refine blk_drew ?_ | refine blk_alloc ?_ _)); exact BK106.out⟩
                      have n2_ : Aside0 (((((w59.setCell ⟨gb115, 0, none⟩ (.string (rdOf ByteArray.empty t107 0))).setCell ⟨gb115, 1, none⟩ (.string (⟨#[]⟩ : ByteArray))).setCell ⟨gb115, 2, none⟩ (.int .i64 t112)).setCell ⟨gb115, 3, none⟩ (.int .i64 t114)).heap[gb115]? = some (.cells #[.string (rdOf ByteArray.empty t107 0), .string (⟨#[]⟩ : ByteArray), .int .i64 t112, .int .i64 t114] 25 (0, 0))) := ⟨by (with_reducible repeat (first | refine blk_drewN ?_ _ | refine blk_drew ?_ | refine blk_alloc ?_ _)); refine blk_put (cs := #[.string (rdOf ByteArray.empty t107 0), .string (⟨#[]⟩ : ByteArray), .int .i64 t112, .int .i64 0]) ?_ 3 _ rfl; (with_reducible repeat (first | refine blk_drewN ?_ _ | refine blk_drew ?_ | refine blk_alloc ?_ _)); refine blk_put (cs := #[.string (rdOf ByteArray.empty t107 0), .string (⟨#[]⟩ : ByteArray), .int .i64 0, .int .i64 0]) ?_ 2 _ rfl; (with_reducible repeat (first | refine blk_drewN ?_ _ | refine blk_drew ?_ | refine blk_alloc ?_ _)); refine blk_put (cs := #[.string (rdOf ByteArray.empty t107 0), .string (⟨#[]⟩ : ByteArray), .int .i64 0, .int .i64 0]) ?_ 1 _ rfl; (with_reducible repeat (first | refine blk_drewN ?_ _ | refine blk_drew ?_ | refine blk_alloc ?_ _)); refine blk_put (cs := #[.string (⟨#[]⟩ : ByteArray), .string (⟨#[]⟩ : ByteArray), .int .i64 0, .int .i64 0]) ?_ 0 _ rfl; (with_reducible repeat (first | refine blk_drewN ?_ _ | refine blk_drew ?_ | refine blk_alloc ?_ _)); exact BK115.out⟩
                      have n3_ : Aside0 (Below w.heap.size w ((((w59.setCell ⟨gb115, 0, none⟩ (.string (rdOf ByteArray.empty t107 0))).setCell ⟨gb115, 1, none⟩ (.string (⟨#[]⟩ : ByteArray))).setCell ⟨gb115, 2, none⟩ (.int .i64 t112)).setCell ⟨gb115, 3, none⟩ (.int .i64 t114))) := ⟨by repeat (first | (with_reducible first | exact HB.out | apply below_alloc | apply pw_below_drewN | apply below_drew1 | refine below_set ?_ GE106.out | refine below_set ?_ GE115.out) | exact HB.out)⟩
                      (try clear HO_4)
                      (try clear BK106)
                      (try clear BK115)
                      (try clear HB)
                      generalize ((((w59.setCell ⟨gb115, 0, none⟩ (.string (rdOf ByteArray.empty t107 0))).setCell ⟨gb115, 1, none⟩ (.string (⟨#[]⟩ : ByteArray))).setCell ⟨gb115, 2, none⟩ (.int .i64 t112)).setCell ⟨gb115, 3, none⟩ (.int .i64 t114)) = w64 at n0_ n1_ n2_ n3_ ⊢
                      have HO_4 := n0_
                      have BK106 := n1_
                      have BK115 := n2_
                      have HB := n3_
                      clear n0_ n1_ n2_ n3_
                      have n0_ := Aside0.mk (Kd.R_drew HO_4.out)
                      have n1_ := Aside0.mk (blk_drew BK106.out)
                      have n2_ := Aside0.mk (blk_drew BK115.out)
                      have n3_ := Aside0.mk (below_drew1 HB.out)
                      clear HO_4
                      clear BK106
                      clear BK115
                      clear HB
                      have HO_4 := n0_
                      have BK106 := n1_
                      have BK115 := n2_
                      have HB := n3_
                      clear n0_ n1_ n2_ n3_
                      refine start_ (n := 13) (S := fun w' => w'.cell? ⟨gb115, 0, none⟩ = some (.string (rdOf ByteArray.empty t107 0)) ∧ w'.cell? ⟨gb115, 1, none⟩ = some (.string (⟨#[]⟩ : ByteArray)) ∧ w'.cell? ⟨gb115, 2, none⟩ = some (.int .i64 t112) ∧ w'.cell? ⟨gb115, 3, none⟩ = some (.int .i64 t114)) (ds := []) #[false, false, false, false, false, false, false, false, false, false, false, false, false] (by kernel_rfl) rfl rfl ⟨(blk_cell BK115.out 0).trans rfl, (blk_cell BK115.out 1).trans rfl, (blk_cell BK115.out 2).trans rfl, (blk_cell BK115.out 3).trans rfl⟩ (fun hHeld => ?_); refine with_tabW spec_ReadHPub.tab7 spec_ReadHPub.bits7 (fun HT_ HW_ => ?_)
                      generalize w64.drew = w65 at HO_4 BK106 BK115 HB hHeld ⊢
                      refine pure_ (i := 1) (N := some 43) (v := ?_) (a' := ?_) #[false, true, false, false, false, false, false, false, false, false, false, false, false] rfl rfl (any_of HT_.out (by kernel_rfl)) (fun _ _ _ h => h) (Or.inl ⟨by rfl, ?_⟩) ?_ ?_
                      rotate_left
                      · intro w'
                        go_simp
                        with_reducible rfl
                      rotate_left
                      · simp only [Act.put, List.setIfInBounds_toArray, List.set_cons_zero, List.set_cons_succ, i64_w, i32_w]
                        rfl
                      refine take_ (i := 0) (N := some 42) (v := ?_) (a' := ?_) #[true, true, false, false, false, false, false, false, false, false, false, false, false] rfl rfl (take_ofW HT_.out HW_.out (by kernel_rfl)) (fun _ _ _ h => h) (Or.inl ⟨by rfl, ?_⟩) hHeld ?_ ?_
                      rotate_left
                      · rintro w' ⟨s0, s1, s2, s3⟩
                        go_simp
                        with_reducible rfl
                      rotate_left
                      · simp only [Act.put, List.setIfInBounds_toArray, List.set_cons_zero, List.set_cons_succ, i64_w, i32_w]
                        rfl
                      refine take_ (i := 2) (N := some 44) (v := ?_) (a' := ?_) #[true, true, true, false, false, false, false, false, false, false, false, false, false] rfl rfl (take_ofW HT_.out HW_.out (by kernel_rfl)) (fun _ _ _ h => h) (Or.inl ⟨by rfl, ?_⟩) hHeld ?_ ?_
                      rotate_left
                      · rintro w' ⟨s0, s1, s2, s3⟩
                        go_simp
                        with_reducible rfl
                      rotate_left
                      · simp only [Act.put, List.setIfInBounds_toArray, List.set_cons_zero, List.set_cons_succ, i64_w, i32_w]
                        rfl
                      refine pure_ (i := 3) (N := some 45) (v := ?_) (a' := ?_) #[true, true, true, true, false, false, false, false, false, false, false, false, false] rfl rfl (any_of HT_.out (by kernel_rfl)) (fun _ _ _ h => h) (Or.inl ⟨by rfl, ?_⟩) ?_ ?_
                      rotate_left
                      · intro w'
                        go_simp
                        with_reducible rfl
                      rotate_left
                      · simp only [Act.put, List.setIfInBounds_toArray, List.set_cons_zero, List.set_cons_succ, i64_w, i32_w]
                        rfl
                      refine pure_ (i := 4) (N := some 46) (v := ?_) (a' := ?_) #[true, true, true, true, true, false, false, false, false, false, false, false, false] rfl rfl (any_of HT_.out (by kernel_rfl)) (fun _ _ _ h => h) (Or.inl ⟨by rfl, ?_⟩) ?_ ?_
                      rotate_left
                      · intro w'
                        go_simp
                        with_reducible rfl
                      rotate_left
                      · simp only [Act.put, List.setIfInBounds_toArray, List.set_cons_zero, List.set_cons_succ, i64_w, i32_w]
                        rfl
                      refine pure_ (i := 5) (N := some 47) (v := ?_) (a' := ?_) #[true, true, true, true, true, true, false, false, false, false, false, false, false] rfl rfl (any_of HT_.out (by kernel_rfl)) (fun _ _ _ h => h) (Or.inl ⟨by rfl, ?_⟩) ?_ ?_
                      rotate_left
                      · intro w'
                        go_simp
                        with_reducible rfl
                      rotate_left
                      · simp only [Act.put, List.setIfInBounds_toArray, List.set_cons_zero, List.set_cons_succ, i64_w, i32_w]
                        rfl
                      refine pure_ (i := 7) (N := some 49) (v := ?_) (a' := ?_) #[true, true, true, true, true, true, false, true, false, false, false, false, false] rfl rfl (any_of HT_.out (by kernel_rfl)) (fun _ _ _ h => h) (Or.inl ⟨by rfl, ?_⟩) ?_ ?_
                      rotate_left
                      · intro w'
                        go_simp
                        with_reducible rfl
                      rotate_left
                      · simp only [Act.put, List.setIfInBounds_toArray, List.set_cons_zero, List.set_cons_succ, i64_w, i32_w]
                        rfl
                      refine take_ (i := 6) (N := some 48) (v := ?_) (a' := ?_) #[true, true, true, true, true, true, true, true, false, false, false, false, false] rfl rfl (take_ofW HT_.out HW_.out (by kernel_rfl)) (fun _ _ _ h => h) (Or.inl ⟨by rfl, ?_⟩) hHeld ?_ ?_
                      rotate_left
                      · rintro w' ⟨s0, s1, s2, s3⟩
                        go_simp
                        with_reducible rfl
                      rotate_left
                      · simp only [Act.put, List.setIfInBounds_toArray, List.set_cons_zero, List.set_cons_succ, i64_w, i32_w]
                        rfl
                      refine take_ (i := 8) (N := some 50) (v := ?_) (a' := ?_) #[true, true, true, true, true, true, true, true, true, false, false, false, false] rfl rfl (take_ofW HT_.out HW_.out (by kernel_rfl)) (fun _ _ _ h => h) (Or.inl ⟨by rfl, ?_⟩) hHeld ?_ ?_
                      rotate_left
                      · rintro w' ⟨s0, s1, s2, s3⟩
                        go_simp
                        with_reducible rfl
                      rotate_left
                      · simp only [Act.put, List.setIfInBounds_toArray, List.set_cons_zero, List.set_cons_succ, i64_w, i32_w]
                        rfl
                      refine pure_ (i := 9) (N := some 51) (v := ?_) (a' := ?_) #[true, true, true, true, true, true, true, true, true, true, false, false, false] rfl rfl (any_of HT_.out (by kernel_rfl)) (fun _ _ _ h => h) (Or.inl ⟨by rfl, ?_⟩) ?_ ?_
                      rotate_left
                      · intro w'
                        go_simp
                        with_reducible rfl
                      rotate_left
                      · simp only [Act.put, List.setIfInBounds_toArray, List.set_cons_zero, List.set_cons_succ, i64_w, i32_w]
                        rfl
                      refine pure_ (i := 10) (N := some 52) (v := ?_) (a' := ?_) #[true, true, true, true, true, true, true, true, true, true, true, false, false] rfl rfl (any_of HT_.out (by kernel_rfl)) (fun _ _ _ h => h) (Or.inl ⟨by rfl, ?_⟩) ?_ ?_
                      rotate_left
                      · intro w'
                        go_simp
                        with_reducible rfl
                      rotate_left
                      · simp only [Act.put, List.setIfInBounds_toArray, List.set_cons_zero, List.set_cons_succ, i64_w, i32_w]
                        rfl
                      refine one_ (i := 11) (N := none) #[true, true, true, true, true, true, true, true, true, true, true, true, false] rfl rfl (one_of HT_.out (by kernel_rfl)) (by decide) (fun K hK => ?_)
                      have hs66 : w65.cell? ⟨gb106, 0, none⟩ = some (.string (⟨#[]⟩ : ByteArray)) := (blk_cell BK106.out 0).trans rfl
                      have hfs66 := blk_frozen BK106.out 0
                      have hns66_1 := NB115_106.out
                      have hms66_1 := NB106_115.out
                      have hs67 : w65.cell? ⟨gb106, 1, none⟩ = some (.string (⟨#[]⟩ : ByteArray)) := (blk_cell BK106.out 1).trans rfl
                      have hfs67 := blk_frozen BK106.out 1
                      have hns67_1 := NB115_106.out
                      have hms67_1 := NB106_115.out
                      have hs68 : w65.cell? ⟨gb106, 2, none⟩ = some (.int .i64 0) := (blk_cell BK106.out 2).trans rfl
                      have hfs68 := blk_frozen BK106.out 2
                      have hns68_1 := NB115_106.out
                      have hms68_1 := NB106_115.out
                      have hs69 : w65.cell? ⟨gb106, 3, none⟩ = some (.int .i64 0) := (blk_cell BK106.out 3).trans rfl
                      have hfs69 := blk_frozen BK106.out 3
                      have hns69_1 := NB115_106.out
                      have hms69_1 := NB106_115.out
                      refine skip_ (w1 := ?_) (by rfl) rfl ?_ ?_
                      rotate_left
                      · go_simp
                        rfl
                      refine hK.out _ _ ⟨((cell_far (p := ⟨gb106, _, none⟩) NB115_106.out _).trans (((cell_far (p := ⟨gb106, _, none⟩) NB115_106.out _).trans (((cell_far (p := ⟨gb106, _, none⟩) NB115_106.out _).trans (((cell_far (p := ⟨gb106, _, none⟩) NB115_106.out _).trans (hHeld.1)))))))), ((cell_far (p := ⟨gb106, _, none⟩) NB115_106.out _).trans (((cell_far (p := ⟨gb106, _, none⟩) NB115_106.out _).trans (((cell_far (p := ⟨gb106, _, none⟩) NB115_106.out _).trans (((cell_far (p := ⟨gb106, _, none⟩) NB115_106.out _).trans (hHeld.2.1)))))))), ((cell_far (p := ⟨gb106, _, none⟩) NB115_106.out _).trans (((cell_far (p := ⟨gb106, _, none⟩) NB115_106.out _).trans (((cell_far (p := ⟨gb106, _, none⟩) NB115_106.out _).trans (((cell_far (p := ⟨gb106, _, none⟩) NB115_106.out _).trans (hHeld.2.2.1)))))))), ((cell_far (p := ⟨gb106, _, none⟩) NB115_106.out _).trans (((cell_far (p := ⟨gb106, _, none⟩) NB115_106.out _).trans (((cell_far (p := ⟨gb106, _, none⟩) NB115_106.out _).trans (((cell_far (p := ⟨gb106, _, none⟩) NB115_106.out _).trans (hHeld.2.2.2))))))))⟩ (fun hHeld => ?_)
                      clear hK K
                      refine pure_ (i := 12) (N := some 3) (v := ?_) (a' := ?_) #[true, true, true, true, true, true, true, true, true, true, true, true, true] rfl rfl (any_of HT_.out (by kernel_rfl)) (fun _ _ _ h => h) (Or.inl ⟨by rfl, ?_⟩) ?_ ?_
                      rotate_left
                      · intro w'
                        go_simp
                        with_reducible rfl
                      rotate_left
                      · simp only [Act.put, List.setIfInBounds_toArray, List.set_cons_zero, List.set_cons_succ, i64_w, i32_w]
                        rfl
                      refine done_ (done_of HT_.out (by kernel_rfl)) ?_
                      try go_wp2
                      refine bodyPost_ret (results_ct rfl _ _ gb106 25 #[.string (rdOf ByteArray.empty t107 0), .string (⟨#[]⟩ : ByteArray), .int .i64 t112, .int .i64 t114] (0, 0) _ rfl (by (with_reducible repeat (first | refine blk_drewN ?_ _ | refine blk_drew ?_ | refine blk_alloc ?_ _)); refine blk_put (cs := #[.string (rdOf ByteArray.empty t107 0), .string (⟨#[]⟩ : ByteArray), .int .i64 t112, .int .i64 0]) ?_ 3 _ rfl; (with_reducible repeat (first | refine blk_drewN ?_ _ | refine blk_drew ?_ | refine blk_alloc ?_ _)); refine blk_put (cs := #[.string (rdOf ByteArray.empty t107 0), .string (⟨#[]⟩ : ByteArray), .int .i64 0, .int .i64 0]) ?_ 2 _ rfl; (with_reducible repeat (first | refine blk_drewN ?_ _ | refine blk_drew ?_ | refine blk_alloc ?_ _)); refine blk_put (cs := #[.string (rdOf ByteArray.empty t107 0), .string (⟨#[]⟩ : ByteArray), .int .i64 0, .int .i64 0]) ?_ 1 _ rfl; (with_reducible repeat (first | refine blk_drewN ?_ _ | refine blk_drew ?_ | refine blk_alloc ?_ _)); refine blk_put (cs := #[.string (⟨#[]⟩ : ByteArray), .string (⟨#[]⟩ : ByteArray), .int .i64 0, .int .i64 0]) ?_ 0 _ rfl; (with_reducible repeat (first | refine blk_drewN ?_ _ | refine blk_drew ?_ | refine blk_alloc ?_ _)); exact BK106.out) Tryd.underlying25 rfl (by kernel_rfl)) rfl ?_
                      exact ⟨by first | rfl | (simp [errW_none, errW_some] <;> rfl) | (simp only [← hji12, ← hji16]; first | rfl | (simp [errW_none, errW_some] <;> rfl)) | (simp [*, errW_none, errW_some] <;> rfl), by repeat (first | (with_reducible first | exact HB.out | apply below_alloc | apply pw_below_drewN | apply below_drew1 | refine below_set ?_ GE106.out | refine below_set ?_ GE115.out) | exact HB.out)⟩
                    · rw [if_neg c55] at H
                      have c55b0 : decide (0 ≤ t112) = false := decide_eq_false c55
                      clear c55
                      simp only [Option.some.injEq, Prod.mk.injEq] at H
                      obtain ⟨rfl, rfl, rfl, rfl, rfl⟩ := H
                      try go_wp2
                      have n0_ := Aside0.mk (Kd.R_drew HO_4.out)
                      have n1_ := Aside0.mk (blk_drew BK106.out)
                      have n2_ := Aside0.mk (below_drew1 HB.out)
                      clear HO_4
                      clear BK106
                      clear HB
                      have HO_4 := n0_
                      have BK106 := n1_
                      have HB := n2_
                      clear n0_ n1_ n2_
                      obtain ⟨Ao71, co71, eo71⟩ := Kd.R_slice HO_4.out
                      (first | subst eo71 | (injection eo71 with f1_ f2_ f3_; have f4_ := f1_.symm; have f5_ := f3_.symm; clear f1_ f2_ f3_; subst f4_; subst f5_))
                      have p110 : 0 ≤ (0 : Int) := (by omega)
                      have q110 : 0 < (t107.length : Int) := of_decide_eq_true (by first | (with_reducible assumption) | assumption)
                      obtain ⟨ad110, e110, hx110_0⟩ := Kd.at_string (Kd.R_reads' HO_4.out).2.2 0 p110 q110
                      cases e110
                      have qi110 : (0 < t107.length) = True := eq_true (by omega)
                      (try rw [show ((0 : Int)).toNat = 0 from rfl] at hx110_0)
                      (try rw [Addr.add_zero'] at hx110_0)
                      replace p110 := eq_true p110
                      replace q110 := eq_true q110
                      have p111 : 0 ≤ ((ji12) : Int) := of_decide_eq_true (by first | (with_reducible assumption) | assumption)
                      have q111 : (ji12) < (t107.length : Int) := of_decide_eq_true (by first | (with_reducible assumption) | assumption)
                      obtain ⟨ad111, e111, hx111_0⟩ := Kd.at_string (Kd.R_reads' HO_4.out).2.2 (ji12) p111 q111
                      obtain rfl : ad110 = ad111 := (by injection e111)
                      replace p111 := eq_true p111
                      replace q111 := eq_true q111
                      have p113 : 0 ≤ ((ji16) : Int) := of_decide_eq_true (by first | (with_reducible assumption) | assumption)
                      have q113 : (ji16) < (t107.length : Int) := of_decide_eq_true (by first | (with_reducible assumption) | assumption)
                      obtain ⟨ad113, e113, hx113_0⟩ := Kd.at_string (Kd.R_reads' HO_4.out).2.2 (ji16) p113 q113
                      obtain rfl : ad110 = ad113 := (by injection e113)
                      replace p113 := eq_true p113
                      replace q113 := eq_true q113
                      refine start_ (n := 20) (S := fun w' => w'.cell? ad110 = some (.string (rdOf ByteArray.empty t107 0)) ∧ w'.cell? (ad110.add ((ji12)).toNat) = some (.string (rdOf ByteArray.empty t107 (ji12))) ∧ w'.cell? (ad110.add ((ji16)).toNat) = some (.string (rdOf ByteArray.empty t107 (ji16)))) (ds := []) #[false, false, false, false, false, false, false, false, false, false, false, false, false, false, false, false, false, false, false, false] (by kernel_rfl) rfl rfl ⟨hx110_0, hx111_0, hx113_0⟩ (fun hHeld => ?_); refine with_tabW spec_ReadHPub.tab4 spec_ReadHPub.bits4 (fun HT_ HW_ => ?_)
                      generalize wc.drew = w70 at HO_4 BK106 HB hx110_0 hx111_0 hx113_0 hHeld ⊢
                      refine pure_ (i := 0) (N := some 17) (v := ?_) (a' := ?_) #[true, false, false, false, false, false, false, false, false, false, false, false, false, false, false, false, false, false, false, false] rfl rfl (any_of HT_.out (by kernel_rfl)) (fun _ _ _ h => h) (Or.inl ⟨by rfl, ?_⟩) ?_ ?_
                      rotate_left
                      · intro w'
                        go_simp
                        with_reducible rfl
                      rotate_left
                      · simp only [Act.put, List.setIfInBounds_toArray, List.set_cons_zero, List.set_cons_succ, i64_w, i32_w]
                        rfl
                      refine pure_ (i := 1) (N := some 18) (v := ?_) (a' := ?_) #[true, true, false, false, false, false, false, false, false, false, false, false, false, false, false, false, false, false, false, false] rfl rfl (any_of HT_.out (by kernel_rfl)) (fun _ _ _ h => h) (Or.inl ⟨by rfl, ?_⟩) ?_ ?_
                      rotate_left
                      · intro w'
                        go_simp
                        with_reducible rfl
                      rotate_left
                      · simp only [Act.put, List.setIfInBounds_toArray, List.set_cons_zero, List.set_cons_succ, i64_w, i32_w]
                        rfl
                      refine pure_ (i := 3) (N := some 20) (v := ?_) (a' := ?_) #[true, true, false, true, false, false, false, false, false, false, false, false, false, false, false, false, false, false, false, false] rfl rfl (any_of HT_.out (by kernel_rfl)) (fun _ _ _ h => h) (Or.inl ⟨by rfl, ?_⟩) ?_ ?_
                      rotate_left
                      · intro w'
                        go_simp
                        with_reducible rfl
                      rotate_left
                      · simp only [Act.put, List.setIfInBounds_toArray, List.set_cons_zero, List.set_cons_succ, i64_w, i32_w]
                        rfl
                      refine pure_ (i := 4) (N := some 21) (v := ?_) (a' := ?_) #[true, true, false, true, true, false, false, false, false, false, false, false, false, false, false, false, false, false, false, false] rfl rfl (any_of HT_.out (by kernel_rfl)) (fun _ _ _ h => h) (Or.inl ⟨by rfl, ?_⟩) ?_ ?_
                      rotate_left
                      · intro w'
                        go_simp
                        with_reducible rfl
                      rotate_left
                      · simp only [Act.put, List.setIfInBounds_toArray, List.set_cons_zero, List.set_cons_succ, i64_w, i32_w]
                        rfl
                      refine pure_ (i := 5) (N := some 22) (v := ?_) (a' := ?_) #[true, true, false, true, true, true, false, false, false, false, false, false, false, false, false, false, false, false, false, false] rfl rfl (any_of HT_.out (by kernel_rfl)) (fun _ _ _ h => h) (Or.inl ⟨by rfl, ?_⟩) ?_ ?_
                      rotate_left
                      · intro w'
                        go_simp
                        with_reducible rfl
                      rotate_left
                      · simp only [Act.put, List.setIfInBounds_toArray, List.set_cons_zero, List.set_cons_succ, i64_w, i32_w]
                        rfl
                      refine pure_ (i := 6) (N := some 23) (v := ?_) (a' := ?_) #[true, true, false, true, true, true, true, false, false, false, false, false, false, false, false, false, false, false, false, false] rfl rfl (any_of HT_.out (by kernel_rfl)) (fun _ _ _ h => h) (Or.inl ⟨by rfl, ?_⟩) ?_ ?_
                      rotate_left
                      · intro w'
                        go_simp
                        with_reducible rfl
                      rotate_left
                      · simp only [Act.put, List.setIfInBounds_toArray, List.set_cons_zero, List.set_cons_succ, i64_w, i32_w]
                        rfl
                      refine pure_ (i := 7) (N := some 24) (v := ?_) (a' := ?_) #[true, true, false, true, true, true, true, true, false, false, false, false, false, false, false, false, false, false, false, false] rfl rfl (any_of HT_.out (by kernel_rfl)) (fun _ _ _ h => h) (Or.inl ⟨by rfl, ?_⟩) ?_ ?_
                      rotate_left
                      · intro w'
                        go_simp
                        with_reducible rfl
                      rotate_left
                      · simp only [Act.put, List.setIfInBounds_toArray, List.set_cons_zero, List.set_cons_succ, i64_w, i32_w]
                        rfl
                      refine pure_ (i := 10) (N := some 27) (v := ?_) (a' := ?_) #[true, true, false, true, true, true, true, true, false, false, true, false, false, false, false, false, false, false, false, false] rfl rfl (any_of HT_.out (by kernel_rfl)) (fun _ _ _ h => h) (Or.inl ⟨by rfl, ?_⟩) ?_ ?_
                      rotate_left
                      · intro w'
                        go_simp
                        with_reducible rfl
                      rotate_left
                      · simp only [Act.put, List.setIfInBounds_toArray, List.set_cons_zero, List.set_cons_succ, i64_w, i32_w]
                        rfl
                      refine pure_ (i := 11) (N := some 28) (v := ?_) (a' := ?_) #[true, true, false, true, true, true, true, true, false, false, true, true, false, false, false, false, false, false, false, false] rfl rfl (any_of HT_.out (by kernel_rfl)) (fun _ _ _ h => h) (Or.inl ⟨by rfl, ?_⟩) ?_ ?_
                      rotate_left
                      · intro w'
                        go_simp
                        with_reducible rfl
                      rotate_left
                      · simp only [Act.put, List.setIfInBounds_toArray, List.set_cons_zero, List.set_cons_succ, i64_w, i32_w]
                        rfl
                      refine pure_ (i := 12) (N := some 29) (v := ?_) (a' := ?_) #[true, true, false, true, true, true, true, true, false, false, true, true, true, false, false, false, false, false, false, false] rfl rfl (any_of HT_.out (by kernel_rfl)) (fun _ _ _ h => h) (Or.inl ⟨by rfl, ?_⟩) ?_ ?_
                      rotate_left
                      · intro w'
                        go_simp
                        with_reducible rfl
                      rotate_left
                      · simp only [Act.put, List.setIfInBounds_toArray, List.set_cons_zero, List.set_cons_succ, i64_w, i32_w]
                        rfl
                      refine pure_ (i := 13) (N := some 30) (v := ?_) (a' := ?_) #[true, true, false, true, true, true, true, true, false, false, true, true, true, true, false, false, false, false, false, false] rfl rfl (any_of HT_.out (by kernel_rfl)) (fun _ _ _ h => h) (Or.inl ⟨by rfl, ?_⟩) ?_ ?_
                      rotate_left
                      · intro w'
                        go_simp
                        with_reducible rfl
                      rotate_left
                      · simp only [Act.put, List.setIfInBounds_toArray, List.set_cons_zero, List.set_cons_succ, i64_w, i32_w]
                        rfl
                      refine pure_ (i := 14) (N := some 31) (v := ?_) (a' := ?_) #[true, true, false, true, true, true, true, true, false, false, true, true, true, true, true, false, false, false, false, false] rfl rfl (any_of HT_.out (by kernel_rfl)) (fun _ _ _ h => h) (Or.inl ⟨by rfl, ?_⟩) ?_ ?_
                      rotate_left
                      · intro w'
                        go_simp
                        with_reducible rfl
                      rotate_left
                      · simp only [Act.put, List.setIfInBounds_toArray, List.set_cons_zero, List.set_cons_succ, i64_w, i32_w]
                        rfl
                      refine take_ (i := 2) (N := some 19) (v := ?_) (a' := ?_) #[true, true, true, true, true, true, true, true, false, false, true, true, true, true, true, false, false, false, false, false] rfl rfl (take_ofW HT_.out HW_.out (by kernel_rfl)) (fun _ _ _ h => h) (Or.inl ⟨by rfl, ?_⟩) hHeld ?_ ?_
                      rotate_left
                      · rintro w' ⟨s0, s1, s2⟩
                        go_simp
                        with_reducible rfl
                      rotate_left
                      · simp only [Act.put, List.setIfInBounds_toArray, List.set_cons_zero, List.set_cons_succ, i64_w, i32_w]
                        rfl
                      refine take_ (i := 8) (N := some 25) (v := ?_) (a' := ?_) #[true, true, true, true, true, true, true, true, true, false, true, true, true, true, true, false, false, false, false, false] rfl rfl (take_ofW HT_.out HW_.out (by kernel_rfl)) (fun _ _ _ h => h) (Or.inl ⟨by rfl, ?_⟩) hHeld ?_ ?_
                      rotate_left
                      · rintro w' ⟨s0, s1, s2⟩
                        go_simp
                        with_reducible rfl
                      rotate_left
                      · simp only [Act.put, List.setIfInBounds_toArray, List.set_cons_zero, List.set_cons_succ, i64_w, i32_w]
                        rfl
                      refine take_ (i := 15) (N := some 32) (v := ?_) (a' := ?_) #[true, true, true, true, true, true, true, true, true, false, true, true, true, true, true, true, false, false, false, false] rfl rfl (take_ofW HT_.out HW_.out (by kernel_rfl)) (fun _ _ _ h => h) (Or.inl ⟨by rfl, ?_⟩) hHeld ?_ ?_
                      rotate_left
                      · rintro w' ⟨s0, s1, s2⟩
                        go_simp
                        with_reducible rfl
                      rotate_left
                      · simp only [Act.put, List.setIfInBounds_toArray, List.set_cons_zero, List.set_cons_succ, i64_w, i32_w]
                        rfl
                      refine join_ (σ := Nat) 1 #[true, true, true, true, true, true, true, true, true, true, true, true, true, true, true, true, true, true, true, false] (fun s_ => [(26, .int .i64 t112), (33, .int .i64 t114), (5, .pointer (some ⟨s_, 0, none⟩)), (34, .agg #[.string (rdOf ByteArray.empty t107 0), .string (⟨#[]⟩ : ByteArray), .int .i64 t112, .int .i64 t114])]) (fun s_ w' => (w'.cell? ad110 = some (.string (rdOf ByteArray.empty t107 0)) ∧ w'.cell? (ad110.add ((ji12)).toNat) = some (.string (rdOf ByteArray.empty t107 (ji12))) ∧ w'.cell? (ad110.add ((ji16)).toNat) = some (.string (rdOf ByteArray.empty t107 (ji16)))) ∧ (Kd.R Kd.string 9 w' w.heap.size (fun _ => True) (.slice (some ad110) t107.length co71) t107) ∧ (w'.heap[gb106]? = some (.cells #[.string (⟨#[]⟩ : ByteArray), .string (⟨#[]⟩ : ByteArray), .int .i64 0, .int .i64 0] 25 (0, 0))) ∧ (w'.heap[s_]? = some (.cells #[.string (⟨#[]⟩ : ByteArray), .string (⟨#[]⟩ : ByteArray), .int .i64 0, .int .i64 0] 25 (0, 0))) ∧ (w.heap.size ≤ s_) ∧ (w.heap.size ≤ s_) ∧ (gb106 ≠ s_) ∧ (s_ ≠ gb106) ∧ (Below w.heap.size w w')) ?_ ?_
                      rotate_left
                      · intro hCont
                        refine two_ (i := 9) (j := 18) (Ni := some 26) (Nj := some 5) #[true, true, true, true, true, true, true, true, true, true, true, true, true, true, true, true, false, false, false, false] #[true, true, true, true, true, true, true, true, true, false, true, true, true, true, true, true, false, false, true, false] rfl rfl rfl rfl (two_of HT_.out (by kernel_rfl)) (by decide) (by decide) (fun K hK => ?_) (fun K hK => ?_)
                        · skip
                          refine goes_ Tryd.func18 (by kernel_rfl) rfl #[.string (rdOf ByteArray.empty t107 (ji12))] (by rfl) rfl rfl (by (try simp only [List.map_toArray, List.map_cons, List.map_nil]); first | done | (simp only [hji12]; rfl) | rfl | (simp only [List.length_drop, List.length_take]; rfl)) ?_
                          with_reducible refine (spec_Size.calls kj2 (rdOf ByteArray.empty t107 (ji12)) t112 _ A15.out).mono ?_
                          rintro e w' ⟨rfl, ⟨nd, rfl⟩⟩
                          refine ⟨_, rfl, ?_⟩
                          refine hK.out _ _ ⟨hHeld.1, hHeld.2.1, hHeld.2.2⟩ (fun hHeld => ?_)
                          clear hK K
                          refine norm_ (a' := ?_) ?_ ?_
                          rotate_left
                          · show Act.put _ (some 26) _ = _
                            simp only [Act.put, List.setIfInBounds_toArray, List.set_cons_zero, List.set_cons_succ, i64_w, i32_w]
                            rfl
                          refine two_ (i := 16) (j := 18) (Ni := some 33) (Nj := some 5) #[true, true, true, true, true, true, true, true, true, true, true, true, true, true, true, true, true, false, false, false] #[true, true, true, true, true, true, true, true, true, true, true, true, true, true, true, true, false, false, true, false] rfl rfl rfl rfl (two_of HT_.out (by kernel_rfl)) (by decide) (by decide) (fun K hK => ?_) (fun K hK => ?_)
                          · skip
                            refine goes_ Tryd.func18 (by kernel_rfl) rfl #[.string (rdOf ByteArray.empty t107 (ji16))] (by rfl) rfl rfl (by (try simp only [List.map_toArray, List.map_cons, List.map_nil]); first | done | (simp only [hji16]; rfl) | rfl | (simp only [List.length_drop, List.length_take]; rfl)) ?_
                            with_reducible refine (spec_Size.calls kj2 (rdOf ByteArray.empty t107 (ji16)) t114 _ A19.out).mono ?_
                            rintro e w' ⟨rfl, ⟨nd, rfl⟩⟩
                            refine ⟨_, rfl, ?_⟩
                            refine hK.out _ _ ⟨hHeld.1, hHeld.2.1, hHeld.2.2⟩ (fun hHeld => ?_)
                            clear hK K
                            refine norm_ (a' := ?_) ?_ ?_
                            rotate_left
                            · show Act.put _ (some 33) _ = _
                              simp only [Act.put, List.setIfInBounds_toArray, List.set_cons_zero, List.set_cons_succ, i64_w, i32_w]
                              rfl
                            refine pure_ (i := 17) (N := some 34) (v := ?_) (a' := ?_) #[true, true, true, true, true, true, true, true, true, true, true, true, true, true, true, true, true, true, false, false] rfl rfl (any_of HT_.out (by kernel_rfl)) (fun _ _ _ h => h) (Or.inl ⟨by rfl, ?_⟩) ?_ ?_
                            rotate_left
                            · intro w'
                              go_simp
                              with_reducible rfl
                            rotate_left
                            · simp only [Act.put, List.setIfInBounds_toArray, List.set_cons_zero, List.set_cons_succ, i64_w, i32_w]
                              rfl
                            refine one_ (i := 18) (N := some 5) #[true, true, true, true, true, true, true, true, true, true, true, true, true, true, true, true, true, true, true, false] rfl rfl (one_of HT_.out (by kernel_rfl)) (by decide) (fun K hK => ?_)
                            refine box_step ?hg (N := 5) ?hd (cs := #[.string (⟨#[]⟩ : ByteArray), .string (⟨#[]⟩ : ByteArray), .int .i64 0, .int .i64 0]) (t := 25) ?hr ?_; (case hd => rfl); (case hg => rfl); (case hr => first | (go_simp; done) | (go_simp; rfl))
                            intro gb115 hg w72 hbox hb
                            have HS0_ := (hb.cell (World.block_lt_of_cell? _ _ (hHeld.1))).trans (hHeld.1)
                            have HS1_ := (hb.cell (World.block_lt_of_cell? _ _ (hHeld.2.1))).trans (hHeld.2.1)
                            have HS2_ := (hb.cell (World.block_lt_of_cell? _ _ (hHeld.2.2))).trans (hHeld.2.2)
                            have n0_ := Aside0.mk (Kd.R_below (by (with_reducible repeat (first | apply Kd.R_alloc | apply Kd.R_drewN | apply Kd.R_drew)); exact HO_4.out) hb)
                            have n1_ := Aside0.mk (blk_below (g := gb106) (o := .cells #[.string (⟨#[]⟩ : ByteArray), .string (⟨#[]⟩ : ByteArray), .int .i64 0, .int .i64 0] 25 (0, 0)) (by (with_reducible repeat (first | refine blk_drewN ?_ _ | refine blk_drew ?_ | refine blk_alloc ?_ _)); exact BK106.out) hb)
                            have n2_ := Aside0.mk (below_step (by repeat (first | (with_reducible first | exact HB.out | apply below_alloc | apply pw_below_drewN | apply below_drew1 | refine below_set ?_ GE106.out) | exact HB.out)) hb)
                            have n3_ := Aside0.mk (hbox)
                            have n4_ := Aside0.mk ((by rw [hg]; exact (below_size (by repeat (first | (with_reducible first | exact HB.out | apply below_alloc | apply pw_below_drewN | apply below_drew1 | refine below_set ?_ GE106.out) | exact HB.out))) : w.heap.size ≤ gb115))
                            have n5_ := Aside0.mk ((by rw [hg]; exact (below_size (by repeat (first | (with_reducible first | exact HB.out | apply below_alloc | apply pw_below_drewN | apply below_drew1 | refine below_set ?_ GE106.out) | exact HB.out))) : w.heap.size ≤ gb115))
                            have n6_ := Aside0.mk ((by rw [hg]; exact Nat.ne_of_lt (blk_lt (g := gb106) (o := .cells #[.string (⟨#[]⟩ : ByteArray), .string (⟨#[]⟩ : ByteArray), .int .i64 0, .int .i64 0] 25 (0, 0)) (by (with_reducible repeat (first | refine blk_drewN ?_ _ | refine blk_drew ?_ | refine blk_alloc ?_ _)); exact BK106.out)) : gb106 ≠ gb115))
                            have n7_ := Aside0.mk ((by rw [hg]; exact Nat.ne_of_gt (blk_lt (g := gb106) (o := .cells #[.string (⟨#[]⟩ : ByteArray), .string (⟨#[]⟩ : ByteArray), .int .i64 0, .int .i64 0] 25 (0, 0)) (by (with_reducible repeat (first | refine blk_drewN ?_ _ | refine blk_drew ?_ | refine blk_alloc ?_ _)); exact BK106.out)) : gb115 ≠ gb106))
                            clear HO_4
                            clear BK106
                            clear HB
                            have HO_4 := n0_
                            have BK106 := n1_
                            have HB := n2_
                            have BK115 := n3_
                            have GW115 := n4_
                            have GE115 := n5_
                            have NB106_115 := n6_
                            have NB115_106 := n7_
                            clear n0_ n1_ n2_ n3_ n4_ n5_ n6_ n7_
                            clear hb hbox hg
                            refine hK.out _ _ ⟨HS0_, HS1_, HS2_⟩ (fun hHeld => ?_)
                            clear hK K
                            refine norm_ (a' := ?_) ?_ ?_
                            rotate_left
                            · show Act.put _ (some 5) _ = _
                              simp only [Act.put, List.setIfInBounds_toArray, List.set_cons_zero, List.set_cons_succ, i64_w, i32_w]
                              rfl
                            exact norm_ (by simp only [putAll, Act.put, List.setIfInBounds_toArray, List.set_cons_zero, List.set_cons_succ]) (hCont (gb115) _ ⟨hHeld, (by (with_reducible repeat (first | apply Kd.R_alloc | apply Kd.R_drewN | apply Kd.R_drew)); exact HO_4.out), (by (with_reducible repeat (first | refine blk_drewN ?_ _ | refine blk_drew ?_ | refine blk_alloc ?_ _)); exact BK106.out), (by (with_reducible repeat (first | refine blk_drewN ?_ _ | refine blk_drew ?_ | refine blk_alloc ?_ _)); exact BK115.out), GW115.out, GE115.out, NB106_115.out, NB115_106.out, (by repeat (first | (with_reducible first | exact HB.out | apply below_alloc | apply pw_below_drewN | apply below_drew1 | refine below_set ?_ GE106.out | refine below_set ?_ GE115.out) | exact HB.out))⟩)
                          · skip
                            refine box_step ?hg (N := 5) ?hd (cs := #[.string (⟨#[]⟩ : ByteArray), .string (⟨#[]⟩ : ByteArray), .int .i64 0, .int .i64 0]) (t := 25) ?hr ?_; (case hd => rfl); (case hg => rfl); (case hr => first | (go_simp; done) | (go_simp; rfl))
                            intro gb115 hg w72 hbox hb
                            have HS0_ := (hb.cell (World.block_lt_of_cell? _ _ (hHeld.1))).trans (hHeld.1)
                            have HS1_ := (hb.cell (World.block_lt_of_cell? _ _ (hHeld.2.1))).trans (hHeld.2.1)
                            have HS2_ := (hb.cell (World.block_lt_of_cell? _ _ (hHeld.2.2))).trans (hHeld.2.2)
                            have n0_ := Aside0.mk (Kd.R_below (by (with_reducible repeat (first | apply Kd.R_alloc | apply Kd.R_drewN | apply Kd.R_drew)); exact HO_4.out) hb)
                            have n1_ := Aside0.mk (blk_below (g := gb106) (o := .cells #[.string (⟨#[]⟩ : ByteArray), .string (⟨#[]⟩ : ByteArray), .int .i64 0, .int .i64 0] 25 (0, 0)) (by (with_reducible repeat (first | refine blk_drewN ?_ _ | refine blk_drew ?_ | refine blk_alloc ?_ _)); exact BK106.out) hb)
                            have n2_ := Aside0.mk (below_step (by repeat (first | (with_reducible first | exact HB.out | apply below_alloc | apply pw_below_drewN | apply below_drew1 | refine below_set ?_ GE106.out) | exact HB.out)) hb)
                            have n3_ := Aside0.mk (hbox)
                            have n4_ := Aside0.mk ((by rw [hg]; exact (below_size (by repeat (first | (with_reducible first | exact HB.out | apply below_alloc | apply pw_below_drewN | apply below_drew1 | refine below_set ?_ GE106.out) | exact HB.out))) : w.heap.size ≤ gb115))
                            have n5_ := Aside0.mk ((by rw [hg]; exact (below_size (by repeat (first | (with_reducible first | exact HB.out | apply below_alloc | apply pw_below_drewN | apply below_drew1 | refine below_set ?_ GE106.out) | exact HB.out))) : w.heap.size ≤ gb115))
                            have n6_ := Aside0.mk ((by rw [hg]; exact Nat.ne_of_lt (blk_lt (g := gb106) (o := .cells #[.string (⟨#[]⟩ : ByteArray), .string (⟨#[]⟩ : ByteArray), .int .i64 0, .int .i64 0] 25 (0, 0)) (by (with_reducible repeat (first | refine blk_drewN ?_ _ | refine blk_drew ?_ | refine blk_alloc ?_ _)); exact BK106.out)) : gb106 ≠ gb115))
                            have n7_ := Aside0.mk ((by rw [hg]; exact Nat.ne_of_gt (blk_lt (g := gb106) (o := .cells #[.string (⟨#[]⟩ : ByteArray), .string (⟨#[]⟩ : ByteArray), .int .i64 0, .int .i64 0] 25 (0, 0)) (by (with_reducible repeat (first | refine blk_drewN ?_ _ | refine blk_drew ?_ | refine blk_alloc ?_ _)); exact BK106.out)) : gb115 ≠ gb106))
                            clear HO_4
                            clear BK106
                            clear HB
                            have HO_4 := n0_
                            have BK106 := n1_
                            have HB := n2_
                            have BK115 := n3_
                            have GW115 := n4_
                            have GE115 := n5_
                            have NB106_115 := n6_
                            have NB115_106 := n7_
                            clear n0_ n1_ n2_ n3_ n4_ n5_ n6_ n7_
                            clear hb hbox hg
                            refine hK.out _ _ ⟨HS0_, HS1_, HS2_⟩ (fun hHeld => ?_)
                            clear hK K
                            refine norm_ (a' := ?_) ?_ ?_
                            rotate_left
                            · show Act.put _ (some 5) _ = _
                              simp only [Act.put, List.setIfInBounds_toArray, List.set_cons_zero, List.set_cons_succ, i64_w, i32_w]
                              rfl
                            refine one_ (i := 16) (N := some 33) #[true, true, true, true, true, true, true, true, true, true, true, true, true, true, true, true, true, false, true, false] rfl rfl (one_of HT_.out (by kernel_rfl)) (by decide) (fun K hK => ?_)
                            refine goes_ Tryd.func18 (by kernel_rfl) rfl #[.string (rdOf ByteArray.empty t107 (ji16))] (by rfl) rfl rfl (by (try simp only [List.map_toArray, List.map_cons, List.map_nil]); first | done | (simp only [hji16]; rfl) | rfl | (simp only [List.length_drop, List.length_take]; rfl)) ?_
                            with_reducible refine (spec_Size.calls kj2 (rdOf ByteArray.empty t107 (ji16)) t114 _ A19.out).mono ?_
                            rintro e w' ⟨rfl, ⟨nd, rfl⟩⟩
                            refine ⟨_, rfl, ?_⟩
                            refine hK.out _ _ ⟨hHeld.1, hHeld.2.1, hHeld.2.2⟩ (fun hHeld => ?_)
                            clear hK K
                            refine norm_ (a' := ?_) ?_ ?_
                            rotate_left
                            · show Act.put _ (some 33) _ = _
                              simp only [Act.put, List.setIfInBounds_toArray, List.set_cons_zero, List.set_cons_succ, i64_w, i32_w]
                              rfl
                            refine pure_ (i := 17) (N := some 34) (v := ?_) (a' := ?_) #[true, true, true, true, true, true, true, true, true, true, true, true, true, true, true, true, true, true, true, false] rfl rfl (any_of HT_.out (by kernel_rfl)) (fun _ _ _ h => h) (Or.inl ⟨by rfl, ?_⟩) ?_ ?_
                            rotate_left
                            · intro w'
                              go_simp
                              with_reducible rfl
                            rotate_left
                            · simp only [Act.put, List.setIfInBounds_toArray, List.set_cons_zero, List.set_cons_succ, i64_w, i32_w]
                              rfl
                            exact norm_ (by simp only [putAll, Act.put, List.setIfInBounds_toArray, List.set_cons_zero, List.set_cons_succ]) (hCont (gb115) _ ⟨hHeld, (by (with_reducible repeat (first | apply Kd.R_alloc | apply Kd.R_drewN | apply Kd.R_drew)); exact HO_4.out), (by (with_reducible repeat (first | refine blk_drewN ?_ _ | refine blk_drew ?_ | refine blk_alloc ?_ _)); exact BK106.out), (by (with_reducible repeat (first | refine blk_drewN ?_ _ | refine blk_drew ?_ | refine blk_alloc ?_ _)); exact BK115.out), GW115.out, GE115.out, NB106_115.out, NB115_106.out, (by repeat (first | (with_reducible first | exact HB.out | apply below_alloc | apply pw_below_drewN | apply below_drew1 | refine below_set ?_ GE106.out | refine below_set ?_ GE115.out) | exact HB.out))⟩)
                        · skip
                          refine box_step ?hg (N := 5) ?hd (cs := #[.string (⟨#[]⟩ : ByteArray), .string (⟨#[]⟩ : ByteArray), .int .i64 0, .int .i64 0]) (t := 25) ?hr ?_; (case hd => rfl); (case hg => rfl); (case hr => first | (go_simp; done) | (go_simp; rfl))
                          intro gb115 hg w72 hbox hb
                          have HS0_ := (hb.cell (World.block_lt_of_cell? _ _ (hHeld.1))).trans (hHeld.1)
                          have HS1_ := (hb.cell (World.block_lt_of_cell? _ _ (hHeld.2.1))).trans (hHeld.2.1)
                          have HS2_ := (hb.cell (World.block_lt_of_cell? _ _ (hHeld.2.2))).trans (hHeld.2.2)
                          have n0_ := Aside0.mk (Kd.R_below (by (with_reducible repeat (first | apply Kd.R_alloc | apply Kd.R_drewN | apply Kd.R_drew)); exact HO_4.out) hb)
                          have n1_ := Aside0.mk (blk_below (g := gb106) (o := .cells #[.string (⟨#[]⟩ : ByteArray), .string (⟨#[]⟩ : ByteArray), .int .i64 0, .int .i64 0] 25 (0, 0)) (by (with_reducible repeat (first | refine blk_drewN ?_ _ | refine blk_drew ?_ | refine blk_alloc ?_ _)); exact BK106.out) hb)
                          have n2_ := Aside0.mk (below_step (by repeat (first | (with_reducible first | exact HB.out | apply below_alloc | apply pw_below_drewN | apply below_drew1 | refine below_set ?_ GE106.out) | exact HB.out)) hb)
                          have n3_ := Aside0.mk (hbox)
                          have n4_ := Aside0.mk ((by rw [hg]; exact (below_size (by repeat (first | (with_reducible first | exact HB.out | apply below_alloc | apply pw_below_drewN | apply below_drew1 | refine below_set ?_ GE106.out) | exact HB.out))) : w.heap.size ≤ gb115))
                          have n5_ := Aside0.mk ((by rw [hg]; exact (below_size (by repeat (first | (with_reducible first | exact HB.out | apply below_alloc | apply pw_below_drewN | apply below_drew1 | refine below_set ?_ GE106.out) | exact HB.out))) : w.heap.size ≤ gb115))
                          have n6_ := Aside0.mk ((by rw [hg]; exact Nat.ne_of_lt (blk_lt (g := gb106) (o := .cells #[.string (⟨#[]⟩ : ByteArray), .string (⟨#[]⟩ : ByteArray), .int .i64 0, .int .i64 0] 25 (0, 0)) (by (with_reducible repeat (first | refine blk_drewN ?_ _ | refine blk_drew ?_ | refine blk_alloc ?_ _)); exact BK106.out)) : gb106 ≠ gb115))
                          have n7_ := Aside0.mk ((by rw [hg]; exact Nat.ne_of_gt (blk_lt (g := gb106) (o := .cells #[.string (⟨#[]⟩ : ByteArray), .string (⟨#[]⟩ : ByteArray), .int .i64 0, .int .i64 0] 25 (0, 0)) (by (with_reducible repeat (first | refine blk_drewN ?_ _ | refine blk_drew ?_ | refine blk_alloc ?_ _)); exact BK106.out)) : gb115 ≠ gb106))
                          clear HO_4
                          clear BK106
                          clear HB
                          have HO_4 := n0_
                          have BK106 := n1_
                          have HB := n2_
                          have BK115 := n3_
                          have GW115 := n4_
                          have GE115 := n5_
                          have NB106_115 := n6_
                          have NB115_106 := n7_
                          clear n0_ n1_ n2_ n3_ n4_ n5_ n6_ n7_
                          clear hb hbox hg
                          refine hK.out _ _ ⟨HS0_, HS1_, HS2_⟩ (fun hHeld => ?_)
                          clear hK K
                          refine norm_ (a' := ?_) ?_ ?_
                          rotate_left
                          · show Act.put _ (some 5) _ = _
                            simp only [Act.put, List.setIfInBounds_toArray, List.set_cons_zero, List.set_cons_succ, i64_w, i32_w]
                            rfl
                          refine one_ (i := 9) (N := some 26) #[true, true, true, true, true, true, true, true, true, true, true, true, true, true, true, true, false, false, true, false] rfl rfl (one_of HT_.out (by kernel_rfl)) (by decide) (fun K hK => ?_)
                          refine goes_ Tryd.func18 (by kernel_rfl) rfl #[.string (rdOf ByteArray.empty t107 (ji12))] (by rfl) rfl rfl (by (try simp only [List.map_toArray, List.map_cons, List.map_nil]); first | done | (simp only [hji12]; rfl) | rfl | (simp only [List.length_drop, List.length_take]; rfl)) ?_
                          with_reducible refine (spec_Size.calls kj2 (rdOf ByteArray.empty t107 (ji12)) t112 _ A15.out).mono ?_
                          rintro e w' ⟨rfl, ⟨nd, rfl⟩⟩
                          refine ⟨_, rfl, ?_⟩
                          refine hK.out _ _ ⟨hHeld.1, hHeld.2.1, hHeld.2.2⟩ (fun hHeld => ?_)
                          clear hK K
                          refine norm_ (a' := ?_) ?_ ?_
                          rotate_left
                          · show Act.put _ (some 26) _ = _
                            simp only [Act.put, List.setIfInBounds_toArray, List.set_cons_zero, List.set_cons_succ, i64_w, i32_w]
                            rfl
                          refine one_ (i := 16) (N := some 33) #[true, true, true, true, true, true, true, true, true, true, true, true, true, true, true, true, true, false, true, false] rfl rfl (one_of HT_.out (by kernel_rfl)) (by decide) (fun K hK => ?_)
                          refine goes_ Tryd.func18 (by kernel_rfl) rfl #[.string (rdOf ByteArray.empty t107 (ji16))] (by rfl) rfl rfl (by (try simp only [List.map_toArray, List.map_cons, List.map_nil]); first | done | (simp only [hji16]; rfl) | rfl | (simp only [List.length_drop, List.length_take]; rfl)) ?_
                          with_reducible refine (spec_Size.calls kj2 (rdOf ByteArray.empty t107 (ji16)) t114 _ A19.out).mono ?_
                          rintro e w' ⟨rfl, ⟨nd, rfl⟩⟩
                          refine ⟨_, rfl, ?_⟩
                          refine hK.out _ _ ⟨hHeld.1, hHeld.2.1, hHeld.2.2⟩ (fun hHeld => ?_)
                          clear hK K
                          refine norm_ (a' := ?_) ?_ ?_
                          rotate_left
                          · show Act.put _ (some 33) _ = _
                            simp only [Act.put, List.setIfInBounds_toArray, List.set_cons_zero, List.set_cons_succ, i64_w, i32_w]
                            rfl
                          refine pure_ (i := 17) (N := some 34) (v := ?_) (a' := ?_) #[true, true, true, true, true, true, true, true, true, true, true, true, true, true, true, true, true, true, true, false] rfl rfl (any_of HT_.out (by kernel_rfl)) (fun _ _ _ h => h) (Or.inl ⟨by rfl, ?_⟩) ?_ ?_
                          rotate_left
                          · intro w'
                            go_simp
                            with_reducible rfl
                          rotate_left
                          · simp only [Act.put, List.setIfInBounds_toArray, List.set_cons_zero, List.set_cons_succ, i64_w, i32_w]
                            rfl
                          exact norm_ (by simp only [putAll, Act.put, List.setIfInBounds_toArray, List.set_cons_zero, List.set_cons_succ]) (hCont (gb115) _ ⟨hHeld, (by (with_reducible repeat (first | apply Kd.R_alloc | apply Kd.R_drewN | apply Kd.R_drew)); exact HO_4.out), (by (with_reducible repeat (first | refine blk_drewN ?_ _ | refine blk_drew ?_ | refine blk_alloc ?_ _)); exact BK106.out), (by (with_reducible repeat (first | refine blk_drewN ?_ _ | refine blk_drew ?_ | refine blk_alloc ?_ _)); exact BK115.out), GW115.out, GE115.out, NB106_115.out, NB115_106.out, (by repeat (first | (with_reducible first | exact HB.out | apply below_alloc | apply pw_below_drewN | apply below_drew1 | refine below_set ?_ GE106.out | refine below_set ?_ GE115.out) | exact HB.out))⟩)
                      rintro gb115 w73 ⟨hS_, h0_, h1_, h2_, h3_, h4_, h5_, h6_, h7_⟩
                      have n0_ : Aside0 (Kd.R Kd.string 9 w73 w.heap.size (fun _ => True) (.slice (some ad110) t107.length co71) t107) := ⟨h0_⟩
                      have n1_ : Aside0 (w73.heap[gb106]? = some (.cells #[.string (⟨#[]⟩ : ByteArray), .string (⟨#[]⟩ : ByteArray), .int .i64 0, .int .i64 0] 25 (0, 0))) := ⟨h1_⟩
                      have n2_ : Aside0 (w73.heap[gb115]? = some (.cells #[.string (⟨#[]⟩ : ByteArray), .string (⟨#[]⟩ : ByteArray), .int .i64 0, .int .i64 0] 25 (0, 0))) := ⟨h2_⟩
                      have n3_ : Aside0 (w.heap.size ≤ gb115) := ⟨h3_⟩
                      have n4_ : Aside0 (w.heap.size ≤ gb115) := ⟨h4_⟩
                      have n5_ : Aside0 (gb106 ≠ gb115) := ⟨h5_⟩
                      have n6_ : Aside0 (gb115 ≠ gb106) := ⟨h6_⟩
                      have n7_ : Aside0 (Below w.heap.size w w73) := ⟨h7_⟩
                      clear HO_4
                      clear BK106
                      clear HB
                      clear h0_ h1_ h2_ h3_ h4_ h5_ h6_ h7_
                      have HO_4 := n0_
                      have BK106 := n1_
                      have BK115 := n2_
                      have GW115 := n3_
                      have GE115 := n4_
                      have NB106_115 := n5_
                      have NB115_106 := n6_
                      have HB := n7_
                      clear n0_ n1_ n2_ n3_ n4_ n5_ n6_ n7_
                      have hHeld : w73.cell? ad110 = some (.string (rdOf ByteArray.empty t107 0)) ∧ w73.cell? (ad110.add ((ji12)).toNat) = some (.string (rdOf ByteArray.empty t107 (ji12))) ∧ w73.cell? (ad110.add ((ji16)).toNat) = some (.string (rdOf ByteArray.empty t107 (ji16))) := hS_
                      refine norm_ (a' := ?_) ?_ ?_
                      rotate_left
                      · simp only [putAll, Act.put, List.setIfInBounds_toArray, List.set_cons_zero, List.set_cons_succ]
                        rfl
                      refine one_ (i := 19) (N := none) #[true, true, true, true, true, true, true, true, true, true, true, true, true, true, true, true, true, true, true, true] rfl rfl (one_of HT_.out (by kernel_rfl)) (by decide) (fun K hK => ?_)
                      have hs74 : w73.cell? ⟨gb115, 0, none⟩ = some (.string (⟨#[]⟩ : ByteArray)) := (blk_cell BK115.out 0).trans rfl
                      have hfs74 := blk_frozen BK115.out 0
                      have hns74_0 := NB106_115.out
                      have hms74_0 := NB115_106.out
                      have hs75 : w73.cell? ⟨gb115, 1, none⟩ = some (.string (⟨#[]⟩ : ByteArray)) := (blk_cell BK115.out 1).trans rfl
                      have hfs75 := blk_frozen BK115.out 1
                      have hns75_0 := NB106_115.out
                      have hms75_0 := NB115_106.out
                      have hs76 : w73.cell? ⟨gb115, 2, none⟩ = some (.int .i64 0) := (blk_cell BK115.out 2).trans rfl
                      have hfs76 := blk_frozen BK115.out 2
                      have hns76_0 := NB106_115.out
                      have hms76_0 := NB115_106.out
                      have hs77 : w73.cell? ⟨gb115, 3, none⟩ = some (.int .i64 0) := (blk_cell BK115.out 3).trans rfl
                      have hfs77 := blk_frozen BK115.out 3
                      have hns77_0 := NB106_115.out
                      have hms77_0 := NB115_106.out
                      refine skip_ (w1 := ?_) (by rfl) rfl ?_ ?_
                      rotate_left
                      · go_simp
                        rfl
                      refine hK.out _ _ ⟨((cell_far (p := ⟨gb115, _, none⟩) (by first | exact Kd.own_blk (Kd.R_ne HO_4.out BK115.out (by decide)) | (rw [add_block]; exact Kd.own_blk (Kd.R_ne HO_4.out BK115.out (by decide))) | (show (Addr.add _ _).block ≠ _; rw [add_block]; exact Kd.own_blk (Kd.R_ne HO_4.out BK115.out (by decide))) | (dsimp only; exact Kd.own_blk (Kd.R_ne HO_4.out BK115.out (by decide)))) _).trans (((cell_far (p := ⟨gb115, _, none⟩) (by first | exact Kd.own_blk (Kd.R_ne HO_4.out BK115.out (by decide)) | (rw [add_block]; exact Kd.own_blk (Kd.R_ne HO_4.out BK115.out (by decide))) | (show (Addr.add _ _).block ≠ _; rw [add_block]; exact Kd.own_blk (Kd.R_ne HO_4.out BK115.out (by decide))) | (dsimp only; exact Kd.own_blk (Kd.R_ne HO_4.out BK115.out (by decide)))) _).trans (((cell_far (p := ⟨gb115, _, none⟩) (by first | exact Kd.own_blk (Kd.R_ne HO_4.out BK115.out (by decide)) | (rw [add_block]; exact Kd.own_blk (Kd.R_ne HO_4.out BK115.out (by decide))) | (show (Addr.add _ _).block ≠ _; rw [add_block]; exact Kd.own_blk (Kd.R_ne HO_4.out BK115.out (by decide))) | (dsimp only; exact Kd.own_blk (Kd.R_ne HO_4.out BK115.out (by decide)))) _).trans (((cell_far (p := ⟨gb115, _, none⟩) (by first | exact Kd.own_blk (Kd.R_ne HO_4.out BK115.out (by decide)) | (rw [add_block]; exact Kd.own_blk (Kd.R_ne HO_4.out BK115.out (by decide))) | (show (Addr.add _ _).block ≠ _; rw [add_block]; exact Kd.own_blk (Kd.R_ne HO_4.out BK115.out (by decide))) | (dsimp only; exact Kd.own_blk (Kd.R_ne HO_4.out BK115.out (by decide)))) _).trans (hHeld.1)))))))), ((cell_far (p := ⟨gb115, _, none⟩) (by first | exact Kd.own_blk (Kd.R_ne HO_4.out BK115.out (by decide)) | (rw [add_block]; exact Kd.own_blk (Kd.R_ne HO_4.out BK115.out (by decide))) | (show (Addr.add _ _).block ≠ _; rw [add_block]; exact Kd.own_blk (Kd.R_ne HO_4.out BK115.out (by decide))) | (dsimp only; exact Kd.own_blk (Kd.R_ne HO_4.out BK115.out (by decide)))) _).trans (((cell_far (p := ⟨gb115, _, none⟩) (by first | exact Kd.own_blk (Kd.R_ne HO_4.out BK115.out (by decide)) | (rw [add_block]; exact Kd.own_blk (Kd.R_ne HO_4.out BK115.out (by decide))) | (show (Addr.add _ _).block ≠ _; rw [add_block]; exact Kd.own_blk (Kd.R_ne HO_4.out BK115.out (by decide))) | (dsimp only; exact Kd.own_blk (Kd.R_ne HO_4.out BK115.out (by decide)))) _).trans (((cell_far (p := ⟨gb115, _, none⟩) (by first | exact Kd.own_blk (Kd.R_ne HO_4.out BK115.out (by decide)) | (rw [add_block]; exact Kd.own_blk (Kd.R_ne HO_4.out BK115.out (by decide))) | (show (Addr.add _ _).block ≠ _; rw [add_block]; exact Kd.own_blk (Kd.R_ne HO_4.out BK115.out (by decide))) | (dsimp only; exact Kd.own_blk (Kd.R_ne HO_4.out BK115.out (by decide)))) _).trans (((cell_far (p := ⟨gb115, _, none⟩) (by first | exact Kd.own_blk (Kd.R_ne HO_4.out BK115.out (by decide)) | (rw [add_block]; exact Kd.own_blk (Kd.R_ne HO_4.out BK115.out (by decide))) | (show (Addr.add _ _).block ≠ _; rw [add_block]; exact Kd.own_blk (Kd.R_ne HO_4.out BK115.out (by decide))) | (dsimp only; exact Kd.own_blk (Kd.R_ne HO_4.out BK115.out (by decide)))) _).trans (hHeld.2.1)))))))), ((cell_far (p := ⟨gb115, _, none⟩) (by first | exact Kd.own_blk (Kd.R_ne HO_4.out BK115.out (by decide)) | (rw [add_block]; exact Kd.own_blk (Kd.R_ne HO_4.out BK115.out (by decide))) | (show (Addr.add _ _).block ≠ _; rw [add_block]; exact Kd.own_blk (Kd.R_ne HO_4.out BK115.out (by decide))) | (dsimp only; exact Kd.own_blk (Kd.R_ne HO_4.out BK115.out (by decide)))) _).trans (((cell_far (p := ⟨gb115, _, none⟩) (by first | exact Kd.own_blk (Kd.R_ne HO_4.out BK115.out (by decide)) | (rw [add_block]; exact Kd.own_blk (Kd.R_ne HO_4.out BK115.out (by decide))) | (show (Addr.add _ _).block ≠ _; rw [add_block]; exact Kd.own_blk (Kd.R_ne HO_4.out BK115.out (by decide))) | (dsimp only; exact Kd.own_blk (Kd.R_ne HO_4.out BK115.out (by decide)))) _).trans (((cell_far (p := ⟨gb115, _, none⟩) (by first | exact Kd.own_blk (Kd.R_ne HO_4.out BK115.out (by decide)) | (rw [add_block]; exact Kd.own_blk (Kd.R_ne HO_4.out BK115.out (by decide))) | (show (Addr.add _ _).block ≠ _; rw [add_block]; exact Kd.own_blk (Kd.R_ne HO_4.out BK115.out (by decide))) | (dsimp only; exact Kd.own_blk (Kd.R_ne HO_4.out BK115.out (by decide)))) _).trans (((cell_far (p := ⟨gb115, _, none⟩) (by first | exact Kd.own_blk (Kd.R_ne HO_4.out BK115.out (by decide)) | (rw [add_block]; exact Kd.own_blk (Kd.R_ne HO_4.out BK115.out (by decide))) | (show (Addr.add _ _).block ≠ _; rw [add_block]; exact Kd.own_blk (Kd.R_ne HO_4.out BK115.out (by decide))) | (dsimp only; exact Kd.own_blk (Kd.R_ne HO_4.out BK115.out (by decide)))) _).trans (hHeld.2.2))))))))⟩ (fun hHeld => ?_)
                      clear hK K
                      refine done_ (done_of HT_.out (by kernel_rfl)) ?_
                      try go_wp2
                      have n0_ : Aside0 (Kd.R Kd.string 9 ((((w73.setCell ⟨gb115, 0, none⟩ (.string (rdOf ByteArray.empty t107 0))).setCell ⟨gb115, 1, none⟩ (.string (⟨#[]⟩ : ByteArray))).setCell ⟨gb115, 2, none⟩ (.int .i64 t112)).setCell ⟨gb115, 3, none⟩ (.int .i64 t114)) w.heap.size (fun _ => True) (.slice (some ad110) t107.length co71) t107) := ⟨by (with_reducible repeat (first | apply Kd.R_alloc | apply Kd.R_drewN | apply Kd.R_drew)); exact Kd.R_mono (Kd.R_far (p := ⟨gb115, 3, none⟩) (Kd.R_far (p := ⟨gb115, 2, none⟩) (Kd.R_far (p := ⟨gb115, 1, none⟩) (Kd.R_far (p := ⟨gb115, 0, none⟩) (Kd.R_types HO_4.out BK115.out (by decide)) (fun _ hk => hk.2) (.string (rdOf ByteArray.empty t107 0))) (fun _ hk => hk.2) (.string (⟨#[]⟩ : ByteArray))) (fun _ hk => hk.2) (.int .i64 t112)) (fun _ hk => hk.2) (.int .i64 t114)) (fun _ hk => trivial)⟩
                      have n1_ : Aside0 (((((w73.setCell ⟨gb115, 0, none⟩ (.string (rdOf ByteArray.empty t107 0))).setCell ⟨gb115, 1, none⟩ (.string (⟨#[]⟩ : ByteArray))).setCell ⟨gb115, 2, none⟩ (.int .i64 t112)).setCell ⟨gb115, 3, none⟩ (.int .i64 t114)).heap[gb106]? = some (.cells #[.string (⟨#[]⟩ : ByteArray), .string (⟨#[]⟩ : ByteArray), .int .i64 0, .int .i64 0] 25 (0, 0))) := ⟨by (with_reducible repeat (first | refine blk_drewN ?_ _ | refine blk_drew ?_ | refine blk_alloc ?_ _)); refine blk_far ?_ NB106_115.out _; (with_reducible repeat (first | refine blk_drewN ?_ _ | refine blk_drew ?_ | refine blk_alloc ?_ _)); refine blk_far ?_ NB106_115.out _; (with_reducible repeat (first | refine blk_drewN ?_ _ | refine blk_drew ?_ | refine blk_alloc ?_ _)); refine blk_far ?_ NB106_115.out _; (with_reducible repeat (first | refine blk_drewN ?_ _ | refine blk_drew ?_ | refine blk_alloc ?_ _)); refine blk_far ?_ NB106_115.out _; (with_reducible repeat (first | refine blk_drewN ?_ _ | refine blk_drew ?_ | refine blk_alloc ?_ _)); exact BK106.out⟩
                      have n2_ : Aside0 (((((w73.setCell ⟨gb115, 0, none⟩ (.string (rdOf ByteArray.empty t107 0))).setCell ⟨gb115, 1, none⟩ (.string (⟨#[]⟩ : ByteArray))).setCell ⟨gb115, 2, none⟩ (.int .i64 t112)).setCell ⟨gb115, 3, none⟩ (.int .i64 t114)).heap[gb115]? = some (.cells #[.string (rdOf ByteArray.empty t107 0), .string (⟨#[]⟩ : ByteArray), .int .i64 t112, .int .i64 t114] 25 (0, 0))) := ⟨by (with_reducible repeat (first | refine blk_drewN ?_ _ | refine blk_drew ?_ | refine blk_alloc ?_ _)); refine blk_put (cs := #[.string (rdOf ByteArray.empty t107 0), .string (⟨#[]⟩ : ByteArray), .int .i64 t112, .int .i64 0]) ?_ 3 _ rfl; (with_reducible repeat (first | refine blk_drewN ?_ _ | refine blk_drew ?_ | refine blk_alloc ?_ _)); refine blk_put (cs := #[.string (rdOf ByteArray.empty t107 0), .string (⟨#[]⟩ : ByteArray), .int .i64 0, .int .i64 0]) ?_ 2 _ rfl; (with_reducible repeat (first | refine blk_drewN ?_ _ | refine blk_drew ?_ | refine blk_alloc ?_ _)); refine blk_put (cs := #[.string (rdOf ByteArray.empty t107 0), .string (⟨#[]⟩ : ByteArray), .int .i64 0, .int .i64 0]) ?_ 1 _ rfl; (with_reducible repeat (first | refine blk_drewN ?_ _ | refine blk_drew ?_ | refine blk_alloc ?_ _)); refine blk_put (cs := #[.string (⟨#[]⟩ : ByteArray), .string (⟨#[]⟩ : ByteArray), .int .i64 0, .int .i64 0]) ?_ 0 _ rfl; (with_reducible repeat (first | refine blk_drewN ?_ _ | refine blk_drew ?_ | refine blk_alloc ?_ _)); exact BK115.out⟩
                      have n3_ : Aside0 (Below w.heap.size w ((((w73.setCell ⟨gb115, 0, none⟩ (.string (rdOf ByteArray.empty t107 0))).setCell ⟨gb115, 1, none⟩ (.string (⟨#[]⟩ : ByteArray))).setCell ⟨gb115, 2, none⟩ (.int .i64 t112)).setCell ⟨gb115, 3, none⟩ (.int .i64 t114))) := ⟨by repeat (first | (with_reducible first | exact HB.out | apply below_alloc | apply pw_below_drewN | apply below_drew1 | refine below_set ?_ GE106.out | refine below_set ?_ GE115.out) | exact HB.out)⟩
                      (try clear HO_4)
                      (try clear BK106)
                      (try clear BK115)
                      (try clear HB)
                      generalize ((((w73.setCell ⟨gb115, 0, none⟩ (.string (rdOf ByteArray.empty t107 0))).setCell ⟨gb115, 1, none⟩ (.string (⟨#[]⟩ : ByteArray))).setCell ⟨gb115, 2, none⟩ (.int .i64 t112)).setCell ⟨gb115, 3, none⟩ (.int .i64 t114)) = w78 at n0_ n1_ n2_ n3_ ⊢
                      have HO_4 := n0_
                      have BK106 := n1_
                      have BK115 := n2_
                      have HB := n3_
                      clear n0_ n1_ n2_ n3_
                      have n0_ := Aside0.mk (Kd.R_drew HO_4.out)
                      have n1_ := Aside0.mk (blk_drew BK106.out)
                      have n2_ := Aside0.mk (blk_drew BK115.out)
                      have n3_ := Aside0.mk (below_drew1 HB.out)
                      clear HO_4
                      clear BK106
                      clear BK115
                      clear HB
                      have HO_4 := n0_
                      have BK106 := n1_
                      have BK115 := n2_
                      have HB := n3_
                      clear n0_ n1_ n2_ n3_
                      refine start_ (n := 13) (S := fun w' => w'.cell? ⟨gb115, 0, none⟩ = some (.string (rdOf ByteArray.empty t107 0)) ∧ w'.cell? ⟨gb115, 1, none⟩ = some (.string (⟨#[]⟩ : ByteArray)) ∧ w'.cell? ⟨gb115, 2, none⟩ = some (.int .i64 t112) ∧ w'.cell? ⟨gb115, 3, none⟩ = some (.int .i64 t114)) (ds := []) #[false, false, false, false, false, false, false, false, false, false, false, false, false] (by kernel_rfl) rfl rfl ⟨(blk_cell BK115.out 0).trans rfl, (blk_cell BK115.out 1).trans rfl, (blk_cell BK115.out 2).trans rfl, (blk_cell BK115.out 3).trans rfl⟩ (fun hHeld => ?_); refine with_tabW spec_ReadHPub.tab7 spec_ReadHPub.bits7 (fun HT_ HW_ => ?_)
                      generalize w78.drew = w79 at HO_4 BK106 BK115 HB hHeld ⊢
                      refine pure_ (i := 1) (N := some 43) (v := ?_) (a' := ?_) #[false, true, false, false, false, false, false, false, false, false, false, false, false] rfl rfl (any_of HT_.out (by kernel_rfl)) (fun _ _ _ h => h) (Or.inl ⟨by rfl, ?_⟩) ?_ ?_
                      rotate_left
                      · intro w'
                        go_simp
                        with_reducible rfl
                      rotate_left
                      · simp only [Act.put, List.setIfInBounds_toArray, List.set_cons_zero, List.set_cons_succ, i64_w, i32_w]
                        rfl
                      refine take_ (i := 0) (N := some 42) (v := ?_) (a' := ?_) #[true, true, false, false, false, false, false, false, false, false, false, false, false] rfl rfl (take_ofW HT_.out HW_.out (by kernel_rfl)) (fun _ _ _ h => h) (Or.inl ⟨by rfl, ?_⟩) hHeld ?_ ?_
                      rotate_left
                      · rintro w' ⟨s0, s1, s2, s3⟩
                        go_simp
                        with_reducible rfl
                      rotate_left
                      · simp only [Act.put, List.setIfInBounds_toArray, List.set_cons_zero, List.set_cons_succ, i64_w, i32_w]
                        rfl
                      refine take_ (i := 2) (N := some 44) (v := ?_) (a' := ?_) #[true, true, true, false, false, false, false, false, false, false, false, false, false] rfl rfl (take_ofW HT_.out HW_.out (by kernel_rfl)) (fun _ _ _ h => h) (Or.inl ⟨by rfl, ?_⟩) hHeld ?_ ?_
                      rotate_left
                      · rintro w' ⟨s0, s1, s2, s3⟩
                        go_simp
                        with_reducible rfl
                      rotate_left
                      · simp only [Act.put, List.setIfInBounds_toArray, List.set_cons_zero, List.set_cons_succ, i64_w, i32_w]
                        rfl
                      refine pure_ (i := 3) (N := some 45) (v := ?_) (a' := ?_) #[true, true, true, true, false, false, false, false, false, false, false, false, false] rfl rfl (any_of HT_.out (by kernel_rfl)) (fun _ _ _ h => h) (Or.inl ⟨by rfl, ?_⟩) ?_ ?_
                      rotate_left
                      · intro w'
                        go_simp
                        with_reducible rfl
                      rotate_left
                      · simp only [Act.put, List.setIfInBounds_toArray, List.set_cons_zero, List.set_cons_succ, i64_w, i32_w]
                        rfl
                      refine pure_ (i := 4) (N := some 46) (v := ?_) (a' := ?_) #[true, true, true, true, true, false, false, false, false, false, false, false, false] rfl rfl (any_of HT_.out (by kernel_rfl)) (fun _ _ _ h => h) (Or.inl ⟨by rfl, ?_⟩) ?_ ?_
                      rotate_left
                      · intro w'
                        go_simp
                        with_reducible rfl
                      rotate_left
                      · simp only [Act.put, List.setIfInBounds_toArray, List.set_cons_zero, List.set_cons_succ, i64_w, i32_w]
                        rfl
                      refine pure_ (i := 5) (N := some 47) (v := undef) (a' := ?_) #[true, true, true, true, true, true, false, false, false, false, false, false, false] rfl rfl (any_of HT_.out (by kernel_rfl)) (fun _ _ _ h => h) (Or.inr ⟨by rfl, rfl⟩) ?_ ?_
                      rotate_left
                      · simp only [Act.put, List.setIfInBounds_toArray, List.set_cons_zero, List.set_cons_succ, i64_w, i32_w]
                        rfl
                      refine pure_ (i := 6) (N := some 48) (v := undef) (a' := ?_) #[true, true, true, true, true, true, true, false, false, false, false, false, false] rfl rfl (any_of HT_.out (by kernel_rfl)) (fun _ _ _ h => h) (Or.inr ⟨by rfl, rfl⟩) ?_ ?_
                      rotate_left
                      · simp only [Act.put, List.setIfInBounds_toArray, List.set_cons_zero, List.set_cons_succ, i64_w, i32_w]
                        rfl
                      refine pure_ (i := 7) (N := some 49) (v := undef) (a' := ?_) #[true, true, true, true, true, true, true, true, false, false, false, false, false] rfl rfl (any_of HT_.out (by kernel_rfl)) (fun _ _ _ h => h) (Or.inr ⟨by rfl, rfl⟩) ?_ ?_
                      rotate_left
                      · simp only [Act.put, List.setIfInBounds_toArray, List.set_cons_zero, List.set_cons_succ, i64_w, i32_w]
                        rfl
                      refine pure_ (i := 8) (N := some 50) (v := undef) (a' := ?_) #[true, true, true, true, true, true, true, true, true, false, false, false, false] rfl rfl (any_of HT_.out (by kernel_rfl)) (fun _ _ _ h => h) (Or.inr ⟨by rfl, rfl⟩) ?_ ?_
                      rotate_left
                      · simp only [Act.put, List.setIfInBounds_toArray, List.set_cons_zero, List.set_cons_succ, i64_w, i32_w]
                        rfl
                      refine pure_ (i := 9) (N := some 51) (v := undef) (a' := ?_) #[true, true, true, true, true, true, true, true, true, true, false, false, false] rfl rfl (any_of HT_.out (by kernel_rfl)) (fun _ _ _ h => h) (Or.inr ⟨by rfl, rfl⟩) ?_ ?_
                      rotate_left
                      · simp only [Act.put, List.setIfInBounds_toArray, List.set_cons_zero, List.set_cons_succ, i64_w, i32_w]
                        rfl
                      refine pure_ (i := 10) (N := some 52) (v := ?_) (a' := ?_) #[true, true, true, true, true, true, true, true, true, true, true, false, false] rfl rfl (any_of HT_.out (by kernel_rfl)) (fun _ _ _ h => h) (Or.inl ⟨by rfl, ?_⟩) ?_ ?_
                      rotate_left
                      · intro w'
                        go_simp
                        with_reducible rfl
                      rotate_left
                      · simp only [Act.put, List.setIfInBounds_toArray, List.set_cons_zero, List.set_cons_succ, i64_w, i32_w]
                        rfl
                      refine one_ (i := 11) (N := none) #[true, true, true, true, true, true, true, true, true, true, true, true, false] rfl rfl (one_of HT_.out (by kernel_rfl)) (by decide) (fun K hK => ?_)
                      have hs80 : w79.cell? ⟨gb106, 0, none⟩ = some (.string (⟨#[]⟩ : ByteArray)) := (blk_cell BK106.out 0).trans rfl
                      have hfs80 := blk_frozen BK106.out 0
                      have hns80_1 := NB115_106.out
                      have hms80_1 := NB106_115.out
                      have hs81 : w79.cell? ⟨gb106, 1, none⟩ = some (.string (⟨#[]⟩ : ByteArray)) := (blk_cell BK106.out 1).trans rfl
                      have hfs81 := blk_frozen BK106.out 1
                      have hns81_1 := NB115_106.out
                      have hms81_1 := NB106_115.out
                      have hs82 : w79.cell? ⟨gb106, 2, none⟩ = some (.int .i64 0) := (blk_cell BK106.out 2).trans rfl
                      have hfs82 := blk_frozen BK106.out 2
                      have hns82_1 := NB115_106.out
                      have hms82_1 := NB106_115.out
                      have hs83 : w79.cell? ⟨gb106, 3, none⟩ = some (.int .i64 0) := (blk_cell BK106.out 3).trans rfl
                      have hfs83 := blk_frozen BK106.out 3
                      have hns83_1 := NB115_106.out
                      have hms83_1 := NB106_115.out
                      refine skip_ (w1 := ?_) (by rfl) rfl ?_ ?_
                      rotate_left
                      · go_simp
                        rfl
                      refine hK.out _ _ ⟨((cell_far (p := ⟨gb106, _, none⟩) NB115_106.out _).trans (((cell_far (p := ⟨gb106, _, none⟩) NB115_106.out _).trans (((cell_far (p := ⟨gb106, _, none⟩) NB115_106.out _).trans (((cell_far (p := ⟨gb106, _, none⟩) NB115_106.out _).trans (hHeld.1)))))))), ((cell_far (p := ⟨gb106, _, none⟩) NB115_106.out _).trans (((cell_far (p := ⟨gb106, _, none⟩) NB115_106.out _).trans (((cell_far (p := ⟨gb106, _, none⟩) NB115_106.out _).trans (((cell_far (p := ⟨gb106, _, none⟩) NB115_106.out _).trans (hHeld.2.1)))))))), ((cell_far (p := ⟨gb106, _, none⟩) NB115_106.out _).trans (((cell_far (p := ⟨gb106, _, none⟩) NB115_106.out _).trans (((cell_far (p := ⟨gb106, _, none⟩) NB115_106.out _).trans (((cell_far (p := ⟨gb106, _, none⟩) NB115_106.out _).trans (hHeld.2.2.1)))))))), ((cell_far (p := ⟨gb106, _, none⟩) NB115_106.out _).trans (((cell_far (p := ⟨gb106, _, none⟩) NB115_106.out _).trans (((cell_far (p := ⟨gb106, _, none⟩) NB115_106.out _).trans (((cell_far (p := ⟨gb106, _, none⟩) NB115_106.out _).trans (hHeld.2.2.2))))))))⟩ (fun hHeld => ?_)
                      clear hK K
                      refine pure_ (i := 12) (N := some 3) (v := ?_) (a' := ?_) #[true, true, true, true, true, true, true, true, true, true, true, true, true] rfl rfl (any_of HT_.out (by kernel_rfl)) (fun _ _ _ h => h) (Or.inl ⟨by rfl, ?_⟩) ?_ ?_
                      rotate_left
                      · intro w'
                        go_simp
                        with_reducible rfl
                      rotate_left
                      · simp only [Act.put, List.setIfInBounds_toArray, List.set_cons_zero, List.set_cons_succ, i64_w, i32_w]
                        rfl
                      refine done_ (done_of HT_.out (by kernel_rfl)) ?_
                      try go_wp2
                      refine bodyPost_ret (results_ct rfl _ _ gb106 25 #[.string (rdOf ByteArray.empty t107 0), .string (⟨#[]⟩ : ByteArray), .int .i64 t112, .int .i64 t114] (0, 0) _ rfl (by (with_reducible repeat (first | refine blk_drewN ?_ _ | refine blk_drew ?_ | refine blk_alloc ?_ _)); refine blk_put (cs := #[.string (rdOf ByteArray.empty t107 0), .string (⟨#[]⟩ : ByteArray), .int .i64 t112, .int .i64 0]) ?_ 3 _ rfl; (with_reducible repeat (first | refine blk_drewN ?_ _ | refine blk_drew ?_ | refine blk_alloc ?_ _)); refine blk_put (cs := #[.string (rdOf ByteArray.empty t107 0), .string (⟨#[]⟩ : ByteArray), .int .i64 0, .int .i64 0]) ?_ 2 _ rfl; (with_reducible repeat (first | refine blk_drewN ?_ _ | refine blk_drew ?_ | refine blk_alloc ?_ _)); refine blk_put (cs := #[.string (rdOf ByteArray.empty t107 0), .string (⟨#[]⟩ : ByteArray), .int .i64 0, .int .i64 0]) ?_ 1 _ rfl; (with_reducible repeat (first | refine blk_drewN ?_ _ | refine blk_drew ?_ | refine blk_alloc ?_ _)); refine blk_put (cs := #[.string (⟨#[]⟩ : ByteArray), .string (⟨#[]⟩ : ByteArray), .int .i64 0, .int .i64 0]) ?_ 0 _ rfl; (with_reducible repeat (first | refine blk_drewN ?_ _ | refine blk_drew ?_ | refine blk_alloc ?_ _)); exact BK106.out) Tryd.underlying25 rfl (by kernel_rfl)) rfl ?_
                      exact ⟨by first | rfl | (simp [errW_none, errW_some] <;> rfl) | (simp only [← hji12, ← hji16]; first | rfl | (simp [errW_none, errW_some] <;> rfl)) | (simp [*, errW_none, errW_some] <;> rfl), by repeat (first | (with_reducible first | exact HB.out | apply below_alloc | apply pw_below_drewN | apply below_drew1 | refine below_set ?_ GE106.out | refine below_set ?_ GE115.out) | exact HB.out)⟩
                · rw [if_neg c18] at H
                  exact absurd H (by simp)
              · rw [if_neg c17] at H
                exact absurd H (by simp)
            · rw [if_neg c14] at H
              exact absurd H (by simp)
          · rw [if_neg c13] at H
            exact absurd H (by simp)
        · rw [if_neg c11] at H
          exact absurd H (by simp)

end Go.Proofs.YtnkioieocjgekaaDoor.GFnHeadPub
