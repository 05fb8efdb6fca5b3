/- A walk of Go functions (plain functions of theirs, and that the machine's calls do what these say), written by a program of this session's. -/
import Derived.Test.YtoopmpjgmgffoaaDoorTpG
namespace Go.Proofs.YtoopmpjgmgffoaaDoor.GFnTransformBack
open Go.RowKit Go.Proofs.YtoopmpjgmgffoaaDoorW.PrintWords Go.Proofs.YtoopmpjgmgffoaaDoorW.PrintLast Go.Proofs.YtoopmpjgmgffoaaDoorW.PrintMore
set_option linter.unusedVariables false
set_option linter.unusedSimpArgs false
mutual
def spec_Mapped.l0 : Nat → List (S42) → List ByteArray → List ByteArray → List ByteArray → Int → Option (ByteArray)
 | 0, _, _, _, _, _ => none
 | k + 1, x1, x7, x8, x9, x10 => if x10 < (x1.length : Int) then (if 0 ≤ x10 then (if ((rd_T42 x1 x10).f0) = 0 then (if x9.length < 8796093022208 then (spec_Mapped.l0 k x1 x7 x8 (x9 ++ [(rd_T42 x1 x10).f1]) (wrap64 (x10 + 1))) else (none)) else (if ((rd_T42 x1 x10).f0) = 11 then (if x9.length + x8.length < 8796093022208 then (spec_Mapped.l0 k x1 x7 x8 (x9 ++ x8) (wrap64 (x10 + 1))) else (none)) else (if ((rd_T42 x1 x10).f0) = 10 then (spec_Mapped.l1 k x1 x7 x8 x9 x10 (⟨#[]⟩ : ByteArray) 0 ((rd_T42 x1 x10).f0) ((rd_T42 x1 x10).f1) ((rd_T42 x1 x10).f2) ((rd_T42 x1 x10).f3) ((rd_T42 x1 x10).f4)) else (if 0 ≤ (wrap64 (((rd_T42 x1 x10).f2) - 1)) then (if (wrap64 (((rd_T42 x1 x10).f2) - 1)) < (x7.length : Int) then ((spec_Piece.f k ((rd_T42 x1 x10).f0) ((rd_T42 x1 x10).f1) ((rd_T42 x1 x10).f2) ((rd_T42 x1 x10).f3) ((rd_T42 x1 x10).f4) (rdOf ByteArray.empty x7 (wrap64 (((rd_T42 x1 x10).f2) - 1)))).bind fun t448 => (if x9.length < 8796093022208 then (spec_Mapped.l0 k x1 x7 x8 (x9 ++ [t448]) (wrap64 (x10 + 1))) else (none))) else (none)) else (none))))) else (none)) else ((spec_Join.f k x9).bind fun t431 => (some t431))
def spec_Mapped.l1 : Nat → List (S42) → List ByteArray → List ByteArray → List ByteArray → Int → ByteArray → Int → Int → ByteArray → Int → Int → List Int → Option (ByteArray)
 | 0, _, _, _, _, _, _, _, _, _, _, _, _ => none
 | k + 1, x1, x7, x8, x9, x10, x12, x13, x434000, x434001, x434002, x434003, x434004 => if x13 < (x434004.length : Int) then (if 0 ≤ x13 then (if 0 ≤ (wrap64 ((rd x434004 x13) - 1)) then (if (wrap64 ((rd x434004 x13) - 1)) < (x7.length : Int) then (if x12.size + (rdOf ByteArray.empty x7 (wrap64 ((rd x434004 x13) - 1))).size ≤ 9223372036854775807 then (spec_Mapped.l1 k x1 x7 x8 x9 x10 (x12 ++ (rdOf ByteArray.empty x7 (wrap64 ((rd x434004 x13) - 1)))) (wrap64 (x13 + 1)) x434000 x434001 x434002 x434003 x434004) else (none)) else (none)) else (none)) else (none)) else ((spec_Fnv.f k x12).bind fun t442 => (if ((x434003) % 4294967296) = 0 then (none) else ((spec_Digits.f k (wrap64 (Int.tmod t442 ((x434003) % 4294967296)))).bind fun t443 => (if x9.length < 8796093022208 then (spec_Mapped.l0 k x1 x7 x8 (x9 ++ [t443]) (wrap64 (x10 + 1))) else (none)))))
end
def spec_Mapped.f (k : Nat) (a0 : ByteArray) (l1 : List (S42)) (a2 : ByteArray) : Option (ByteArray) := (spec_Taken.f k a0 a2).bind fun bt425 => (spec_Mapped.l0 k l1 bt425.1 bt425.2 ([] : List ByteArray) 0)
def spec_Mapped.T8 : Bool × List (List Nat × List Nat) := (true, [([], []), ([], []), ([], []), ([], []), ([3], [3]), ([4], [4]), ([2, 5], [2, 5]), ([6], [6]), ([1, 7], [1, 7]), ([8], [8]), ([0, 9, 8], [0, 9]), ([10, 10, 0, 1, 2, 3, 4, 5, 6, 7, 8, 9, 10], [0, 10])])
def spec_Mapped.B8 : List Nat := [0, 0, 0, 0, 8, 24, 60, 124, 254, 510, 1023, 2047]
theorem spec_Mapped.tab8 : rtab .any (opsOf Tryd.f13 8) = spec_Mapped.T8 := by kernel_rfl
theorem spec_Mapped.bits8 : waitsOk spec_Mapped.T8.2 spec_Mapped.B8 = true := by kernel_rfl
def spec_Mapped.T19 : Bool × List (List Nat × List Nat) := (true, [([], []), ([], []), ([1], [1]), ([], []), ([3], [3]), ([4], [4]), ([2, 5], [2, 5]), ([6], [6]), ([7, 2], [7]), ([8], [8]), ([0, 9, 8], [0, 9]), ([10, 10, 0, 1, 2, 3, 4, 5, 6, 7, 8, 9, 10], [0, 10])])
def spec_Mapped.B19 : List Nat := [0, 0, 2, 0, 8, 24, 62, 126, 254, 510, 1023, 2047]
theorem spec_Mapped.tab19 : rtab .any (opsOf Tryd.f13 19) = spec_Mapped.T19 := by kernel_rfl
theorem spec_Mapped.bits19 : waitsOk spec_Mapped.T19.2 spec_Mapped.B19 = true := by kernel_rfl
set_option maxHeartbeats 8000000 in
set_option maxRecDepth 100000 in
theorem spec_Mapped.calls (k : Nat) (a0 : ByteArray) (A1 : Option Addr) (c1 : Nat) (l1 : List (S42)) (a2 : ByteArray) (r : ByteArray) (w : World) (hr1 : Kd.C k42 w A1 l1.length l1) (hc1 : l1.length ≤ c1) (h : spec_Mapped.f k a0 l1 a2 = some r) :
  Calls Tryd.prog 13 #[.string a0, .slice A1 l1.length c1, .string a2] w fun e w' => e = .returned (.string r) ∧ Below w.heap.size w w' := by
 have hu42 := Tryd.underlying42
 have HR1 := Aside0.mk hr1
 have HC1 := Aside0.mk hc1
 clear hr1 hc1
 have HB := Aside0.mk (Below.refl w.heap.size w)
 have H : ((spec_Taken.f k a0 a2).bind fun bt425 => (spec_Mapped.l0 k l1 bt425.1 bt425.2 ([] : List ByteArray) 0)) = some r := h
 clear h
 replace H := Option.bind_eq_some_iff.mp H
 obtain ⟨⟨t425, t426⟩, A40, H⟩ := H
 replace H : (spec_Mapped.l0 k l1 t425 t426 ([] : List ByteArray) 0) = some r := H
 have A4 := Aside0.mk A40
 clear A40
 have H' := Aside0.mk H
 clear H
 go_enter Tryd.func13, Tryd.ntmps13
 go_wp2_with (first | ((with_reducible refine gate_callee (f := 33) rfl ?_); refine goesL_ (some 17) rfl rfl Tryd.func33 (by kernel_rfl) rfl #[.string a0, .string a2] rfl (by (try simp only [List.map_toArray, List.map_cons, List.map_nil]); first | done | rfl | (simp only [List.length_drop, List.length_take]; rfl)) ?_; (with_reducible refine (spec_Taken.calls k a0 a2 t425 t426 _ A4.out).mono ?_); rintro e w5 ⟨v427, v429, rfl, ho0, ho1, hb⟩; refine ⟨_, rfl, ?_⟩; have n0_ := Aside0.mk (Kd.R_lower ho0 (below_size (by repeat (first | (with_reducible first | exact HB.out | apply below_alloc | apply pw_below_drewN | apply below_drew1) | exact HB.out)))); have n1_ := Aside0.mk (Kd.Q_lower ho1 (below_size (by repeat (first | (with_reducible first | exact HB.out | apply below_alloc | apply pw_below_drewN | apply below_drew1) | exact HB.out)))); have n2_ := Aside0.mk (below_step (by repeat (first | (with_reducible first | exact HB.out | apply below_alloc | apply pw_below_drewN | apply below_drew1) | exact HB.out)) hb); clear HB; have HO428 := n0_; have HO430 := n1_; have HB := n2_; clear n0_ n1_ n2_; (try clear hb); (try clear hb2); (try clear hk); (try clear hi); (try clear ho0); (try clear ho1)))
 go_loopg [9, 10] k (fun kq v9 v10 w' => ∃ (x9_1 : List ByteArray) (x10_1 : Int), v10 = .int .i64 x10_1 ∧ Aside0 (spec_Mapped.l0 kq l1 t425 t426 x9_1 x10_1 = some r) ∧ Aside0 (kq ≤ k) ∧ Aside0 (Kd.R Kd.string 9 w' w.heap.size (fun k_ => some k_ ≠ (v429 : Value).ownBlock ∧ some k_ ≠ (v9 : Value).ownBlock) v427 t425) ∧ Aside0 (Kd.Q Kd.string 9 w' w.heap.size (fun k_ => some k_ ≠ (v427 : Value).ownBlock ∧ some k_ ≠ (v9 : Value).ownBlock) v429 t426) ∧ Aside0 (Kd.R Kd.string 9 w' w.heap.size (fun k_ => some k_ ≠ (v427 : Value).ownBlock ∧ some k_ ≠ (v429 : Value).ownBlock) v9 x9_1) ∧ Aside0 (Below w.heap.size w w'))
 case atStart => exact ⟨(([] : List ByteArray)), (0), (by first | rfl | (simp; done) | (simp [*]; done)), H', ⟨Nat.le_refl _⟩, ⟨by (with_reducible repeat (first | apply Kd.R_alloc | apply Kd.R_drewN | apply Kd.R_drew)); exact Kd.R_mono HO428.out (fun _ hk => ⟨hk, (by simp [Value.ownBlock])⟩)⟩, ⟨by (with_reducible repeat (first | apply Kd.Q_alloc | apply Kd.Q_drewN | apply Kd.Q_drew)); exact Kd.Q_mono HO430.out (fun _ hk => ⟨hk, (by simp [Value.ownBlock])⟩)⟩, ⟨by first | exact Kd.R_nil _ _ _ _ _ | exact Kd.N_nil _ _ _ _ _ | exact Kd.V_nil _ _ _ _ _ | exact Kd.Q_nil _ _ _ _ _ | exact Kd.S_nil _ _ _ _ _⟩, ⟨by repeat (first | (with_reducible first | exact HB.out | apply below_alloc | apply pw_below_drewN | apply below_drew1) | exact HB.out)⟩⟩
 case round =>
  clear H'
  try clear c1
  try clear p2
  try clear c3
  obtain ⟨x9_1, x10_1, rfl, HA, HK1, HO_7, HO_8, HO_9, HB⟩ := hrel
  cases gk with
  | zero => exact absurd HA.out (by simp [spec_Mapped.l0])
  | succ k1 =>
   have H := HA.out
   clear HA
   simp only [spec_Mapped.l0] at H
   by_cases c6 : x10_1 < (l1.length : Int)
   ·
    rw [if_pos c6] at H
    have c6b0 : decide (x10_1 < (l1.length : Int)) = true := decide_eq_true c6
    clear c6
    by_cases c7 : 0 ≤ x10_1
    ·
     rw [if_pos c7] at H
     have c7b0 : decide (0 ≤ x10_1) = true := decide_eq_true c7
     clear c7
     by_cases c8 : ((rd_T42 l1 x10_1).f0) = 0
     ·
      rw [if_pos c8] at H
      have c8b0 : (((rd_T42 l1 x10_1).f0) == 0) = true := beq_iff_eq.mpr c8
      have c8b1 : (((rd_T42 l1 x10_1).f0) != 0) = false := bne_eq_false_iff_eq.mpr c8
      clear c8
      by_cases c9 : x9_1.length < 8796093022208
      ·
       rw [if_pos c9] at H
       have LMc9 := Aside0.mk c9
       clear c9
       obtain ⟨y434, hy434⟩ : ∃ y_ : List ByteArray, y_ = (x9_1 ++ [(rd_T42 l1 x10_1).f1]) := ⟨_, rfl⟩
       replace H : (spec_Mapped.l0 k1 l1 t425 t426 y434 (wrap64 (x10_1 + 1))) = some r := by first | (rw [hy434]; with_reducible exact H) | (have H2_ := (Option.bind_some _ _).symm.trans H; rw [hy434]; with_reducible exact H2_) | (have H2_ := (Option.bind_some _ _).symm.trans H; with_reducible exact H2_) | with_reducible exact H | (rw [hy434]; exact H) | exact H
       have Ny434 := Aside0.mk hy434
       clear hy434
       have H' := Aside0.mk H
       clear H
       have p432 : 0 ≤ (x10_1 : Int) := of_decide_eq_true (by first | (with_reducible assumption) | assumption)
       have q432 : x10_1 < (l1.length : Int) := of_decide_eq_true (by first | (with_reducible assumption) | assumption)
       obtain ⟨ad432, A432_4, c432_4, e432, hx432_0, hx432_1, hx432_2, hx432_3, hx432_4, hl432_4, hi432_4⟩ := at_T42 HR1.out x10_1 p432 q432
       cases e432
       replace hx432_0 := (HB.out.cell (World.block_lt_of_cell? w _ hx432_0)).trans hx432_0
       replace hx432_1 := (HB.out.cell (World.block_lt_of_cell? w _ hx432_1)).trans hx432_1
       replace hx432_2 := (HB.out.cell (World.block_lt_of_cell? w _ hx432_2)).trans hx432_2
       replace hx432_3 := (HB.out.cell (World.block_lt_of_cell? w _ hx432_3)).trans hx432_3
       replace hx432_4 := (HB.out.cell (World.block_lt_of_cell? w _ hx432_4)).trans hx432_4
       have HR432_4 := Aside0.mk hi432_4
       have HC432_4 := Aside0.mk hl432_4
       clear hi432_4 hl432_4
       replace p432 := eq_true p432
       replace q432 := eq_true q432
       go_wp2_with (first | ((with_reducible refine gate_dst (N := 11) rfl ?_); refine box_event ?hg (N := 11) ?hd (cs := #[.int .i64 0, .string (⟨#[]⟩ : ByteArray), .int .i64 0, .int .i64 0, .slice none 0 0]) (t := 42) ?hr ?_; (case hd => rfl); (case hg => rfl); (case hr => first | (go_simp; done) | (go_simp; rfl)); intro gb433 hg w10 hbox hb; have n0_ := Aside0.mk (Kd.R_below (by (with_reducible repeat (first | apply Kd.R_alloc | apply Kd.R_drewN | apply Kd.R_drew)); exact HO_7.out) hb); have n1_ := Aside0.mk (Kd.Q_below (by (with_reducible repeat (first | apply Kd.Q_alloc | apply Kd.Q_drewN | apply Kd.Q_drew)); exact HO_8.out) hb); have n2_ := Aside0.mk (Kd.R_below (by (with_reducible repeat (first | apply Kd.R_alloc | apply Kd.R_drewN | apply Kd.R_drew)); exact HO_9.out) hb); have n3_ := Aside0.mk (below_step (by repeat (first | (with_reducible first | exact HB.out | apply below_alloc | apply pw_below_drewN | apply below_drew1) | exact HB.out)) hb); have n4_ := Aside0.mk (hbox); have n5_ := Aside0.mk ((by rw [hg]; exact (below_size (by repeat (first | (with_reducible first | exact HB.out | apply below_alloc | apply pw_below_drewN | apply below_drew1) | exact HB.out))) : w.heap.size ≤ gb433)); have n6_ := Aside0.mk ((by rw [hg]; exact (below_size (by repeat (first | (with_reducible first | exact HB.out | apply below_alloc | apply pw_below_drewN | apply below_drew1) | exact HB.out))) : w.heap.size ≤ gb433)); clear HO_7; clear HO_8; clear HO_9; clear HB; have HO_7 := n0_; have HO_8 := n1_; have HO_9 := n2_; have HB := n3_; have BK433 := n4_; have GW433 := n5_; have GE433 := n6_; clear n0_ n1_ n2_ n3_ n4_ n5_ n6_; clear hb hbox hg; have hcz11_0 : w10.cell? ⟨gb433, 0, none⟩ = some (.int .i64 0) := (blk_cell BK433.out 0).trans rfl; have hcz11_1 : w10.cell? ⟨gb433, 1, none⟩ = some (.string (⟨#[]⟩ : ByteArray)) := (blk_cell BK433.out 1).trans rfl; have hcz11_2 : w10.cell? ⟨gb433, 2, none⟩ = some (.int .i64 0) := (blk_cell BK433.out 2).trans rfl; have hcz11_3 : w10.cell? ⟨gb433, 3, none⟩ = some (.int .i64 0) := (blk_cell BK433.out 3).trans rfl; have hcz11_4 : w10.cell? ⟨gb433, 4, none⟩ = some (.slice none 0 0) := (blk_cell BK433.out 4).trans rfl; have hfz11_0 := blk_frozen BK433.out 0; have hfz11_1 := blk_frozen BK433.out 1; have hfz11_2 := blk_frozen BK433.out 2; have hfz11_3 := blk_frozen BK433.out 3; have hfz11_4 := blk_frozen BK433.out 4) | ((with_reducible refine gate_builtin (b := .append) (xs := #[.tmp 45, .tmp 48]) rfl ?_); at_builtin; refine Kd.R_append Kd.string (w0 := w) w.heap.size rfl (.tmp 45) (.tmp 48) 30 9 (.string ⟨#[]⟩) 16 rfl Tryd.underlying30 info9 rfl (by decide) (by omega) u9 x9_1 ((rd_T42 l1 x10_1).f1) [.string ((rd_T42 l1 x10_1).f1)] (fun k_ => some k_ ≠ (v427 : Value).ownBlock ∧ some k_ ≠ (v429 : Value).ownBlock) (fun _ => False) rfl (by first | (go_simp; done) | (go_simp; rfl)) ?aP (fun _ hk => hk.elim) ?aF ?aO ?aB ?aS ?aL ?_; (case aP => exact rfl); (case aB => exact (by repeat (first | (with_reducible first | exact HB.out | apply below_alloc | apply pw_below_drewN | apply below_drew1 | refine below_set ?_ GE433.out) | exact HB.out))); (case aF => exact (fun k_ hk => ⟨Kd.fresh' (Kd.R_lt (by (with_reducible repeat (first | apply Kd.R_alloc | apply Kd.R_drewN | apply Kd.R_drew)); exact (Kd.R_mono (Kd.R_far (p := ⟨gb433, 4, none⟩) (Kd.R_far (p := ⟨gb433, 3, none⟩) (Kd.R_far (p := ⟨gb433, 2, none⟩) (Kd.R_far (p := ⟨gb433, 1, none⟩) (Kd.R_far (p := ⟨gb433, 0, none⟩) (Kd.R_types HO_7.out BK433.out (by decide)) (fun _ hk => hk.2) (.int .i64 ((rd_T42 l1 x10_1).f0))) (fun _ hk => hk.2) (.string ((rd_T42 l1 x10_1).f1))) (fun _ hk => hk.2) (.int .i64 ((rd_T42 l1 x10_1).f2))) (fun _ hk => hk.2) (.int .i64 ((rd_T42 l1 x10_1).f3))) (fun _ hk => hk.2) (.slice A432_4 ((rd_T42 l1 x10_1).f4).length c432_4)) (fun _ h_ => h_.1)))) k_ hk, Kd.fresh' (Kd.Q_lt (by (with_reducible repeat (first | apply Kd.Q_alloc | apply Kd.Q_drewN | apply Kd.Q_drew)); exact (Kd.Q_mono (Kd.Q_far (p := ⟨gb433, 4, none⟩) (Kd.Q_far (p := ⟨gb433, 3, none⟩) (Kd.Q_far (p := ⟨gb433, 2, none⟩) (Kd.Q_far (p := ⟨gb433, 1, none⟩) (Kd.Q_far (p := ⟨gb433, 0, none⟩) (Kd.Q_types HO_8.out BK433.out (by decide)) (fun _ hk => hk.2) (.int .i64 ((rd_T42 l1 x10_1).f0))) (fun _ hk => hk.2) (.string ((rd_T42 l1 x10_1).f1))) (fun _ hk => hk.2) (.int .i64 ((rd_T42 l1 x10_1).f2))) (fun _ hk => hk.2) (.int .i64 ((rd_T42 l1 x10_1).f3))) (fun _ hk => hk.2) (.slice A432_4 ((rd_T42 l1 x10_1).f4).length c432_4)) (fun _ h_ => h_.1)))) k_ hk⟩)); (case aO => exact (by (with_reducible repeat (first | apply Kd.R_alloc | apply Kd.R_drewN | apply Kd.R_drew)); exact Kd.R_mono (Kd.R_far (p := ⟨gb433, 4, none⟩) (Kd.R_far (p := ⟨gb433, 3, none⟩) (Kd.R_far (p := ⟨gb433, 2, none⟩) (Kd.R_far (p := ⟨gb433, 1, none⟩) (Kd.R_far (p := ⟨gb433, 0, none⟩) (Kd.R_types HO_9.out BK433.out (by decide)) (fun _ hk => hk.2) (.int .i64 ((rd_T42 l1 x10_1).f0))) (fun _ hk => hk.2) (.string ((rd_T42 l1 x10_1).f1))) (fun _ hk => hk.2) (.int .i64 ((rd_T42 l1 x10_1).f2))) (fun _ hk => hk.2) (.int .i64 ((rd_T42 l1 x10_1).f3))) (fun _ hk => hk.2) (.slice A432_4 ((rd_T42 l1 x10_1).f4).length c432_4)) (fun _ hk => ⟨hk.1.1, hk.1.2⟩))); (case aS => exact (below_size (by repeat (first | (with_reducible first | exact HB.out | apply below_alloc | apply pw_below_drewN | apply below_drew1 | refine below_set ?_ GE433.out) | exact HB.out)))); (case aL => have := LMc9.out; omega); intro v435 w12 ho hb hg hat; rw [← Ny434.out] at ho; have n0_ := Aside0.mk (Kd.R_after (ok := (fun k_ => some k_ ≠ (v429 : Value).ownBlock)) (by (with_reducible repeat (first | apply Kd.R_alloc | apply Kd.R_drewN | apply Kd.R_drew)); exact Kd.R_mono (Kd.R_far (p := ⟨gb433, 4, none⟩) (Kd.R_far (p := ⟨gb433, 3, none⟩) (Kd.R_far (p := ⟨gb433, 2, none⟩) (Kd.R_far (p := ⟨gb433, 1, none⟩) (Kd.R_far (p := ⟨gb433, 0, none⟩) (Kd.R_types HO_7.out BK433.out (by decide)) (fun _ hk => hk.2) (.int .i64 ((rd_T42 l1 x10_1).f0))) (fun _ hk => hk.2) (.string ((rd_T42 l1 x10_1).f1))) (fun _ hk => hk.2) (.int .i64 ((rd_T42 l1 x10_1).f2))) (fun _ hk => hk.2) (.int .i64 ((rd_T42 l1 x10_1).f3))) (fun _ hk => hk.2) (.slice A432_4 ((rd_T42 l1 x10_1).f4).length c432_4)) (fun _ hk => ⟨hk.1.1, hk.1.2⟩)) hg hat); have n1_ := Aside0.mk (Kd.Q_after (ok := (fun k_ => some k_ ≠ (v427 : Value).ownBlock)) (by (with_reducible repeat (first | apply Kd.Q_alloc | apply Kd.Q_drewN | apply Kd.Q_drew)); exact Kd.Q_mono (Kd.Q_far (p := ⟨gb433, 4, none⟩) (Kd.Q_far (p := ⟨gb433, 3, none⟩) (Kd.Q_far (p := ⟨gb433, 2, none⟩) (Kd.Q_far (p := ⟨gb433, 1, none⟩) (Kd.Q_far (p := ⟨gb433, 0, none⟩) (Kd.Q_types HO_8.out BK433.out (by decide)) (fun _ hk => hk.2) (.int .i64 ((rd_T42 l1 x10_1).f0))) (fun _ hk => hk.2) (.string ((rd_T42 l1 x10_1).f1))) (fun _ hk => hk.2) (.int .i64 ((rd_T42 l1 x10_1).f2))) (fun _ hk => hk.2) (.int .i64 ((rd_T42 l1 x10_1).f3))) (fun _ hk => hk.2) (.slice A432_4 ((rd_T42 l1 x10_1).f4).length c432_4)) (fun _ hk => ⟨hk.1.1, hk.1.2⟩)) hg hat); have n2_ := Aside0.mk (blk_grown (g := gb433) (o := .cells #[.int .i64 ((rd_T42 l1 x10_1).f0), .string ((rd_T42 l1 x10_1).f1), .int .i64 ((rd_T42 l1 x10_1).f2), .int .i64 ((rd_T42 l1 x10_1).f3), .slice A432_4 ((rd_T42 l1 x10_1).f4).length c432_4] 42 (0, 0)) (by (with_reducible repeat (first | refine blk_drewN ?_ _ | refine blk_drew ?_ | refine blk_alloc ?_ _)); refine blk_put (cs := #[.int .i64 ((rd_T42 l1 x10_1).f0), .string ((rd_T42 l1 x10_1).f1), .int .i64 ((rd_T42 l1 x10_1).f2), .int .i64 ((rd_T42 l1 x10_1).f3), .slice none 0 0]) ?_ 4 _ rfl; (with_reducible repeat (first | refine blk_drewN ?_ _ | refine blk_drew ?_ | refine blk_alloc ?_ _)); refine blk_put (cs := #[.int .i64 ((rd_T42 l1 x10_1).f0), .string ((rd_T42 l1 x10_1).f1), .int .i64 ((rd_T42 l1 x10_1).f2), .int .i64 0, .slice none 0 0]) ?_ 3 _ rfl; (with_reducible repeat (first | refine blk_drewN ?_ _ | refine blk_drew ?_ | refine blk_alloc ?_ _)); refine blk_put (cs := #[.int .i64 ((rd_T42 l1 x10_1).f0), .string ((rd_T42 l1 x10_1).f1), .int .i64 0, .int .i64 0, .slice none 0 0]) ?_ 2 _ rfl; (with_reducible repeat (first | refine blk_drewN ?_ _ | refine blk_drew ?_ | refine blk_alloc ?_ _)); refine blk_put (cs := #[.int .i64 ((rd_T42 l1 x10_1).f0), .string (⟨#[]⟩ : ByteArray), .int .i64 0, .int .i64 0, .slice none 0 0]) ?_ 1 _ rfl; (with_reducible repeat (first | refine blk_drewN ?_ _ | refine blk_drew ?_ | refine blk_alloc ?_ _)); refine blk_put (cs := #[.int .i64 0, .string (⟨#[]⟩ : ByteArray), .int .i64 0, .int .i64 0, .slice none 0 0]) ?_ 0 _ rfl; (with_reducible repeat (first | refine blk_drewN ?_ _ | refine blk_drew ?_ | refine blk_alloc ?_ _)); exact BK433.out) hg (Kd.R_ne HO_9.out BK433.out (by decide))); have n3_ := Aside0.mk (hb); have n4_ := Aside0.mk (ho); clear HO_7; clear HO_8; clear BK433; clear HB; clear HO_9; have HO_7 := n0_; have HO_8 := n1_; have BK433 := n2_; have HB := n3_; have HO436 := n4_; clear n0_ n1_ n2_ n3_ n4_; clear ho hb hg hat))
       go_roundg k1
       case measure => have := HK1.out; omega
       case rel => exact ⟨(y434), (wrap64 (x10_1 + 1)), (by first | rfl | (simp; done) | (simp [*]; done)), H', ⟨by have := HK1.out; omega⟩, ⟨by (with_reducible repeat (first | apply Kd.R_alloc | apply Kd.R_drewN | apply Kd.R_drew)); exact HO_7.out⟩, ⟨by (with_reducible repeat (first | apply Kd.Q_alloc | apply Kd.Q_drewN | apply Kd.Q_drew)); exact HO_8.out⟩, ⟨by (with_reducible repeat (first | apply Kd.R_alloc | apply Kd.R_drewN | apply Kd.R_drew)); exact HO436.out⟩, ⟨by repeat (first | (with_reducible first | exact HB.out | apply below_alloc | apply pw_below_drewN | apply below_drew1 | refine below_set ?_ GE433.out) | exact HB.out)⟩⟩
      rw [if_neg c9] at H
      exact absurd H (by simp)
     rw [if_neg c8] at H
     have c8b0 : (((rd_T42 l1 x10_1).f0) == 0) = false := beq_eq_false_iff_ne.mpr c8
     have c8b1 : (((rd_T42 l1 x10_1).f0) != 0) = true := bne_iff_ne.mpr c8
     by_cases c13 : ((rd_T42 l1 x10_1).f0) = 11
     ·
      rw [if_pos c13] at H
      have c13b0 : (((rd_T42 l1 x10_1).f0) == 11) = true := beq_iff_eq.mpr c13
      have c13b1 : (((rd_T42 l1 x10_1).f0) != 11) = false := bne_eq_false_iff_eq.mpr c13
      clear c13
      by_cases c14 : x9_1.length + t426.length < 8796093022208
      ·
       rw [if_pos c14] at H
       have LMc14 := Aside0.mk c14
       clear c14
       obtain ⟨y437, hy437⟩ : ∃ y_ : List ByteArray, y_ = (x9_1 ++ t426) := ⟨_, rfl⟩
       replace H : (spec_Mapped.l0 k1 l1 t425 t426 y437 (wrap64 (x10_1 + 1))) = some r := by first | (rw [hy437]; with_reducible exact H) | (have H2_ := (Option.bind_some _ _).symm.trans H; rw [hy437]; with_reducible exact H2_) | (have H2_ := (Option.bind_some _ _).symm.trans H; with_reducible exact H2_) | with_reducible exact H | (rw [hy437]; exact H) | exact H
       have Ny437 := Aside0.mk hy437
       clear hy437
       have H' := Aside0.mk H
       clear H
       have p432 : 0 ≤ (x10_1 : Int) := of_decide_eq_true (by first | (with_reducible assumption) | assumption)
       have q432 : x10_1 < (l1.length : Int) := of_decide_eq_true (by first | (with_reducible assumption) | assumption)
       obtain ⟨ad432, A432_4, c432_4, e432, hx432_0, hx432_1, hx432_2, hx432_3, hx432_4, hl432_4, hi432_4⟩ := at_T42 HR1.out x10_1 p432 q432
       cases e432
       replace hx432_0 := (HB.out.cell (World.block_lt_of_cell? w _ hx432_0)).trans hx432_0
       replace hx432_1 := (HB.out.cell (World.block_lt_of_cell? w _ hx432_1)).trans hx432_1
       replace hx432_2 := (HB.out.cell (World.block_lt_of_cell? w _ hx432_2)).trans hx432_2
       replace hx432_3 := (HB.out.cell (World.block_lt_of_cell? w _ hx432_3)).trans hx432_3
       replace hx432_4 := (HB.out.cell (World.block_lt_of_cell? w _ hx432_4)).trans hx432_4
       have HR432_4 := Aside0.mk hi432_4
       have HC432_4 := Aside0.mk hl432_4
       clear hi432_4 hl432_4
       replace p432 := eq_true p432
       replace q432 := eq_true q432
       go_wp2_with (first | ((with_reducible refine gate_dst (N := 11) rfl ?_); refine box_event ?hg (N := 11) ?hd (cs := #[.int .i64 0, .string (⟨#[]⟩ : ByteArray), .int .i64 0, .int .i64 0, .slice none 0 0]) (t := 42) ?hr ?_; (case hd => rfl); (case hg => rfl); (case hr => first | (go_simp; done) | (go_simp; rfl)); intro gb433 hg w15 hbox hb; have n0_ := Aside0.mk (Kd.R_below (by (with_reducible repeat (first | apply Kd.R_alloc | apply Kd.R_drewN | apply Kd.R_drew)); exact HO_7.out) hb); have n1_ := Aside0.mk (Kd.Q_below (by (with_reducible repeat (first | apply Kd.Q_alloc | apply Kd.Q_drewN | apply Kd.Q_drew)); exact HO_8.out) hb); have n2_ := Aside0.mk (Kd.R_below (by (with_reducible repeat (first | apply Kd.R_alloc | apply Kd.R_drewN | apply Kd.R_drew)); exact HO_9.out) hb); have n3_ := Aside0.mk (below_step (by repeat (first | (with_reducible first | exact HB.out | apply below_alloc | apply pw_below_drewN | apply below_drew1) | exact HB.out)) hb); have n4_ := Aside0.mk (hbox); have n5_ := Aside0.mk ((by rw [hg]; exact (below_size (by repeat (first | (with_reducible first | exact HB.out | apply below_alloc | apply pw_below_drewN | apply below_drew1) | exact HB.out))) : w.heap.size ≤ gb433)); have n6_ := Aside0.mk ((by rw [hg]; exact (below_size (by repeat (first | (with_reducible first | exact HB.out | apply below_alloc | apply pw_below_drewN | apply below_drew1) | exact HB.out))) : w.heap.size ≤ gb433)); clear HO_7; clear HO_8; clear HO_9; clear HB; have HO_7 := n0_; have HO_8 := n1_; have HO_9 := n2_; have HB := n3_; have BK433 := n4_; have GW433 := n5_; have GE433 := n6_; clear n0_ n1_ n2_ n3_ n4_ n5_ n6_; clear hb hbox hg; have hcz16_0 : w15.cell? ⟨gb433, 0, none⟩ = some (.int .i64 0) := (blk_cell BK433.out 0).trans rfl; have hcz16_1 : w15.cell? ⟨gb433, 1, none⟩ = some (.string (⟨#[]⟩ : ByteArray)) := (blk_cell BK433.out 1).trans rfl; have hcz16_2 : w15.cell? ⟨gb433, 2, none⟩ = some (.int .i64 0) := (blk_cell BK433.out 2).trans rfl; have hcz16_3 : w15.cell? ⟨gb433, 3, none⟩ = some (.int .i64 0) := (blk_cell BK433.out 3).trans rfl; have hcz16_4 : w15.cell? ⟨gb433, 4, none⟩ = some (.slice none 0 0) := (blk_cell BK433.out 4).trans rfl; have hfz16_0 := blk_frozen BK433.out 0; have hfz16_1 := blk_frozen BK433.out 1; have hfz16_2 := blk_frozen BK433.out 2; have hfz16_3 := blk_frozen BK433.out 3; have hfz16_4 := blk_frozen BK433.out 4; obtain ⟨Ao18, co18, eo18, _⟩ := Kd.Q_slice HO_8.out; subst eo18) | ((with_reducible refine gate_builtin (b := .append) (xs := #[.tmp 52, .tmp 53]) rfl ?_); at_builtin; refine Kd.R_append_rows Kd.string (w0 := w) w.heap.size rfl (.tmp 52) (.tmp 53) 30 9 (.string ⟨#[]⟩) 16 rfl Tryd.underlying30 info9 rfl (by decide) (by omega) u9 x9_1 t426 _ _ _ (fun k_ => some k_ ≠ (v427 : Value).ownBlock ∧ some k_ ≠ (.slice Ao18 t426.length co18 : Value).ownBlock) (fun _ => False) rfl rfl ?aO ?aR (fun _ _ h => h) (fun _ h => h.elim) ?aF ?aB ?aS ?aL ?_; (case aR => refine (Kd.Q_reads' (e := 9) (base := w.heap.size) (ok := fun k_ => (some k_ ≠ (v427 : Value).ownBlock ∧ some k_ ≠ (u9 : Value).ownBlock)) (n := t426.length) (c := co18) ?_).2.2; exact (by (with_reducible repeat (first | apply Kd.Q_alloc | apply Kd.Q_drewN | apply Kd.Q_drew)); exact (Kd.Q_mono (Kd.Q_far (p := ⟨gb433, 4, none⟩) (Kd.Q_far (p := ⟨gb433, 3, none⟩) (Kd.Q_far (p := ⟨gb433, 2, none⟩) (Kd.Q_far (p := ⟨gb433, 1, none⟩) (Kd.Q_far (p := ⟨gb433, 0, none⟩) (Kd.Q_types HO_8.out BK433.out (by decide)) (fun _ hk => hk.2) (.int .i64 ((rd_T42 l1 x10_1).f0))) (fun _ hk => hk.2) (.string ((rd_T42 l1 x10_1).f1))) (fun _ hk => hk.2) (.int .i64 ((rd_T42 l1 x10_1).f2))) (fun _ hk => hk.2) (.int .i64 ((rd_T42 l1 x10_1).f3))) (fun _ hk => hk.2) (.slice A432_4 ((rd_T42 l1 x10_1).f4).length c432_4)) (fun _ h_ => h_.1)))); (case aB => exact (by repeat (first | (with_reducible first | exact HB.out | apply below_alloc | apply pw_below_drewN | apply below_drew1 | refine below_set ?_ GE433.out) | exact HB.out))); (case aF => exact (fun k_ hk => ⟨Kd.fresh' (Kd.R_lt (by (with_reducible repeat (first | apply Kd.R_alloc | apply Kd.R_drewN | apply Kd.R_drew)); exact (Kd.R_mono (Kd.R_far (p := ⟨gb433, 4, none⟩) (Kd.R_far (p := ⟨gb433, 3, none⟩) (Kd.R_far (p := ⟨gb433, 2, none⟩) (Kd.R_far (p := ⟨gb433, 1, none⟩) (Kd.R_far (p := ⟨gb433, 0, none⟩) (Kd.R_types HO_7.out BK433.out (by decide)) (fun _ hk => hk.2) (.int .i64 ((rd_T42 l1 x10_1).f0))) (fun _ hk => hk.2) (.string ((rd_T42 l1 x10_1).f1))) (fun _ hk => hk.2) (.int .i64 ((rd_T42 l1 x10_1).f2))) (fun _ hk => hk.2) (.int .i64 ((rd_T42 l1 x10_1).f3))) (fun _ hk => hk.2) (.slice A432_4 ((rd_T42 l1 x10_1).f4).length c432_4)) (fun _ h_ => h_.1)))) k_ hk, Kd.fresh' (Kd.Q_lt (by (with_reducible repeat (first | apply Kd.Q_alloc | apply Kd.Q_drewN | apply Kd.Q_drew)); exact (Kd.Q_mono (Kd.Q_far (p := ⟨gb433, 4, none⟩) (Kd.Q_far (p := ⟨gb433, 3, none⟩) (Kd.Q_far (p := ⟨gb433, 2, none⟩) (Kd.Q_far (p := ⟨gb433, 1, none⟩) (Kd.Q_far (p := ⟨gb433, 0, none⟩) (Kd.Q_types HO_8.out BK433.out (by decide)) (fun _ hk => hk.2) (.int .i64 ((rd_T42 l1 x10_1).f0))) (fun _ hk => hk.2) (.string ((rd_T42 l1 x10_1).f1))) (fun _ hk => hk.2) (.int .i64 ((rd_T42 l1 x10_1).f2))) (fun _ hk => hk.2) (.int .i64 ((rd_T42 l1 x10_1).f3))) (fun _ hk => hk.2) (.slice A432_4 ((rd_T42 l1 x10_1).f4).length c432_4)) (fun _ h_ => h_.1)))) k_ hk⟩)); (case aO => exact (by (with_reducible repeat (first | apply Kd.R_alloc | apply Kd.R_drewN | apply Kd.R_drew)); exact Kd.R_mono (Kd.R_far (p := ⟨gb433, 4, none⟩) (Kd.R_far (p := ⟨gb433, 3, none⟩) (Kd.R_far (p := ⟨gb433, 2, none⟩) (Kd.R_far (p := ⟨gb433, 1, none⟩) (Kd.R_far (p := ⟨gb433, 0, none⟩) (Kd.R_types HO_9.out BK433.out (by decide)) (fun _ hk => hk.2) (.int .i64 ((rd_T42 l1 x10_1).f0))) (fun _ hk => hk.2) (.string ((rd_T42 l1 x10_1).f1))) (fun _ hk => hk.2) (.int .i64 ((rd_T42 l1 x10_1).f2))) (fun _ hk => hk.2) (.int .i64 ((rd_T42 l1 x10_1).f3))) (fun _ hk => hk.2) (.slice A432_4 ((rd_T42 l1 x10_1).f4).length c432_4)) (fun _ hk => ⟨hk.1.1, hk.1.2⟩))); (case aS => exact (below_size (by repeat (first | (with_reducible first | exact HB.out | apply below_alloc | apply pw_below_drewN | apply below_drew1 | refine below_set ?_ GE433.out) | exact HB.out)))); (case aL => have := LMc14.out; omega); intro v438 w17 ho hb hg hat; rw [← Ny437.out] at ho; have n0_ := Aside0.mk (Kd.R_after (ok := (fun k_ => some k_ ≠ (.slice Ao18 t426.length co18 : Value).ownBlock)) (by (with_reducible repeat (first | apply Kd.R_alloc | apply Kd.R_drewN | apply Kd.R_drew)); exact Kd.R_mono (Kd.R_far (p := ⟨gb433, 4, none⟩) (Kd.R_far (p := ⟨gb433, 3, none⟩) (Kd.R_far (p := ⟨gb433, 2, none⟩) (Kd.R_far (p := ⟨gb433, 1, none⟩) (Kd.R_far (p := ⟨gb433, 0, none⟩) (Kd.R_types HO_7.out BK433.out (by decide)) (fun _ hk => hk.2) (.int .i64 ((rd_T42 l1 x10_1).f0))) (fun _ hk => hk.2) (.string ((rd_T42 l1 x10_1).f1))) (fun _ hk => hk.2) (.int .i64 ((rd_T42 l1 x10_1).f2))) (fun _ hk => hk.2) (.int .i64 ((rd_T42 l1 x10_1).f3))) (fun _ hk => hk.2) (.slice A432_4 ((rd_T42 l1 x10_1).f4).length c432_4)) (fun _ hk => ⟨hk.1.1, hk.1.2⟩)) hg hat); have n1_ := Aside0.mk (Kd.Q_after (ok := (fun k_ => some k_ ≠ (v427 : Value).ownBlock)) (by (with_reducible repeat (first | apply Kd.Q_alloc | apply Kd.Q_drewN | apply Kd.Q_drew)); exact Kd.Q_mono (Kd.Q_far (p := ⟨gb433, 4, none⟩) (Kd.Q_far (p := ⟨gb433, 3, none⟩) (Kd.Q_far (p := ⟨gb433, 2, none⟩) (Kd.Q_far (p := ⟨gb433, 1, none⟩) (Kd.Q_far (p := ⟨gb433, 0, none⟩) (Kd.Q_types HO_8.out BK433.out (by decide)) (fun _ hk => hk.2) (.int .i64 ((rd_T42 l1 x10_1).f0))) (fun _ hk => hk.2) (.string ((rd_T42 l1 x10_1).f1))) (fun _ hk => hk.2) (.int .i64 ((rd_T42 l1 x10_1).f2))) (fun _ hk => hk.2) (.int .i64 ((rd_T42 l1 x10_1).f3))) (fun _ hk => hk.2) (.slice A432_4 ((rd_T42 l1 x10_1).f4).length c432_4)) (fun _ hk => ⟨hk.1.1, hk.1.2⟩)) hg hat); have n2_ := Aside0.mk (blk_grown (g := gb433) (o := .cells #[.int .i64 ((rd_T42 l1 x10_1).f0), .string ((rd_T42 l1 x10_1).f1), .int .i64 ((rd_T42 l1 x10_1).f2), .int .i64 ((rd_T42 l1 x10_1).f3), .slice A432_4 ((rd_T42 l1 x10_1).f4).length c432_4] 42 (0, 0)) (by (with_reducible repeat (first | refine blk_drewN ?_ _ | refine blk_drew ?_ | refine blk_alloc ?_ _)); refine blk_put (cs := #[.int .i64 ((rd_T42 l1 x10_1).f0), .string ((rd_T42 l1 x10_1).f1), .int .i64 ((rd_T42 l1 x10_1).f2), .int .i64 ((rd_T42 l1 x10_1).f3), .slice none 0 0]) ?_ 4 _ rfl; (with_reducible repeat (first | refine blk_drewN ?_ _ | refine blk_drew ?_ | refine blk_alloc ?_ _)); refine blk_put (cs := #[.int .i64 ((rd_T42 l1 x10_1).f0), .string ((rd_T42 l1 x10_1).f1), .int .i64 ((rd_T42 l1 x10_1).f2), .int .i64 0, .slice none 0 0]) ?_ 3 _ rfl; (with_reducible repeat (first | refine blk_drewN ?_ _ | refine blk_drew ?_ | refine blk_alloc ?_ _)); refine blk_put (cs := #[.int .i64 ((rd_T42 l1 x10_1).f0), .string ((rd_T42 l1 x10_1).f1), .int .i64 0, .int .i64 0, .slice none 0 0]) ?_ 2 _ rfl; (with_reducible repeat (first | refine blk_drewN ?_ _ | refine blk_drew ?_ | refine blk_alloc ?_ _)); refine blk_put (cs := #[.int .i64 ((rd_T42 l1 x10_1).f0), .string (⟨#[]⟩ : ByteArray), .int .i64 0, .int .i64 0, .slice none 0 0]) ?_ 1 _ rfl; (with_reducible repeat (first | refine blk_drewN ?_ _ | refine blk_drew ?_ | refine blk_alloc ?_ _)); refine blk_put (cs := #[.int .i64 0, .string (⟨#[]⟩ : ByteArray), .int .i64 0, .int .i64 0, .slice none 0 0]) ?_ 0 _ rfl; (with_reducible repeat (first | refine blk_drewN ?_ _ | refine blk_drew ?_ | refine blk_alloc ?_ _)); exact BK433.out) hg (Kd.R_ne HO_9.out BK433.out (by decide))); have n3_ := Aside0.mk (hb); have n4_ := Aside0.mk (ho); clear HO_7; clear HO_8; clear BK433; clear HB; clear HO_9; have HO_7 := n0_; have HO_8 := n1_; have BK433 := n2_; have HB := n3_; have HO439 := n4_; clear n0_ n1_ n2_ n3_ n4_; clear ho hb hg hat))
       go_roundg k1
       case measure => have := HK1.out; omega
       case rel => exact ⟨(y437), (wrap64 (x10_1 + 1)), (by first | rfl | (simp; done) | (simp [*]; done)), H', ⟨by have := HK1.out; omega⟩, ⟨by (with_reducible repeat (first | apply Kd.R_alloc | apply Kd.R_drewN | apply Kd.R_drew)); exact HO_7.out⟩, ⟨by (with_reducible repeat (first | apply Kd.Q_alloc | apply Kd.Q_drewN | apply Kd.Q_drew)); exact HO_8.out⟩, ⟨by (with_reducible repeat (first | apply Kd.R_alloc | apply Kd.R_drewN | apply Kd.R_drew)); exact HO439.out⟩, ⟨by repeat (first | (with_reducible first | exact HB.out | apply below_alloc | apply pw_below_drewN | apply below_drew1 | refine below_set ?_ GE433.out) | exact HB.out)⟩⟩
      rw [if_neg c14] at H
      exact absurd H (by simp)
     rw [if_neg c13] at H
     have c13b0 : (((rd_T42 l1 x10_1).f0) == 11) = false := beq_eq_false_iff_ne.mpr c13
     have c13b1 : (((rd_T42 l1 x10_1).f0) != 11) = true := bne_iff_ne.mpr c13
     by_cases c19 : ((rd_T42 l1 x10_1).f0) = 10
     ·
      rw [if_pos c19] at H
      have c19b0 : (((rd_T42 l1 x10_1).f0) == 10) = true := beq_iff_eq.mpr c19
      have c19b1 : (((rd_T42 l1 x10_1).f0) != 10) = false := bne_eq_false_iff_eq.mpr c19
      clear c19
      have H' := Aside0.mk H
      clear H
      have p432 : 0 ≤ (x10_1 : Int) := of_decide_eq_true (by first | (with_reducible assumption) | assumption)
      have q432 : x10_1 < (l1.length : Int) := of_decide_eq_true (by first | (with_reducible assumption) | assumption)
      obtain ⟨ad432, A432_4, c432_4, e432, hx432_0, hx432_1, hx432_2, hx432_3, hx432_4, hl432_4, hi432_4⟩ := at_T42 HR1.out x10_1 p432 q432
      cases e432
      replace hx432_0 := (HB.out.cell (World.block_lt_of_cell? w _ hx432_0)).trans hx432_0
      replace hx432_1 := (HB.out.cell (World.block_lt_of_cell? w _ hx432_1)).trans hx432_1
      replace hx432_2 := (HB.out.cell (World.block_lt_of_cell? w _ hx432_2)).trans hx432_2
      replace hx432_3 := (HB.out.cell (World.block_lt_of_cell? w _ hx432_3)).trans hx432_3
      replace hx432_4 := (HB.out.cell (World.block_lt_of_cell? w _ hx432_4)).trans hx432_4
      have HR432_4 := Aside0.mk hi432_4
      have HC432_4 := Aside0.mk hl432_4
      clear hi432_4 hl432_4
      replace p432 := eq_true p432
      replace q432 := eq_true q432
      go_wp2_with (first | ((with_reducible refine gate_dst (N := 11) rfl ?_); refine box_event ?hg (N := 11) ?hd (cs := #[.int .i64 0, .string (⟨#[]⟩ : ByteArray), .int .i64 0, .int .i64 0, .slice none 0 0]) (t := 42) ?hr ?_; (case hd => rfl); (case hg => rfl); (case hr => first | (go_simp; done) | (go_simp; rfl)); intro gb433 hg w20 hbox hb; have n0_ := Aside0.mk (Kd.R_below (by (with_reducible repeat (first | apply Kd.R_alloc | apply Kd.R_drewN | apply Kd.R_drew)); exact HO_7.out) hb); have n1_ := Aside0.mk (Kd.Q_below (by (with_reducible repeat (first | apply Kd.Q_alloc | apply Kd.Q_drewN | apply Kd.Q_drew)); exact HO_8.out) hb); have n2_ := Aside0.mk (Kd.R_below (by (with_reducible repeat (first | apply Kd.R_alloc | apply Kd.R_drewN | apply Kd.R_drew)); exact HO_9.out) hb); have n3_ := Aside0.mk (below_step (by repeat (first | (with_reducible first | exact HB.out | apply below_alloc | apply pw_below_drewN | apply below_drew1) | exact HB.out)) hb); have n4_ := Aside0.mk (hbox); have n5_ := Aside0.mk ((by rw [hg]; exact (below_size (by repeat (first | (with_reducible first | exact HB.out | apply below_alloc | apply pw_below_drewN | apply below_drew1) | exact HB.out))) : w.heap.size ≤ gb433)); have n6_ := Aside0.mk ((by rw [hg]; exact (below_size (by repeat (first | (with_reducible first | exact HB.out | apply below_alloc | apply pw_below_drewN | apply below_drew1) | exact HB.out))) : w.heap.size ≤ gb433)); clear HO_7; clear HO_8; clear HO_9; clear HB; have HO_7 := n0_; have HO_8 := n1_; have HO_9 := n2_; have HB := n3_; have BK433 := n4_; have GW433 := n5_; have GE433 := n6_; clear n0_ n1_ n2_ n3_ n4_ n5_ n6_; clear hb hbox hg; have hcz21_0 : w20.cell? ⟨gb433, 0, none⟩ = some (.int .i64 0) := (blk_cell BK433.out 0).trans rfl; have hcz21_1 : w20.cell? ⟨gb433, 1, none⟩ = some (.string (⟨#[]⟩ : ByteArray)) := (blk_cell BK433.out 1).trans rfl; have hcz21_2 : w20.cell? ⟨gb433, 2, none⟩ = some (.int .i64 0) := (blk_cell BK433.out 2).trans rfl; have hcz21_3 : w20.cell? ⟨gb433, 3, none⟩ = some (.int .i64 0) := (blk_cell BK433.out 3).trans rfl; have hcz21_4 : w20.cell? ⟨gb433, 4, none⟩ = some (.slice none 0 0) := (blk_cell BK433.out 4).trans rfl; have hfz21_0 := blk_frozen BK433.out 0; have hfz21_1 := blk_frozen BK433.out 1; have hfz21_2 := blk_frozen BK433.out 2; have hfz21_3 := blk_frozen BK433.out 3; have hfz21_4 := blk_frozen BK433.out 4))
      go_loopg [12, 13] k1 (fun kq v12 v13 w' => ∃ (x12_2 : ByteArray) (x13_2 : Int), v12 = .string x12_2 ∧ v13 = .int .i64 x13_2 ∧ Aside0 (spec_Mapped.l1 kq l1 t425 t426 x9_1 x10_1 x12_2 x13_2 ((rd_T42 l1 x10_1).f0) ((rd_T42 l1 x10_1).f1) ((rd_T42 l1 x10_1).f2) ((rd_T42 l1 x10_1).f3) ((rd_T42 l1 x10_1).f4) = some r) ∧ Aside0 (kq ≤ k1) ∧ Aside0 (Kd.R Kd.string 9 w' w.heap.size (fun k_ => some k_ ≠ (v429 : Value).ownBlock ∧ some k_ ≠ (u9 : Value).ownBlock) v427 t425) ∧ Aside0 (Kd.Q Kd.string 9 w' w.heap.size (fun k_ => some k_ ≠ (v427 : Value).ownBlock ∧ some k_ ≠ (u9 : Value).ownBlock) v429 t426) ∧ Aside0 (Kd.R Kd.string 9 w' w.heap.size (fun k_ => some k_ ≠ (v427 : Value).ownBlock ∧ some k_ ≠ (v429 : Value).ownBlock) u9 x9_1) ∧ Aside0 (w'.heap[gb433]? = some (.cells #[.int .i64 ((rd_T42 l1 x10_1).f0), .string ((rd_T42 l1 x10_1).f1), .int .i64 ((rd_T42 l1 x10_1).f2), .int .i64 ((rd_T42 l1 x10_1).f3), (.slice A432_4 ((rd_T42 l1 x10_1).f4).length c432_4)] 42 (0, 0))) ∧ Aside0 (Below w.heap.size w w'))
      case atStart => exact ⟨((⟨#[]⟩ : ByteArray)), (0), (by first | rfl | (simp; done) | (simp [*]; done)), (by first | rfl | (simp; done) | (simp [*]; done)), H', ⟨Nat.le_refl _⟩, ⟨by (with_reducible repeat (first | apply Kd.R_alloc | apply Kd.R_drewN | apply Kd.R_drew)); exact Kd.R_mono (Kd.R_far (p := ⟨gb433, 4, none⟩) (Kd.R_far (p := ⟨gb433, 3, none⟩) (Kd.R_far (p := ⟨gb433, 2, none⟩) (Kd.R_far (p := ⟨gb433, 1, none⟩) (Kd.R_far (p := ⟨gb433, 0, none⟩) (Kd.R_types HO_7.out BK433.out (by decide)) (fun _ hk => hk.2) (.int .i64 ((rd_T42 l1 x10_1).f0))) (fun _ hk => hk.2) (.string ((rd_T42 l1 x10_1).f1))) (fun _ hk => hk.2) (.int .i64 ((rd_T42 l1 x10_1).f2))) (fun _ hk => hk.2) (.int .i64 ((rd_T42 l1 x10_1).f3))) (fun _ hk => hk.2) (.slice A432_4 ((rd_T42 l1 x10_1).f4).length c432_4)) (fun _ hk => ⟨hk.1.1, hk.1.2⟩)⟩, ⟨by (with_reducible repeat (first | apply Kd.Q_alloc | apply Kd.Q_drewN | apply Kd.Q_drew)); exact Kd.Q_mono (Kd.Q_far (p := ⟨gb433, 4, none⟩) (Kd.Q_far (p := ⟨gb433, 3, none⟩) (Kd.Q_far (p := ⟨gb433, 2, none⟩) (Kd.Q_far (p := ⟨gb433, 1, none⟩) (Kd.Q_far (p := ⟨gb433, 0, none⟩) (Kd.Q_types HO_8.out BK433.out (by decide)) (fun _ hk => hk.2) (.int .i64 ((rd_T42 l1 x10_1).f0))) (fun _ hk => hk.2) (.string ((rd_T42 l1 x10_1).f1))) (fun _ hk => hk.2) (.int .i64 ((rd_T42 l1 x10_1).f2))) (fun _ hk => hk.2) (.int .i64 ((rd_T42 l1 x10_1).f3))) (fun _ hk => hk.2) (.slice A432_4 ((rd_T42 l1 x10_1).f4).length c432_4)) (fun _ hk => ⟨hk.1.1, hk.1.2⟩)⟩, ⟨by (with_reducible repeat (first | apply Kd.R_alloc | apply Kd.R_drewN | apply Kd.R_drew)); exact Kd.R_mono (Kd.R_far (p := ⟨gb433, 4, none⟩) (Kd.R_far (p := ⟨gb433, 3, none⟩) (Kd.R_far (p := ⟨gb433, 2, none⟩) (Kd.R_far (p := ⟨gb433, 1, none⟩) (Kd.R_far (p := ⟨gb433, 0, none⟩) (Kd.R_types HO_9.out BK433.out (by decide)) (fun _ hk => hk.2) (.int .i64 ((rd_T42 l1 x10_1).f0))) (fun _ hk => hk.2) (.string ((rd_T42 l1 x10_1).f1))) (fun _ hk => hk.2) (.int .i64 ((rd_T42 l1 x10_1).f2))) (fun _ hk => hk.2) (.int .i64 ((rd_T42 l1 x10_1).f3))) (fun _ hk => hk.2) (.slice A432_4 ((rd_T42 l1 x10_1).f4).length c432_4)) (fun _ hk => ⟨hk.1.1, hk.1.2⟩)⟩, ⟨by (with_reducible repeat (first | refine blk_drewN ?_ _ | refine blk_drew ?_ | refine blk_alloc ?_ _)); refine blk_put (cs := #[.int .i64 ((rd_T42 l1 x10_1).f0), .string ((rd_T42 l1 x10_1).f1), .int .i64 ((rd_T42 l1 x10_1).f2), .int .i64 ((rd_T42 l1 x10_1).f3), .slice none 0 0]) ?_ 4 _ rfl; (with_reducible repeat (first | refine blk_drewN ?_ _ | refine blk_drew ?_ | refine blk_alloc ?_ _)); refine blk_put (cs := #[.int .i64 ((rd_T42 l1 x10_1).f0), .string ((rd_T42 l1 x10_1).f1), .int .i64 ((rd_T42 l1 x10_1).f2), .int .i64 0, .slice none 0 0]) ?_ 3 _ rfl; (with_reducible repeat (first | refine blk_drewN ?_ _ | refine blk_drew ?_ | refine blk_alloc ?_ _)); refine blk_put (cs := #[.int .i64 ((rd_T42 l1 x10_1).f0), .string ((rd_T42 l1 x10_1).f1), .int .i64 0, .int .i64 0, .slice none 0 0]) ?_ 2 _ rfl; (with_reducible repeat (first | refine blk_drewN ?_ _ | refine blk_drew ?_ | refine blk_alloc ?_ _)); refine blk_put (cs := #[.int .i64 ((rd_T42 l1 x10_1).f0), .string (⟨#[]⟩ : ByteArray), .int .i64 0, .int .i64 0, .slice none 0 0]) ?_ 1 _ rfl; (with_reducible repeat (first | refine blk_drewN ?_ _ | refine blk_drew ?_ | refine blk_alloc ?_ _)); refine blk_put (cs := #[.int .i64 0, .string (⟨#[]⟩ : ByteArray), .int .i64 0, .int .i64 0, .slice none 0 0]) ?_ 0 _ rfl; (with_reducible repeat (first | refine blk_drewN ?_ _ | refine blk_drew ?_ | refine blk_alloc ?_ _)); exact BK433.out⟩, ⟨by repeat (first | (with_reducible first | exact HB.out | apply below_alloc | apply pw_below_drewN | apply below_drew1 | refine below_set ?_ GE433.out) | exact HB.out)⟩⟩
      case round =>
       clear H'
       try clear c1
       try clear p2
       try clear c3
       try clear c4
       try clear p4
       try clear q4
       try clear hx4
       try clear c6
       try clear c6b0
       try clear p6
       try clear c7
       try clear c7b0
       try clear c8
       try clear c8b0
       try clear c8b1
       try clear c9
       try clear c13
       try clear c13b0
       try clear c13b1
       try clear c14
       try clear c19
       try clear c19b0
       try clear c19b1
       try clear hcz11_0 hcz11_1 hcz11_2 hcz11_3 hcz11_4 hcz16_0 hcz16_1 hcz16_2 hcz16_3 hcz16_4 hcz21_0 hcz21_1 hcz21_2 hcz21_3 hcz21_4
       try clear hx432_0
       try clear hx432_1
       try clear hx432_2
       try clear hx432_3
       try clear hx432_4
       try clear p2
       try clear p432
       try clear q432
       obtain ⟨x12_2, x13_2, rfl, rfl, HA, HK2, HO_7, HO_8, HO_9, BK433, HB⟩ := hrel
       cases gk with
       | zero => exact absurd HA.out (by simp [spec_Mapped.l1])
       | succ k2 =>
        have H := HA.out
        clear HA
        simp only [spec_Mapped.l1] at H
        by_cases c22 : x13_2 < (((rd_T42 l1 x10_1).f4).length : Int)
        ·
         rw [if_pos c22] at H
         have c22b0 : decide (x13_2 < (((rd_T42 l1 x10_1).f4).length : Int)) = true := decide_eq_true c22
         clear c22
         by_cases c23 : 0 ≤ x13_2
         ·
          rw [if_pos c23] at H
          have c23b0 : decide (0 ≤ x13_2) = true := decide_eq_true c23
          clear c23
          obtain ⟨ji24, hji24⟩ : ∃ j_ : Int, (wrap64 ((rd ((rd_T42 l1 x10_1).f4) x13_2) - 1)) = j_ := ⟨_, rfl⟩
          replace H : (if 0 ≤ (ji24) then (if (ji24) < (t425.length : Int) then (if x12_2.size + (rdOf ByteArray.empty t425 (ji24)).size ≤ 9223372036854775807 then (spec_Mapped.l1 k2 l1 t425 t426 x9_1 x10_1 (x12_2 ++ (rdOf ByteArray.empty t425 (ji24))) (wrap64 (x13_2 + 1)) ((rd_T42 l1 x10_1).f0) ((rd_T42 l1 x10_1).f1) ((rd_T42 l1 x10_1).f2) ((rd_T42 l1 x10_1).f3) ((rd_T42 l1 x10_1).f4)) else (none)) else (none)) else (none)) = some r := by first | (rw [hji24] at H; exact H) | (simp only [hji24] at H ⊢; exact H)
          have hji24w : (IntKind.i64.wrap ((rd ((rd_T42 l1 x10_1).f4) x13_2) - 1)) = ji24 := (i64_w _).trans hji24
          by_cases c25 : 0 ≤ (ji24)
          ·
           rw [if_pos c25] at H
           have c25b0 : decide (0 ≤ (ji24)) = true := decide_eq_true c25
           clear c25
           by_cases c26 : (ji24) < (t425.length : Int)
           ·
            rw [if_pos c26] at H
            have c26b0 : decide ((ji24) < (t425.length : Int)) = true := decide_eq_true c26
            clear c26
            by_cases c27 : x12_2.size + (rdOf ByteArray.empty t425 (ji24)).size ≤ 9223372036854775807
            ·
             rw [if_pos c27] at H
             have c27b0 := eq_true c27
             have c27b1 : decide (x12_2.size + (rdOf ByteArray.empty t425 (ji24)).size ≤ 9223372036854775807) = true := decide_eq_true c27
             try have c27b2 : (9223372036854775807 < x12_2.size + (rdOf ByteArray.empty t425 (ji24)).size) = False := eq_false (Nat.not_lt.2 c27)
             have H' := Aside0.mk H
             clear H
             have hcz28_0 : wr.cell? ⟨gb433, 0, none⟩ = some (.int .i64 ((rd_T42 l1 x10_1).f0)) := (blk_cell BK433.out 0).trans rfl
             have hcz28_1 : wr.cell? ⟨gb433, 1, none⟩ = some (.string ((rd_T42 l1 x10_1).f1)) := (blk_cell BK433.out 1).trans rfl
             have hcz28_2 : wr.cell? ⟨gb433, 2, none⟩ = some (.int .i64 ((rd_T42 l1 x10_1).f2)) := (blk_cell BK433.out 2).trans rfl
             have hcz28_3 : wr.cell? ⟨gb433, 3, none⟩ = some (.int .i64 ((rd_T42 l1 x10_1).f3)) := (blk_cell BK433.out 3).trans rfl
             have hcz28_4 : wr.cell? ⟨gb433, 4, none⟩ = some (.slice A432_4 ((rd_T42 l1 x10_1).f4).length c432_4) := (blk_cell BK433.out 4).trans rfl
             have p440 : 0 ≤ (x13_2 : Int) := of_decide_eq_true (by first | (with_reducible assumption) | assumption)
             have q440 : x13_2 < (((rd_T42 l1 x10_1).f4).length : Int) := of_decide_eq_true (by first | (with_reducible assumption) | assumption)
             obtain ⟨ad440, e440, hx440_0⟩ := Kd.at_int HR432_4.out x13_2 p440 q440
             cases e440
             replace hx440_0 := (HB.out.cell (World.block_lt_of_cell? w _ hx440_0)).trans hx440_0
             replace p440 := eq_true p440
             replace q440 := eq_true q440
             obtain ⟨Ao29, co29, eo29⟩ := Kd.R_slice HO_7.out
             subst eo29
             have p441 : 0 ≤ ((ji24) : Int) := of_decide_eq_true (by first | (with_reducible assumption) | assumption)
             have q441 : (ji24) < (t425.length : Int) := of_decide_eq_true (by first | (with_reducible assumption) | assumption)
             obtain ⟨ad441, e441, hx441_0⟩ := Kd.at_string (Kd.R_reads' HO_7.out).2.2 (ji24) p441 q441
             cases e441
             replace p441 := eq_true p441
             replace q441 := eq_true q441
             go_wp2
             go_roundg k2
             case measure => have := HK1.out; have := HK2.out; omega
             case rel => exact ⟨(x12_2 ++ (rdOf ByteArray.empty t425 (ji24))), (wrap64 (x13_2 + 1)), (by first | rfl | (simp; done) | (simp only [← hji24] <;> (first | rfl | simp)) | (simp [*]; done)), (by first | rfl | (simp; done) | (simp [*]; done)), H', ⟨by have := HK1.out; have := HK2.out; omega⟩, ⟨by (with_reducible repeat (first | apply Kd.R_alloc | apply Kd.R_drewN | apply Kd.R_drew)); exact HO_7.out⟩, ⟨by (with_reducible repeat (first | apply Kd.Q_alloc | apply Kd.Q_drewN | apply Kd.Q_drew)); exact HO_8.out⟩, ⟨by (with_reducible repeat (first | apply Kd.R_alloc | apply Kd.R_drewN | apply Kd.R_drew)); exact HO_9.out⟩, ⟨by (with_reducible repeat (first | refine blk_drewN ?_ _ | refine blk_drew ?_ | refine blk_alloc ?_ _)); exact BK433.out⟩, ⟨by repeat (first | (with_reducible first | exact HB.out | apply below_alloc | apply pw_below_drewN | apply below_drew1 | refine below_set ?_ GE433.out) | exact HB.out)⟩⟩
            rw [if_neg c27] at H
            exact absurd H (by simp)
           rw [if_neg c26] at H
           exact absurd H (by simp)
          rw [if_neg c25] at H
          exact absurd H (by simp)
         rw [if_neg c23] at H
         exact absurd H (by simp)
        rw [if_neg c22] at H
        have c22b0 : decide (x13_2 < (((rd_T42 l1 x10_1).f4).length : Int)) = false := decide_eq_false c22
        clear c22
        replace H := Option.bind_eq_some_iff.mp H
        obtain ⟨t442, A300, H⟩ := H
        replace H : (if ((((rd_T42 l1 x10_1).f3)) % 4294967296) = 0 then (none) else ((spec_Digits.f k2 (wrap64 (Int.tmod t442 ((((rd_T42 l1 x10_1).f3)) % 4294967296)))).bind fun t443 => (if x9_1.length < 8796093022208 then (spec_Mapped.l0 k2 l1 t425 t426 (x9_1 ++ [t443]) (wrap64 (x10_1 + 1))) else (none)))) = some r := H
        have A30 := Aside0.mk A300
        clear A300
        by_cases c31 : ((((rd_T42 l1 x10_1).f3)) % 4294967296) = 0
        ·
         rw [if_pos c31] at H
         exact absurd H (by simp)
        rw [if_neg c31] at H
        have c31b0 : (((((rd_T42 l1 x10_1).f3)) % 4294967296) == 0) = false := beq_eq_false_iff_ne.mpr c31
        have c31b1 : (((((rd_T42 l1 x10_1).f3)) % 4294967296) != 0) = true := bne_iff_ne.mpr c31
        replace H := Option.bind_eq_some_iff.mp H
        obtain ⟨t443, A320, H⟩ := H
        replace H : (if x9_1.length < 8796093022208 then (spec_Mapped.l0 k2 l1 t425 t426 (x9_1 ++ [t443]) (wrap64 (x10_1 + 1))) else (none)) = some r := H
        have A32 := Aside0.mk A320
        clear A320
        by_cases c33 : x9_1.length < 8796093022208
        ·
         rw [if_pos c33] at H
         have LMc33 := Aside0.mk c33
         clear c33
         obtain ⟨y444, hy444⟩ : ∃ y_ : List ByteArray, y_ = (x9_1 ++ [t443]) := ⟨_, rfl⟩
         replace H : (spec_Mapped.l0 k2 l1 t425 t426 y444 (wrap64 (x10_1 + 1))) = some r := by first | (rw [hy444]; with_reducible exact H) | (have H2_ := (Option.bind_some _ _).symm.trans H; rw [hy444]; with_reducible exact H2_) | (have H2_ := (Option.bind_some _ _).symm.trans H; with_reducible exact H2_) | with_reducible exact H | (rw [hy444]; exact H) | exact H
         have Ny444 := Aside0.mk hy444
         clear hy444
         have H' := Aside0.mk H
         clear H
         have hcz34_0 : wr.cell? ⟨gb433, 0, none⟩ = some (.int .i64 ((rd_T42 l1 x10_1).f0)) := (blk_cell BK433.out 0).trans rfl
         have hcz34_1 : wr.cell? ⟨gb433, 1, none⟩ = some (.string ((rd_T42 l1 x10_1).f1)) := (blk_cell BK433.out 1).trans rfl
         have hcz34_2 : wr.cell? ⟨gb433, 2, none⟩ = some (.int .i64 ((rd_T42 l1 x10_1).f2)) := (blk_cell BK433.out 2).trans rfl
         have hcz34_3 : wr.cell? ⟨gb433, 3, none⟩ = some (.int .i64 ((rd_T42 l1 x10_1).f3)) := (blk_cell BK433.out 3).trans rfl
         have hcz34_4 : wr.cell? ⟨gb433, 4, none⟩ = some (.slice A432_4 ((rd_T42 l1 x10_1).f4).length c432_4) := (blk_cell BK433.out 4).trans rfl
         try go_wp2
         have n0_ := Aside0.mk (Kd.R_drew HO_7.out)
         have n1_ := Aside0.mk (Kd.Q_drew HO_8.out)
         have n2_ := Aside0.mk (Kd.R_drew HO_9.out)
         have n3_ := Aside0.mk (blk_drew BK433.out)
         have n4_ := Aside0.mk (below_drew1 HB.out)
         clear HO_7
         clear HO_8
         clear HO_9
         clear BK433
         clear HB
         have HO_7 := n0_
         have HO_8 := n1_
         have HO_9 := n2_
         have BK433 := n3_
         have HB := n4_
         clear n0_ n1_ n2_ n3_ n4_
         refine start_ (n := 12) (S := fun w' => w'.cell? ⟨gb433, 0, none⟩ = some (.int .i64 ((rd_T42 l1 x10_1).f0)) ∧ w'.cell? ⟨gb433, 1, none⟩ = some (.string ((rd_T42 l1 x10_1).f1)) ∧ w'.cell? ⟨gb433, 2, none⟩ = some (.int .i64 ((rd_T42 l1 x10_1).f2)) ∧ w'.cell? ⟨gb433, 3, none⟩ = some (.int .i64 ((rd_T42 l1 x10_1).f3)) ∧ w'.cell? ⟨gb433, 4, none⟩ = some (.slice A432_4 ((rd_T42 l1 x10_1).f4).length c432_4)) (ds := []) #[false, false, false, false, false, false, false, false, false, false, false, false] (by kernel_rfl) rfl rfl ⟨(blk_cell BK433.out 0).trans rfl, (blk_cell BK433.out 1).trans rfl, (blk_cell BK433.out 2).trans rfl, (blk_cell BK433.out 3).trans rfl, (blk_cell BK433.out 4).trans rfl⟩ (fun hHeld => ?_); refine with_tabW spec_Mapped.tab19 spec_Mapped.bits19 (fun HT_ HW_ => ?_)
         generalize wr.drew = w35 at HO_7 HO_8 HO_9 BK433 HB hHeld ⊢
         refine pure_ (i := 0) (N := some 75) (v := ?_) (a' := ?_) #[true, false, false, false, false, false, false, false, false, false, false, false] rfl rfl (any_of HT_.out (by kernel_rfl)) (fun _ _ _ h => h) (Or.inl ⟨by rfl, ?_⟩) ?_ ?_
         rotate_left
         ·
          intro w'
          go_simp
          with_reducible rfl
         rotate_left
         ·
          simp only [Act.put, List.setIfInBounds_toArray, List.set_cons_zero, List.set_cons_succ, i64_w, i32_w]
          rfl
         refine pure_ (i := 1) (N := some 76) (v := ?_) (a' := ?_) #[true, true, false, false, false, false, false, false, false, false, false, false] rfl rfl (any_of HT_.out (by kernel_rfl)) (fun _ _ _ h => h) (Or.inl ⟨by rfl, ?_⟩) ?_ ?_
         rotate_left
         ·
          intro w'
          go_simp
          with_reducible rfl
         rotate_left
         ·
          simp only [Act.put, List.setIfInBounds_toArray, List.set_cons_zero, List.set_cons_succ, i64_w, i32_w]
          rfl
         refine pure_ (i := 3) (N := some 78) (v := ?_) (a' := ?_) #[true, true, false, true, false, false, false, false, false, false, false, false] rfl rfl (any_of HT_.out (by kernel_rfl)) (fun _ _ _ h => h) (Or.inl ⟨by rfl, ?_⟩) ?_ ?_
         rotate_left
         ·
          intro w'
          go_simp
          with_reducible rfl
         rotate_left
         ·
          simp only [Act.put, List.setIfInBounds_toArray, List.set_cons_zero, List.set_cons_succ, i64_w, i32_w]
          rfl
         refine take_ (i := 4) (N := some 79) (v := ?_) (a' := ?_) #[true, true, false, true, true, false, false, false, false, false, false, false] rfl rfl (take_ofW HT_.out HW_.out (by kernel_rfl)) (fun _ _ _ h => h) (Or.inl ⟨by rfl, ?_⟩) hHeld ?_ ?_
         rotate_left
         ·
          rintro w' ⟨s0, s1, s2, s3, s4⟩
          go_simp
          with_reducible rfl
         rotate_left
         ·
          simp only [Act.put, List.setIfInBounds_toArray, List.set_cons_zero, List.set_cons_succ, i64_w, i32_w]
          rfl
         refine pure_ (i := 5) (N := some 80) (v := ?_) (a' := ?_) #[true, true, false, true, true, true, false, false, false, false, false, false] rfl rfl (any_of HT_.out (by kernel_rfl)) (fun _ _ _ h => h) (Or.inl ⟨by rfl, ?_⟩) ?_ ?_
         rotate_left
         ·
          intro w'
          go_simp
          with_reducible rfl
         rotate_left
         ·
          simp only [Act.put, List.setIfInBounds_toArray, List.set_cons_zero, List.set_cons_succ, i64_w, i32_w]
          rfl
         refine one_ (i := 2) (N := some 77) #[true, true, true, true, true, true, false, false, false, false, false, false] rfl rfl (one_of HT_.out (by kernel_rfl)) (by decide) (fun K hK => ?_)
         refine goes_ Tryd.func35 (by kernel_rfl) rfl #[.string x12_2] (by rfl) rfl rfl (by (try simp only [List.map_toArray, List.map_cons, List.map_nil]); first | done | rfl | (simp only [List.length_drop, List.length_take]; rfl)) ?_
         with_reducible refine (spec_Fnv.calls k2 x12_2 t442 _ A30.out).mono ?_
         rintro e w' ⟨rfl, ⟨nd, rfl⟩⟩
         refine ⟨_, rfl, ?_⟩
         refine hK.out _ _ ⟨(blk_cell BK433.out 0).trans rfl, (blk_cell BK433.out 1).trans rfl, (blk_cell BK433.out 2).trans rfl, (blk_cell BK433.out 3).trans rfl, (blk_cell BK433.out 4).trans rfl⟩ (fun hHeld => ?_)
         clear hK K
         refine norm_ (a' := ?_) ?_ ?_
         rotate_left
         ·
          show Act.put _ (some 77) _ = _
          simp only [Act.put, List.setIfInBounds_toArray, List.set_cons_zero, List.set_cons_succ, i64_w, i32_w]
          rfl
         refine pure_ (i := 6) (N := some 81) (v := ?_) (a' := ?_) #[true, true, true, true, true, true, true, false, false, false, false, false] rfl rfl (any_of HT_.out (by kernel_rfl)) (fun _ _ _ h => h) (Or.inl ⟨by rfl, ?_⟩) ?_ ?_
         rotate_left
         ·
          intro w'
          go_simp
          try simp only [IntKind.wrap_u32, if_neg c31]
          with_reducible rfl
         rotate_left
         ·
          simp only [Act.put, List.setIfInBounds_toArray, List.set_cons_zero, List.set_cons_succ, i64_w, i32_w]
          rfl
         refine pure_ (i := 7) (N := some 82) (v := ?_) (a' := ?_) #[true, true, true, true, true, true, true, true, false, false, false, false] rfl rfl (any_of HT_.out (by kernel_rfl)) (fun _ _ _ h => h) (Or.inl ⟨by rfl, ?_⟩) ?_ ?_
         rotate_left
         ·
          intro w'
          go_simp
          with_reducible rfl
         rotate_left
         ·
          simp only [Act.put, List.setIfInBounds_toArray, List.set_cons_zero, List.set_cons_succ, i64_w, i32_w]
          rfl
         refine one_ (i := 8) (N := some 83) #[true, true, true, true, true, true, true, true, true, false, false, false] rfl rfl (one_of HT_.out (by kernel_rfl)) (by decide) (fun K hK => ?_)
         refine goes_ Tryd.func34 (by kernel_rfl) rfl #[.int .i64 (wrap64 (Int.tmod t442 ((((rd_T42 l1 x10_1).f3)) % 4294967296)))] (by rfl) rfl rfl (by (try simp only [List.map_toArray, List.map_cons, List.map_nil]); first | done | rfl | (simp only [List.length_drop, List.length_take]; rfl)) ?_
         with_reducible refine (spec_Digits.calls k2 (wrap64 (Int.tmod t442 ((((rd_T42 l1 x10_1).f3)) % 4294967296))) t443 _ A32.out).mono ?_
         rintro e w36 ⟨rfl, hb⟩
         refine ⟨_, rfl, ?_⟩
         have n0_ := Aside0.mk (Kd.R_below (by (with_reducible repeat (first | apply Kd.R_alloc | apply Kd.R_drewN | apply Kd.R_drew)); exact HO_7.out) hb)
         have n1_ := Aside0.mk (Kd.Q_below (by (with_reducible repeat (first | apply Kd.Q_alloc | apply Kd.Q_drewN | apply Kd.Q_drew)); exact HO_8.out) hb)
         have n2_ := Aside0.mk (Kd.R_below (by (with_reducible repeat (first | apply Kd.R_alloc | apply Kd.R_drewN | apply Kd.R_drew)); exact HO_9.out) hb)
         have n3_ := Aside0.mk (blk_below (g := gb433) (o := .cells #[.int .i64 ((rd_T42 l1 x10_1).f0), .string ((rd_T42 l1 x10_1).f1), .int .i64 ((rd_T42 l1 x10_1).f2), .int .i64 ((rd_T42 l1 x10_1).f3), .slice A432_4 ((rd_T42 l1 x10_1).f4).length c432_4] 42 (0, 0)) (by (with_reducible repeat (first | refine blk_drewN ?_ _ | refine blk_drew ?_ | refine blk_alloc ?_ _)); exact BK433.out) hb)
         have n4_ := Aside0.mk (below_step (by repeat (first | (with_reducible first | exact HB.out | apply below_alloc | apply pw_below_drewN | apply below_drew1 | refine below_set ?_ GE433.out) | exact HB.out)) hb)
         clear HO_7
         clear HO_8
         clear HO_9
         clear BK433
         clear HB
         have HO_7 := n0_
         have HO_8 := n1_
         have HO_9 := n2_
         have BK433 := n3_
         have HB := n4_
         clear n0_ n1_ n2_ n3_ n4_
         (try clear hb)
         (try clear hb2)
         (try clear hk)
         (try clear hi)
         refine hK.out _ _ ⟨(blk_cell BK433.out 0).trans rfl, (blk_cell BK433.out 1).trans rfl, (blk_cell BK433.out 2).trans rfl, (blk_cell BK433.out 3).trans rfl, (blk_cell BK433.out 4).trans rfl⟩ (fun hHeld => ?_)
         clear hK K
         refine norm_ (a' := ?_) ?_ ?_
         rotate_left
         ·
          show Act.put _ (some 83) _ = _
          simp only [Act.put, List.setIfInBounds_toArray, List.set_cons_zero, List.set_cons_succ, i64_w, i32_w]
          rfl
         refine one_ (i := 9) (N := some 84) #[true, true, true, true, true, true, true, true, true, true, false, false] rfl rfl (one_of HT_.out (by kernel_rfl)) (by decide) (fun K hK => ?_)
         refine value_ (w1 := ?_) (v := ?_) (by rfl) rfl ?_ ?_
         rotate_left 2
         ·
          go_simp
          constructor
          ·
           rfl
          rfl
         refine hK.out _ _ ⟨(blk_cell (blk_alloc BK433.out _) 0).trans rfl, (blk_cell (blk_alloc BK433.out _) 1).trans rfl, (blk_cell (blk_alloc BK433.out _) 2).trans rfl, (blk_cell (blk_alloc BK433.out _) 3).trans rfl, (blk_cell (blk_alloc BK433.out _) 4).trans rfl⟩ (fun hHeld => ?_)
         clear hK K
         refine norm_ (a' := ?_) ?_ ?_
         rotate_left
         ·
          show Act.put _ (some 84) _ = _
          simp only [Act.put, List.setIfInBounds_toArray, List.set_cons_zero, List.set_cons_succ, i64_w, i32_w]
          rfl
         refine one_ (i := 10) (N := some 85) #[true, true, true, true, true, true, true, true, true, true, true, false] rfl rfl (one_of HT_.out (by kernel_rfl)) (by decide) (fun K hK => ?_)
         refine Kd.R_append_step Kd.string (w0 := w) w.heap.size (by rfl) (.tmp 75) (.tmp 84) 30 9 (.string ⟨#[]⟩) 16 rfl Tryd.underlying30 info9 rfl (by decide) (by omega) u9 x9_1 t443 [.string t443] (fun k_ => some k_ ≠ (v427 : Value).ownBlock ∧ some k_ ≠ (v429 : Value).ownBlock) (fun _ => False) rfl rfl ?aP (fun _ hk => hk.elim) ?aF ?aO ?aB ?aS ?aL ?_
         (case aP => exact rfl)
         (case aB => exact (by repeat (first | (with_reducible first | exact HB.out | apply below_alloc | apply pw_below_drewN | apply below_drew1 | refine below_set ?_ GE433.out) | exact HB.out)))
         (case aF => exact (fun k_ hk => ⟨Kd.fresh' (Kd.R_lt (by (with_reducible repeat (first | apply Kd.R_alloc | apply Kd.R_drewN | apply Kd.R_drew)); exact HO_7.out)) k_ hk, Kd.fresh' (Kd.Q_lt (by (with_reducible repeat (first | apply Kd.Q_alloc | apply Kd.Q_drewN | apply Kd.Q_drew)); exact HO_8.out)) k_ hk⟩))
         (case aO => exact (by (with_reducible repeat (first | apply Kd.R_alloc | apply Kd.R_drewN | apply Kd.R_drew)); exact HO_9.out))
         (case aS => exact (below_size (by repeat (first | (with_reducible first | exact HB.out | apply below_alloc | apply pw_below_drewN | apply below_drew1 | refine below_set ?_ GE433.out) | exact HB.out))))
         (case aL => have := LMc33.out; omega)
         intro v445 w37 ho hb hg hat
         rw [← Ny444.out] at ho
         have n0_ := Aside0.mk (Kd.R_after (ok := (fun k_ => some k_ ≠ (v429 : Value).ownBlock)) (by (with_reducible repeat (first | apply Kd.R_alloc | apply Kd.R_drewN | apply Kd.R_drew)); exact HO_7.out) hg hat)
         have n1_ := Aside0.mk (Kd.Q_after (ok := (fun k_ => some k_ ≠ (v427 : Value).ownBlock)) (by (with_reducible repeat (first | apply Kd.Q_alloc | apply Kd.Q_drewN | apply Kd.Q_drew)); exact HO_8.out) hg hat)
         have n2_ := Aside0.mk (blk_grown (g := gb433) (o := .cells #[.int .i64 ((rd_T42 l1 x10_1).f0), .string ((rd_T42 l1 x10_1).f1), .int .i64 ((rd_T42 l1 x10_1).f2), .int .i64 ((rd_T42 l1 x10_1).f3), .slice A432_4 ((rd_T42 l1 x10_1).f4).length c432_4] 42 (0, 0)) (by (with_reducible repeat (first | refine blk_drewN ?_ _ | refine blk_drew ?_ | refine blk_alloc ?_ _)); exact BK433.out) hg (Kd.R_ne HO_9.out BK433.out (by decide)))
         have n3_ := Aside0.mk (hb)
         have n4_ := Aside0.mk (ho)
         clear HO_7
         clear HO_8
         clear BK433
         clear HB
         clear HO_9
         have HO_7 := n0_
         have HO_8 := n1_
         have BK433 := n2_
         have HB := n3_
         have HO446 := n4_
         clear n0_ n1_ n2_ n3_ n4_
         clear ho hb hg hat
         refine hK.out _ _ ⟨(blk_cell BK433.out 0).trans rfl, (blk_cell BK433.out 1).trans rfl, (blk_cell BK433.out 2).trans rfl, (blk_cell BK433.out 3).trans rfl, (blk_cell BK433.out 4).trans rfl⟩ (fun hHeld => ?_)
         clear hK K
         refine norm_ (a' := ?_) ?_ ?_
         rotate_left
         ·
          show Act.put _ (some 85) _ = _
          simp only [Act.put, List.setIfInBounds_toArray, List.set_cons_zero, List.set_cons_succ, i64_w, i32_w]
          rfl
         refine pure_ (i := 11) (N := some 9) (v := ?_) (a' := ?_) #[true, true, true, true, true, true, true, true, true, true, true, true] rfl rfl (any_of HT_.out (by kernel_rfl)) (fun _ _ _ h => h) (Or.inl ⟨by rfl, ?_⟩) ?_ ?_
         rotate_left
         ·
          intro w'
          go_simp
          with_reducible rfl
         rotate_left
         ·
          simp only [Act.put, List.setIfInBounds_toArray, List.set_cons_zero, List.set_cons_succ, i64_w, i32_w]
          rfl
         refine done_ (done_of HT_.out (by kernel_rfl)) ?_
         try go_wp2
         go_roundg k2
         case measure => have := HK1.out; have := HK2.out; omega
         case rel => exact ⟨(y444), (wrap64 (x10_1 + 1)), (by first | rfl | (simp; done) | (simp [*]; done)), H', ⟨by have := HK1.out; have := HK2.out; omega⟩, ⟨by (with_reducible repeat (first | apply Kd.R_alloc | apply Kd.R_drewN | apply Kd.R_drew)); exact HO_7.out⟩, ⟨by (with_reducible repeat (first | apply Kd.Q_alloc | apply Kd.Q_drewN | apply Kd.Q_drew)); exact HO_8.out⟩, ⟨by (with_reducible repeat (first | apply Kd.R_alloc | apply Kd.R_drewN | apply Kd.R_drew)); exact HO446.out⟩, ⟨by repeat (first | (with_reducible first | exact HB.out | apply below_alloc | apply pw_below_drewN | apply below_drew1 | refine below_set ?_ GE433.out) | exact HB.out)⟩⟩
        rw [if_neg c33] at H
        exact absurd H (by simp)
     rw [if_neg c19] at H
     have c19b0 : (((rd_T42 l1 x10_1).f0) == 10) = false := beq_eq_false_iff_ne.mpr c19
     have c19b1 : (((rd_T42 l1 x10_1).f0) != 10) = true := bne_iff_ne.mpr c19
     obtain ⟨ji38, hji38⟩ : ∃ j_ : Int, (wrap64 (((rd_T42 l1 x10_1).f2) - 1)) = j_ := ⟨_, rfl⟩
     replace H : (if 0 ≤ (ji38) then (if (ji38) < (t425.length : Int) then ((spec_Piece.f k1 ((rd_T42 l1 x10_1).f0) ((rd_T42 l1 x10_1).f1) ((rd_T42 l1 x10_1).f2) ((rd_T42 l1 x10_1).f3) ((rd_T42 l1 x10_1).f4) (rdOf ByteArray.empty t425 (ji38))).bind fun t448 => (if x9_1.length < 8796093022208 then (spec_Mapped.l0 k1 l1 t425 t426 (x9_1 ++ [t448]) (wrap64 (x10_1 + 1))) else (none))) else (none)) else (none)) = some r := by first | (rw [hji38] at H; exact H) | (simp only [hji38] at H ⊢; exact H)
     have hji38w : (IntKind.i64.wrap (((rd_T42 l1 x10_1).f2) - 1)) = ji38 := (i64_w _).trans hji38
     by_cases c39 : 0 ≤ (ji38)
     ·
      rw [if_pos c39] at H
      have c39b0 : decide (0 ≤ (ji38)) = true := decide_eq_true c39
      clear c39
      by_cases c40 : (ji38) < (t425.length : Int)
      ·
       rw [if_pos c40] at H
       have c40b0 : decide ((ji38) < (t425.length : Int)) = true := decide_eq_true c40
       clear c40
       replace H := Option.bind_eq_some_iff.mp H
       obtain ⟨t448, A410, H⟩ := H
       replace H : (if x9_1.length < 8796093022208 then (spec_Mapped.l0 k1 l1 t425 t426 (x9_1 ++ [t448]) (wrap64 (x10_1 + 1))) else (none)) = some r := H
       have A41 := Aside0.mk A410
       clear A410
       by_cases c42 : x9_1.length < 8796093022208
       ·
        rw [if_pos c42] at H
        have LMc42 := Aside0.mk c42
        clear c42
        obtain ⟨y449, hy449⟩ : ∃ y_ : List ByteArray, y_ = (x9_1 ++ [t448]) := ⟨_, rfl⟩
        replace H : (spec_Mapped.l0 k1 l1 t425 t426 y449 (wrap64 (x10_1 + 1))) = some r := by first | (rw [hy449]; with_reducible exact H) | (have H2_ := (Option.bind_some _ _).symm.trans H; rw [hy449]; with_reducible exact H2_) | (have H2_ := (Option.bind_some _ _).symm.trans H; with_reducible exact H2_) | with_reducible exact H | (rw [hy449]; exact H) | exact H
        have Ny449 := Aside0.mk hy449
        clear hy449
        have H' := Aside0.mk H
        clear H
        have p432 : 0 ≤ (x10_1 : Int) := of_decide_eq_true (by first | (with_reducible assumption) | assumption)
        have q432 : x10_1 < (l1.length : Int) := of_decide_eq_true (by first | (with_reducible assumption) | assumption)
        obtain ⟨ad432, A432_4, c432_4, e432, hx432_0, hx432_1, hx432_2, hx432_3, hx432_4, hl432_4, hi432_4⟩ := at_T42 HR1.out x10_1 p432 q432
        cases e432
        replace hx432_0 := (HB.out.cell (World.block_lt_of_cell? w _ hx432_0)).trans hx432_0
        replace hx432_1 := (HB.out.cell (World.block_lt_of_cell? w _ hx432_1)).trans hx432_1
        replace hx432_2 := (HB.out.cell (World.block_lt_of_cell? w _ hx432_2)).trans hx432_2
        replace hx432_3 := (HB.out.cell (World.block_lt_of_cell? w _ hx432_3)).trans hx432_3
        replace hx432_4 := (HB.out.cell (World.block_lt_of_cell? w _ hx432_4)).trans hx432_4
        have HR432_4 := Aside0.mk hi432_4
        have HC432_4 := Aside0.mk hl432_4
        clear hi432_4 hl432_4
        replace p432 := eq_true p432
        replace q432 := eq_true q432
        try go_wp2_with (first | ((with_reducible refine gate_dst (N := 11) rfl ?_); refine box_event ?hg (N := 11) ?hd (cs := #[.int .i64 0, .string (⟨#[]⟩ : ByteArray), .int .i64 0, .int .i64 0, .slice none 0 0]) (t := 42) ?hr ?_; (case hd => rfl); (case hg => rfl); (case hr => first | (go_simp; done) | (go_simp; rfl)); intro gb433 hg w43 hbox hb; have n0_ := Aside0.mk (Kd.R_below (by (with_reducible repeat (first | apply Kd.R_alloc | apply Kd.R_drewN | apply Kd.R_drew)); exact HO_7.out) hb); have n1_ := Aside0.mk (Kd.Q_below (by (with_reducible repeat (first | apply Kd.Q_alloc | apply Kd.Q_drewN | apply Kd.Q_drew)); exact HO_8.out) hb); have n2_ := Aside0.mk (Kd.R_below (by (with_reducible repeat (first | apply Kd.R_alloc | apply Kd.R_drewN | apply Kd.R_drew)); exact HO_9.out) hb); have n3_ := Aside0.mk (below_step (by repeat (first | (with_reducible first | exact HB.out | apply below_alloc | apply pw_below_drewN | apply below_drew1) | exact HB.out)) hb); have n4_ := Aside0.mk (hbox); have n5_ := Aside0.mk ((by rw [hg]; exact (below_size (by repeat (first | (with_reducible first | exact HB.out | apply below_alloc | apply pw_below_drewN | apply below_drew1) | exact HB.out))) : w.heap.size ≤ gb433)); have n6_ := Aside0.mk ((by rw [hg]; exact (below_size (by repeat (first | (with_reducible first | exact HB.out | apply below_alloc | apply pw_below_drewN | apply below_drew1) | exact HB.out))) : w.heap.size ≤ gb433)); clear HO_7; clear HO_8; clear HO_9; clear HB; have HO_7 := n0_; have HO_8 := n1_; have HO_9 := n2_; have HB := n3_; have BK433 := n4_; have GW433 := n5_; have GE433 := n6_; clear n0_ n1_ n2_ n3_ n4_ n5_ n6_; clear hb hbox hg; have hcz44_0 : w43.cell? ⟨gb433, 0, none⟩ = some (.int .i64 0) := (blk_cell BK433.out 0).trans rfl; have hcz44_1 : w43.cell? ⟨gb433, 1, none⟩ = some (.string (⟨#[]⟩ : ByteArray)) := (blk_cell BK433.out 1).trans rfl; have hcz44_2 : w43.cell? ⟨gb433, 2, none⟩ = some (.int .i64 0) := (blk_cell BK433.out 2).trans rfl; have hcz44_3 : w43.cell? ⟨gb433, 3, none⟩ = some (.int .i64 0) := (blk_cell BK433.out 3).trans rfl; have hcz44_4 : w43.cell? ⟨gb433, 4, none⟩ = some (.slice none 0 0) := (blk_cell BK433.out 4).trans rfl; have hfz44_0 := blk_frozen BK433.out 0; have hfz44_1 := blk_frozen BK433.out 1; have hfz44_2 := blk_frozen BK433.out 2; have hfz44_3 := blk_frozen BK433.out 3; have hfz44_4 := blk_frozen BK433.out 4))
        have n0_ : Aside0 (Kd.R Kd.string 9 (((((w43.setCell ⟨gb433, 0, none⟩ (.int .i64 ((rd_T42 l1 x10_1).f0))).setCell ⟨gb433, 1, none⟩ (.string ((rd_T42 l1 x10_1).f1))).setCell ⟨gb433, 2, none⟩ (.int .i64 ((rd_T42 l1 x10_1).f2))).setCell ⟨gb433, 3, none⟩ (.int .i64 ((rd_T42 l1 x10_1).f3))).setCell ⟨gb433, 4, none⟩ (.slice A432_4 ((rd_T42 l1 x10_1).f4).length c432_4)) w.heap.size (fun k_ => some k_ ≠ (v429 : Value).ownBlock ∧ some k_ ≠ (u9 : Value).ownBlock) v427 t425) := ⟨by (with_reducible repeat (first | apply Kd.R_alloc | apply Kd.R_drewN | apply Kd.R_drew)); exact Kd.R_mono (Kd.R_far (p := ⟨gb433, 4, none⟩) (Kd.R_far (p := ⟨gb433, 3, none⟩) (Kd.R_far (p := ⟨gb433, 2, none⟩) (Kd.R_far (p := ⟨gb433, 1, none⟩) (Kd.R_far (p := ⟨gb433, 0, none⟩) (Kd.R_types HO_7.out BK433.out (by decide)) (fun _ hk => hk.2) (.int .i64 ((rd_T42 l1 x10_1).f0))) (fun _ hk => hk.2) (.string ((rd_T42 l1 x10_1).f1))) (fun _ hk => hk.2) (.int .i64 ((rd_T42 l1 x10_1).f2))) (fun _ hk => hk.2) (.int .i64 ((rd_T42 l1 x10_1).f3))) (fun _ hk => hk.2) (.slice A432_4 ((rd_T42 l1 x10_1).f4).length c432_4)) (fun _ hk => ⟨hk.1.1, hk.1.2⟩)⟩
        have n1_ : Aside0 (Kd.Q Kd.string 9 (((((w43.setCell ⟨gb433, 0, none⟩ (.int .i64 ((rd_T42 l1 x10_1).f0))).setCell ⟨gb433, 1, none⟩ (.string ((rd_T42 l1 x10_1).f1))).setCell ⟨gb433, 2, none⟩ (.int .i64 ((rd_T42 l1 x10_1).f2))).setCell ⟨gb433, 3, none⟩ (.int .i64 ((rd_T42 l1 x10_1).f3))).setCell ⟨gb433, 4, none⟩ (.slice A432_4 ((rd_T42 l1 x10_1).f4).length c432_4)) w.heap.size (fun k_ => some k_ ≠ (v427 : Value).ownBlock ∧ some k_ ≠ (u9 : Value).ownBlock) v429 t426) := ⟨by (with_reducible repeat (first | apply Kd.Q_alloc | apply Kd.Q_drewN | apply Kd.Q_drew)); exact Kd.Q_mono (Kd.Q_far (p := ⟨gb433, 4, none⟩) (Kd.Q_far (p := ⟨gb433, 3, none⟩) (Kd.Q_far (p := ⟨gb433, 2, none⟩) (Kd.Q_far (p := ⟨gb433, 1, none⟩) (Kd.Q_far (p := ⟨gb433, 0, none⟩) (Kd.Q_types HO_8.out BK433.out (by decide)) (fun _ hk => hk.2) (.int .i64 ((rd_T42 l1 x10_1).f0))) (fun _ hk => hk.2) (.string ((rd_T42 l1 x10_1).f1))) (fun _ hk => hk.2) (.int .i64 ((rd_T42 l1 x10_1).f2))) (fun _ hk => hk.2) (.int .i64 ((rd_T42 l1 x10_1).f3))) (fun _ hk => hk.2) (.slice A432_4 ((rd_T42 l1 x10_1).f4).length c432_4)) (fun _ hk => ⟨hk.1.1, hk.1.2⟩)⟩
        have n2_ : Aside0 (Kd.R Kd.string 9 (((((w43.setCell ⟨gb433, 0, none⟩ (.int .i64 ((rd_T42 l1 x10_1).f0))).setCell ⟨gb433, 1, none⟩ (.string ((rd_T42 l1 x10_1).f1))).setCell ⟨gb433, 2, none⟩ (.int .i64 ((rd_T42 l1 x10_1).f2))).setCell ⟨gb433, 3, none⟩ (.int .i64 ((rd_T42 l1 x10_1).f3))).setCell ⟨gb433, 4, none⟩ (.slice A432_4 ((rd_T42 l1 x10_1).f4).length c432_4)) w.heap.size (fun k_ => some k_ ≠ (v427 : Value).ownBlock ∧ some k_ ≠ (v429 : Value).ownBlock) u9 x9_1) := ⟨by (with_reducible repeat (first | apply Kd.R_alloc | apply Kd.R_drewN | apply Kd.R_drew)); exact Kd.R_mono (Kd.R_far (p := ⟨gb433, 4, none⟩) (Kd.R_far (p := ⟨gb433, 3, none⟩) (Kd.R_far (p := ⟨gb433, 2, none⟩) (Kd.R_far (p := ⟨gb433, 1, none⟩) (Kd.R_far (p := ⟨gb433, 0, none⟩) (Kd.R_types HO_9.out BK433.out (by decide)) (fun _ hk => hk.2) (.int .i64 ((rd_T42 l1 x10_1).f0))) (fun _ hk => hk.2) (.string ((rd_T42 l1 x10_1).f1))) (fun _ hk => hk.2) (.int .i64 ((rd_T42 l1 x10_1).f2))) (fun _ hk => hk.2) (.int .i64 ((rd_T42 l1 x10_1).f3))) (fun _ hk => hk.2) (.slice A432_4 ((rd_T42 l1 x10_1).f4).length c432_4)) (fun _ hk => ⟨hk.1.1, hk.1.2⟩)⟩
        have n3_ : Aside0 ((((((w43.setCell ⟨gb433, 0, none⟩ (.int .i64 ((rd_T42 l1 x10_1).f0))).setCell ⟨gb433, 1, none⟩ (.string ((rd_T42 l1 x10_1).f1))).setCell ⟨gb433, 2, none⟩ (.int .i64 ((rd_T42 l1 x10_1).f2))).setCell ⟨gb433, 3, none⟩ (.int .i64 ((rd_T42 l1 x10_1).f3))).setCell ⟨gb433, 4, none⟩ (.slice A432_4 ((rd_T42 l1 x10_1).f4).length c432_4)).heap[gb433]? = some (.cells #[.int .i64 ((rd_T42 l1 x10_1).f0), .string ((rd_T42 l1 x10_1).f1), .int .i64 ((rd_T42 l1 x10_1).f2), .int .i64 ((rd_T42 l1 x10_1).f3), .slice A432_4 ((rd_T42 l1 x10_1).f4).length c432_4] 42 (0, 0))) := ⟨by (with_reducible repeat (first | refine blk_drewN ?_ _ | refine blk_drew ?_ | refine blk_alloc ?_ _)); refine blk_put (cs := #[.int .i64 ((rd_T42 l1 x10_1).f0), .string ((rd_T42 l1 x10_1).f1), .int .i64 ((rd_T42 l1 x10_1).f2), .int .i64 ((rd_T42 l1 x10_1).f3), .slice none 0 0]) ?_ 4 _ rfl; (with_reducible repeat (first | refine blk_drewN ?_ _ | refine blk_drew ?_ | refine blk_alloc ?_ _)); refine blk_put (cs := #[.int .i64 ((rd_T42 l1 x10_1).f0), .string ((rd_T42 l1 x10_1).f1), .int .i64 ((rd_T42 l1 x10_1).f2), .int .i64 0, .slice none 0 0]) ?_ 3 _ rfl; (with_reducible repeat (first | refine blk_drewN ?_ _ | refine blk_drew ?_ | refine blk_alloc ?_ _)); refine blk_put (cs := #[.int .i64 ((rd_T42 l1 x10_1).f0), .string ((rd_T42 l1 x10_1).f1), .int .i64 0, .int .i64 0, .slice none 0 0]) ?_ 2 _ rfl; (with_reducible repeat (first | refine blk_drewN ?_ _ | refine blk_drew ?_ | refine blk_alloc ?_ _)); refine blk_put (cs := #[.int .i64 ((rd_T42 l1 x10_1).f0), .string (⟨#[]⟩ : ByteArray), .int .i64 0, .int .i64 0, .slice none 0 0]) ?_ 1 _ rfl; (with_reducible repeat (first | refine blk_drewN ?_ _ | refine blk_drew ?_ | refine blk_alloc ?_ _)); refine blk_put (cs := #[.int .i64 0, .string (⟨#[]⟩ : ByteArray), .int .i64 0, .int .i64 0, .slice none 0 0]) ?_ 0 _ rfl; (with_reducible repeat (first | refine blk_drewN ?_ _ | refine blk_drew ?_ | refine blk_alloc ?_ _)); exact BK433.out⟩
        have n4_ : Aside0 (Below w.heap.size w (((((w43.setCell ⟨gb433, 0, none⟩ (.int .i64 ((rd_T42 l1 x10_1).f0))).setCell ⟨gb433, 1, none⟩ (.string ((rd_T42 l1 x10_1).f1))).setCell ⟨gb433, 2, none⟩ (.int .i64 ((rd_T42 l1 x10_1).f2))).setCell ⟨gb433, 3, none⟩ (.int .i64 ((rd_T42 l1 x10_1).f3))).setCell ⟨gb433, 4, none⟩ (.slice A432_4 ((rd_T42 l1 x10_1).f4).length c432_4))) := ⟨by repeat (first | (with_reducible first | exact HB.out | apply below_alloc | apply pw_below_drewN | apply below_drew1 | refine below_set ?_ GE433.out) | exact HB.out)⟩
        (try clear HO_7)
        (try clear HO_8)
        (try clear HO_9)
        (try clear BK433)
        (try clear HB)
        generalize (((((w43.setCell ⟨gb433, 0, none⟩ (.int .i64 ((rd_T42 l1 x10_1).f0))).setCell ⟨gb433, 1, none⟩ (.string ((rd_T42 l1 x10_1).f1))).setCell ⟨gb433, 2, none⟩ (.int .i64 ((rd_T42 l1 x10_1).f2))).setCell ⟨gb433, 3, none⟩ (.int .i64 ((rd_T42 l1 x10_1).f3))).setCell ⟨gb433, 4, none⟩ (.slice A432_4 ((rd_T42 l1 x10_1).f4).length c432_4)) = w45 at n0_ n1_ n2_ n3_ n4_ ⊢
        have HO_7 := n0_
        have HO_8 := n1_
        have HO_9 := n2_
        have BK433 := n3_
        have HB := n4_
        clear n0_ n1_ n2_ n3_ n4_
        have n0_ := Aside0.mk (Kd.R_drew HO_7.out)
        have n1_ := Aside0.mk (Kd.Q_drew HO_8.out)
        have n2_ := Aside0.mk (Kd.R_drew HO_9.out)
        have n3_ := Aside0.mk (blk_drew BK433.out)
        have n4_ := Aside0.mk (below_drew1 HB.out)
        clear HO_7
        clear HO_8
        clear HO_9
        clear BK433
        clear HB
        have HO_7 := n0_
        have HO_8 := n1_
        have HO_9 := n2_
        have BK433 := n3_
        have HB := n4_
        clear n0_ n1_ n2_ n3_ n4_
        obtain ⟨Ao47, co47, eo47⟩ := Kd.R_slice HO_7.out
        (first | subst eo47 | (injection eo47 with f1_ f2_ f3_; have f4_ := f1_.symm; have f5_ := f3_.symm; clear f1_ f2_ f3_; subst f4_; subst f5_))
        have p447 : 0 ≤ ((ji38) : Int) := of_decide_eq_true (by first | (with_reducible assumption) | assumption)
        have q447 : (ji38) < (t425.length : Int) := of_decide_eq_true (by first | (with_reducible assumption) | assumption)
        obtain ⟨ad447, e447, hx447_0⟩ := Kd.at_string (Kd.R_reads' HO_7.out).2.2 (ji38) p447 q447
        cases e447
        replace p447 := eq_true p447
        replace q447 := eq_true q447
        refine start_ (n := 12) (S := fun w' => w'.cell? ⟨gb433, 0, none⟩ = some (.int .i64 ((rd_T42 l1 x10_1).f0)) ∧ w'.cell? ⟨gb433, 1, none⟩ = some (.string ((rd_T42 l1 x10_1).f1)) ∧ w'.cell? ⟨gb433, 2, none⟩ = some (.int .i64 ((rd_T42 l1 x10_1).f2)) ∧ w'.cell? ⟨gb433, 3, none⟩ = some (.int .i64 ((rd_T42 l1 x10_1).f3)) ∧ w'.cell? ⟨gb433, 4, none⟩ = some (.slice A432_4 ((rd_T42 l1 x10_1).f4).length c432_4) ∧ w'.cell? (ad447.add ((ji38)).toNat) = some (.string (rdOf ByteArray.empty t425 (ji38)))) (ds := [9, 10]) #[false, false, false, false, false, false, false, false, false, false, false, false] (by kernel_rfl) rfl rfl ⟨(blk_cell BK433.out 0).trans rfl, (blk_cell BK433.out 1).trans rfl, (blk_cell BK433.out 2).trans rfl, (blk_cell BK433.out 3).trans rfl, (blk_cell BK433.out 4).trans rfl, hx447_0⟩ (fun hHeld => ?_); refine with_tabW spec_Mapped.tab8 spec_Mapped.bits8 (fun HT_ HW_ => ?_)
        generalize w45.drew = w46 at HO_7 HO_8 HO_9 BK433 HB hx447_0 hHeld ⊢
        refine pure_ (i := 0) (N := some 32) (v := ?_) (a' := ?_) #[true, false, false, false, false, false, false, false, false, false, false, false] rfl rfl (any_of HT_.out (by kernel_rfl)) (fun _ _ _ h => h) (Or.inl ⟨by rfl, ?_⟩) ?_ ?_
        rotate_left
        ·
         intro w'
         go_simp
         with_reducible rfl
        rotate_left
        ·
         simp only [Act.put, List.setIfInBounds_toArray, List.set_cons_zero, List.set_cons_succ, i64_w, i32_w]
         rfl
        refine pure_ (i := 2) (N := some 34) (v := ?_) (a' := ?_) #[true, false, true, false, false, false, false, false, false, false, false, false] rfl rfl (any_of HT_.out (by kernel_rfl)) (fun _ _ _ h => h) (Or.inl ⟨by rfl, ?_⟩) ?_ ?_
        rotate_left
        ·
         intro w'
         go_simp
         with_reducible rfl
        rotate_left
        ·
         simp only [Act.put, List.setIfInBounds_toArray, List.set_cons_zero, List.set_cons_succ, i64_w, i32_w]
         rfl
        refine pure_ (i := 3) (N := some 35) (v := ?_) (a' := ?_) #[true, false, true, true, false, false, false, false, false, false, false, false] rfl rfl (any_of HT_.out (by kernel_rfl)) (fun _ _ _ h => h) (Or.inl ⟨by rfl, ?_⟩) ?_ ?_
        rotate_left
        ·
         intro w'
         go_simp
         with_reducible rfl
        rotate_left
        ·
         simp only [Act.put, List.setIfInBounds_toArray, List.set_cons_zero, List.set_cons_succ, i64_w, i32_w]
         rfl
        refine take_ (i := 1) (N := some 33) (v := ?_) (a' := ?_) #[true, true, true, true, false, false, false, false, false, false, false, false] rfl rfl (take_ofW HT_.out HW_.out (by kernel_rfl)) (fun _ _ _ h => h) (Or.inl ⟨by rfl, ?_⟩) hHeld ?_ ?_
        rotate_left
        ·
         rintro w' ⟨s0, s1, s2, s3, s4, s5⟩
         go_simp
         with_reducible rfl
        rotate_left
        ·
         simp only [Act.put, List.setIfInBounds_toArray, List.set_cons_zero, List.set_cons_succ, i64_w, i32_w]
         rfl
        refine take_ (i := 4) (N := some 36) (v := ?_) (a' := ?_) #[true, true, true, true, true, false, false, false, false, false, false, false] rfl rfl (take_ofW HT_.out HW_.out (by kernel_rfl)) (fun _ _ _ h => h) (Or.inl ⟨by rfl, ?_⟩) hHeld ?_ ?_
        rotate_left
        ·
         rintro w' ⟨s0, s1, s2, s3, s4, s5⟩
         go_simp
         with_reducible rfl
        rotate_left
        ·
         simp only [Act.put, List.setIfInBounds_toArray, List.set_cons_zero, List.set_cons_succ, i64_w, i32_w]
         rfl
        refine pure_ (i := 5) (N := some 37) (v := ?_) (a' := ?_) #[true, true, true, true, true, true, false, false, false, false, false, false] rfl rfl (any_of HT_.out (by kernel_rfl)) (fun _ _ _ h => h) (Or.inl ⟨by rfl, ?_⟩) ?_ ?_
        rotate_left
        ·
         intro w'
         go_simp
         with_reducible rfl
        rotate_left
        ·
         simp only [Act.put, List.setIfInBounds_toArray, List.set_cons_zero, List.set_cons_succ, i64_w, i32_w]
         rfl
        refine pure_ (i := 6) (N := some 38) (v := ?_) (a' := ?_) #[true, true, true, true, true, true, true, false, false, false, false, false] rfl rfl (any_of HT_.out (by kernel_rfl)) (fun _ _ _ h => h) (Or.inl ⟨by rfl, ?_⟩) ?_ ?_
        rotate_left
        ·
         intro w'
         go_simp
         with_reducible rfl
        rotate_left
        ·
         simp only [Act.put, List.setIfInBounds_toArray, List.set_cons_zero, List.set_cons_succ, i64_w, i32_w]
         rfl
        refine take_ (i := 7) (N := some 39) (v := ?_) (a' := ?_) #[true, true, true, true, true, true, true, true, false, false, false, false] rfl rfl (take_ofW HT_.out HW_.out (by kernel_rfl)) (fun _ _ _ h => h) (Or.inl ⟨by rfl, ?_⟩) hHeld ?_ ?_
        rotate_left
        ·
         rintro w' ⟨s0, s1, s2, s3, s4, s5⟩
         go_simp
         with_reducible rfl
        rotate_left
        ·
         simp only [Act.put, List.setIfInBounds_toArray, List.set_cons_zero, List.set_cons_succ, i64_w, i32_w]
         rfl
        refine one_ (i := 8) (N := some 40) #[true, true, true, true, true, true, true, true, true, false, false, false] rfl rfl (one_of HT_.out (by kernel_rfl)) (by decide) (fun K hK => ?_)
        refine goes_ Tryd.func36 (by kernel_rfl) rfl #[.agg #[.int .i64 ((rd_T42 l1 x10_1).f0), .string ((rd_T42 l1 x10_1).f1), .int .i64 ((rd_T42 l1 x10_1).f2), .int .i64 ((rd_T42 l1 x10_1).f3), .slice A432_4 ((rd_T42 l1 x10_1).f4).length c432_4], .string (rdOf ByteArray.empty t425 (ji38))] (by rfl) rfl rfl (by (try simp only [List.map_toArray, List.map_cons, List.map_nil]); first | done | (simp only [hji38]; rfl) | rfl | (simp only [List.length_drop, List.length_take]; rfl)) ?_
        with_reducible refine (spec_Piece.calls k1 ((rd_T42 l1 x10_1).f0) ((rd_T42 l1 x10_1).f1) ((rd_T42 l1 x10_1).f2) ((rd_T42 l1 x10_1).f3) _ _ ((rd_T42 l1 x10_1).f4) (rdOf ByteArray.empty t425 (ji38)) t448 _ ?side1 ?side2 A41.out).mono ?_
        (case side1 => repeat (first | exact (Kd.C_below HR432_4.out HB.out) | (with_reducible refine Kd.C_alloc ?_ _) | (with_reducible refine Kd.C_drewN ?_ _) | (with_reducible refine Kd.C_drew ?_)))
        (case side2 => exact HC432_4.out)
        rintro e w48 ⟨rfl, hb⟩
        have HS5_ := (hb.cell (World.block_lt_of_cell? _ _ (hHeld.2.2.2.2.2))).trans (hHeld.2.2.2.2.2)
        refine ⟨_, rfl, ?_⟩
        have n0_ := Aside0.mk (Kd.R_below (by (with_reducible repeat (first | apply Kd.R_alloc | apply Kd.R_drewN | apply Kd.R_drew)); exact HO_7.out) hb)
        have n1_ := Aside0.mk (Kd.Q_below (by (with_reducible repeat (first | apply Kd.Q_alloc | apply Kd.Q_drewN | apply Kd.Q_drew)); exact HO_8.out) hb)
        have n2_ := Aside0.mk (Kd.R_below (by (with_reducible repeat (first | apply Kd.R_alloc | apply Kd.R_drewN | apply Kd.R_drew)); exact HO_9.out) hb)
        have n3_ := Aside0.mk (blk_below (g := gb433) (o := .cells #[.int .i64 ((rd_T42 l1 x10_1).f0), .string ((rd_T42 l1 x10_1).f1), .int .i64 ((rd_T42 l1 x10_1).f2), .int .i64 ((rd_T42 l1 x10_1).f3), .slice A432_4 ((rd_T42 l1 x10_1).f4).length c432_4] 42 (0, 0)) (by (with_reducible repeat (first | refine blk_drewN ?_ _ | refine blk_drew ?_ | refine blk_alloc ?_ _)); exact BK433.out) hb)
        have n4_ := Aside0.mk (below_step (by repeat (first | (with_reducible first | exact HB.out | apply below_alloc | apply pw_below_drewN | apply below_drew1 | refine below_set ?_ GE433.out) | exact HB.out)) hb)
        clear HO_7
        clear HO_8
        clear HO_9
        clear BK433
        clear HB
        have HO_7 := n0_
        have HO_8 := n1_
        have HO_9 := n2_
        have BK433 := n3_
        have HB := n4_
        clear n0_ n1_ n2_ n3_ n4_
        (try clear hb)
        (try clear hb2)
        (try clear hk)
        (try clear hi)
        refine hK.out _ _ ⟨(blk_cell BK433.out 0).trans rfl, (blk_cell BK433.out 1).trans rfl, (blk_cell BK433.out 2).trans rfl, (blk_cell BK433.out 3).trans rfl, (blk_cell BK433.out 4).trans rfl, HS5_⟩ (fun hHeld => ?_)
        clear hK K
        refine norm_ (a' := ?_) ?_ ?_
        rotate_left
        ·
         show Act.put _ (some 40) _ = _
         simp only [Act.put, List.setIfInBounds_toArray, List.set_cons_zero, List.set_cons_succ, i64_w, i32_w]
         rfl
        refine last_ (i := 9) (N := some 41) #[true, true, true, true, true, true, true, true, true, true, false, false] rfl rfl (one_of HT_.out (by kernel_rfl)) (by decide) (fun K hK => ?_)
        refine value_ (w1 := ?_) (v := ?_) (by rfl) rfl ?_ ?_
        rotate_left 2
        ·
         go_simp
         constructor
         ·
          rfl
         rfl
        refine hK.out _ _ ?_
        clear hK K
        refine norm_ (a' := ?_) ?_ ?_
        rotate_left
        ·
         show Act.put _ (some 41) _ = _
         simp only [Act.put, List.setIfInBounds_toArray, List.set_cons_zero, List.set_cons_succ, i64_w, i32_w]
         rfl
        refine last_ (i := 10) (N := some 42) #[true, true, true, true, true, true, true, true, true, true, true, false] rfl rfl (one_of HT_.out (by kernel_rfl)) (by decide) (fun K hK => ?_)
        refine Kd.R_append_step Kd.string (w0 := w) w.heap.size (by rfl) (.tmp 32) (.tmp 41) 30 9 (.string ⟨#[]⟩) 16 rfl Tryd.underlying30 info9 rfl (by decide) (by omega) u9 x9_1 t448 [.string t448] (fun k_ => some k_ ≠ (.slice (some ad447) t425.length co47 : Value).ownBlock ∧ some k_ ≠ (v429 : Value).ownBlock) (fun _ => False) rfl rfl ?aP (fun _ hk => hk.elim) ?aF ?aO ?aB ?aS ?aL ?_
        (case aP => exact rfl)
        (case aB => exact (by repeat (first | (with_reducible first | exact HB.out | apply below_alloc | apply pw_below_drewN | apply below_drew1 | refine below_set ?_ GE433.out) | exact HB.out)))
        (case aF => exact (fun k_ hk => ⟨Kd.fresh' (Kd.R_lt (by (with_reducible repeat (first | apply Kd.R_alloc | apply Kd.R_drewN | apply Kd.R_drew)); exact HO_7.out)) k_ hk, Kd.fresh' (Kd.Q_lt (by (with_reducible repeat (first | apply Kd.Q_alloc | apply Kd.Q_drewN | apply Kd.Q_drew)); exact HO_8.out)) k_ hk⟩))
        (case aO => exact (by (with_reducible repeat (first | apply Kd.R_alloc | apply Kd.R_drewN | apply Kd.R_drew)); exact HO_9.out))
        (case aS => exact (below_size (by repeat (first | (with_reducible first | exact HB.out | apply below_alloc | apply pw_below_drewN | apply below_drew1 | refine below_set ?_ GE433.out) | exact HB.out))))
        (case aL => have := LMc42.out; omega)
        intro v450 w49 ho hb hg hat
        rw [← Ny449.out] at ho
        have n0_ := Aside0.mk (Kd.R_after (ok := (fun k_ => some k_ ≠ (v429 : Value).ownBlock)) (by (with_reducible repeat (first | apply Kd.R_alloc | apply Kd.R_drewN | apply Kd.R_drew)); exact HO_7.out) hg hat)
        have n1_ := Aside0.mk (Kd.Q_after (ok := (fun k_ => some k_ ≠ (.slice (some ad447) t425.length co47 : Value).ownBlock)) (by (with_reducible repeat (first | apply Kd.Q_alloc | apply Kd.Q_drewN | apply Kd.Q_drew)); exact HO_8.out) hg hat)
        have n2_ := Aside0.mk (blk_grown (g := gb433) (o := .cells #[.int .i64 ((rd_T42 l1 x10_1).f0), .string ((rd_T42 l1 x10_1).f1), .int .i64 ((rd_T42 l1 x10_1).f2), .int .i64 ((rd_T42 l1 x10_1).f3), .slice A432_4 ((rd_T42 l1 x10_1).f4).length c432_4] 42 (0, 0)) (by (with_reducible repeat (first | refine blk_drewN ?_ _ | refine blk_drew ?_ | refine blk_alloc ?_ _)); exact BK433.out) hg (Kd.R_ne HO_9.out BK433.out (by decide)))
        have n3_ := Aside0.mk (hb)
        have n4_ := Aside0.mk (ho)
        clear HO_7
        clear HO_8
        clear BK433
        clear HB
        clear HO_9
        have HO_7 := n0_
        have HO_8 := n1_
        have BK433 := n2_
        have HB := n3_
        have HO451 := n4_
        clear n0_ n1_ n2_ n3_ n4_
        clear ho hb hg hat
        refine hK.out _ _ ?_
        clear hK K
        refine norm_ (a' := ?_) ?_ ?_
        rotate_left
        ·
         show Act.put _ (some 42) _ = _
         simp only [Act.put, List.setIfInBounds_toArray, List.set_cons_zero, List.set_cons_succ, i64_w, i32_w]
         rfl
        refine pure_ (i := 11) (N := some 9) (v := ?_) (a' := ?_) #[true, true, true, true, true, true, true, true, true, true, true, true] rfl rfl (any_of HT_.out (by kernel_rfl)) (fun _ _ _ h => h) (Or.inl ⟨by rfl, ?_⟩) ?_ ?_
        rotate_left
        ·
         intro w'
         go_simp
         with_reducible rfl
        rotate_left
        ·
         simp only [Act.put, List.setIfInBounds_toArray, List.set_cons_zero, List.set_cons_succ, i64_w, i32_w]
         rfl
        refine done_ (done_of HT_.out (by kernel_rfl)) ?_
        try go_wp2
        go_roundg k1
        case measure => have := HK1.out; omega
        case rel => exact ⟨(y449), (wrap64 (x10_1 + 1)), (by first | rfl | (simp; done) | (simp [*]; done)), H', ⟨by have := HK1.out; omega⟩, ⟨by (with_reducible repeat (first | apply Kd.R_alloc | apply Kd.R_drewN | apply Kd.R_drew)); exact HO_7.out⟩, ⟨by (with_reducible repeat (first | apply Kd.Q_alloc | apply Kd.Q_drewN | apply Kd.Q_drew)); exact HO_8.out⟩, ⟨by (with_reducible repeat (first | apply Kd.R_alloc | apply Kd.R_drewN | apply Kd.R_drew)); exact HO451.out⟩, ⟨by repeat (first | (with_reducible first | exact HB.out | apply below_alloc | apply pw_below_drewN | apply below_drew1 | refine below_set ?_ GE433.out) | exact HB.out)⟩⟩
       rw [if_neg c42] at H
       exact absurd H (by simp)
      rw [if_neg c40] at H
      exact absurd H (by simp)
     rw [if_neg c39] at H
     exact absurd H (by simp)
    rw [if_neg c7] at H
    exact absurd H (by simp)
   rw [if_neg c6] at H
   have c6b0 : decide (x10_1 < (l1.length : Int)) = false := decide_eq_false c6
   clear c6
   replace H := Option.bind_eq_some_iff.mp H
   obtain ⟨t431, A500, H⟩ := H
   replace H : (some t431) = some r := H
   have A50 := Aside0.mk A500
   clear A500
   obtain rfl := Option.some.inj H
   obtain ⟨Ao51, co51, eo51⟩ := Kd.R_slice HO_9.out
   subst eo51
   go_wp2_with (first | ((with_reducible refine gate_callee (f := 37) rfl ?_); refine goesL_ (some 87) rfl rfl Tryd.func37 (by kernel_rfl) rfl #[.slice Ao51 x9_1.length co51] rfl (by (try simp only [List.map_toArray, List.map_cons, List.map_nil]); first | done | rfl | (simp only [List.length_drop, List.length_take]; rfl)) ?_; (with_reducible refine (spec_Join.calls k1 _ _ x9_1 t431 _ ?side1 ?side2 A50.out).mono ?_); (case side1 => repeat (first | exact (Kd.R_reads' HO_9.out).2.2 | (with_reducible refine Kd.C_alloc ?_ _) | (with_reducible refine Kd.C_drewN ?_ _) | (with_reducible refine Kd.C_drew ?_))); (case side2 => exact (Kd.R_reads' HO_9.out).2.1); rintro e w' ⟨rfl, ⟨nd, rfl⟩⟩; refine ⟨_, rfl, ?_⟩))
   go_ret
   exact ⟨by first | rfl | (simp [errW_none, errW_some] <;> rfl) | (simp [*, errW_none, errW_some] <;> rfl), by repeat (first | (with_reducible first | exact HB.out | apply below_alloc | apply pw_below_drewN | apply below_drew1) | exact HB.out)⟩
end Go.Proofs.YtoopmpjgmgffoaaDoor.GFnTransformBack
