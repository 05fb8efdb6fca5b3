/- A walk of Go functions (plain functions of theirs, and that the machine's calls do what these say), written by a program of this session's. -/
import Derived.Test.YtoopmpjgmgffoaaDoorGFnTransformBackx0
namespace Go.Proofs.YtoopmpjgmgffoaaDoor.GFnTransformBack
open Go.RowKit Go.Proofs.YtoopmpjgmgffoaaDoorW.PrintWords Go.Proofs.YtoopmpjgmgffoaaDoorW.PrintLast Go.Proofs.YtoopmpjgmgffoaaDoorW.PrintMore
set_option linter.unusedVariables false
set_option linter.unusedSimpArgs false
def laws_zzFits11.f (a0_0 : Int) (a0_1 : ByteArray) (a0_2 : Int) (a0_3 : Int) (l0_4 : List Int) : Option (Bool) := if (a0_1.size : Int) > 2147483647 then (some false) else (if (l0_4.length : Int) > 2147483647 then (some false) else (some true))
set_option maxHeartbeats 8000000 in
set_option maxRecDepth 100000 in
theorem laws_zzFits11.calls (a0_0 : Int) (a0_1 : ByteArray) (a0_2 : Int) (a0_3 : Int) (A0_4 : Option Addr) (c0_4 : Nat) (l0_4 : List Int) (r : Bool) (w : World) (hr0_4 : Kd.C (Kd.int .i64) w A0_4 l0_4.length l0_4) (hc0_4 : l0_4.length ≤ c0_4) (h : laws_zzFits11.f a0_0 a0_1 a0_2 a0_3 l0_4 = some r) :
  Calls Tryd.prog 18 #[.agg #[.int .i64 a0_0, .string a0_1, .int .i64 a0_2, .int .i64 a0_3, .slice A0_4 l0_4.length c0_4]] w fun e w' => e = .returned (.bool r) ∧ Below w.heap.size w w' := by
 have hu42 := Tryd.underlying42
 have HR0_4 := Aside0.mk hr0_4
 have HC0_4 := Aside0.mk hc0_4
 clear hr0_4 hc0_4
 have HB := Aside0.mk (Below.refl w.heap.size w)
 have H : (if (a0_1.size : Int) > 2147483647 then (some false) else (if (l0_4.length : Int) > 2147483647 then (some false) else (some true))) = some r := h
 clear h
 by_cases c2 : (a0_1.size : Int) > 2147483647
 ·
  rw [if_pos c2] at H
  have c2b0 : decide (2147483647 < (a0_1.size : Int)) = true := decide_eq_true c2
  have c2b1 : decide (2147483647 < a0_1.size) = true := decide_eq_true (by omega)
  clear c2
  obtain rfl := Option.some.inj H
  go_enter Tryd.func18, Tryd.ntmps18
  go_wp2_with (first | ((with_reducible refine gate_dst (N := 1) rfl ?_); refine box_event ?hg (N := 1) ?hd (cs := #[.int .i64 a0_0, .string a0_1, .int .i64 a0_2, .int .i64 a0_3, .slice A0_4 l0_4.length c0_4]) (t := 42) ?hr ?_; (case hd => rfl); (case hg => rfl); (case hr => first | (go_simp; done) | (go_simp; rfl)); intro gb101 hg w3 hbox hb; have n0_ := Aside0.mk (below_step (by repeat (first | (with_reducible first | exact HB.out | apply below_alloc | apply pw_below_drewN | apply below_drew1) | exact HB.out)) hb); have n1_ := Aside0.mk (hbox); have n2_ := Aside0.mk ((by rw [hg]; exact (below_size (by repeat (first | (with_reducible first | exact HB.out | apply below_alloc | apply pw_below_drewN | apply below_drew1) | exact HB.out))) : w.heap.size ≤ gb101)); have n3_ := Aside0.mk ((by rw [hg]; exact (below_size (by repeat (first | (with_reducible first | exact HB.out | apply below_alloc | apply pw_below_drewN | apply below_drew1) | exact HB.out))) : w.heap.size ≤ gb101)); clear HB; have HB := n0_; have BK101 := n1_; have GW101 := n2_; have GE101 := n3_; clear n0_ n1_ n2_ n3_; clear hb hbox hg; have hcz4_0 : w3.cell? ⟨gb101, 0, none⟩ = some (.int .i64 a0_0) := (blk_cell BK101.out 0).trans rfl; have hcz4_1 : w3.cell? ⟨gb101, 1, none⟩ = some (.string a0_1) := (blk_cell BK101.out 1).trans rfl; have hcz4_2 : w3.cell? ⟨gb101, 2, none⟩ = some (.int .i64 a0_2) := (blk_cell BK101.out 2).trans rfl; have hcz4_3 : w3.cell? ⟨gb101, 3, none⟩ = some (.int .i64 a0_3) := (blk_cell BK101.out 3).trans rfl; have hcz4_4 : w3.cell? ⟨gb101, 4, none⟩ = some (.slice A0_4 l0_4.length c0_4) := (blk_cell BK101.out 4).trans rfl; have hfz4_0 := blk_frozen BK101.out 0; have hfz4_1 := blk_frozen BK101.out 1; have hfz4_2 := blk_frozen BK101.out 2; have hfz4_3 := blk_frozen BK101.out 3; have hfz4_4 := blk_frozen BK101.out 4))
  go_ret
  exact ⟨by first | rfl | (simp [errW_none, errW_some] <;> rfl) | (simp [*, errW_none, errW_some] <;> rfl), by repeat (first | (with_reducible first | exact HB.out | apply below_alloc | apply pw_below_drewN | apply below_drew1 | refine below_set ?_ GE101.out) | exact HB.out)⟩
 rw [if_neg c2] at H
 have c2b0 : decide (2147483647 < (a0_1.size : Int)) = false := decide_eq_false c2
 have c2b1 : decide (2147483647 < a0_1.size) = false := decide_eq_false (by omega)
 clear c2
 by_cases c5 : (l0_4.length : Int) > 2147483647
 ·
  rw [if_pos c5] at H
  have c5b0 : decide (2147483647 < (l0_4.length : Int)) = true := decide_eq_true c5
  have c5b1 : decide (2147483647 < l0_4.length) = true := decide_eq_true (by omega)
  clear c5
  obtain rfl := Option.some.inj H
  go_enter Tryd.func18, Tryd.ntmps18
  go_wp2_with (first | ((with_reducible refine gate_dst (N := 1) rfl ?_); refine box_event ?hg (N := 1) ?hd (cs := #[.int .i64 a0_0, .string a0_1, .int .i64 a0_2, .int .i64 a0_3, .slice A0_4 l0_4.length c0_4]) (t := 42) ?hr ?_; (case hd => rfl); (case hg => rfl); (case hr => first | (go_simp; done) | (go_simp; rfl)); intro gb101 hg w6 hbox hb; have n0_ := Aside0.mk (below_step (by repeat (first | (with_reducible first | exact HB.out | apply below_alloc | apply pw_below_drewN | apply below_drew1) | exact HB.out)) hb); have n1_ := Aside0.mk (hbox); have n2_ := Aside0.mk ((by rw [hg]; exact (below_size (by repeat (first | (with_reducible first | exact HB.out | apply below_alloc | apply pw_below_drewN | apply below_drew1) | exact HB.out))) : w.heap.size ≤ gb101)); have n3_ := Aside0.mk ((by rw [hg]; exact (below_size (by repeat (first | (with_reducible first | exact HB.out | apply below_alloc | apply pw_below_drewN | apply below_drew1) | exact HB.out))) : w.heap.size ≤ gb101)); clear HB; have HB := n0_; have BK101 := n1_; have GW101 := n2_; have GE101 := n3_; clear n0_ n1_ n2_ n3_; clear hb hbox hg; have hcz7_0 : w6.cell? ⟨gb101, 0, none⟩ = some (.int .i64 a0_0) := (blk_cell BK101.out 0).trans rfl; have hcz7_1 : w6.cell? ⟨gb101, 1, none⟩ = some (.string a0_1) := (blk_cell BK101.out 1).trans rfl; have hcz7_2 : w6.cell? ⟨gb101, 2, none⟩ = some (.int .i64 a0_2) := (blk_cell BK101.out 2).trans rfl; have hcz7_3 : w6.cell? ⟨gb101, 3, none⟩ = some (.int .i64 a0_3) := (blk_cell BK101.out 3).trans rfl; have hcz7_4 : w6.cell? ⟨gb101, 4, none⟩ = some (.slice A0_4 l0_4.length c0_4) := (blk_cell BK101.out 4).trans rfl; have hfz7_0 := blk_frozen BK101.out 0; have hfz7_1 := blk_frozen BK101.out 1; have hfz7_2 := blk_frozen BK101.out 2; have hfz7_3 := blk_frozen BK101.out 3; have hfz7_4 := blk_frozen BK101.out 4))
  go_ret
  exact ⟨by first | rfl | (simp [errW_none, errW_some] <;> rfl) | (simp [*, errW_none, errW_some] <;> rfl), by repeat (first | (with_reducible first | exact HB.out | apply below_alloc | apply pw_below_drewN | apply below_drew1 | refine below_set ?_ GE101.out) | exact HB.out)⟩
 rw [if_neg c5] at H
 have c5b0 : decide (2147483647 < (l0_4.length : Int)) = false := decide_eq_false c5
 have c5b1 : decide (2147483647 < l0_4.length) = false := decide_eq_false (by omega)
 clear c5
 obtain rfl := Option.some.inj H
 go_enter Tryd.func18, Tryd.ntmps18
 go_wp2_with (first | ((with_reducible refine gate_dst (N := 1) rfl ?_); refine box_event ?hg (N := 1) ?hd (cs := #[.int .i64 a0_0, .string a0_1, .int .i64 a0_2, .int .i64 a0_3, .slice A0_4 l0_4.length c0_4]) (t := 42) ?hr ?_; (case hd => rfl); (case hg => rfl); (case hr => first | (go_simp; done) | (go_simp; rfl)); intro gb101 hg w8 hbox hb; have n0_ := Aside0.mk (below_step (by repeat (first | (with_reducible first | exact HB.out | apply below_alloc | apply pw_below_drewN | apply below_drew1) | exact HB.out)) hb); have n1_ := Aside0.mk (hbox); have n2_ := Aside0.mk ((by rw [hg]; exact (below_size (by repeat (first | (with_reducible first | exact HB.out | apply below_alloc | apply pw_below_drewN | apply below_drew1) | exact HB.out))) : w.heap.size ≤ gb101)); have n3_ := Aside0.mk ((by rw [hg]; exact (below_size (by repeat (first | (with_reducible first | exact HB.out | apply below_alloc | apply pw_below_drewN | apply below_drew1) | exact HB.out))) : w.heap.size ≤ gb101)); clear HB; have HB := n0_; have BK101 := n1_; have GW101 := n2_; have GE101 := n3_; clear n0_ n1_ n2_ n3_; clear hb hbox hg; have hcz9_0 : w8.cell? ⟨gb101, 0, none⟩ = some (.int .i64 a0_0) := (blk_cell BK101.out 0).trans rfl; have hcz9_1 : w8.cell? ⟨gb101, 1, none⟩ = some (.string a0_1) := (blk_cell BK101.out 1).trans rfl; have hcz9_2 : w8.cell? ⟨gb101, 2, none⟩ = some (.int .i64 a0_2) := (blk_cell BK101.out 2).trans rfl; have hcz9_3 : w8.cell? ⟨gb101, 3, none⟩ = some (.int .i64 a0_3) := (blk_cell BK101.out 3).trans rfl; have hcz9_4 : w8.cell? ⟨gb101, 4, none⟩ = some (.slice A0_4 l0_4.length c0_4) := (blk_cell BK101.out 4).trans rfl; have hfz9_0 := blk_frozen BK101.out 0; have hfz9_1 := blk_frozen BK101.out 1; have hfz9_2 := blk_frozen BK101.out 2; have hfz9_3 := blk_frozen BK101.out 3; have hfz9_4 := blk_frozen BK101.out 4))
 go_ret
 exact ⟨by first | rfl | (simp [errW_none, errW_some] <;> rfl) | (simp [*, errW_none, errW_some] <;> rfl), by repeat (first | (with_reducible first | exact HB.out | apply below_alloc | apply pw_below_drewN | apply below_drew1 | refine below_set ?_ GE101.out) | exact HB.out)⟩
def laws_zzFits10.l0 : Nat → List (S42) → Int → Int → Option (Bool)
 | 0, _, _, _ => none
 | k + 1, x8, x9, x10 => if x10 < x9 then (if 0 ≤ x10 then (if x10 < (x8.length : Int) then ((laws_zzFits11.f ((rd_T42 x8 x10).f0) ((rd_T42 x8 x10).f1) ((rd_T42 x8 x10).f2) ((rd_T42 x8 x10).f3) ((rd_T42 x8 x10).f4)).bind fun t104 => (if t104 = true then (laws_zzFits10.l0 k x8 x9 (wrap64 (x10 + 1))) else (some false))) else (none)) else (none)) else (some true)
def laws_zzFits10.f (k : Nat) (l0 : List (S42)) : Option (Bool) := if (l0.length : Int) > 2147483647 then (some false) else (laws_zzFits10.l0 k l0 (l0.length : Int) 0)
set_option maxHeartbeats 8000000 in
set_option maxRecDepth 100000 in
theorem laws_zzFits10.calls (k : Nat) (A0 : Option Addr) (c0 : Nat) (l0 : List (S42)) (r : Bool) (w : World) (hr0 : Kd.C k42 w A0 l0.length l0) (hc0 : l0.length ≤ c0) (h : laws_zzFits10.f k l0 = some r) :
  Calls Tryd.prog 5 #[.slice A0 l0.length c0] w fun e w' => e = .returned (.bool r) ∧ Below w.heap.size w w' := by
 have hu42 := Tryd.underlying42
 have HR0 := Aside0.mk hr0
 have HC0 := Aside0.mk hc0
 clear hr0 hc0
 have HB := Aside0.mk (Below.refl w.heap.size w)
 have H : (if (l0.length : Int) > 2147483647 then (some false) else (laws_zzFits10.l0 k l0 (l0.length : Int) 0)) = some r := h
 clear h
 by_cases c2 : (l0.length : Int) > 2147483647
 ·
  rw [if_pos c2] at H
  have c2b0 : decide (2147483647 < (l0.length : Int)) = true := decide_eq_true c2
  have c2b1 : decide (2147483647 < l0.length) = true := decide_eq_true (by omega)
  clear c2
  obtain rfl := Option.some.inj H
  go_enter Tryd.func5, Tryd.ntmps5
  go_wp2
  go_ret
  exact ⟨by first | rfl | (simp [errW_none, errW_some] <;> rfl) | (simp [*, errW_none, errW_some] <;> rfl), by repeat (first | (with_reducible first | exact HB.out | apply below_alloc | apply pw_below_drewN | apply below_drew1) | exact HB.out)⟩
 rw [if_neg c2] at H
 have c2b0 : decide (2147483647 < (l0.length : Int)) = false := decide_eq_false c2
 have c2b1 : decide (2147483647 < l0.length) = false := decide_eq_false (by omega)
 clear c2
 have H' := Aside0.mk H
 clear H
 go_enter Tryd.func5, Tryd.ntmps5
 go_wp2
 go_loopg [10] k (fun kq v10 w' => ∃ (x10_1 : Int), v10 = .int .i64 x10_1 ∧ Aside0 (laws_zzFits10.l0 kq l0 (l0.length : Int) x10_1 = some r) ∧ Aside0 (kq ≤ k) ∧ Aside0 (Below w.heap.size w w'))
 case atStart => exact ⟨(0), (by first | rfl | (simp; done) | (simp [*]; done)), H', ⟨Nat.le_refl _⟩, ⟨by repeat (first | (with_reducible first | exact HB.out | apply below_alloc | apply pw_below_drewN | apply below_drew1) | exact HB.out)⟩⟩
 case round =>
  clear H'
  try clear c2
  try clear c2b0
  try clear c2b1
  try clear p2
  obtain ⟨x10_1, rfl, HA, HK1, HB⟩ := hrel
  cases gk with
  | zero => exact absurd HA.out (by simp [laws_zzFits10.l0])
  | succ k1 =>
   have H := HA.out
   clear HA
   simp only [laws_zzFits10.l0] at H
   by_cases c3 : x10_1 < (l0.length : Int)
   ·
    rw [if_pos c3] at H
    have c3b0 : decide (x10_1 < (l0.length : Int)) = true := decide_eq_true c3
    clear c3
    by_cases c4 : 0 ≤ x10_1
    ·
     rw [if_pos c4] at H
     have c4b0 : decide (0 ≤ x10_1) = true := decide_eq_true c4
     clear c4
     by_cases c5 : x10_1 < (l0.length : Int)
     ·
      rw [if_pos c5] at H
      have c5b0 : decide (x10_1 < (l0.length : Int)) = true := decide_eq_true c5
      clear c5
      replace H := Option.bind_eq_some_iff.mp H
      obtain ⟨t104, A60, H⟩ := H
      replace H : (if t104 = true then (laws_zzFits10.l0 k1 l0 (l0.length : Int) (wrap64 (x10_1 + 1))) else (some false)) = some r := H
      have A6 := Aside0.mk A60
      clear A60
      by_cases c7 : t104 = true
      ·
       subst c7
       have H1 : (laws_zzFits10.l0 k1 l0 (l0.length : Int) (wrap64 (x10_1 + 1))) = some r := by rw [if_pos rfl] at H; exact H
       clear H
       have H := H1
       clear H1
       have H' := Aside0.mk H
       clear H
       have p102 : 0 ≤ (x10_1 : Int) := of_decide_eq_true (by first | (with_reducible assumption) | assumption)
       have q102 : x10_1 < (l0.length : Int) := of_decide_eq_true (by first | (with_reducible assumption) | assumption)
       obtain ⟨ad102, A102_4, c102_4, e102, hx102_0, hx102_1, hx102_2, hx102_3, hx102_4, hl102_4, hi102_4⟩ := at_T42 HR0.out x10_1 p102 q102
       cases e102
       replace hx102_0 := (HB.out.cell (World.block_lt_of_cell? w _ hx102_0)).trans hx102_0
       replace hx102_1 := (HB.out.cell (World.block_lt_of_cell? w _ hx102_1)).trans hx102_1
       replace hx102_2 := (HB.out.cell (World.block_lt_of_cell? w _ hx102_2)).trans hx102_2
       replace hx102_3 := (HB.out.cell (World.block_lt_of_cell? w _ hx102_3)).trans hx102_3
       replace hx102_4 := (HB.out.cell (World.block_lt_of_cell? w _ hx102_4)).trans hx102_4
       have HR102_4 := Aside0.mk hi102_4
       have HC102_4 := Aside0.mk hl102_4
       clear hi102_4 hl102_4
       replace p102 := eq_true p102
       replace q102 := eq_true q102
       go_wp2_with (first | ((with_reducible refine gate_dst (N := 4) rfl ?_); refine box_event ?hg (N := 4) ?hd (cs := #[.int .i64 0, .string (⟨#[]⟩ : ByteArray), .int .i64 0, .int .i64 0, .slice none 0 0]) (t := 42) ?hr ?_; (case hd => rfl); (case hg => rfl); (case hr => first | (go_simp; done) | (go_simp; rfl)); intro gb103 hg w8 hbox hb; have n0_ := Aside0.mk (below_step (by repeat (first | (with_reducible first | exact HB.out | apply below_alloc | apply pw_below_drewN | apply below_drew1) | exact HB.out)) hb); have n1_ := Aside0.mk (hbox); have n2_ := Aside0.mk ((by rw [hg]; exact (below_size (by repeat (first | (with_reducible first | exact HB.out | apply below_alloc | apply pw_below_drewN | apply below_drew1) | exact HB.out))) : w.heap.size ≤ gb103)); have n3_ := Aside0.mk ((by rw [hg]; exact (below_size (by repeat (first | (with_reducible first | exact HB.out | apply below_alloc | apply pw_below_drewN | apply below_drew1) | exact HB.out))) : w.heap.size ≤ gb103)); clear HB; have HB := n0_; have BK103 := n1_; have GW103 := n2_; have GE103 := n3_; clear n0_ n1_ n2_ n3_; clear hb hbox hg; have hcz9_0 : w8.cell? ⟨gb103, 0, none⟩ = some (.int .i64 0) := (blk_cell BK103.out 0).trans rfl; have hcz9_1 : w8.cell? ⟨gb103, 1, none⟩ = some (.string (⟨#[]⟩ : ByteArray)) := (blk_cell BK103.out 1).trans rfl; have hcz9_2 : w8.cell? ⟨gb103, 2, none⟩ = some (.int .i64 0) := (blk_cell BK103.out 2).trans rfl; have hcz9_3 : w8.cell? ⟨gb103, 3, none⟩ = some (.int .i64 0) := (blk_cell BK103.out 3).trans rfl; have hcz9_4 : w8.cell? ⟨gb103, 4, none⟩ = some (.slice none 0 0) := (blk_cell BK103.out 4).trans rfl; have hfz9_0 := blk_frozen BK103.out 0; have hfz9_1 := blk_frozen BK103.out 1; have hfz9_2 := blk_frozen BK103.out 2; have hfz9_3 := blk_frozen BK103.out 3; have hfz9_4 := blk_frozen BK103.out 4) | ((with_reducible refine gate_callee (f := 18) rfl ?_); refine goesL_ (some 15) rfl rfl Tryd.func18 (by kernel_rfl) rfl #[.agg #[.int .i64 ((rd_T42 l0 x10_1).f0), .string ((rd_T42 l0 x10_1).f1), .int .i64 ((rd_T42 l0 x10_1).f2), .int .i64 ((rd_T42 l0 x10_1).f3), .slice A102_4 ((rd_T42 l0 x10_1).f4).length c102_4]] rfl (by (try simp only [List.map_toArray, List.map_cons, List.map_nil]); first | done | rfl | (simp only [List.length_drop, List.length_take]; rfl)) ?_; (with_reducible refine (laws_zzFits11.calls ((rd_T42 l0 x10_1).f0) ((rd_T42 l0 x10_1).f1) ((rd_T42 l0 x10_1).f2) ((rd_T42 l0 x10_1).f3) _ _ ((rd_T42 l0 x10_1).f4) true _ ?side1 ?side2 A6.out).mono ?_); (case side1 => exact Kd.C_below HR102_4.out (by repeat (first | (with_reducible first | exact HB.out | apply below_alloc | apply pw_below_drewN | apply below_drew1 | refine below_set ?_ GE103.out) | exact HB.out))); (case side2 => exact HC102_4.out); rintro e w10 ⟨rfl, hb⟩; refine ⟨_, rfl, ?_⟩; have n0_ := Aside0.mk (blk_below (g := gb103) (o := .cells #[.int .i64 ((rd_T42 l0 x10_1).f0), .string ((rd_T42 l0 x10_1).f1), .int .i64 ((rd_T42 l0 x10_1).f2), .int .i64 ((rd_T42 l0 x10_1).f3), .slice A102_4 ((rd_T42 l0 x10_1).f4).length c102_4] 42 (0, 0)) (by (with_reducible repeat (first | refine blk_drewN ?_ _ | refine blk_drew ?_ | refine blk_alloc ?_ _)); refine blk_put (cs := #[.int .i64 ((rd_T42 l0 x10_1).f0), .string ((rd_T42 l0 x10_1).f1), .int .i64 ((rd_T42 l0 x10_1).f2), .int .i64 ((rd_T42 l0 x10_1).f3), .slice none 0 0]) ?_ 4 _ rfl; (with_reducible repeat (first | refine blk_drewN ?_ _ | refine blk_drew ?_ | refine blk_alloc ?_ _)); refine blk_put (cs := #[.int .i64 ((rd_T42 l0 x10_1).f0), .string ((rd_T42 l0 x10_1).f1), .int .i64 ((rd_T42 l0 x10_1).f2), .int .i64 0, .slice none 0 0]) ?_ 3 _ rfl; (with_reducible repeat (first | refine blk_drewN ?_ _ | refine blk_drew ?_ | refine blk_alloc ?_ _)); refine blk_put (cs := #[.int .i64 ((rd_T42 l0 x10_1).f0), .string ((rd_T42 l0 x10_1).f1), .int .i64 0, .int .i64 0, .slice none 0 0]) ?_ 2 _ rfl; (with_reducible repeat (first | refine blk_drewN ?_ _ | refine blk_drew ?_ | refine blk_alloc ?_ _)); refine blk_put (cs := #[.int .i64 ((rd_T42 l0 x10_1).f0), .string (⟨#[]⟩ : ByteArray), .int .i64 0, .int .i64 0, .slice none 0 0]) ?_ 1 _ rfl; (with_reducible repeat (first | refine blk_drewN ?_ _ | refine blk_drew ?_ | refine blk_alloc ?_ _)); refine blk_put (cs := #[.int .i64 0, .string (⟨#[]⟩ : ByteArray), .int .i64 0, .int .i64 0, .slice none 0 0]) ?_ 0 _ rfl; (with_reducible repeat (first | refine blk_drewN ?_ _ | refine blk_drew ?_ | refine blk_alloc ?_ _)); exact BK103.out) hb); have n1_ := Aside0.mk (below_step (by repeat (first | (with_reducible first | exact HB.out | apply below_alloc | apply pw_below_drewN | apply below_drew1 | refine below_set ?_ GE103.out) | exact HB.out)) hb); clear BK103; clear HB; have BK103 := n0_; have HB := n1_; clear n0_ n1_; (try clear hb); (try clear hb2); (try clear hk); (try clear hi)))
       go_roundg k1
       case measure => have := HK1.out; omega
       case rel => exact ⟨(wrap64 (x10_1 + 1)), (by first | rfl | (simp; done) | (simp [*]; done)), H', ⟨by have := HK1.out; omega⟩, ⟨by repeat (first | (with_reducible first | exact HB.out | apply below_alloc | apply pw_below_drewN | apply below_drew1 | refine below_set ?_ GE103.out) | exact HB.out)⟩⟩
      replace c7 := Bool.eq_false_iff.mpr c7
      subst c7
      have H1 : (some false) = some r := by rw [if_neg (show ¬ (false = true) by decide)] at H; exact H
      clear H
      have H := H1
      clear H1
      obtain rfl := Option.some.inj H
      have p102 : 0 ≤ (x10_1 : Int) := of_decide_eq_true (by first | (with_reducible assumption) | assumption)
      have q102 : x10_1 < (l0.length : Int) := of_decide_eq_true (by first | (with_reducible assumption) | assumption)
      obtain ⟨ad102, A102_4, c102_4, e102, hx102_0, hx102_1, hx102_2, hx102_3, hx102_4, hl102_4, hi102_4⟩ := at_T42 HR0.out x10_1 p102 q102
      cases e102
      replace hx102_0 := (HB.out.cell (World.block_lt_of_cell? w _ hx102_0)).trans hx102_0
      replace hx102_1 := (HB.out.cell (World.block_lt_of_cell? w _ hx102_1)).trans hx102_1
      replace hx102_2 := (HB.out.cell (World.block_lt_of_cell? w _ hx102_2)).trans hx102_2
      replace hx102_3 := (HB.out.cell (World.block_lt_of_cell? w _ hx102_3)).trans hx102_3
      replace hx102_4 := (HB.out.cell (World.block_lt_of_cell? w _ hx102_4)).trans hx102_4
      have HR102_4 := Aside0.mk hi102_4
      have HC102_4 := Aside0.mk hl102_4
      clear hi102_4 hl102_4
      replace p102 := eq_true p102
      replace q102 := eq_true q102
      go_wp2_with (first | ((with_reducible refine gate_dst (N := 4) rfl ?_); refine box_event ?hg (N := 4) ?hd (cs := #[.int .i64 0, .string (⟨#[]⟩ : ByteArray), .int .i64 0, .int .i64 0, .slice none 0 0]) (t := 42) ?hr ?_; (case hd => rfl); (case hg => rfl); (case hr => first | (go_simp; done) | (go_simp; rfl)); intro gb103 hg w11 hbox hb; have n0_ := Aside0.mk (below_step (by repeat (first | (with_reducible first | exact HB.out | apply below_alloc | apply pw_below_drewN | apply below_drew1) | exact HB.out)) hb); have n1_ := Aside0.mk (hbox); have n2_ := Aside0.mk ((by rw [hg]; exact (below_size (by repeat (first | (with_reducible first | exact HB.out | apply below_alloc | apply pw_below_drewN | apply below_drew1) | exact HB.out))) : w.heap.size ≤ gb103)); have n3_ := Aside0.mk ((by rw [hg]; exact (below_size (by repeat (first | (with_reducible first | exact HB.out | apply below_alloc | apply pw_below_drewN | apply below_drew1) | exact HB.out))) : w.heap.size ≤ gb103)); clear HB; have HB := n0_; have BK103 := n1_; have GW103 := n2_; have GE103 := n3_; clear n0_ n1_ n2_ n3_; clear hb hbox hg; have hcz12_0 : w11.cell? ⟨gb103, 0, none⟩ = some (.int .i64 0) := (blk_cell BK103.out 0).trans rfl; have hcz12_1 : w11.cell? ⟨gb103, 1, none⟩ = some (.string (⟨#[]⟩ : ByteArray)) := (blk_cell BK103.out 1).trans rfl; have hcz12_2 : w11.cell? ⟨gb103, 2, none⟩ = some (.int .i64 0) := (blk_cell BK103.out 2).trans rfl; have hcz12_3 : w11.cell? ⟨gb103, 3, none⟩ = some (.int .i64 0) := (blk_cell BK103.out 3).trans rfl; have hcz12_4 : w11.cell? ⟨gb103, 4, none⟩ = some (.slice none 0 0) := (blk_cell BK103.out 4).trans rfl; have hfz12_0 := blk_frozen BK103.out 0; have hfz12_1 := blk_frozen BK103.out 1; have hfz12_2 := blk_frozen BK103.out 2; have hfz12_3 := blk_frozen BK103.out 3; have hfz12_4 := blk_frozen BK103.out 4) | ((with_reducible refine gate_callee (f := 18) rfl ?_); refine goesL_ (some 15) rfl rfl Tryd.func18 (by kernel_rfl) rfl #[.agg #[.int .i64 ((rd_T42 l0 x10_1).f0), .string ((rd_T42 l0 x10_1).f1), .int .i64 ((rd_T42 l0 x10_1).f2), .int .i64 ((rd_T42 l0 x10_1).f3), .slice A102_4 ((rd_T42 l0 x10_1).f4).length c102_4]] rfl (by (try simp only [List.map_toArray, List.map_cons, List.map_nil]); first | done | rfl | (simp only [List.length_drop, List.length_take]; rfl)) ?_; (with_reducible refine (laws_zzFits11.calls ((rd_T42 l0 x10_1).f0) ((rd_T42 l0 x10_1).f1) ((rd_T42 l0 x10_1).f2) ((rd_T42 l0 x10_1).f3) _ _ ((rd_T42 l0 x10_1).f4) false _ ?side1 ?side2 A6.out).mono ?_); (case side1 => exact Kd.C_below HR102_4.out (by repeat (first | (with_reducible first | exact HB.out | apply below_alloc | apply pw_below_drewN | apply below_drew1 | refine below_set ?_ GE103.out) | exact HB.out))); (case side2 => exact HC102_4.out); rintro e w13 ⟨rfl, hb⟩; refine ⟨_, rfl, ?_⟩; have n0_ := Aside0.mk (blk_below (g := gb103) (o := .cells #[.int .i64 ((rd_T42 l0 x10_1).f0), .string ((rd_T42 l0 x10_1).f1), .int .i64 ((rd_T42 l0 x10_1).f2), .int .i64 ((rd_T42 l0 x10_1).f3), .slice A102_4 ((rd_T42 l0 x10_1).f4).length c102_4] 42 (0, 0)) (by (with_reducible repeat (first | refine blk_drewN ?_ _ | refine blk_drew ?_ | refine blk_alloc ?_ _)); refine blk_put (cs := #[.int .i64 ((rd_T42 l0 x10_1).f0), .string ((rd_T42 l0 x10_1).f1), .int .i64 ((rd_T42 l0 x10_1).f2), .int .i64 ((rd_T42 l0 x10_1).f3), .slice none 0 0]) ?_ 4 _ rfl; (with_reducible repeat (first | refine blk_drewN ?_ _ | refine blk_drew ?_ | refine blk_alloc ?_ _)); refine blk_put (cs := #[.int .i64 ((rd_T42 l0 x10_1).f0), .string ((rd_T42 l0 x10_1).f1), .int .i64 ((rd_T42 l0 x10_1).f2), .int .i64 0, .slice none 0 0]) ?_ 3 _ rfl; (with_reducible repeat (first | refine blk_drewN ?_ _ | refine blk_drew ?_ | refine blk_alloc ?_ _)); refine blk_put (cs := #[.int .i64 ((rd_T42 l0 x10_1).f0), .string ((rd_T42 l0 x10_1).f1), .int .i64 0, .int .i64 0, .slice none 0 0]) ?_ 2 _ rfl; (with_reducible repeat (first | refine blk_drewN ?_ _ | refine blk_drew ?_ | refine blk_alloc ?_ _)); refine blk_put (cs := #[.int .i64 ((rd_T42 l0 x10_1).f0), .string (⟨#[]⟩ : ByteArray), .int .i64 0, .int .i64 0, .slice none 0 0]) ?_ 1 _ rfl; (with_reducible repeat (first | refine blk_drewN ?_ _ | refine blk_drew ?_ | refine blk_alloc ?_ _)); refine blk_put (cs := #[.int .i64 0, .string (⟨#[]⟩ : ByteArray), .int .i64 0, .int .i64 0, .slice none 0 0]) ?_ 0 _ rfl; (with_reducible repeat (first | refine blk_drewN ?_ _ | refine blk_drew ?_ | refine blk_alloc ?_ _)); exact BK103.out) hb); have n1_ := Aside0.mk (below_step (by repeat (first | (with_reducible first | exact HB.out | apply below_alloc | apply pw_below_drewN | apply below_drew1 | refine below_set ?_ GE103.out) | exact HB.out)) hb); clear BK103; clear HB; have BK103 := n0_; have HB := n1_; clear n0_ n1_; (try clear hb); (try clear hb2); (try clear hk); (try clear hi)))
      go_ret
      exact ⟨by first | rfl | (simp [errW_none, errW_some] <;> rfl) | (simp [*, errW_none, errW_some] <;> rfl), by repeat (first | (with_reducible first | exact HB.out | apply below_alloc | apply pw_below_drewN | apply below_drew1 | refine below_set ?_ GE103.out) | exact HB.out)⟩
     rw [if_neg c5] at H
     exact absurd H (by simp)
    rw [if_neg c4] at H
    exact absurd H (by simp)
   rw [if_neg c3] at H
   have c3b0 : decide (x10_1 < (l0.length : Int)) = false := decide_eq_false c3
   clear c3
   obtain rfl := Option.some.inj H
   go_wp2
   go_ret
   exact ⟨by first | rfl | (simp [errW_none, errW_some] <;> rfl) | (simp [*, errW_none, errW_some] <;> rfl), by repeat (first | (with_reducible first | exact HB.out | apply below_alloc | apply pw_below_drewN | apply below_drew1) | exact HB.out)⟩
mutual
def laws_clean.l0 : Nat → ByteArray → Int → Option (Bool)
 | 0, _, _ => none
 | k + 1, x0, x3 => if x3 < (x0.size : Int) then (laws_clean.j1 k x0 x3 (decide (x3 ≤ 400))) else (laws_clean.j1 k x0 x3 false)
def laws_clean.j1 : Nat → ByteArray → Int → Bool → Option (Bool)
 | 0, _, _, _ => none
 | k + 1, x0, x3, x11 => if x11 = true then (if 0 ≤ x3 then (if x3 < (x0.size : Int) then (if (bt x0 x3) ≤ 32 then (some false) else (if (bt x0 x3) = 127 then (some false) else (laws_clean.l0 k x0 (wrap64 (x3 + 1))))) else (none)) else (none)) else (some (decide ((x0.size : Int) ≤ 400)))
end
def laws_clean.f (k : Nat) (a0 : ByteArray) : Option (Bool) := laws_clean.l0 k a0 0
set_option maxHeartbeats 8000000 in
set_option maxRecDepth 100000 in
theorem laws_clean.calls (k : Nat) (a0 : ByteArray) (r : Bool) (w : World) (h : laws_clean.f k a0 = some r) :
  Calls Tryd.prog 19 #[.string a0] w fun e w' => e = .returned (.bool r) ∧ Drawn0 w w' := by
 have H : (laws_clean.l0 k a0 0) = some r := h
 clear h
 have H' := Aside0.mk H
 clear H
 go_enter Tryd.func19, Tryd.ntmps19
 go_wp2
 go_loopg [3] k (fun kq v3 w' => ∃ (x3_1 : Int), v3 = .int .i64 x3_1 ∧ Aside0 (laws_clean.l0 kq a0 x3_1 = some r) ∧ Aside0 (kq ≤ k) ∧ Drawn0 w w')
 case atStart => exact ⟨(0), (by first | rfl | (simp; done) | (simp [*]; done)), H', ⟨Nat.le_refl _⟩, by repeat (first | exact Drawn0.refl _ | apply Drawn0.step)⟩
 case round =>
  clear H'
  try clear c1
  obtain ⟨x3_1, rfl, HA, HK1, ⟨m1, rfl⟩⟩ := hrel
  cases gk with
  | zero => exact absurd HA.out (by simp [laws_clean.l0])
  | succ k1 =>
   have H := HA.out
   clear HA
   simp only [laws_clean.l0] at H
   have HC2 := Aside0.mk H
   clear H
   go_upto_region 2 with (fail)
   go_cut [11] (fun v11 wc => ∃ (kq : Nat) (x11_1 : Bool), v11 = .bool x11_1 ∧ Aside0 (laws_clean.j1 kq a0 x3_1 x11_1 = some r) ∧ Aside0 (kq ≤ k1) ∧ Drawn0 w wc)
   case first =>
    have H := HC2.out
    clear HC2
    by_cases c3 : x3_1 < (a0.size : Int)
    ·
     rw [if_pos c3] at H
     have c3b0 : decide (x3_1 < (a0.size : Int)) = true := decide_eq_true c3
     clear c3
     (first | rw [c3b0] | (simp only [i64_w, i32_w]; rw [c3b0]) | skip)
     have H' := Aside0.mk H
     clear H
     go_wp2
     go_meet
     case rel => exact ⟨_, (decide (x3_1 ≤ 400)), (by first | rfl | (simp; done) | (simp [*]; done)), H', ⟨by have := HK1.out; first | omega | exact Nat.le_refl _⟩, by repeat (first | exact Drawn0.refl _ | apply Drawn0.step)⟩
    rw [if_neg c3] at H
    have c3b0 : decide (x3_1 < (a0.size : Int)) = false := decide_eq_false c3
    clear c3
    (first | rw [c3b0] | (simp only [i64_w, i32_w]; rw [c3b0]) | skip)
    have H' := Aside0.mk H
    clear H
    go_wp2
    go_meet
    case rel => exact ⟨_, (false), (by first | rfl | (simp; done) | (simp [*]; done)), H', ⟨by have := HK1.out; first | omega | exact Nat.le_refl _⟩, by repeat (first | exact Drawn0.refl _ | apply Drawn0.step)⟩
   case rest =>
    clear HC2
    try clear c1
    try clear p2
    try clear c3
    try clear c3b0
    obtain ⟨kq, x11_1, rfl, HA, HJ1, ⟨mc1, rfl⟩⟩ := hcut
    cases kq with
    | zero => exact absurd HA.out (by simp [laws_clean.j1])
    | succ kj1 =>
     have H := HA.out
     clear HA
     simp only [laws_clean.j1] at H
     by_cases c4 : x11_1 = true
     ·
      subst c4
      have H1 : (if 0 ≤ x3_1 then (if x3_1 < (a0.size : Int) then (if (bt a0 x3_1) ≤ 32 then (some false) else (if (bt a0 x3_1) = 127 then (some false) else (laws_clean.l0 kj1 a0 (wrap64 (x3_1 + 1))))) else (none)) else (none)) = some r := by rw [if_pos rfl] at H; exact H
      clear H
      have H := H1
      clear H1
      by_cases c5 : 0 ≤ x3_1
      ·
       rw [if_pos c5] at H
       have c5b0 : decide (0 ≤ x3_1) = true := decide_eq_true c5
       clear c5
       by_cases c6 : x3_1 < (a0.size : Int)
       ·
        rw [if_pos c6] at H
        have c6b0 : decide (x3_1 < (a0.size : Int)) = true := decide_eq_true c6
        clear c6
        by_cases c8 : (bt a0 x3_1) ≤ 32
        ·
         rw [if_pos c8] at H
         have c8b0 : decide ((bt a0 x3_1) ≤ 32) = true := decide_eq_true c8
         clear c8
         obtain rfl := Option.some.inj H
         have p7 : 0 ≤ (x3_1 : Int) := of_decide_eq_true (by first | (with_reducible assumption) | assumption)
         have q7 : x3_1 < (a0.size : Int) := of_decide_eq_true (by first | (with_reducible assumption) | assumption)
         have hx7 := bt_at a0 x3_1
         replace p7 := eq_true p7
         replace q7 := eq_true q7
         go_wp2
         go_ret
         exact ⟨by first | rfl | (simp; done) | (simp [*]; done), by repeat (first | exact Drawn0.refl _ | apply Drawn0.step)⟩
        rw [if_neg c8] at H
        have c8b0 : decide ((bt a0 x3_1) ≤ 32) = false := decide_eq_false c8
        clear c8
        by_cases c10 : (bt a0 x3_1) = 127
        ·
         rw [if_pos c10] at H
         have c10b0 : ((bt a0 x3_1) == 127) = true := beq_iff_eq.mpr c10
         have c10b1 : ((bt a0 x3_1) != 127) = false := bne_eq_false_iff_eq.mpr c10
         clear c10
         obtain rfl := Option.some.inj H
         have p7 : 0 ≤ (x3_1 : Int) := of_decide_eq_true (by first | (with_reducible assumption) | assumption)
         have q7 : x3_1 < (a0.size : Int) := of_decide_eq_true (by first | (with_reducible assumption) | assumption)
         have hx7 := bt_at a0 x3_1
         replace p7 := eq_true p7
         replace q7 := eq_true q7
         have p9 : 0 ≤ (x3_1 : Int) := of_decide_eq_true (by first | (with_reducible assumption) | assumption)
         have q9 : x3_1 < (a0.size : Int) := of_decide_eq_true (by first | (with_reducible assumption) | assumption)
         have hx9 := bt_at a0 x3_1
         replace p9 := eq_true p9
         replace q9 := eq_true q9
         go_wp2
         go_ret
         exact ⟨by first | rfl | (simp; done) | (simp [*]; done), by repeat (first | exact Drawn0.refl _ | apply Drawn0.step)⟩
        rw [if_neg c10] at H
        have c10b0 : ((bt a0 x3_1) == 127) = false := beq_eq_false_iff_ne.mpr c10
        have c10b1 : ((bt a0 x3_1) != 127) = true := bne_iff_ne.mpr c10
        have H' := Aside0.mk H
        clear H
        have p7 : 0 ≤ (x3_1 : Int) := of_decide_eq_true (by first | (with_reducible assumption) | assumption)
        have q7 : x3_1 < (a0.size : Int) := of_decide_eq_true (by first | (with_reducible assumption) | assumption)
        have hx7 := bt_at a0 x3_1
        replace p7 := eq_true p7
        replace q7 := eq_true q7
        have p9 : 0 ≤ (x3_1 : Int) := of_decide_eq_true (by first | (with_reducible assumption) | assumption)
        have q9 : x3_1 < (a0.size : Int) := of_decide_eq_true (by first | (with_reducible assumption) | assumption)
        have hx9 := bt_at a0 x3_1
        replace p9 := eq_true p9
        replace q9 := eq_true q9
        go_wp2
        go_roundg kj1
        case measure => have := HK1.out; have := HJ1.out; omega
        case rel => exact ⟨(wrap64 (x3_1 + 1)), (by first | rfl | (simp; done) | (simp [*]; done)), H', ⟨by have := HK1.out; have := HJ1.out; omega⟩, by repeat (first | exact Drawn0.refl _ | apply Drawn0.step)⟩
       rw [if_neg c6] at H
       exact absurd H (by simp)
      rw [if_neg c5] at H
      exact absurd H (by simp)
     replace c4 := Bool.eq_false_iff.mpr c4
     subst c4
     have H1 : (some (decide ((a0.size : Int) ≤ 400))) = some r := by rw [if_neg (show ¬ (false = true) by decide)] at H; exact H
     clear H
     have H := H1
     clear H1
     obtain rfl := Option.some.inj H
     go_wp2
     go_ret
     exact ⟨by first | rfl | (simp; done) | (simp [*]; done), by repeat (first | exact Drawn0.refl _ | apply Drawn0.step)⟩
def spec_Tokens.l0 : Nat → ByteArray → List ByteArray → Int → Int → Option (List ByteArray)
 | 0, _, _, _, _ => none
 | k + 1, x0, x3, x4, x5 => if x5 < (x0.size : Int) then (if 0 ≤ x5 then (if (bt x0 x5) = 46 then (if 0 ≤ x4 then (if x4 ≤ x5 then (if x5 ≤ (x0.size : Int) then (if x3.length < 8796093022208 then (spec_Tokens.l0 k x0 (x3 ++ [x0.extract (x4 : Int).toNat (x5 : Int).toNat]) (wrap64 (x5 + 1)) (wrap64 (x5 + 1))) else (none)) else (none)) else (none)) else (none)) else (spec_Tokens.l0 k x0 x3 x4 (wrap64 (x5 + 1)))) else (none)) else (if 0 ≤ x4 then (if x4 ≤ (x0.size : Int) then (if x3.length < 8796093022208 then (some (x3 ++ [x0.extract (x4 : Int).toNat x0.size])) else (none)) else (none)) else (none))
def spec_Tokens.f (k : Nat) (a0 : ByteArray) : Option (List ByteArray) := spec_Tokens.l0 k a0 ([] : List ByteArray) 0 0
set_option maxHeartbeats 8000000 in
set_option maxRecDepth 100000 in
theorem spec_Tokens.calls (k : Nat) (a0 : ByteArray) (r : List ByteArray) (w : World) (h : spec_Tokens.f k a0 = some r) :
  Calls Tryd.prog 25 #[.string a0] w fun e w' => ∃ v0_ : Value, e = .returned (v0_) ∧ Kd.R Kd.string 9 w' w.heap.size (fun _ => True) v0_ r ∧ Below w.heap.size w w' := by
 have HB := Aside0.mk (Below.refl w.heap.size w)
 have H : (spec_Tokens.l0 k a0 ([] : List ByteArray) 0 0) = some r := h
 clear h
 have H' := Aside0.mk H
 clear H
 go_enter Tryd.func25, Tryd.ntmps25
 go_wp2
 go_loopg [3, 4, 5] k (fun kq v3 v4 v5 w' => ∃ (x3_1 : List ByteArray) (x4_1 : Int) (x5_1 : Int), v4 = .int .i64 x4_1 ∧ v5 = .int .i64 x5_1 ∧ Aside0 (spec_Tokens.l0 kq a0 x3_1 x4_1 x5_1 = some r) ∧ Aside0 (kq ≤ k) ∧ Aside0 (Kd.R Kd.string 9 w' w.heap.size (fun _ => True) v3 x3_1) ∧ Aside0 (Below w.heap.size w w'))
 case atStart => exact ⟨(([] : List ByteArray)), (0), (0), (by first | rfl | (simp; done) | (simp [*]; done)), (by first | rfl | (simp; done) | (simp [*]; done)), H', ⟨Nat.le_refl _⟩, ⟨by first | exact Kd.R_nil _ _ _ _ _ | exact Kd.N_nil _ _ _ _ _ | exact Kd.V_nil _ _ _ _ _ | exact Kd.Q_nil _ _ _ _ _ | exact Kd.S_nil _ _ _ _ _⟩, ⟨by repeat (first | (with_reducible first | exact HB.out | apply below_alloc | apply pw_below_drewN | apply below_drew1) | exact HB.out)⟩⟩
 case round =>
  clear H'
  obtain ⟨x3_1, x4_1, x5_1, rfl, rfl, HA, HK1, HO_3, HB⟩ := hrel
  cases gk with
  | zero => exact absurd HA.out (by simp [spec_Tokens.l0])
  | succ k1 =>
   have H := HA.out
   clear HA
   simp only [spec_Tokens.l0] at H
   by_cases c2 : x5_1 < (a0.size : Int)
   ·
    rw [if_pos c2] at H
    have c2b0 : decide (x5_1 < (a0.size : Int)) = true := decide_eq_true c2
    clear c2
    by_cases c3 : 0 ≤ x5_1
    ·
     rw [if_pos c3] at H
     have c3b0 : decide (0 ≤ x5_1) = true := decide_eq_true c3
     clear c3
     by_cases c5 : (bt a0 x5_1) = 46
     ·
      rw [if_pos c5] at H
      have c5b0 : ((bt a0 x5_1) == 46) = true := beq_iff_eq.mpr c5
      have c5b1 : ((bt a0 x5_1) != 46) = false := bne_eq_false_iff_eq.mpr c5
      clear c5
      by_cases c6 : 0 ≤ x4_1
      ·
       rw [if_pos c6] at H
       have c6b0 := eq_true c6
       have c6b1 : decide (0 ≤ x4_1) = true := decide_eq_true c6
       clear c6
       by_cases c7 : x4_1 ≤ x5_1
       ·
        rw [if_pos c7] at H
        have c7b0 := eq_true c7
        have c7b1 : decide (x4_1 ≤ x5_1) = true := decide_eq_true c7
        clear c7
        by_cases c8 : x5_1 ≤ (a0.size : Int)
        ·
         rw [if_pos c8] at H
         have c8b0 := eq_true c8
         have c8b1 : decide (x5_1 ≤ (a0.size : Int)) = true := decide_eq_true c8
         clear c8
         by_cases c9 : x3_1.length < 8796093022208
         ·
          rw [if_pos c9] at H
          have LMc9 := Aside0.mk c9
          clear c9
          obtain ⟨y105, hy105⟩ : ∃ y_ : List ByteArray, y_ = (x3_1 ++ [a0.extract (x4_1 : Int).toNat (x5_1 : Int).toNat]) := ⟨_, rfl⟩
          replace H : (spec_Tokens.l0 k1 a0 y105 (wrap64 (x5_1 + 1)) (wrap64 (x5_1 + 1))) = some r := by first | (rw [hy105]; with_reducible exact H) | (have H2_ := (Option.bind_some _ _).symm.trans H; rw [hy105]; with_reducible exact H2_) | (have H2_ := (Option.bind_some _ _).symm.trans H; with_reducible exact H2_) | with_reducible exact H | (rw [hy105]; exact H) | exact H
          have Ny105 := Aside0.mk hy105
          clear hy105
          have H' := Aside0.mk H
          clear H
          have p4 : 0 ≤ (x5_1 : Int) := of_decide_eq_true (by first | (with_reducible assumption) | assumption)
          have q4 : x5_1 < (a0.size : Int) := of_decide_eq_true (by first | (with_reducible assumption) | assumption)
          have hx4 := bt_at a0 x5_1
          replace p4 := eq_true p4
          replace q4 := eq_true q4
          go_wp2_with (first | ((with_reducible refine gate_builtin (b := .append) (xs := #[.tmp 16, .tmp 21]) rfl ?_); at_builtin; refine Kd.R_append Kd.string (w0 := w) w.heap.size rfl (.tmp 16) (.tmp 21) 30 9 (.string ⟨#[]⟩) 16 rfl Tryd.underlying30 info9 rfl (by decide) (by omega) u3 x3_1 (a0.extract (x4_1 : Int).toNat (x5_1 : Int).toNat) [.string (a0.extract (x4_1 : Int).toNat (x5_1 : Int).toNat)] (fun _ => True) (fun _ => False) rfl rfl ?aP (fun _ hk => hk.elim) ?aF ?aO ?aB ?aS ?aL ?_; (case aP => exact rfl); (case aB => exact (by repeat (first | (with_reducible first | exact HB.out | apply below_alloc | apply pw_below_drewN | apply below_drew1) | exact HB.out))); (case aF => exact (fun _ _ => trivial)); (case aO => exact (by (with_reducible repeat (first | apply Kd.R_alloc | apply Kd.R_drewN | apply Kd.R_drew)); exact HO_3.out)); (case aS => exact (below_size (by repeat (first | (with_reducible first | exact HB.out | apply below_alloc | apply pw_below_drewN | apply below_drew1) | exact HB.out)))); (case aL => have := LMc9.out; omega); intro v106 w10 ho hb hg hat; rw [← Ny105.out] at ho; have n0_ := Aside0.mk (hb); have n1_ := Aside0.mk (ho); clear HB; clear HO_3; have HB := n0_; have HO107 := n1_; clear n0_ n1_; clear ho hb hg hat))
          go_roundg k1
          case measure => have := HK1.out; omega
          case rel => exact ⟨(y105), (wrap64 (x5_1 + 1)), (wrap64 (x5_1 + 1)), (by first | rfl | (simp; done) | (simp [*]; done)), (by first | rfl | (simp; done) | (simp [*]; done)), H', ⟨by have := HK1.out; omega⟩, ⟨by (with_reducible repeat (first | apply Kd.R_alloc | apply Kd.R_drewN | apply Kd.R_drew)); exact HO107.out⟩, ⟨by repeat (first | (with_reducible first | exact HB.out | apply below_alloc | apply pw_below_drewN | apply below_drew1) | exact HB.out)⟩⟩
         rw [if_neg c9] at H
         exact absurd H (by simp)
        rw [if_neg c8] at H
        exact absurd H (by simp)
       rw [if_neg c7] at H
       exact absurd H (by simp)
      rw [if_neg c6] at H
      exact absurd H (by simp)
     rw [if_neg c5] at H
     have c5b0 : ((bt a0 x5_1) == 46) = false := beq_eq_false_iff_ne.mpr c5
     have c5b1 : ((bt a0 x5_1) != 46) = true := bne_iff_ne.mpr c5
     have H' := Aside0.mk H
     clear H
     have p4 : 0 ≤ (x5_1 : Int) := of_decide_eq_true (by first | (with_reducible assumption) | assumption)
     have q4 : x5_1 < (a0.size : Int) := of_decide_eq_true (by first | (with_reducible assumption) | assumption)
     have hx4 := bt_at a0 x5_1
     replace p4 := eq_true p4
     replace q4 := eq_true q4
     go_wp2
     go_roundg k1
     case measure => have := HK1.out; omega
     case rel => exact ⟨(x3_1), (x4_1), (wrap64 (x5_1 + 1)), (by first | rfl | (simp; done) | (simp [*]; done)), (by first | rfl | (simp; done) | (simp [*]; done)), H', ⟨by have := HK1.out; omega⟩, ⟨by (with_reducible repeat (first | apply Kd.R_alloc | apply Kd.R_drewN | apply Kd.R_drew)); exact HO_3.out⟩, ⟨by repeat (first | (with_reducible first | exact HB.out | apply below_alloc | apply pw_below_drewN | apply below_drew1) | exact HB.out)⟩⟩
    rw [if_neg c3] at H
    exact absurd H (by simp)
   rw [if_neg c2] at H
   have c2b0 : decide (x5_1 < (a0.size : Int)) = false := decide_eq_false c2
   clear c2
   by_cases c11 : 0 ≤ x4_1
   ·
    rw [if_pos c11] at H
    have c11b0 := eq_true c11
    have c11b1 : decide (0 ≤ x4_1) = true := decide_eq_true c11
    clear c11
    by_cases c12 : x4_1 ≤ (a0.size : Int)
    ·
     rw [if_pos c12] at H
     have c12b0 := eq_true c12
     have c12b1 : decide (x4_1 ≤ (a0.size : Int)) = true := decide_eq_true c12
     clear c12
     by_cases c13 : x3_1.length < 8796093022208
     ·
      rw [if_pos c13] at H
      have LMc13 := Aside0.mk c13
      clear c13
      obtain ⟨y108, hy108⟩ : ∃ y_ : List ByteArray, y_ = (x3_1 ++ [a0.extract (x4_1 : Int).toNat a0.size]) := ⟨_, rfl⟩
      replace H : (some y108) = some r := by first | (rw [hy108]; with_reducible exact H) | (have H2_ := (Option.bind_some _ _).symm.trans H; rw [hy108]; with_reducible exact H2_) | (have H2_ := (Option.bind_some _ _).symm.trans H; with_reducible exact H2_) | with_reducible exact H | (rw [hy108]; exact H) | exact H
      have Ny108 := Aside0.mk hy108
      clear hy108
      obtain rfl := Option.some.inj H
      go_wp2_with (first | ((with_reducible refine gate_builtin (b := .append) (xs := #[.tmp 25, .tmp 29]) rfl ?_); at_builtin; refine Kd.R_append Kd.string (w0 := w) w.heap.size rfl (.tmp 25) (.tmp 29) 30 9 (.string ⟨#[]⟩) 16 rfl Tryd.underlying30 info9 rfl (by decide) (by omega) u3 x3_1 (a0.extract (x4_1 : Int).toNat a0.size) [.string (a0.extract (x4_1 : Int).toNat a0.size)] (fun _ => True) (fun _ => False) rfl rfl ?aP (fun _ hk => hk.elim) ?aF ?aO ?aB ?aS ?aL ?_; (case aP => exact rfl); (case aB => exact (by repeat (first | (with_reducible first | exact HB.out | apply below_alloc | apply pw_below_drewN | apply below_drew1) | exact HB.out))); (case aF => exact (fun _ _ => trivial)); (case aO => exact (by (with_reducible repeat (first | apply Kd.R_alloc | apply Kd.R_drewN | apply Kd.R_drew)); exact HO_3.out)); (case aS => exact (below_size (by repeat (first | (with_reducible first | exact HB.out | apply below_alloc | apply pw_below_drewN | apply below_drew1) | exact HB.out)))); (case aL => have := LMc13.out; omega); intro v109 w14 ho hb hg hat; rw [← Ny108.out] at ho; have n0_ := Aside0.mk (hb); have n1_ := Aside0.mk (ho); clear HB; clear HO_3; have HB := n0_; have HO110 := n1_; clear n0_ n1_; clear ho hb hg hat))
      go_ret
      exact ⟨_, by first | rfl | (simp [errW_none, errW_some] <;> rfl) | (simp [*, errW_none, errW_some] <;> rfl), by (with_reducible repeat (first | apply Kd.R_alloc | apply Kd.R_drewN | apply Kd.R_drew)); exact HO110.out, by repeat (first | (with_reducible first | exact HB.out | apply below_alloc | apply pw_below_drewN | apply below_drew1) | exact HB.out)⟩
     rw [if_neg c13] at H
     exact absurd H (by simp)
    rw [if_neg c12] at H
    exact absurd H (by simp)
   rw [if_neg c11] at H
   exact absurd H (by simp)
mutual
def laws_tame.l0 : Nat → List ByteArray → Int → Option (Bool)
 | 0, _, _ => none
 | k + 1, x3, x4 => if x4 < (x3.length : Int) then (laws_tame.l1 k x3 x4 0) else (some true)
def laws_tame.l1 : Nat → List ByteArray → Int → Int → Option (Bool)
 | 0, _, _, _ => none
 | k + 1, x3, x4, x5 => if 0 ≤ x4 then (if x4 < (x3.length : Int) then (if x5 < ((rdOf ByteArray.empty x3 x4).size : Int) then (laws_tame.j2 k x3 x4 x5 (decide (((rdOf ByteArray.empty x3 x4).size : Int) > 1))) else (laws_tame.j2 k x3 x4 x5 false)) else (none)) else (none)
def laws_tame.j2 : Nat → List ByteArray → Int → Int → Bool → Option (Bool)
 | 0, _, _, _, _ => none
 | k + 1, x3, x4, x5, x28 => if x28 = true then (if 0 ≤ x4 then (if x4 < (x3.length : Int) then (if 0 ≤ x5 then (if x5 < ((rdOf ByteArray.empty x3 x4).size : Int) then (if (bt (rdOf ByteArray.empty x3 x4) x5) = 42 then (some false) else (if (bt (rdOf ByteArray.empty x3 x4) x5) = 62 then (some false) else (laws_tame.l1 k x3 x4 (wrap64 (x5 + 1))))) else (none)) else (none)) else (none)) else (none)) else (laws_tame.l0 k x3 (wrap64 (x4 + 1)))
end
def laws_tame.f (k : Nat) (a0 : ByteArray) : Option (Bool) := (spec_Tokens.f k a0).bind fun t111 => (laws_tame.l0 k t111 0)
set_option maxHeartbeats 8000000 in
set_option maxRecDepth 100000 in
theorem laws_tame.calls (k : Nat) (a0 : ByteArray) (r : Bool) (w : World) (h : laws_tame.f k a0 = some r) :
  Calls Tryd.prog 20 #[.string a0] w fun e w' => e = .returned (.bool r) ∧ Below w.heap.size w w' := by
 have HB := Aside0.mk (Below.refl w.heap.size w)
 have H : ((spec_Tokens.f k a0).bind fun t111 => (laws_tame.l0 k t111 0)) = some r := h
 clear h
 replace H := Option.bind_eq_some_iff.mp H
 obtain ⟨t111, A20, H⟩ := H
 replace H : (laws_tame.l0 k t111 0) = some r := H
 have A2 := Aside0.mk A20
 clear A20
 have H' := Aside0.mk H
 clear H
 go_enter Tryd.func20, Tryd.ntmps20
 go_wp2_with (first | ((with_reducible refine gate_callee (f := 25) rfl ?_); refine goesL_ (some 7) rfl rfl Tryd.func25 (by kernel_rfl) rfl #[.string a0] rfl (by (try simp only [List.map_toArray, List.map_cons, List.map_nil]); first | done | rfl | (simp only [List.length_drop, List.length_take]; rfl)) ?_; (with_reducible refine (spec_Tokens.calls k a0 t111 _ A2.out).mono ?_); rintro e w3 ⟨v112, rfl, ho0, hb⟩; refine ⟨_, rfl, ?_⟩; have n0_ := Aside0.mk (Kd.R_lower ho0 (below_size (by repeat (first | (with_reducible first | exact HB.out | apply below_alloc | apply pw_below_drewN | apply below_drew1) | exact HB.out)))); have n1_ := Aside0.mk (below_step (by repeat (first | (with_reducible first | exact HB.out | apply below_alloc | apply pw_below_drewN | apply below_drew1) | exact HB.out)) hb); clear HB; have HO113 := n0_; have HB := n1_; clear n0_ n1_; (try clear hb); (try clear hb2); (try clear hk); (try clear hi); (try clear ho0)))
 go_loopg [4] k (fun kq v4 w' => ∃ (x4_1 : Int), v4 = .int .i64 x4_1 ∧ Aside0 (laws_tame.l0 kq t111 x4_1 = some r) ∧ Aside0 (kq ≤ k) ∧ Aside0 (Kd.R Kd.string 9 w' w.heap.size (fun _ => True) v112 t111) ∧ Aside0 (Below w.heap.size w w'))
 case atStart => exact ⟨(0), (by first | rfl | (simp; done) | (simp [*]; done)), H', ⟨Nat.le_refl _⟩, ⟨by (with_reducible repeat (first | apply Kd.R_alloc | apply Kd.R_drewN | apply Kd.R_drew)); exact HO113.out⟩, ⟨by repeat (first | (with_reducible first | exact HB.out | apply below_alloc | apply pw_below_drewN | apply below_drew1) | exact HB.out)⟩⟩
 case round =>
  clear H'
  try clear c2
  try clear p2
  obtain ⟨x4_1, rfl, HA, HK1, HO_3, HB⟩ := hrel
  cases gk with
  | zero => exact absurd HA.out (by simp [laws_tame.l0])
  | succ k1 =>
   have H := HA.out
   clear HA
   simp only [laws_tame.l0] at H
   by_cases c4 : x4_1 < (t111.length : Int)
   ·
    rw [if_pos c4] at H
    have c4b0 : decide (x4_1 < (t111.length : Int)) = true := decide_eq_true c4
    clear c4
    have H' := Aside0.mk H
    clear H
    obtain ⟨Ao5, co5, eo5⟩ := Kd.R_slice HO_3.out
    subst eo5
    go_wp2
    go_loopg [5] k1 (fun kq v5 w' => ∃ (x5_2 : Int), v5 = .int .i64 x5_2 ∧ Aside0 (laws_tame.l1 kq t111 x4_1 x5_2 = some r) ∧ Aside0 (kq ≤ k1) ∧ Aside0 (Kd.R Kd.string 9 w' w.heap.size (fun _ => True) (.slice Ao5 t111.length co5) t111) ∧ Aside0 (Below w.heap.size w w'))
    case atStart => exact ⟨(0), (by first | rfl | (simp; done) | (simp [*]; done)), H', ⟨Nat.le_refl _⟩, ⟨by (with_reducible repeat (first | apply Kd.R_alloc | apply Kd.R_drewN | apply Kd.R_drew)); exact HO_3.out⟩, ⟨by repeat (first | (with_reducible first | exact HB.out | apply below_alloc | apply pw_below_drewN | apply below_drew1) | exact HB.out)⟩⟩
    case round =>
     clear H'
     try clear c2
     try clear p2
     try clear c4
     try clear c4b0
     try clear p2
     obtain ⟨x5_2, rfl, HA, HK2, HO_3, HB⟩ := hrel
     cases gk with
     | zero => exact absurd HA.out (by simp [laws_tame.l1])
     | succ k2 =>
      have H := HA.out
      clear HA
      simp only [laws_tame.l1] at H
      have HC6 := Aside0.mk H
      clear H
      go_upto_region 6 with (fail)
      go_cut [28] (fun v28 wc => ∃ (kq : Nat) (x28_5 : Bool), v28 = .bool x28_5 ∧ Aside0 (laws_tame.j2 kq t111 x4_1 x5_2 x28_5 = some r) ∧ Aside0 (kq ≤ k2) ∧ Aside0 (Kd.R Kd.string 9 wc w.heap.size (fun _ => True) (.slice Ao5 t111.length co5) t111) ∧ Aside0 (Below w.heap.size w wc))
      case first =>
       have H := HC6.out
       clear HC6
       by_cases c7 : 0 ≤ x4_1
       ·
        rw [if_pos c7] at H
        have c7b0 : decide (0 ≤ x4_1) = true := decide_eq_true c7
        clear c7
        (first | rw [c7b0] | (simp only [i64_w, i32_w]; rw [c7b0]) | skip)
        by_cases c8 : x4_1 < (t111.length : Int)
        ·
         rw [if_pos c8] at H
         have c8b0 : decide (x4_1 < (t111.length : Int)) = true := decide_eq_true c8
         clear c8
         by_cases c9 : x5_2 < ((rdOf ByteArray.empty t111 x4_1).size : Int)
         ·
          rw [if_pos c9] at H
          have c9b0 : decide (x5_2 < ((rdOf ByteArray.empty t111 x4_1).size : Int)) = true := decide_eq_true c9
          clear c9
          have H' := Aside0.mk H
          clear H
          have p114 : 0 ≤ (x4_1 : Int) := of_decide_eq_true (by first | (with_reducible assumption) | assumption)
          have q114 : x4_1 < (t111.length : Int) := of_decide_eq_true (by first | (with_reducible assumption) | assumption)
          obtain ⟨ad114, e114, hx114_0⟩ := Kd.at_string (Kd.R_reads' HO_3.out).2.2 x4_1 p114 q114
          cases e114
          replace p114 := eq_true p114
          replace q114 := eq_true q114
          have p115 : 0 ≤ (x4_1 : Int) := of_decide_eq_true (by first | (with_reducible assumption) | assumption)
          have q115 : x4_1 < (t111.length : Int) := of_decide_eq_true (by first | (with_reducible assumption) | assumption)
          obtain ⟨ad115, e115, hx115_0⟩ := Kd.at_string (Kd.R_reads' HO_3.out).2.2 x4_1 p115 q115
          obtain rfl : ad114 = ad115 := (by injection e115)
          replace p115 := eq_true p115
          replace q115 := eq_true q115
          go_wp2
          go_meet
          case rel => exact ⟨_, (decide (((rdOf ByteArray.empty t111 x4_1).size : Int) > 1)), (by first | rfl | (simp; done) | (simp [*]; done)), H', ⟨by have := HK1.out; have := HK2.out; first | omega | exact Nat.le_refl _⟩, ⟨by (with_reducible repeat (first | apply Kd.R_alloc | apply Kd.R_drewN | apply Kd.R_drew)); exact HO_3.out⟩, ⟨by repeat (first | (with_reducible first | exact HB.out | apply below_alloc | apply pw_below_drewN | apply below_drew1) | exact HB.out)⟩⟩
         rw [if_neg c9] at H
         have c9b0 : decide (x5_2 < ((rdOf ByteArray.empty t111 x4_1).size : Int)) = false := decide_eq_false c9
         clear c9
         have H' := Aside0.mk H
         clear H
         have p114 : 0 ≤ (x4_1 : Int) := of_decide_eq_true (by first | (with_reducible assumption) | assumption)
         have q114 : x4_1 < (t111.length : Int) := of_decide_eq_true (by first | (with_reducible assumption) | assumption)
         obtain ⟨ad114, e114, hx114_0⟩ := Kd.at_string (Kd.R_reads' HO_3.out).2.2 x4_1 p114 q114
         cases e114
         replace p114 := eq_true p114
         replace q114 := eq_true q114
         go_wp2
         go_meet
         case rel => exact ⟨_, (false), (by first | rfl | (simp; done) | (simp [*]; done)), H', ⟨by have := HK1.out; have := HK2.out; first | omega | exact Nat.le_refl _⟩, ⟨by (with_reducible repeat (first | apply Kd.R_alloc | apply Kd.R_drewN | apply Kd.R_drew)); exact HO_3.out⟩, ⟨by repeat (first | (with_reducible first | exact HB.out | apply below_alloc | apply pw_below_drewN | apply below_drew1) | exact HB.out)⟩⟩
        rw [if_neg c8] at H
        exact absurd H (by simp)
       rw [if_neg c7] at H
       exact absurd H (by simp)
      case rest =>
       clear HC6
       try clear p1
       try clear q1
       try clear hx1
       try clear c2
       try clear p2
       try clear c4
       try clear c4b0
       try clear c7
       try clear c7b0
       try clear c8
       try clear c8b0
       try clear c9
       try clear c9b0
       try clear hx114_0
       try clear hx115_0
       try clear p114
       try clear p115
       try clear p2
       try clear q114
       try clear q115
       obtain ⟨kq, x28_5, rfl, HA, HJ5, HO_3, HB⟩ := hcut
       cases kq with
       | zero => exact absurd HA.out (by simp [laws_tame.j2])
       | succ kj5 =>
        have H := HA.out
        clear HA
        simp only [laws_tame.j2] at H
        by_cases c10 : x28_5 = true
        ·
         subst c10
         have H1 : (if 0 ≤ x4_1 then (if x4_1 < (t111.length : Int) then (if 0 ≤ x5_2 then (if x5_2 < ((rdOf ByteArray.empty t111 x4_1).size : Int) then (if (bt (rdOf ByteArray.empty t111 x4_1) x5_2) = 42 then (some false) else (if (bt (rdOf ByteArray.empty t111 x4_1) x5_2) = 62 then (some false) else (laws_tame.l1 kj5 t111 x4_1 (wrap64 (x5_2 + 1))))) else (none)) else (none)) else (none)) else (none)) = some r := by rw [if_pos rfl] at H; exact H
         clear H
         have H := H1
         clear H1
         by_cases c11 : 0 ≤ x4_1
         ·
          rw [if_pos c11] at H
          have c11b0 : decide (0 ≤ x4_1) = true := decide_eq_true c11
          clear c11
          by_cases c12 : x4_1 < (t111.length : Int)
          ·
           rw [if_pos c12] at H
           have c12b0 : decide (x4_1 < (t111.length : Int)) = true := decide_eq_true c12
           clear c12
           by_cases c13 : 0 ≤ x5_2
           ·
            rw [if_pos c13] at H
            have c13b0 : decide (0 ≤ x5_2) = true := decide_eq_true c13
            clear c13
            by_cases c14 : x5_2 < ((rdOf ByteArray.empty t111 x4_1).size : Int)
            ·
             rw [if_pos c14] at H
             have c14b0 : decide (x5_2 < ((rdOf ByteArray.empty t111 x4_1).size : Int)) = true := decide_eq_true c14
             clear c14
             by_cases c16 : (bt (rdOf ByteArray.empty t111 x4_1) x5_2) = 42
             ·
              rw [if_pos c16] at H
              have c16b0 : ((bt (rdOf ByteArray.empty t111 x4_1) x5_2) == 42) = true := beq_iff_eq.mpr c16
              have c16b1 : ((bt (rdOf ByteArray.empty t111 x4_1) x5_2) != 42) = false := bne_eq_false_iff_eq.mpr c16
              clear c16
              obtain rfl := Option.some.inj H
              have p116 : 0 ≤ (x4_1 : Int) := of_decide_eq_true (by first | (with_reducible assumption) | assumption)
              have q116 : x4_1 < (t111.length : Int) := of_decide_eq_true (by first | (with_reducible assumption) | assumption)
              obtain ⟨ad116, e116, hx116_0⟩ := Kd.at_string (Kd.R_reads' HO_3.out).2.2 x4_1 p116 q116
              cases e116
              replace p116 := eq_true p116
              replace q116 := eq_true q116
              have p15 : 0 ≤ (x5_2 : Int) := of_decide_eq_true (by first | (with_reducible assumption) | assumption)
              have q15 : x5_2 < ((rdOf ByteArray.empty t111 x4_1).size : Int) := of_decide_eq_true (by first | (with_reducible assumption) | assumption)
              have hx15 := bt_at (rdOf ByteArray.empty t111 x4_1) x5_2
              replace p15 := eq_true p15
              replace q15 := eq_true q15
              go_wp2
              go_ret
              exact ⟨by first | rfl | (simp [errW_none, errW_some] <;> rfl) | (simp [*, errW_none, errW_some] <;> rfl), by repeat (first | (with_reducible first | exact HB.out | apply below_alloc | apply pw_below_drewN | apply below_drew1) | exact HB.out)⟩
             rw [if_neg c16] at H
             have c16b0 : ((bt (rdOf ByteArray.empty t111 x4_1) x5_2) == 42) = false := beq_eq_false_iff_ne.mpr c16
             have c16b1 : ((bt (rdOf ByteArray.empty t111 x4_1) x5_2) != 42) = true := bne_iff_ne.mpr c16
             by_cases c18 : (bt (rdOf ByteArray.empty t111 x4_1) x5_2) = 62
             ·
              rw [if_pos c18] at H
              have c18b0 : ((bt (rdOf ByteArray.empty t111 x4_1) x5_2) == 62) = true := beq_iff_eq.mpr c18
              have c18b1 : ((bt (rdOf ByteArray.empty t111 x4_1) x5_2) != 62) = false := bne_eq_false_iff_eq.mpr c18
              clear c18
              obtain rfl := Option.some.inj H
              have p116 : 0 ≤ (x4_1 : Int) := of_decide_eq_true (by first | (with_reducible assumption) | assumption)
              have q116 : x4_1 < (t111.length : Int) := of_decide_eq_true (by first | (with_reducible assumption) | assumption)
              obtain ⟨ad116, e116, hx116_0⟩ := Kd.at_string (Kd.R_reads' HO_3.out).2.2 x4_1 p116 q116
              cases e116
              replace p116 := eq_true p116
              replace q116 := eq_true q116
              have p15 : 0 ≤ (x5_2 : Int) := of_decide_eq_true (by first | (with_reducible assumption) | assumption)
              have q15 : x5_2 < ((rdOf ByteArray.empty t111 x4_1).size : Int) := of_decide_eq_true (by first | (with_reducible assumption) | assumption)
              have hx15 := bt_at (rdOf ByteArray.empty t111 x4_1) x5_2
              replace p15 := eq_true p15
              replace q15 := eq_true q15
              have p117 : 0 ≤ (x4_1 : Int) := of_decide_eq_true (by first | (with_reducible assumption) | assumption)
              have q117 : x4_1 < (t111.length : Int) := of_decide_eq_true (by first | (with_reducible assumption) | assumption)
              obtain ⟨ad117, e117, hx117_0⟩ := Kd.at_string (Kd.R_reads' HO_3.out).2.2 x4_1 p117 q117
              obtain rfl : ad116 = ad117 := (by injection e117)
              replace p117 := eq_true p117
              replace q117 := eq_true q117
              have p17 : 0 ≤ (x5_2 : Int) := of_decide_eq_true (by first | (with_reducible assumption) | assumption)
              have q17 : x5_2 < ((rdOf ByteArray.empty t111 x4_1).size : Int) := of_decide_eq_true (by first | (with_reducible assumption) | assumption)
              have hx17 := bt_at (rdOf ByteArray.empty t111 x4_1) x5_2
              replace p17 := eq_true p17
              replace q17 := eq_true q17
              go_wp2
              go_ret
              exact ⟨by first | rfl | (simp [errW_none, errW_some] <;> rfl) | (simp [*, errW_none, errW_some] <;> rfl), by repeat (first | (with_reducible first | exact HB.out | apply below_alloc | apply pw_below_drewN | apply below_drew1) | exact HB.out)⟩
             rw [if_neg c18] at H
             have c18b0 : ((bt (rdOf ByteArray.empty t111 x4_1) x5_2) == 62) = false := beq_eq_false_iff_ne.mpr c18
             have c18b1 : ((bt (rdOf ByteArray.empty t111 x4_1) x5_2) != 62) = true := bne_iff_ne.mpr c18
             have H' := Aside0.mk H
             clear H
             have p116 : 0 ≤ (x4_1 : Int) := of_decide_eq_true (by first | (with_reducible assumption) | assumption)
             have q116 : x4_1 < (t111.length : Int) := of_decide_eq_true (by first | (with_reducible assumption) | assumption)
             obtain ⟨ad116, e116, hx116_0⟩ := Kd.at_string (Kd.R_reads' HO_3.out).2.2 x4_1 p116 q116
             cases e116
             replace p116 := eq_true p116
             replace q116 := eq_true q116
             have p15 : 0 ≤ (x5_2 : Int) := of_decide_eq_true (by first | (with_reducible assumption) | assumption)
             have q15 : x5_2 < ((rdOf ByteArray.empty t111 x4_1).size : Int) := of_decide_eq_true (by first | (with_reducible assumption) | assumption)
             have hx15 := bt_at (rdOf ByteArray.empty t111 x4_1) x5_2
             replace p15 := eq_true p15
             replace q15 := eq_true q15
             have p117 : 0 ≤ (x4_1 : Int) := of_decide_eq_true (by first | (with_reducible assumption) | assumption)
             have q117 : x4_1 < (t111.length : Int) := of_decide_eq_true (by first | (with_reducible assumption) | assumption)
             obtain ⟨ad117, e117, hx117_0⟩ := Kd.at_string (Kd.R_reads' HO_3.out).2.2 x4_1 p117 q117
             obtain rfl : ad116 = ad117 := (by injection e117)
             replace p117 := eq_true p117
             replace q117 := eq_true q117
             have p17 : 0 ≤ (x5_2 : Int) := of_decide_eq_true (by first | (with_reducible assumption) | assumption)
             have q17 : x5_2 < ((rdOf ByteArray.empty t111 x4_1).size : Int) := of_decide_eq_true (by first | (with_reducible assumption) | assumption)
             have hx17 := bt_at (rdOf ByteArray.empty t111 x4_1) x5_2
             replace p17 := eq_true p17
             replace q17 := eq_true q17
             go_wp2
             go_roundg kj5
             case measure => have := HK1.out; have := HK2.out; have := HJ5.out; omega
             case rel => exact ⟨(wrap64 (x5_2 + 1)), (by first | rfl | (simp; done) | (simp [*]; done)), H', ⟨by have := HK1.out; have := HK2.out; have := HJ5.out; omega⟩, ⟨by (with_reducible repeat (first | apply Kd.R_alloc | apply Kd.R_drewN | apply Kd.R_drew)); exact HO_3.out⟩, ⟨by repeat (first | (with_reducible first | exact HB.out | apply below_alloc | apply pw_below_drewN | apply below_drew1) | exact HB.out)⟩⟩
            rw [if_neg c14] at H
            exact absurd H (by simp)
           rw [if_neg c13] at H
           exact absurd H (by simp)
          rw [if_neg c12] at H
          exact absurd H (by simp)
         rw [if_neg c11] at H
         exact absurd H (by simp)
        replace c10 := Bool.eq_false_iff.mpr c10
        subst c10
        have H1 : (laws_tame.l0 kj5 t111 (wrap64 (x4_1 + 1))) = some r := by rw [if_neg (show ¬ (false = true) by decide)] at H; exact H
        clear H
        have H := H1
        clear H1
        have H' := Aside0.mk H
        clear H
        go_wp2
        go_roundg kj5
        case measure => have := HK1.out; have := HK2.out; have := HJ5.out; omega
        case rel => exact ⟨(wrap64 (x4_1 + 1)), (by first | rfl | (simp; done) | (simp [*]; done)), H', ⟨by have := HK1.out; have := HK2.out; have := HJ5.out; omega⟩, ⟨by (with_reducible repeat (first | apply Kd.R_alloc | apply Kd.R_drewN | apply Kd.R_drew)); exact HO_3.out⟩, ⟨by repeat (first | (with_reducible first | exact HB.out | apply below_alloc | apply pw_below_drewN | apply below_drew1) | exact HB.out)⟩⟩
   rw [if_neg c4] at H
   have c4b0 : decide (x4_1 < (t111.length : Int)) = false := decide_eq_false c4
   clear c4
   obtain rfl := Option.some.inj H
   obtain ⟨Ao19, co19, eo19⟩ := Kd.R_slice HO_3.out
   subst eo19
   go_wp2
   go_ret
   exact ⟨by first | rfl | (simp [errW_none, errW_some] <;> rfl) | (simp [*, errW_none, errW_some] <;> rfl), by repeat (first | (with_reducible first | exact HB.out | apply below_alloc | apply pw_below_drewN | apply below_drew1) | exact HB.out)⟩
def spec_letters.l0 : Nat → ByteArray → Int → Option (Bool)
 | 0, _, _ => none
 | k + 1, x0, x3 => if x3 < (x0.size : Int) then (if 0 ≤ x3 then (if (bt x0 x3) < 97 then (if (bt x0 x3) < 48 then (some false) else (if (bt x0 x3) > 57 then (some false) else (spec_letters.l0 k x0 (wrap64 (x3 + 1))))) else (if (bt x0 x3) > 122 then (if (bt x0 x3) < 48 then (some false) else (if (bt x0 x3) > 57 then (some false) else (spec_letters.l0 k x0 (wrap64 (x3 + 1))))) else (spec_letters.l0 k x0 (wrap64 (x3 + 1))))) else (none)) else (some (x0.toList != ([] : List UInt8)))
def spec_letters.f (k : Nat) (a0 : ByteArray) : Option (Bool) := spec_letters.l0 k a0 0
set_option maxHeartbeats 8000000 in
set_option maxRecDepth 100000 in
theorem spec_letters.calls (k : Nat) (a0 : ByteArray) (r : Bool) (w : World) (h : spec_letters.f k a0 = some r) :
  Calls Tryd.prog 41 #[.string a0] w fun e w' => e = .returned (.bool r) ∧ Drawn0 w w' := by
 have H : (spec_letters.l0 k a0 0) = some r := h
 clear h
 have H' := Aside0.mk H
 clear H
 go_enter Tryd.func41, Tryd.ntmps41
 go_wp2
 go_loopg [3] k (fun kq v3 w' => ∃ (x3_1 : Int), v3 = .int .i64 x3_1 ∧ Aside0 (spec_letters.l0 kq a0 x3_1 = some r) ∧ Aside0 (kq ≤ k) ∧ Drawn0 w w')
 case atStart => exact ⟨(0), (by first | rfl | (simp; done) | (simp [*]; done)), H', ⟨Nat.le_refl _⟩, by repeat (first | exact Drawn0.refl _ | apply Drawn0.step)⟩
 case round =>
  clear H'
  obtain ⟨x3_1, rfl, HA, HK1, ⟨m1, rfl⟩⟩ := hrel
  cases gk with
  | zero => exact absurd HA.out (by simp [spec_letters.l0])
  | succ k1 =>
   have H := HA.out
   clear HA
   simp only [spec_letters.l0] at H
   by_cases c2 : x3_1 < (a0.size : Int)
   ·
    rw [if_pos c2] at H
    have c2b0 : decide (x3_1 < (a0.size : Int)) = true := decide_eq_true c2
    clear c2
    by_cases c3 : 0 ≤ x3_1
    ·
     rw [if_pos c3] at H
     have c3b0 : decide (0 ≤ x3_1) = true := decide_eq_true c3
     clear c3
     by_cases c5 : (bt a0 x3_1) < 97
     ·
      rw [if_pos c5] at H
      have c5b0 : decide ((bt a0 x3_1) < 97) = true := decide_eq_true c5
      clear c5
      by_cases c7 : (bt a0 x3_1) < 48
      ·
       rw [if_pos c7] at H
       have c7b0 : decide ((bt a0 x3_1) < 48) = true := decide_eq_true c7
       clear c7
       obtain rfl := Option.some.inj H
       have p4 : 0 ≤ (x3_1 : Int) := of_decide_eq_true (by first | (with_reducible assumption) | assumption)
       have q4 : x3_1 < (a0.size : Int) := of_decide_eq_true (by first | (with_reducible assumption) | assumption)
       have hx4 := bt_at a0 x3_1
       replace p4 := eq_true p4
       replace q4 := eq_true q4
       have p6 : 0 ≤ (x3_1 : Int) := of_decide_eq_true (by first | (with_reducible assumption) | assumption)
       have q6 : x3_1 < (a0.size : Int) := of_decide_eq_true (by first | (with_reducible assumption) | assumption)
       have hx6 := bt_at a0 x3_1
       replace p6 := eq_true p6
       replace q6 := eq_true q6
       go_wp2
       go_ret
       exact ⟨by first | rfl | (simp; done) | (simp [*]; done) | (simp; cases a0.toList <;> rfl) , by repeat (first | exact Drawn0.refl _ | apply Drawn0.step)⟩
      rw [if_neg c7] at H
      have c7b0 : decide ((bt a0 x3_1) < 48) = false := decide_eq_false c7
      clear c7
      by_cases c9 : (bt a0 x3_1) > 57
      ·
       rw [if_pos c9] at H
       have c9b0 : decide (57 < (bt a0 x3_1)) = true := decide_eq_true c9
       clear c9
       obtain rfl := Option.some.inj H
       have p4 : 0 ≤ (x3_1 : Int) := of_decide_eq_true (by first | (with_reducible assumption) | assumption)
       have q4 : x3_1 < (a0.size : Int) := of_decide_eq_true (by first | (with_reducible assumption) | assumption)
       have hx4 := bt_at a0 x3_1
       replace p4 := eq_true p4
       replace q4 := eq_true q4
       have p6 : 0 ≤ (x3_1 : Int) := of_decide_eq_true (by first | (with_reducible assumption) | assumption)
       have q6 : x3_1 < (a0.size : Int) := of_decide_eq_true (by first | (with_reducible assumption) | assumption)
       have hx6 := bt_at a0 x3_1
       replace p6 := eq_true p6
       replace q6 := eq_true q6
       have p8 : 0 ≤ (x3_1 : Int) := of_decide_eq_true (by first | (with_reducible assumption) | assumption)
       have q8 : x3_1 < (a0.size : Int) := of_decide_eq_true (by first | (with_reducible assumption) | assumption)
       have hx8 := bt_at a0 x3_1
       replace p8 := eq_true p8
       replace q8 := eq_true q8
       go_wp2
       go_ret
       exact ⟨by first | rfl | (simp; done) | (simp [*]; done) | (simp; cases a0.toList <;> rfl) , by repeat (first | exact Drawn0.refl _ | apply Drawn0.step)⟩
      rw [if_neg c9] at H
      have c9b0 : decide (57 < (bt a0 x3_1)) = false := decide_eq_false c9
      clear c9
      have H' := Aside0.mk H
      clear H
      have p4 : 0 ≤ (x3_1 : Int) := of_decide_eq_true (by first | (with_reducible assumption) | assumption)
      have q4 : x3_1 < (a0.size : Int) := of_decide_eq_true (by first | (with_reducible assumption) | assumption)
      have hx4 := bt_at a0 x3_1
      replace p4 := eq_true p4
      replace q4 := eq_true q4
      have p6 : 0 ≤ (x3_1 : Int) := of_decide_eq_true (by first | (with_reducible assumption) | assumption)
      have q6 : x3_1 < (a0.size : Int) := of_decide_eq_true (by first | (with_reducible assumption) | assumption)
      have hx6 := bt_at a0 x3_1
      replace p6 := eq_true p6
      replace q6 := eq_true q6
      have p8 : 0 ≤ (x3_1 : Int) := of_decide_eq_true (by first | (with_reducible assumption) | assumption)
      have q8 : x3_1 < (a0.size : Int) := of_decide_eq_true (by first | (with_reducible assumption) | assumption)
      have hx8 := bt_at a0 x3_1
      replace p8 := eq_true p8
      replace q8 := eq_true q8
      go_wp2
      go_roundg k1
      case measure => have := HK1.out; omega
      case rel => exact ⟨(wrap64 (x3_1 + 1)), (by first | rfl | (simp; done) | (simp [*]; done)), H', ⟨by have := HK1.out; omega⟩, by repeat (first | exact Drawn0.refl _ | apply Drawn0.step)⟩
     rw [if_neg c5] at H
     have c5b0 : decide ((bt a0 x3_1) < 97) = false := decide_eq_false c5
     clear c5
     by_cases c11 : (bt a0 x3_1) > 122
     ·
      rw [if_pos c11] at H
      have c11b0 : decide (122 < (bt a0 x3_1)) = true := decide_eq_true c11
      clear c11
      by_cases c13 : (bt a0 x3_1) < 48
      ·
       rw [if_pos c13] at H
       have c13b0 : decide ((bt a0 x3_1) < 48) = true := decide_eq_true c13
       clear c13
       obtain rfl := Option.some.inj H
       have p4 : 0 ≤ (x3_1 : Int) := of_decide_eq_true (by first | (with_reducible assumption) | assumption)
       have q4 : x3_1 < (a0.size : Int) := of_decide_eq_true (by first | (with_reducible assumption) | assumption)
       have hx4 := bt_at a0 x3_1
       replace p4 := eq_true p4
       replace q4 := eq_true q4
       have p10 : 0 ≤ (x3_1 : Int) := of_decide_eq_true (by first | (with_reducible assumption) | assumption)
       have q10 : x3_1 < (a0.size : Int) := of_decide_eq_true (by first | (with_reducible assumption) | assumption)
       have hx10 := bt_at a0 x3_1
       replace p10 := eq_true p10
       replace q10 := eq_true q10
       have p12 : 0 ≤ (x3_1 : Int) := of_decide_eq_true (by first | (with_reducible assumption) | assumption)
       have q12 : x3_1 < (a0.size : Int) := of_decide_eq_true (by first | (with_reducible assumption) | assumption)
       have hx12 := bt_at a0 x3_1
       replace p12 := eq_true p12
       replace q12 := eq_true q12
       go_wp2
       go_ret
       exact ⟨by first | rfl | (simp; done) | (simp [*]; done) | (simp; cases a0.toList <;> rfl) , by repeat (first | exact Drawn0.refl _ | apply Drawn0.step)⟩
      rw [if_neg c13] at H
      have c13b0 : decide ((bt a0 x3_1) < 48) = false := decide_eq_false c13
      clear c13
      by_cases c15 : (bt a0 x3_1) > 57
      ·
       rw [if_pos c15] at H
       have c15b0 : decide (57 < (bt a0 x3_1)) = true := decide_eq_true c15
       clear c15
       obtain rfl := Option.some.inj H
       have p4 : 0 ≤ (x3_1 : Int) := of_decide_eq_true (by first | (with_reducible assumption) | assumption)
       have q4 : x3_1 < (a0.size : Int) := of_decide_eq_true (by first | (with_reducible assumption) | assumption)
       have hx4 := bt_at a0 x3_1
       replace p4 := eq_true p4
       replace q4 := eq_true q4
       have p10 : 0 ≤ (x3_1 : Int) := of_decide_eq_true (by first | (with_reducible assumption) | assumption)
       have q10 : x3_1 < (a0.size : Int) := of_decide_eq_true (by first | (with_reducible assumption) | assumption)
       have hx10 := bt_at a0 x3_1
       replace p10 := eq_true p10
       replace q10 := eq_true q10
       have p12 : 0 ≤ (x3_1 : Int) := of_decide_eq_true (by first | (with_reducible assumption) | assumption)
       have q12 : x3_1 < (a0.size : Int) := of_decide_eq_true (by first | (with_reducible assumption) | assumption)
       have hx12 := bt_at a0 x3_1
       replace p12 := eq_true p12
       replace q12 := eq_true q12
       have p14 : 0 ≤ (x3_1 : Int) := of_decide_eq_true (by first | (with_reducible assumption) | assumption)
       have q14 : x3_1 < (a0.size : Int) := of_decide_eq_true (by first | (with_reducible assumption) | assumption)
       have hx14 := bt_at a0 x3_1
       replace p14 := eq_true p14
       replace q14 := eq_true q14
       go_wp2
       go_ret
       exact ⟨by first | rfl | (simp; done) | (simp [*]; done) | (simp; cases a0.toList <;> rfl) , by repeat (first | exact Drawn0.refl _ | apply Drawn0.step)⟩
      rw [if_neg c15] at H
      have c15b0 : decide (57 < (bt a0 x3_1)) = false := decide_eq_false c15
      clear c15
      have H' := Aside0.mk H
      clear H
      have p4 : 0 ≤ (x3_1 : Int) := of_decide_eq_true (by first | (with_reducible assumption) | assumption)
      have q4 : x3_1 < (a0.size : Int) := of_decide_eq_true (by first | (with_reducible assumption) | assumption)
      have hx4 := bt_at a0 x3_1
      replace p4 := eq_true p4
      replace q4 := eq_true q4
      have p10 : 0 ≤ (x3_1 : Int) := of_decide_eq_true (by first | (with_reducible assumption) | assumption)
      have q10 : x3_1 < (a0.size : Int) := of_decide_eq_true (by first | (with_reducible assumption) | assumption)
      have hx10 := bt_at a0 x3_1
      replace p10 := eq_true p10
      replace q10 := eq_true q10
      have p12 : 0 ≤ (x3_1 : Int) := of_decide_eq_true (by first | (with_reducible assumption) | assumption)
      have q12 : x3_1 < (a0.size : Int) := of_decide_eq_true (by first | (with_reducible assumption) | assumption)
      have hx12 := bt_at a0 x3_1
      replace p12 := eq_true p12
      replace q12 := eq_true q12
      have p14 : 0 ≤ (x3_1 : Int) := of_decide_eq_true (by first | (with_reducible assumption) | assumption)
      have q14 : x3_1 < (a0.size : Int) := of_decide_eq_true (by first | (with_reducible assumption) | assumption)
      have hx14 := bt_at a0 x3_1
      replace p14 := eq_true p14
      replace q14 := eq_true q14
      go_wp2
      go_roundg k1
      case measure => have := HK1.out; omega
      case rel => exact ⟨(wrap64 (x3_1 + 1)), (by first | rfl | (simp; done) | (simp [*]; done)), H', ⟨by have := HK1.out; omega⟩, by repeat (first | exact Drawn0.refl _ | apply Drawn0.step)⟩
     rw [if_neg c11] at H
     have c11b0 : decide (122 < (bt a0 x3_1)) = false := decide_eq_false c11
     clear c11
     have H' := Aside0.mk H
     clear H
     have p4 : 0 ≤ (x3_1 : Int) := of_decide_eq_true (by first | (with_reducible assumption) | assumption)
     have q4 : x3_1 < (a0.size : Int) := of_decide_eq_true (by first | (with_reducible assumption) | assumption)
     have hx4 := bt_at a0 x3_1
     replace p4 := eq_true p4
     replace q4 := eq_true q4
     have p10 : 0 ≤ (x3_1 : Int) := of_decide_eq_true (by first | (with_reducible assumption) | assumption)
     have q10 : x3_1 < (a0.size : Int) := of_decide_eq_true (by first | (with_reducible assumption) | assumption)
     have hx10 := bt_at a0 x3_1
     replace p10 := eq_true p10
     replace q10 := eq_true q10
     go_wp2
     go_roundg k1
     case measure => have := HK1.out; omega
     case rel => exact ⟨(wrap64 (x3_1 + 1)), (by first | rfl | (simp; done) | (simp [*]; done)), H', ⟨by have := HK1.out; omega⟩, by repeat (first | exact Drawn0.refl _ | apply Drawn0.step)⟩
    rw [if_neg c3] at H
    exact absurd H (by simp)
   rw [if_neg c2] at H
   have c2b0 : decide (x3_1 < (a0.size : Int)) = false := decide_eq_false c2
   clear c2
   obtain rfl := Option.some.inj H
   go_wp2
   go_ret
   exact ⟨by first | rfl | (simp; done) | (simp [*]; done) | (simp; cases a0.toList <;> rfl) , by repeat (first | exact Drawn0.refl _ | apply Drawn0.step)⟩
mutual
def spec_Known.l0 : Nat → List (S42) → Int → Option (Bool)
 | 0, _, _ => none
 | k + 1, x0, x3 => if x3 < (x0.length : Int) then (if 0 ≤ x3 then (if ((rd_T42 x0 x3).f0) < 0 then (spec_Known.j1 k x0 x3 true ((rd_T42 x0 x3).f0) ((rd_T42 x0 x3).f1) ((rd_T42 x0 x3).f2) ((rd_T42 x0 x3).f3) ((rd_T42 x0 x3).f4)) else (if ((rd_T42 x0 x3).f0) > 11 then (spec_Known.j1 k x0 x3 true ((rd_T42 x0 x3).f0) ((rd_T42 x0 x3).f1) ((rd_T42 x0 x3).f2) ((rd_T42 x0 x3).f3) ((rd_T42 x0 x3).f4)) else (if ((rd_T42 x0 x3).f2) < 0 then (spec_Known.j1 k x0 x3 true ((rd_T42 x0 x3).f0) ((rd_T42 x0 x3).f1) ((rd_T42 x0 x3).f2) ((rd_T42 x0 x3).f3) ((rd_T42 x0 x3).f4)) else (if ((rd_T42 x0 x3).f2) > 99 then (spec_Known.j1 k x0 x3 true ((rd_T42 x0 x3).f0) ((rd_T42 x0 x3).f1) ((rd_T42 x0 x3).f2) ((rd_T42 x0 x3).f3) ((rd_T42 x0 x3).f4)) else (if ((rd_T42 x0 x3).f3) < 0 then (spec_Known.j1 k x0 x3 true ((rd_T42 x0 x3).f0) ((rd_T42 x0 x3).f1) ((rd_T42 x0 x3).f2) ((rd_T42 x0 x3).f3) ((rd_T42 x0 x3).f4)) else (if ((rd_T42 x0 x3).f3) > 99 then (spec_Known.j1 k x0 x3 true ((rd_T42 x0 x3).f0) ((rd_T42 x0 x3).f1) ((rd_T42 x0 x3).f2) ((rd_T42 x0 x3).f3) ((rd_T42 x0 x3).f4)) else (spec_Known.j1 k x0 x3 (decide ((((rd_T42 x0 x3).f4).length : Int) > 5)) ((rd_T42 x0 x3).f0) ((rd_T42 x0 x3).f1) ((rd_T42 x0 x3).f2) ((rd_T42 x0 x3).f3) ((rd_T42 x0 x3).f4)))))))) else (none)) else (some (decide ((x0.length : Int) > 0)))
def spec_Known.j1 : Nat → List (S42) → Int → Bool → Int → ByteArray → Int → Int → List Int → Option (Bool)
 | 0, _, _, _, _, _, _, _, _ => none
 | k + 1, x0, x3, x49, x120000, x120001, x120002, x120003, x120004 => if x49 = true then (some false) else (spec_Known.l1 k x0 x3 0 x120000 x120001 x120002 x120003 x120004)
def spec_Known.l1 : Nat → List (S42) → Int → Int → Int → ByteArray → Int → Int → List Int → Option (Bool)
 | 0, _, _, _, _, _, _, _, _ => none
 | k + 1, x0, x3, x5, x120000, x120001, x120002, x120003, x120004 => if x5 < (x120004.length : Int) then (if 0 ≤ x5 then (if (rd x120004 x5) < 0 then (some false) else (if (rd x120004 x5) > 99 then (some false) else (spec_Known.l1 k x0 x3 (wrap64 (x5 + 1)) x120000 x120001 x120002 x120003 x120004))) else (none)) else (if x120000 = 0 then ((spec_letters.f k x120001).bind fun t122 => (if t122 = true then (spec_Known.l0 k x0 (wrap64 (x3 + 1))) else (some false))) else (if x120000 = 3 then (if x120001.toList = ([45] : List UInt8) then (spec_Known.l0 k x0 (wrap64 (x3 + 1))) else (if x120001.toList = ([95] : List UInt8) then (spec_Known.l0 k x0 (wrap64 (x3 + 1))) else (if x120001.toList = ([64] : List UInt8) then (spec_Known.l0 k x0 (wrap64 (x3 + 1))) else (some false)))) else (if x120000 = 4 then (spec_Known.j3 k x0 x3 x120000 (x120000 == 4) x120000 x120001 x120002 x120003 x120004) else (if x120000 = 5 then (spec_Known.j3 k x0 x3 x120000 (x120000 == 5) x120000 x120001 x120002 x120003 x120004) else (if x120000 = 6 then (spec_Known.j3 k x0 x3 x120000 (x120000 == 6) x120000 x120001 x120002 x120003 x120004) else (if x120000 = 7 then (spec_Known.j3 k x0 x3 x120000 (x120000 == 7) x120000 x120001 x120002 x120003 x120004) else (if x120000 = 8 then (spec_Known.j3 k x0 x3 x120000 (x120000 == 8) x120000 x120001 x120002 x120003 x120004) else (spec_Known.j3 k x0 x3 x120000 (x120000 == 9) x120000 x120001 x120002 x120003 x120004))))))))
def spec_Known.j3 : Nat → List (S42) → Int → Int → Bool → Int → ByteArray → Int → Int → List Int → Option (Bool)
 | 0, _, _, _, _, _, _, _, _, _ => none
 | k + 1, x0, x3, x72, x94, x120000, x120001, x120002, x120003, x120004 => if x94 = true then (if x120003 < 1 then (some false) else (spec_Known.l0 k x0 (wrap64 (x3 + 1)))) else (if x72 = 10 then (if x120003 < 1 then (some false) else (if (x120004.length : Int) = 0 then (some false) else (spec_Known.l0 k x0 (wrap64 (x3 + 1))))) else (if x72 = 11 then (if (wrap64 (x3 + 1)) < (x0.length : Int) then (some false) else (spec_Known.l0 k x0 (wrap64 (x3 + 1)))) else (spec_Known.l0 k x0 (wrap64 (x3 + 1)))))
end
def spec_Known.f (k : Nat) (l0 : List (S42)) : Option (Bool) := spec_Known.l0 k l0 0
set_option maxHeartbeats 8000000 in
set_option maxRecDepth 100000 in
theorem spec_Known.calls (k : Nat) (A0 : Option Addr) (c0 : Nat) (l0 : List (S42)) (r : Bool) (w : World) (hr0 : Kd.C k42 w A0 l0.length l0) (hc0 : l0.length ≤ c0) (h : spec_Known.f k l0 = some r) :
  Calls Tryd.prog 21 #[.slice A0 l0.length c0] w fun e w' => e = .returned (.bool r) ∧ Below w.heap.size w w' := by
 have hu42 := Tryd.underlying42
 have HR0 := Aside0.mk hr0
 have HC0 := Aside0.mk hc0
 clear hr0 hc0
 have HB := Aside0.mk (Below.refl w.heap.size w)
 have H : (spec_Known.l0 k l0 0) = some r := h
 clear h
 have H' := Aside0.mk H
 clear H
 go_enter Tryd.func21, Tryd.ntmps21
 go_wp2
 go_loopg [3] k (fun kq v3 w' => ∃ (x3_1 : Int), v3 = .int .i64 x3_1 ∧ Aside0 (spec_Known.l0 kq l0 x3_1 = some r) ∧ Aside0 (kq ≤ k) ∧ Aside0 (Below w.heap.size w w'))
 case atStart => exact ⟨(0), (by first | rfl | (simp; done) | (simp [*]; done)), H', ⟨Nat.le_refl _⟩, ⟨by repeat (first | (with_reducible first | exact HB.out | apply below_alloc | apply pw_below_drewN | apply below_drew1) | exact HB.out)⟩⟩
 case round =>
  clear H'
  obtain ⟨x3_1, rfl, HA, HK1, HB⟩ := hrel
  cases gk with
  | zero => exact absurd HA.out (by simp [spec_Known.l0])
  | succ k1 =>
   have H := HA.out
   clear HA
   simp only [spec_Known.l0] at H
   by_cases c2 : x3_1 < (l0.length : Int)
   ·
    rw [if_pos c2] at H
    have c2b0 : decide (x3_1 < (l0.length : Int)) = true := decide_eq_true c2
    clear c2
    by_cases c3 : 0 ≤ x3_1
    ·
     rw [if_pos c3] at H
     have c3b0 : decide (0 ≤ x3_1) = true := decide_eq_true c3
     clear c3
     have HC4 := Aside0.mk H
     clear H
     have p118 : 0 ≤ (x3_1 : Int) := of_decide_eq_true (by first | (with_reducible assumption) | assumption)
     have q118 : x3_1 < (l0.length : Int) := of_decide_eq_true (by first | (with_reducible assumption) | assumption)
     obtain ⟨ad118, A118_4, c118_4, e118, hx118_0, hx118_1, hx118_2, hx118_3, hx118_4, hl118_4, hi118_4⟩ := at_T42 HR0.out x3_1 p118 q118
     cases e118
     replace hx118_0 := (HB.out.cell (World.block_lt_of_cell? w _ hx118_0)).trans hx118_0
     replace hx118_1 := (HB.out.cell (World.block_lt_of_cell? w _ hx118_1)).trans hx118_1
     replace hx118_2 := (HB.out.cell (World.block_lt_of_cell? w _ hx118_2)).trans hx118_2
     replace hx118_3 := (HB.out.cell (World.block_lt_of_cell? w _ hx118_3)).trans hx118_3
     replace hx118_4 := (HB.out.cell (World.block_lt_of_cell? w _ hx118_4)).trans hx118_4
     have HR118_4 := Aside0.mk hi118_4
     have HC118_4 := Aside0.mk hl118_4
     clear hi118_4 hl118_4
     replace p118 := eq_true p118
     replace q118 := eq_true q118
     go_upto_region 5 with (first | ((with_reducible refine gate_dst (N := 4) rfl ?_); (try (refine gate_guard (by rfl) ?_; dsimp only)); refine box_event ?hg (N := 4) ?hd (cs := #[.int .i64 0, .string (⟨#[]⟩ : ByteArray), .int .i64 0, .int .i64 0, .slice none 0 0]) (t := 42) ?hr ?_; (case hd => rfl); (case hg => rfl); (case hr => first | (go_simp; done) | (go_simp; rfl)); intro gb119 hg w5 hbox hb; have n0_ := Aside0.mk (below_step (by repeat (first | (with_reducible first | exact HB.out | apply below_alloc | apply pw_below_drewN | apply below_drew1) | exact HB.out)) hb); have n1_ := Aside0.mk (hbox); have n2_ := Aside0.mk ((by rw [hg]; exact (below_size (by repeat (first | (with_reducible first | exact HB.out | apply below_alloc | apply pw_below_drewN | apply below_drew1) | exact HB.out))) : w.heap.size ≤ gb119)); have n3_ := Aside0.mk ((by rw [hg]; exact (below_size (by repeat (first | (with_reducible first | exact HB.out | apply below_alloc | apply pw_below_drewN | apply below_drew1) | exact HB.out))) : w.heap.size ≤ gb119)); clear HB; have HB := n0_; have BK119 := n1_; have GW119 := n2_; have GE119 := n3_; clear n0_ n1_ n2_ n3_; clear hb hbox hg; have hcz6_0 : w5.cell? ⟨gb119, 0, none⟩ = some (.int .i64 0) := (blk_cell BK119.out 0).trans rfl; have hcz6_1 : w5.cell? ⟨gb119, 1, none⟩ = some (.string (⟨#[]⟩ : ByteArray)) := (blk_cell BK119.out 1).trans rfl; have hcz6_2 : w5.cell? ⟨gb119, 2, none⟩ = some (.int .i64 0) := (blk_cell BK119.out 2).trans rfl; have hcz6_3 : w5.cell? ⟨gb119, 3, none⟩ = some (.int .i64 0) := (blk_cell BK119.out 3).trans rfl; have hcz6_4 : w5.cell? ⟨gb119, 4, none⟩ = some (.slice none 0 0) := (blk_cell BK119.out 4).trans rfl; have hfz6_0 := blk_frozen BK119.out 0; have hfz6_1 := blk_frozen BK119.out 1; have hfz6_2 := blk_frozen BK119.out 2; have hfz6_3 := blk_frozen BK119.out 3; have hfz6_4 := blk_frozen BK119.out 4))
     (try simp only [Act.put, List.setIfInBounds_toArray, List.set_cons_zero, List.set_cons_succ])
     go_cut [49] (fun v49 wc => ∃ (kq : Nat) (x49_3 : Bool), v49 = .bool x49_3 ∧ Aside0 (spec_Known.j1 kq l0 x3_1 x49_3 ((rd_T42 l0 x3_1).f0) ((rd_T42 l0 x3_1).f1) ((rd_T42 l0 x3_1).f2) ((rd_T42 l0 x3_1).f3) ((rd_T42 l0 x3_1).f4) = some r) ∧ Aside0 (kq ≤ k1) ∧ Aside0 (wc.heap[gb119]? = some (.cells #[.int .i64 ((rd_T42 l0 x3_1).f0), .string ((rd_T42 l0 x3_1).f1), .int .i64 ((rd_T42 l0 x3_1).f2), .int .i64 ((rd_T42 l0 x3_1).f3), (.slice A118_4 ((rd_T42 l0 x3_1).f4).length c118_4)] 42 (0, 0))) ∧ Aside0 (Below w.heap.size w wc))
     case first =>
      have H := HC4.out
      clear HC4
      by_cases c7 : ((rd_T42 l0 x3_1).f0) < 0
      ·
       rw [if_pos c7] at H
       have c7b0 : decide (((rd_T42 l0 x3_1).f0) < 0) = true := decide_eq_true c7
       clear c7
       (first | rw [c7b0] | (simp only [i64_w, i32_w]; rw [c7b0]) | skip)
       have H' := Aside0.mk H
       clear H
       have hcz8_0 : w5.cell? ⟨gb119, 0, none⟩ = some (.int .i64 0) := (blk_cell BK119.out 0).trans rfl
       have hcz8_1 : w5.cell? ⟨gb119, 1, none⟩ = some (.string (⟨#[]⟩ : ByteArray)) := (blk_cell BK119.out 1).trans rfl
       have hcz8_2 : w5.cell? ⟨gb119, 2, none⟩ = some (.int .i64 0) := (blk_cell BK119.out 2).trans rfl
       have hcz8_3 : w5.cell? ⟨gb119, 3, none⟩ = some (.int .i64 0) := (blk_cell BK119.out 3).trans rfl
       have hcz8_4 : w5.cell? ⟨gb119, 4, none⟩ = some (.slice none 0 0) := (blk_cell BK119.out 4).trans rfl
       go_wp2
       go_meet
       case rel => exact ⟨_, (true), (by first | rfl | (simp; done) | (simp [*]; done)), H', ⟨by have := HK1.out; first | omega | exact Nat.le_refl _⟩, ⟨by (with_reducible repeat (first | refine blk_drewN ?_ _ | refine blk_drew ?_ | refine blk_alloc ?_ _)); refine blk_put (cs := #[.int .i64 ((rd_T42 l0 x3_1).f0), .string ((rd_T42 l0 x3_1).f1), .int .i64 ((rd_T42 l0 x3_1).f2), .int .i64 ((rd_T42 l0 x3_1).f3), .slice none 0 0]) ?_ 4 _ rfl; (with_reducible repeat (first | refine blk_drewN ?_ _ | refine blk_drew ?_ | refine blk_alloc ?_ _)); refine blk_put (cs := #[.int .i64 ((rd_T42 l0 x3_1).f0), .string ((rd_T42 l0 x3_1).f1), .int .i64 ((rd_T42 l0 x3_1).f2), .int .i64 0, .slice none 0 0]) ?_ 3 _ rfl; (with_reducible repeat (first | refine blk_drewN ?_ _ | refine blk_drew ?_ | refine blk_alloc ?_ _)); refine blk_put (cs := #[.int .i64 ((rd_T42 l0 x3_1).f0), .string ((rd_T42 l0 x3_1).f1), .int .i64 0, .int .i64 0, .slice none 0 0]) ?_ 2 _ rfl; (with_reducible repeat (first | refine blk_drewN ?_ _ | refine blk_drew ?_ | refine blk_alloc ?_ _)); refine blk_put (cs := #[.int .i64 ((rd_T42 l0 x3_1).f0), .string (⟨#[]⟩ : ByteArray), .int .i64 0, .int .i64 0, .slice none 0 0]) ?_ 1 _ rfl; (with_reducible repeat (first | refine blk_drewN ?_ _ | refine blk_drew ?_ | refine blk_alloc ?_ _)); refine blk_put (cs := #[.int .i64 0, .string (⟨#[]⟩ : ByteArray), .int .i64 0, .int .i64 0, .slice none 0 0]) ?_ 0 _ rfl; (with_reducible repeat (first | refine blk_drewN ?_ _ | refine blk_drew ?_ | refine blk_alloc ?_ _)); exact BK119.out⟩, ⟨by repeat (first | (with_reducible first | exact HB.out | apply below_alloc | apply pw_below_drewN | apply below_drew1 | refine below_set ?_ GE119.out) | exact HB.out)⟩⟩
      rw [if_neg c7] at H
      have c7b0 : decide (((rd_T42 l0 x3_1).f0) < 0) = false := decide_eq_false c7
      clear c7
      (first | rw [c7b0] | (simp only [i64_w, i32_w]; rw [c7b0]) | skip)
      by_cases c9 : ((rd_T42 l0 x3_1).f0) > 11
      ·
       rw [if_pos c9] at H
       have c9b0 : decide (11 < ((rd_T42 l0 x3_1).f0)) = true := decide_eq_true c9
       clear c9
       have H' := Aside0.mk H
       clear H
       have hcz10_0 : w5.cell? ⟨gb119, 0, none⟩ = some (.int .i64 0) := (blk_cell BK119.out 0).trans rfl
       have hcz10_1 : w5.cell? ⟨gb119, 1, none⟩ = some (.string (⟨#[]⟩ : ByteArray)) := (blk_cell BK119.out 1).trans rfl
       have hcz10_2 : w5.cell? ⟨gb119, 2, none⟩ = some (.int .i64 0) := (blk_cell BK119.out 2).trans rfl
       have hcz10_3 : w5.cell? ⟨gb119, 3, none⟩ = some (.int .i64 0) := (blk_cell BK119.out 3).trans rfl
       have hcz10_4 : w5.cell? ⟨gb119, 4, none⟩ = some (.slice none 0 0) := (blk_cell BK119.out 4).trans rfl
       go_wp2
       go_meet
       case rel => exact ⟨_, (true), (by first | rfl | (simp; done) | (simp [*]; done)), H', ⟨by have := HK1.out; first | omega | exact Nat.le_refl _⟩, ⟨by (with_reducible repeat (first | refine blk_drewN ?_ _ | refine blk_drew ?_ | refine blk_alloc ?_ _)); refine blk_put (cs := #[.int .i64 ((rd_T42 l0 x3_1).f0), .string ((rd_T42 l0 x3_1).f1), .int .i64 ((rd_T42 l0 x3_1).f2), .int .i64 ((rd_T42 l0 x3_1).f3), .slice none 0 0]) ?_ 4 _ rfl; (with_reducible repeat (first | refine blk_drewN ?_ _ | refine blk_drew ?_ | refine blk_alloc ?_ _)); refine blk_put (cs := #[.int .i64 ((rd_T42 l0 x3_1).f0), .string ((rd_T42 l0 x3_1).f1), .int .i64 ((rd_T42 l0 x3_1).f2), .int .i64 0, .slice none 0 0]) ?_ 3 _ rfl; (with_reducible repeat (first | refine blk_drewN ?_ _ | refine blk_drew ?_ | refine blk_alloc ?_ _)); refine blk_put (cs := #[.int .i64 ((rd_T42 l0 x3_1).f0), .string ((rd_T42 l0 x3_1).f1), .int .i64 0, .int .i64 0, .slice none 0 0]) ?_ 2 _ rfl; (with_reducible repeat (first | refine blk_drewN ?_ _ | refine blk_drew ?_ | refine blk_alloc ?_ _)); refine blk_put (cs := #[.int .i64 ((rd_T42 l0 x3_1).f0), .string (⟨#[]⟩ : ByteArray), .int .i64 0, .int .i64 0, .slice none 0 0]) ?_ 1 _ rfl; (with_reducible repeat (first | refine blk_drewN ?_ _ | refine blk_drew ?_ | refine blk_alloc ?_ _)); refine blk_put (cs := #[.int .i64 0, .string (⟨#[]⟩ : ByteArray), .int .i64 0, .int .i64 0, .slice none 0 0]) ?_ 0 _ rfl; (with_reducible repeat (first | refine blk_drewN ?_ _ | refine blk_drew ?_ | refine blk_alloc ?_ _)); exact BK119.out⟩, ⟨by repeat (first | (with_reducible first | exact HB.out | apply below_alloc | apply pw_below_drewN | apply below_drew1 | refine below_set ?_ GE119.out) | exact HB.out)⟩⟩
      rw [if_neg c9] at H
      have c9b0 : decide (11 < ((rd_T42 l0 x3_1).f0)) = false := decide_eq_false c9
      clear c9
      by_cases c11 : ((rd_T42 l0 x3_1).f2) < 0
      ·
       rw [if_pos c11] at H
       have c11b0 : decide (((rd_T42 l0 x3_1).f2) < 0) = true := decide_eq_true c11
       clear c11
       have H' := Aside0.mk H
       clear H
       have hcz12_0 : w5.cell? ⟨gb119, 0, none⟩ = some (.int .i64 0) := (blk_cell BK119.out 0).trans rfl
       have hcz12_1 : w5.cell? ⟨gb119, 1, none⟩ = some (.string (⟨#[]⟩ : ByteArray)) := (blk_cell BK119.out 1).trans rfl
       have hcz12_2 : w5.cell? ⟨gb119, 2, none⟩ = some (.int .i64 0) := (blk_cell BK119.out 2).trans rfl
       have hcz12_3 : w5.cell? ⟨gb119, 3, none⟩ = some (.int .i64 0) := (blk_cell BK119.out 3).trans rfl
       have hcz12_4 : w5.cell? ⟨gb119, 4, none⟩ = some (.slice none 0 0) := (blk_cell BK119.out 4).trans rfl
       go_wp2
       go_meet
       case rel => exact ⟨_, (true), (by first | rfl | (simp; done) | (simp [*]; done)), H', ⟨by have := HK1.out; first | omega | exact Nat.le_refl _⟩, ⟨by (with_reducible repeat (first | refine blk_drewN ?_ _ | refine blk_drew ?_ | refine blk_alloc ?_ _)); refine blk_put (cs := #[.int .i64 ((rd_T42 l0 x3_1).f0), .string ((rd_T42 l0 x3_1).f1), .int .i64 ((rd_T42 l0 x3_1).f2), .int .i64 ((rd_T42 l0 x3_1).f3), .slice none 0 0]) ?_ 4 _ rfl; (with_reducible repeat (first | refine blk_drewN ?_ _ | refine blk_drew ?_ | refine blk_alloc ?_ _)); refine blk_put (cs := #[.int .i64 ((rd_T42 l0 x3_1).f0), .string ((rd_T42 l0 x3_1).f1), .int .i64 ((rd_T42 l0 x3_1).f2), .int .i64 0, .slice none 0 0]) ?_ 3 _ rfl; (with_reducible repeat (first | refine blk_drewN ?_ _ | refine blk_drew ?_ | refine blk_alloc ?_ _)); refine blk_put (cs := #[.int .i64 ((rd_T42 l0 x3_1).f0), .string ((rd_T42 l0 x3_1).f1), .int .i64 0, .int .i64 0, .slice none 0 0]) ?_ 2 _ rfl; (with_reducible repeat (first | refine blk_drewN ?_ _ | refine blk_drew ?_ | refine blk_alloc ?_ _)); refine blk_put (cs := #[.int .i64 ((rd_T42 l0 x3_1).f0), .string (⟨#[]⟩ : ByteArray), .int .i64 0, .int .i64 0, .slice none 0 0]) ?_ 1 _ rfl; (with_reducible repeat (first | refine blk_drewN ?_ _ | refine blk_drew ?_ | refine blk_alloc ?_ _)); refine blk_put (cs := #[.int .i64 0, .string (⟨#[]⟩ : ByteArray), .int .i64 0, .int .i64 0, .slice none 0 0]) ?_ 0 _ rfl; (with_reducible repeat (first | refine blk_drewN ?_ _ | refine blk_drew ?_ | refine blk_alloc ?_ _)); exact BK119.out⟩, ⟨by repeat (first | (with_reducible first | exact HB.out | apply below_alloc | apply pw_below_drewN | apply below_drew1 | refine below_set ?_ GE119.out) | exact HB.out)⟩⟩
      rw [if_neg c11] at H
      have c11b0 : decide (((rd_T42 l0 x3_1).f2) < 0) = false := decide_eq_false c11
      clear c11
      by_cases c13 : ((rd_T42 l0 x3_1).f2) > 99
      ·
       rw [if_pos c13] at H
       have c13b0 : decide (99 < ((rd_T42 l0 x3_1).f2)) = true := decide_eq_true c13
       clear c13
       have H' := Aside0.mk H
       clear H
       have hcz14_0 : w5.cell? ⟨gb119, 0, none⟩ = some (.int .i64 0) := (blk_cell BK119.out 0).trans rfl
       have hcz14_1 : w5.cell? ⟨gb119, 1, none⟩ = some (.string (⟨#[]⟩ : ByteArray)) := (blk_cell BK119.out 1).trans rfl
       have hcz14_2 : w5.cell? ⟨gb119, 2, none⟩ = some (.int .i64 0) := (blk_cell BK119.out 2).trans rfl
       have hcz14_3 : w5.cell? ⟨gb119, 3, none⟩ = some (.int .i64 0) := (blk_cell BK119.out 3).trans rfl
       have hcz14_4 : w5.cell? ⟨gb119, 4, none⟩ = some (.slice none 0 0) := (blk_cell BK119.out 4).trans rfl
       go_wp2
       go_meet
       case rel => exact ⟨_, (true), (by first | rfl | (simp; done) | (simp [*]; done)), H', ⟨by have := HK1.out; first | omega | exact Nat.le_refl _⟩, ⟨by (with_reducible repeat (first | refine blk_drewN ?_ _ | refine blk_drew ?_ | refine blk_alloc ?_ _)); refine blk_put (cs := #[.int .i64 ((rd_T42 l0 x3_1).f0), .string ((rd_T42 l0 x3_1).f1), .int .i64 ((rd_T42 l0 x3_1).f2), .int .i64 ((rd_T42 l0 x3_1).f3), .slice none 0 0]) ?_ 4 _ rfl; (with_reducible repeat (first | refine blk_drewN ?_ _ | refine blk_drew ?_ | refine blk_alloc ?_ _)); refine blk_put (cs := #[.int .i64 ((rd_T42 l0 x3_1).f0), .string ((rd_T42 l0 x3_1).f1), .int .i64 ((rd_T42 l0 x3_1).f2), .int .i64 0, .slice none 0 0]) ?_ 3 _ rfl; (with_reducible repeat (first | refine blk_drewN ?_ _ | refine blk_drew ?_ | refine blk_alloc ?_ _)); refine blk_put (cs := #[.int .i64 ((rd_T42 l0 x3_1).f0), .string ((rd_T42 l0 x3_1).f1), .int .i64 0, .int .i64 0, .slice none 0 0]) ?_ 2 _ rfl; (with_reducible repeat (first | refine blk_drewN ?_ _ | refine blk_drew ?_ | refine blk_alloc ?_ _)); refine blk_put (cs := #[.int .i64 ((rd_T42 l0 x3_1).f0), .string (⟨#[]⟩ : ByteArray), .int .i64 0, .int .i64 0, .slice none 0 0]) ?_ 1 _ rfl; (with_reducible repeat (first | refine blk_drewN ?_ _ | refine blk_drew ?_ | refine blk_alloc ?_ _)); refine blk_put (cs := #[.int .i64 0, .string (⟨#[]⟩ : ByteArray), .int .i64 0, .int .i64 0, .slice none 0 0]) ?_ 0 _ rfl; (with_reducible repeat (first | refine blk_drewN ?_ _ | refine blk_drew ?_ | refine blk_alloc ?_ _)); exact BK119.out⟩, ⟨by repeat (first | (with_reducible first | exact HB.out | apply below_alloc | apply pw_below_drewN | apply below_drew1 | refine below_set ?_ GE119.out) | exact HB.out)⟩⟩
      rw [if_neg c13] at H
      have c13b0 : decide (99 < ((rd_T42 l0 x3_1).f2)) = false := decide_eq_false c13
      clear c13
      by_cases c15 : ((rd_T42 l0 x3_1).f3) < 0
      ·
       rw [if_pos c15] at H
       have c15b0 : decide (((rd_T42 l0 x3_1).f3) < 0) = true := decide_eq_true c15
       clear c15
       have H' := Aside0.mk H
       clear H
       have hcz16_0 : w5.cell? ⟨gb119, 0, none⟩ = some (.int .i64 0) := (blk_cell BK119.out 0).trans rfl
       have hcz16_1 : w5.cell? ⟨gb119, 1, none⟩ = some (.string (⟨#[]⟩ : ByteArray)) := (blk_cell BK119.out 1).trans rfl
       have hcz16_2 : w5.cell? ⟨gb119, 2, none⟩ = some (.int .i64 0) := (blk_cell BK119.out 2).trans rfl
       have hcz16_3 : w5.cell? ⟨gb119, 3, none⟩ = some (.int .i64 0) := (blk_cell BK119.out 3).trans rfl
       have hcz16_4 : w5.cell? ⟨gb119, 4, none⟩ = some (.slice none 0 0) := (blk_cell BK119.out 4).trans rfl
       go_wp2
       go_meet
       case rel => exact ⟨_, (true), (by first | rfl | (simp; done) | (simp [*]; done)), H', ⟨by have := HK1.out; first | omega | exact Nat.le_refl _⟩, ⟨by (with_reducible repeat (first | refine blk_drewN ?_ _ | refine blk_drew ?_ | refine blk_alloc ?_ _)); refine blk_put (cs := #[.int .i64 ((rd_T42 l0 x3_1).f0), .string ((rd_T42 l0 x3_1).f1), .int .i64 ((rd_T42 l0 x3_1).f2), .int .i64 ((rd_T42 l0 x3_1).f3), .slice none 0 0]) ?_ 4 _ rfl; (with_reducible repeat (first | refine blk_drewN ?_ _ | refine blk_drew ?_ | refine blk_alloc ?_ _)); refine blk_put (cs := #[.int .i64 ((rd_T42 l0 x3_1).f0), .string ((rd_T42 l0 x3_1).f1), .int .i64 ((rd_T42 l0 x3_1).f2), .int .i64 0, .slice none 0 0]) ?_ 3 _ rfl; (with_reducible repeat (first | refine blk_drewN ?_ _ | refine blk_drew ?_ | refine blk_alloc ?_ _)); refine blk_put (cs := #[.int .i64 ((rd_T42 l0 x3_1).f0), .string ((rd_T42 l0 x3_1).f1), .int .i64 0, .int .i64 0, .slice none 0 0]) ?_ 2 _ rfl; (with_reducible repeat (first | refine blk_drewN ?_ _ | refine blk_drew ?_ | refine blk_alloc ?_ _)); refine blk_put (cs := #[.int .i64 ((rd_T42 l0 x3_1).f0), .string (⟨#[]⟩ : ByteArray), .int .i64 0, .int .i64 0, .slice none 0 0]) ?_ 1 _ rfl; (with_reducible repeat (first | refine blk_drewN ?_ _ | refine blk_drew ?_ | refine blk_alloc ?_ _)); refine blk_put (cs := #[.int .i64 0, .string (⟨#[]⟩ : ByteArray), .int .i64 0, .int .i64 0, .slice none 0 0]) ?_ 0 _ rfl; (with_reducible repeat (first | refine blk_drewN ?_ _ | refine blk_drew ?_ | refine blk_alloc ?_ _)); exact BK119.out⟩, ⟨by repeat (first | (with_reducible first | exact HB.out | apply below_alloc | apply pw_below_drewN | apply below_drew1 | refine below_set ?_ GE119.out) | exact HB.out)⟩⟩
      rw [if_neg c15] at H
      have c15b0 : decide (((rd_T42 l0 x3_1).f3) < 0) = false := decide_eq_false c15
      clear c15
      by_cases c17 : ((rd_T42 l0 x3_1).f3) > 99
      ·
       rw [if_pos c17] at H
       have c17b0 : decide (99 < ((rd_T42 l0 x3_1).f3)) = true := decide_eq_true c17
       clear c17
       have H' := Aside0.mk H
       clear H
       have hcz18_0 : w5.cell? ⟨gb119, 0, none⟩ = some (.int .i64 0) := (blk_cell BK119.out 0).trans rfl
       have hcz18_1 : w5.cell? ⟨gb119, 1, none⟩ = some (.string (⟨#[]⟩ : ByteArray)) := (blk_cell BK119.out 1).trans rfl
       have hcz18_2 : w5.cell? ⟨gb119, 2, none⟩ = some (.int .i64 0) := (blk_cell BK119.out 2).trans rfl
       have hcz18_3 : w5.cell? ⟨gb119, 3, none⟩ = some (.int .i64 0) := (blk_cell BK119.out 3).trans rfl
       have hcz18_4 : w5.cell? ⟨gb119, 4, none⟩ = some (.slice none 0 0) := (blk_cell BK119.out 4).trans rfl
       go_wp2
       go_meet
       case rel => exact ⟨_, (true), (by first | rfl | (simp; done) | (simp [*]; done)), H', ⟨by have := HK1.out; first | omega | exact Nat.le_refl _⟩, ⟨by (with_reducible repeat (first | refine blk_drewN ?_ _ | refine blk_drew ?_ | refine blk_alloc ?_ _)); refine blk_put (cs := #[.int .i64 ((rd_T42 l0 x3_1).f0), .string ((rd_T42 l0 x3_1).f1), .int .i64 ((rd_T42 l0 x3_1).f2), .int .i64 ((rd_T42 l0 x3_1).f3), .slice none 0 0]) ?_ 4 _ rfl; (with_reducible repeat (first | refine blk_drewN ?_ _ | refine blk_drew ?_ | refine blk_alloc ?_ _)); refine blk_put (cs := #[.int .i64 ((rd_T42 l0 x3_1).f0), .string ((rd_T42 l0 x3_1).f1), .int .i64 ((rd_T42 l0 x3_1).f2), .int .i64 0, .slice none 0 0]) ?_ 3 _ rfl; (with_reducible repeat (first | refine blk_drewN ?_ _ | refine blk_drew ?_ | refine blk_alloc ?_ _)); refine blk_put (cs := #[.int .i64 ((rd_T42 l0 x3_1).f0), .string ((rd_T42 l0 x3_1).f1), .int .i64 0, .int .i64 0, .slice none 0 0]) ?_ 2 _ rfl; (with_reducible repeat (first | refine blk_drewN ?_ _ | refine blk_drew ?_ | refine blk_alloc ?_ _)); refine blk_put (cs := #[.int .i64 ((rd_T42 l0 x3_1).f0), .string (⟨#[]⟩ : ByteArray), .int .i64 0, .int .i64 0, .slice none 0 0]) ?_ 1 _ rfl; (with_reducible repeat (first | refine blk_drewN ?_ _ | refine blk_drew ?_ | refine blk_alloc ?_ _)); refine blk_put (cs := #[.int .i64 0, .string (⟨#[]⟩ : ByteArray), .int .i64 0, .int .i64 0, .slice none 0 0]) ?_ 0 _ rfl; (with_reducible repeat (first | refine blk_drewN ?_ _ | refine blk_drew ?_ | refine blk_alloc ?_ _)); exact BK119.out⟩, ⟨by repeat (first | (with_reducible first | exact HB.out | apply below_alloc | apply pw_below_drewN | apply below_drew1 | refine below_set ?_ GE119.out) | exact HB.out)⟩⟩
      rw [if_neg c17] at H
      have c17b0 : decide (99 < ((rd_T42 l0 x3_1).f3)) = false := decide_eq_false c17
      clear c17
      have H' := Aside0.mk H
      clear H
      have hcz19_0 : w5.cell? ⟨gb119, 0, none⟩ = some (.int .i64 0) := (blk_cell BK119.out 0).trans rfl
      have hcz19_1 : w5.cell? ⟨gb119, 1, none⟩ = some (.string (⟨#[]⟩ : ByteArray)) := (blk_cell BK119.out 1).trans rfl
      have hcz19_2 : w5.cell? ⟨gb119, 2, none⟩ = some (.int .i64 0) := (blk_cell BK119.out 2).trans rfl
      have hcz19_3 : w5.cell? ⟨gb119, 3, none⟩ = some (.int .i64 0) := (blk_cell BK119.out 3).trans rfl
      have hcz19_4 : w5.cell? ⟨gb119, 4, none⟩ = some (.slice none 0 0) := (blk_cell BK119.out 4).trans rfl
      go_wp2
      go_meet
      case rel => exact ⟨_, (decide ((((rd_T42 l0 x3_1).f4).length : Int) > 5)), (by first | rfl | (simp; done) | (simp [*]; done)), H', ⟨by have := HK1.out; first | omega | exact Nat.le_refl _⟩, ⟨by (with_reducible repeat (first | refine blk_drewN ?_ _ | refine blk_drew ?_ | refine blk_alloc ?_ _)); refine blk_put (cs := #[.int .i64 ((rd_T42 l0 x3_1).f0), .string ((rd_T42 l0 x3_1).f1), .int .i64 ((rd_T42 l0 x3_1).f2), .int .i64 ((rd_T42 l0 x3_1).f3), .slice none 0 0]) ?_ 4 _ rfl; (with_reducible repeat (first | refine blk_drewN ?_ _ | refine blk_drew ?_ | refine blk_alloc ?_ _)); refine blk_put (cs := #[.int .i64 ((rd_T42 l0 x3_1).f0), .string ((rd_T42 l0 x3_1).f1), .int .i64 ((rd_T42 l0 x3_1).f2), .int .i64 0, .slice none 0 0]) ?_ 3 _ rfl; (with_reducible repeat (first | refine blk_drewN ?_ _ | refine blk_drew ?_ | refine blk_alloc ?_ _)); refine blk_put (cs := #[.int .i64 ((rd_T42 l0 x3_1).f0), .string ((rd_T42 l0 x3_1).f1), .int .i64 0, .int .i64 0, .slice none 0 0]) ?_ 2 _ rfl; (with_reducible repeat (first | refine blk_drewN ?_ _ | refine blk_drew ?_ | refine blk_alloc ?_ _)); refine blk_put (cs := #[.int .i64 ((rd_T42 l0 x3_1).f0), .string (⟨#[]⟩ : ByteArray), .int .i64 0, .int .i64 0, .slice none 0 0]) ?_ 1 _ rfl; (with_reducible repeat (first | refine blk_drewN ?_ _ | refine blk_drew ?_ | refine blk_alloc ?_ _)); refine blk_put (cs := #[.int .i64 0, .string (⟨#[]⟩ : ByteArray), .int .i64 0, .int .i64 0, .slice none 0 0]) ?_ 0 _ rfl; (with_reducible repeat (first | refine blk_drewN ?_ _ | refine blk_drew ?_ | refine blk_alloc ?_ _)); exact BK119.out⟩, ⟨by repeat (first | (with_reducible first | exact HB.out | apply below_alloc | apply pw_below_drewN | apply below_drew1 | refine below_set ?_ GE119.out) | exact HB.out)⟩⟩
     case rest =>
      clear HC4
      try clear c1
      try clear p1
      try clear q1
      try clear hx1
      try clear c2
      try clear c2b0
      try clear p2
      try clear c3
      try clear c3b0
      try clear c7
      try clear c7b0
      try clear c9
      try clear c9b0
      try clear c11
      try clear c11b0
      try clear p11
      try clear q11
      try clear hx11
      try clear c13
      try clear c13b0
      try clear c15
      try clear c15b0
      try clear c17
      try clear c17b0
      try clear hcz10_0 hcz10_1 hcz10_2 hcz10_3 hcz10_4 hcz12_0 hcz12_1 hcz12_2 hcz12_3 hcz12_4 hcz14_0 hcz14_1 hcz14_2 hcz14_3 hcz14_4 hcz16_0 hcz16_1 hcz16_2 hcz16_3 hcz16_4 hcz18_0 hcz18_1 hcz18_2 hcz18_3 hcz18_4 hcz19_0 hcz19_1 hcz19_2 hcz19_3 hcz19_4 hcz6_0 hcz6_1 hcz6_2 hcz6_3 hcz6_4 hcz8_0 hcz8_1 hcz8_2 hcz8_3 hcz8_4
      try clear hx118_0
      try clear hx118_1
      try clear hx118_2
      try clear hx118_3
      try clear hx118_4
      try clear p118
      try clear q118
      obtain ⟨kq, x49_3, rfl, HA, HJ3, BK119, HB⟩ := hcut
      cases kq with
      | zero => exact absurd HA.out (by simp [spec_Known.j1])
      | succ kj3 =>
       have H := HA.out
       clear HA
       simp only [spec_Known.j1] at H
       by_cases c20 : x49_3 = true
       ·
        subst c20
        have H1 : (some false) = some r := by rw [if_pos rfl] at H; exact H
        clear H
        have H := H1
        clear H1
        obtain rfl := Option.some.inj H
        go_wp2
        go_ret
        exact ⟨by first | rfl | (simp [errW_none, errW_some] <;> rfl) | (simp [*, errW_none, errW_some] <;> rfl), by repeat (first | (with_reducible first | exact HB.out | apply below_alloc | apply pw_below_drewN | apply below_drew1 | refine below_set ?_ GE119.out) | exact HB.out)⟩
       replace c20 := Bool.eq_false_iff.mpr c20
       subst c20
       have H1 : (spec_Known.l1 kj3 l0 x3_1 0 ((rd_T42 l0 x3_1).f0) ((rd_T42 l0 x3_1).f1) ((rd_T42 l0 x3_1).f2) ((rd_T42 l0 x3_1).f3) ((rd_T42 l0 x3_1).f4)) = some r := by rw [if_neg (show ¬ (false = true) by decide)] at H; exact H
       clear H
       have H := H1
       clear H1
       have H' := Aside0.mk H
       clear H
       go_wp2
       go_loopg [5] kj3 (fun kq v5 w' => ∃ (x5_3 : Int), v5 = .int .i64 x5_3 ∧ Aside0 (spec_Known.l1 kq l0 x3_1 x5_3 ((rd_T42 l0 x3_1).f0) ((rd_T42 l0 x3_1).f1) ((rd_T42 l0 x3_1).f2) ((rd_T42 l0 x3_1).f3) ((rd_T42 l0 x3_1).f4) = some r) ∧ Aside0 (kq ≤ kj3) ∧ Aside0 (w'.heap[gb119]? = some (.cells #[.int .i64 ((rd_T42 l0 x3_1).f0), .string ((rd_T42 l0 x3_1).f1), .int .i64 ((rd_T42 l0 x3_1).f2), .int .i64 ((rd_T42 l0 x3_1).f3), (.slice A118_4 ((rd_T42 l0 x3_1).f4).length c118_4)] 42 (0, 0))) ∧ Aside0 (Below w.heap.size w w'))
       case atStart => exact ⟨(0), (by first | rfl | (simp; done) | (simp [*]; done)), H', ⟨Nat.le_refl _⟩, ⟨by (with_reducible repeat (first | refine blk_drewN ?_ _ | refine blk_drew ?_ | refine blk_alloc ?_ _)); exact BK119.out⟩, ⟨by repeat (first | (with_reducible first | exact HB.out | apply below_alloc | apply pw_below_drewN | apply below_drew1 | refine below_set ?_ GE119.out) | exact HB.out)⟩⟩
       case round =>
        clear H'
        try clear c1
        try clear p1
        try clear q1
        try clear hx1
        try clear c2
        try clear c2b0
        try clear p2
        try clear c3
        try clear c3b0
        try clear c7
        try clear c7b0
        try clear c9
        try clear c9b0
        try clear c11
        try clear c11b0
        try clear p11
        try clear q11
        try clear hx11
        try clear c13
        try clear c13b0
        try clear c15
        try clear c15b0
        try clear c17
        try clear c17b0
        try clear c20
        try clear hcz10_0 hcz10_1 hcz10_2 hcz10_3 hcz10_4 hcz12_0 hcz12_1 hcz12_2 hcz12_3 hcz12_4 hcz14_0 hcz14_1 hcz14_2 hcz14_3 hcz14_4 hcz16_0 hcz16_1 hcz16_2 hcz16_3 hcz16_4 hcz18_0 hcz18_1 hcz18_2 hcz18_3 hcz18_4 hcz19_0 hcz19_1 hcz19_2 hcz19_3 hcz19_4 hcz6_0 hcz6_1 hcz6_2 hcz6_3 hcz6_4 hcz8_0 hcz8_1 hcz8_2 hcz8_3 hcz8_4
        try clear hx118_0
        try clear hx118_1
        try clear hx118_2
        try clear hx118_3
        try clear hx118_4
        try clear p1
        try clear p11
        try clear p118
        try clear p2
        try clear q1
        try clear q11
        try clear q118
        obtain ⟨x5_3, rfl, HA, HK3, BK119, HB⟩ := hrel
        cases gk with
        | zero => exact absurd HA.out (by simp [spec_Known.l1])
        | succ k3 =>
         have H := HA.out
         clear HA
         simp only [spec_Known.l1] at H
         by_cases c21 : x5_3 < (((rd_T42 l0 x3_1).f4).length : Int)
         ·
          rw [if_pos c21] at H
          have c21b0 : decide (x5_3 < (((rd_T42 l0 x3_1).f4).length : Int)) = true := decide_eq_true c21
          clear c21
          by_cases c22 : 0 ≤ x5_3
          ·
           rw [if_pos c22] at H
           have c22b0 : decide (0 ≤ x5_3) = true := decide_eq_true c22
           clear c22
           by_cases c23 : (rd ((rd_T42 l0 x3_1).f4) x5_3) < 0
           ·
            rw [if_pos c23] at H
            have c23b0 : decide ((rd ((rd_T42 l0 x3_1).f4) x5_3) < 0) = true := decide_eq_true c23
            clear c23
            obtain rfl := Option.some.inj H
            have hcz24_0 : wr.cell? ⟨gb119, 0, none⟩ = some (.int .i64 ((rd_T42 l0 x3_1).f0)) := (blk_cell BK119.out 0).trans rfl
            have hcz24_1 : wr.cell? ⟨gb119, 1, none⟩ = some (.string ((rd_T42 l0 x3_1).f1)) := (blk_cell BK119.out 1).trans rfl
            have hcz24_2 : wr.cell? ⟨gb119, 2, none⟩ = some (.int .i64 ((rd_T42 l0 x3_1).f2)) := (blk_cell BK119.out 2).trans rfl
            have hcz24_3 : wr.cell? ⟨gb119, 3, none⟩ = some (.int .i64 ((rd_T42 l0 x3_1).f3)) := (blk_cell BK119.out 3).trans rfl
            have hcz24_4 : wr.cell? ⟨gb119, 4, none⟩ = some (.slice A118_4 ((rd_T42 l0 x3_1).f4).length c118_4) := (blk_cell BK119.out 4).trans rfl
            have p120 : 0 ≤ (x5_3 : Int) := of_decide_eq_true (by first | (with_reducible assumption) | assumption)
            have q120 : x5_3 < (((rd_T42 l0 x3_1).f4).length : Int) := of_decide_eq_true (by first | (with_reducible assumption) | assumption)
            obtain ⟨ad120, e120, hx120_0⟩ := Kd.at_int HR118_4.out x5_3 p120 q120
            cases e120
            replace hx120_0 := (HB.out.cell (World.block_lt_of_cell? w _ hx120_0)).trans hx120_0
            replace p120 := eq_true p120
            replace q120 := eq_true q120
            go_wp2
            go_ret
            exact ⟨by first | rfl | (simp [errW_none, errW_some] <;> rfl) | (simp [*, errW_none, errW_some] <;> rfl), by repeat (first | (with_reducible first | exact HB.out | apply below_alloc | apply pw_below_drewN | apply below_drew1 | refine below_set ?_ GE119.out) | exact HB.out)⟩
           rw [if_neg c23] at H
           have c23b0 : decide ((rd ((rd_T42 l0 x3_1).f4) x5_3) < 0) = false := decide_eq_false c23
           clear c23
           by_cases c25 : (rd ((rd_T42 l0 x3_1).f4) x5_3) > 99
           ·
            rw [if_pos c25] at H
            have c25b0 : decide (99 < (rd ((rd_T42 l0 x3_1).f4) x5_3)) = true := decide_eq_true c25
            clear c25
            obtain rfl := Option.some.inj H
            have hcz26_0 : wr.cell? ⟨gb119, 0, none⟩ = some (.int .i64 ((rd_T42 l0 x3_1).f0)) := (blk_cell BK119.out 0).trans rfl
            have hcz26_1 : wr.cell? ⟨gb119, 1, none⟩ = some (.string ((rd_T42 l0 x3_1).f1)) := (blk_cell BK119.out 1).trans rfl
            have hcz26_2 : wr.cell? ⟨gb119, 2, none⟩ = some (.int .i64 ((rd_T42 l0 x3_1).f2)) := (blk_cell BK119.out 2).trans rfl
            have hcz26_3 : wr.cell? ⟨gb119, 3, none⟩ = some (.int .i64 ((rd_T42 l0 x3_1).f3)) := (blk_cell BK119.out 3).trans rfl
            have hcz26_4 : wr.cell? ⟨gb119, 4, none⟩ = some (.slice A118_4 ((rd_T42 l0 x3_1).f4).length c118_4) := (blk_cell BK119.out 4).trans rfl
            have p120 : 0 ≤ (x5_3 : Int) := of_decide_eq_true (by first | (with_reducible assumption) | assumption)
            have q120 : x5_3 < (((rd_T42 l0 x3_1).f4).length : Int) := of_decide_eq_true (by first | (with_reducible assumption) | assumption)
            obtain ⟨ad120, e120, hx120_0⟩ := Kd.at_int HR118_4.out x5_3 p120 q120
            cases e120
            replace hx120_0 := (HB.out.cell (World.block_lt_of_cell? w _ hx120_0)).trans hx120_0
            replace p120 := eq_true p120
            replace q120 := eq_true q120
            have p121 : 0 ≤ (x5_3 : Int) := of_decide_eq_true (by first | (with_reducible assumption) | assumption)
            have q121 : x5_3 < (((rd_T42 l0 x3_1).f4).length : Int) := of_decide_eq_true (by first | (with_reducible assumption) | assumption)
            obtain ⟨ad121, e121, hx121_0⟩ := Kd.at_int HR118_4.out x5_3 p121 q121
            obtain rfl : ad120 = ad121 := (by injection e121)
            replace hx121_0 := (HB.out.cell (World.block_lt_of_cell? w _ hx121_0)).trans hx121_0
            replace p121 := eq_true p121
            replace q121 := eq_true q121
            go_wp2
            go_ret
            exact ⟨by first | rfl | (simp [errW_none, errW_some] <;> rfl) | (simp [*, errW_none, errW_some] <;> rfl), by repeat (first | (with_reducible first | exact HB.out | apply below_alloc | apply pw_below_drewN | apply below_drew1 | refine below_set ?_ GE119.out) | exact HB.out)⟩
           rw [if_neg c25] at H
           have c25b0 : decide (99 < (rd ((rd_T42 l0 x3_1).f4) x5_3)) = false := decide_eq_false c25
           clear c25
           have H' := Aside0.mk H
           clear H
           have hcz27_0 : wr.cell? ⟨gb119, 0, none⟩ = some (.int .i64 ((rd_T42 l0 x3_1).f0)) := (blk_cell BK119.out 0).trans rfl
           have hcz27_1 : wr.cell? ⟨gb119, 1, none⟩ = some (.string ((rd_T42 l0 x3_1).f1)) := (blk_cell BK119.out 1).trans rfl
           have hcz27_2 : wr.cell? ⟨gb119, 2, none⟩ = some (.int .i64 ((rd_T42 l0 x3_1).f2)) := (blk_cell BK119.out 2).trans rfl
           have hcz27_3 : wr.cell? ⟨gb119, 3, none⟩ = some (.int .i64 ((rd_T42 l0 x3_1).f3)) := (blk_cell BK119.out 3).trans rfl
           have hcz27_4 : wr.cell? ⟨gb119, 4, none⟩ = some (.slice A118_4 ((rd_T42 l0 x3_1).f4).length c118_4) := (blk_cell BK119.out 4).trans rfl
           have p120 : 0 ≤ (x5_3 : Int) := of_decide_eq_true (by first | (with_reducible assumption) | assumption)
           have q120 : x5_3 < (((rd_T42 l0 x3_1).f4).length : Int) := of_decide_eq_true (by first | (with_reducible assumption) | assumption)
           obtain ⟨ad120, e120, hx120_0⟩ := Kd.at_int HR118_4.out x5_3 p120 q120
           cases e120
           replace hx120_0 := (HB.out.cell (World.block_lt_of_cell? w _ hx120_0)).trans hx120_0
           replace p120 := eq_true p120
           replace q120 := eq_true q120
           have p121 : 0 ≤ (x5_3 : Int) := of_decide_eq_true (by first | (with_reducible assumption) | assumption)
           have q121 : x5_3 < (((rd_T42 l0 x3_1).f4).length : Int) := of_decide_eq_true (by first | (with_reducible assumption) | assumption)
           obtain ⟨ad121, e121, hx121_0⟩ := Kd.at_int HR118_4.out x5_3 p121 q121
           obtain rfl : ad120 = ad121 := (by injection e121)
           replace hx121_0 := (HB.out.cell (World.block_lt_of_cell? w _ hx121_0)).trans hx121_0
           replace p121 := eq_true p121
           replace q121 := eq_true q121
           go_wp2
           go_roundg k3
           case measure => have := HK1.out; have := HJ3.out; have := HK3.out; omega
           case rel => exact ⟨(wrap64 (x5_3 + 1)), (by first | rfl | (simp; done) | (simp [*]; done)), H', ⟨by have := HK1.out; have := HJ3.out; have := HK3.out; omega⟩, ⟨by (with_reducible repeat (first | refine blk_drewN ?_ _ | refine blk_drew ?_ | refine blk_alloc ?_ _)); exact BK119.out⟩, ⟨by repeat (first | (with_reducible first | exact HB.out | apply below_alloc | apply pw_below_drewN | apply below_drew1 | refine below_set ?_ GE119.out) | exact HB.out)⟩⟩
          rw [if_neg c22] at H
          exact absurd H (by simp)
         rw [if_neg c21] at H
         have c21b0 : decide (x5_3 < (((rd_T42 l0 x3_1).f4).length : Int)) = false := decide_eq_false c21
         clear c21
         by_cases c28 : ((rd_T42 l0 x3_1).f0) = 0
         ·
          rw [if_pos c28] at H
          have c28b0 : (((rd_T42 l0 x3_1).f0) == 0) = true := beq_iff_eq.mpr c28
          have c28b1 : (((rd_T42 l0 x3_1).f0) != 0) = false := bne_eq_false_iff_eq.mpr c28
          clear c28
          replace H := Option.bind_eq_some_iff.mp H
          obtain ⟨t122, A290, H⟩ := H
          replace H : (if t122 = true then (spec_Known.l0 k3 l0 (wrap64 (x3_1 + 1))) else (some false)) = some r := H
          have A29 := Aside0.mk A290
          clear A290
          by_cases c30 : t122 = true
          ·
           subst c30
           have H1 : (spec_Known.l0 k3 l0 (wrap64 (x3_1 + 1))) = some r := by rw [if_pos rfl] at H; exact H
           clear H
           have H := H1
           clear H1
           have H' := Aside0.mk H
           clear H
           have hcz31_0 : wr.cell? ⟨gb119, 0, none⟩ = some (.int .i64 ((rd_T42 l0 x3_1).f0)) := (blk_cell BK119.out 0).trans rfl
           have hcz31_1 : wr.cell? ⟨gb119, 1, none⟩ = some (.string ((rd_T42 l0 x3_1).f1)) := (blk_cell BK119.out 1).trans rfl
           have hcz31_2 : wr.cell? ⟨gb119, 2, none⟩ = some (.int .i64 ((rd_T42 l0 x3_1).f2)) := (blk_cell BK119.out 2).trans rfl
           have hcz31_3 : wr.cell? ⟨gb119, 3, none⟩ = some (.int .i64 ((rd_T42 l0 x3_1).f3)) := (blk_cell BK119.out 3).trans rfl
           have hcz31_4 : wr.cell? ⟨gb119, 4, none⟩ = some (.slice A118_4 ((rd_T42 l0 x3_1).f4).length c118_4) := (blk_cell BK119.out 4).trans rfl
           go_wp2_with (first | ((with_reducible refine gate_callee (f := 41) rfl ?_); refine goesL_ (some 77) rfl rfl Tryd.func41 (by kernel_rfl) rfl #[.string ((rd_T42 l0 x3_1).f1)] rfl (by (try simp only [List.map_toArray, List.map_cons, List.map_nil]); first | done | rfl | (simp only [List.length_drop, List.length_take]; rfl)) ?_; (with_reducible refine (spec_letters.calls k3 ((rd_T42 l0 x3_1).f1) true _ A29.out).mono ?_); rintro e w' ⟨rfl, ⟨nd, rfl⟩⟩; refine ⟨_, rfl, ?_⟩))
           go_roundg k3
           case measure => have := HK1.out; have := HJ3.out; have := HK3.out; omega
           case rel => exact ⟨(wrap64 (x3_1 + 1)), (by first | rfl | (simp; done) | (simp [*]; done)), H', ⟨by have := HK1.out; have := HJ3.out; have := HK3.out; omega⟩, ⟨by repeat (first | (with_reducible first | exact HB.out | apply below_alloc | apply pw_below_drewN | apply below_drew1 | refine below_set ?_ GE119.out) | exact HB.out)⟩⟩
          replace c30 := Bool.eq_false_iff.mpr c30
          subst c30
          have H1 : (some false) = some r := by rw [if_neg (show ¬ (false = true) by decide)] at H; exact H
          clear H
          have H := H1
          clear H1
          obtain rfl := Option.some.inj H
          have hcz32_0 : wr.cell? ⟨gb119, 0, none⟩ = some (.int .i64 ((rd_T42 l0 x3_1).f0)) := (blk_cell BK119.out 0).trans rfl
          have hcz32_1 : wr.cell? ⟨gb119, 1, none⟩ = some (.string ((rd_T42 l0 x3_1).f1)) := (blk_cell BK119.out 1).trans rfl
          have hcz32_2 : wr.cell? ⟨gb119, 2, none⟩ = some (.int .i64 ((rd_T42 l0 x3_1).f2)) := (blk_cell BK119.out 2).trans rfl
          have hcz32_3 : wr.cell? ⟨gb119, 3, none⟩ = some (.int .i64 ((rd_T42 l0 x3_1).f3)) := (blk_cell BK119.out 3).trans rfl
          have hcz32_4 : wr.cell? ⟨gb119, 4, none⟩ = some (.slice A118_4 ((rd_T42 l0 x3_1).f4).length c118_4) := (blk_cell BK119.out 4).trans rfl
          go_wp2_with (first | ((with_reducible refine gate_callee (f := 41) rfl ?_); refine goesL_ (some 77) rfl rfl Tryd.func41 (by kernel_rfl) rfl #[.string ((rd_T42 l0 x3_1).f1)] rfl (by (try simp only [List.map_toArray, List.map_cons, List.map_nil]); first | done | rfl | (simp only [List.length_drop, List.length_take]; rfl)) ?_; (with_reducible refine (spec_letters.calls k3 ((rd_T42 l0 x3_1).f1) false _ A29.out).mono ?_); rintro e w' ⟨rfl, ⟨nd, rfl⟩⟩; refine ⟨_, rfl, ?_⟩))
          go_ret
          exact ⟨by first | rfl | (simp [errW_none, errW_some] <;> rfl) | (simp [*, errW_none, errW_some] <;> rfl), by repeat (first | (with_reducible first | exact HB.out | apply below_alloc | apply pw_below_drewN | apply below_drew1 | refine below_set ?_ GE119.out) | exact HB.out)⟩
         rw [if_neg c28] at H
         have c28b0 : (((rd_T42 l0 x3_1).f0) == 0) = false := beq_eq_false_iff_ne.mpr c28
         have c28b1 : (((rd_T42 l0 x3_1).f0) != 0) = true := bne_iff_ne.mpr c28
         by_cases c33 : ((rd_T42 l0 x3_1).f0) = 3
         ·
          rw [if_pos c33] at H
          have c33b0 : (((rd_T42 l0 x3_1).f0) == 3) = true := beq_iff_eq.mpr c33
          have c33b1 : (((rd_T42 l0 x3_1).f0) != 3) = false := bne_eq_false_iff_eq.mpr c33
          clear c33
          by_cases c34 : ((rd_T42 l0 x3_1).f1).toList = ([45] : List UInt8)
          ·
           rw [if_pos c34] at H
           have c34b0 : (((rd_T42 l0 x3_1).f1).toList == ([45] : List UInt8)) = true := beq_iff_eq.mpr c34
           have c34b1 : (((rd_T42 l0 x3_1).f1).toList != ([45] : List UInt8)) = false := bne_eq_false_iff_eq.mpr c34
           clear c34
           have H' := Aside0.mk H
           clear H
           have hcz35_0 : wr.cell? ⟨gb119, 0, none⟩ = some (.int .i64 ((rd_T42 l0 x3_1).f0)) := (blk_cell BK119.out 0).trans rfl
           have hcz35_1 : wr.cell? ⟨gb119, 1, none⟩ = some (.string ((rd_T42 l0 x3_1).f1)) := (blk_cell BK119.out 1).trans rfl
           have hcz35_2 : wr.cell? ⟨gb119, 2, none⟩ = some (.int .i64 ((rd_T42 l0 x3_1).f2)) := (blk_cell BK119.out 2).trans rfl
           have hcz35_3 : wr.cell? ⟨gb119, 3, none⟩ = some (.int .i64 ((rd_T42 l0 x3_1).f3)) := (blk_cell BK119.out 3).trans rfl
           have hcz35_4 : wr.cell? ⟨gb119, 4, none⟩ = some (.slice A118_4 ((rd_T42 l0 x3_1).f4).length c118_4) := (blk_cell BK119.out 4).trans rfl
           go_wp2
           go_roundg k3
           case measure => have := HK1.out; have := HJ3.out; have := HK3.out; omega
           case rel => exact ⟨(wrap64 (x3_1 + 1)), (by first | rfl | (simp; done) | (simp [*]; done)), H', ⟨by have := HK1.out; have := HJ3.out; have := HK3.out; omega⟩, ⟨by repeat (first | (with_reducible first | exact HB.out | apply below_alloc | apply pw_below_drewN | apply below_drew1 | refine below_set ?_ GE119.out) | exact HB.out)⟩⟩
          rw [if_neg c34] at H
          have c34b0 : (((rd_T42 l0 x3_1).f1).toList == ([45] : List UInt8)) = false := beq_eq_false_iff_ne.mpr c34
          have c34b1 : (((rd_T42 l0 x3_1).f1).toList != ([45] : List UInt8)) = true := bne_iff_ne.mpr c34
          by_cases c36 : ((rd_T42 l0 x3_1).f1).toList = ([95] : List UInt8)
          ·
           rw [if_pos c36] at H
           have c36b0 : (((rd_T42 l0 x3_1).f1).toList == ([95] : List UInt8)) = true := beq_iff_eq.mpr c36
           have c36b1 : (((rd_T42 l0 x3_1).f1).toList != ([95] : List UInt8)) = false := bne_eq_false_iff_eq.mpr c36
           clear c36
           have H' := Aside0.mk H
           clear H
           have hcz37_0 : wr.cell? ⟨gb119, 0, none⟩ = some (.int .i64 ((rd_T42 l0 x3_1).f0)) := (blk_cell BK119.out 0).trans rfl
           have hcz37_1 : wr.cell? ⟨gb119, 1, none⟩ = some (.string ((rd_T42 l0 x3_1).f1)) := (blk_cell BK119.out 1).trans rfl
           have hcz37_2 : wr.cell? ⟨gb119, 2, none⟩ = some (.int .i64 ((rd_T42 l0 x3_1).f2)) := (blk_cell BK119.out 2).trans rfl
           have hcz37_3 : wr.cell? ⟨gb119, 3, none⟩ = some (.int .i64 ((rd_T42 l0 x3_1).f3)) := (blk_cell BK119.out 3).trans rfl
           have hcz37_4 : wr.cell? ⟨gb119, 4, none⟩ = some (.slice A118_4 ((rd_T42 l0 x3_1).f4).length c118_4) := (blk_cell BK119.out 4).trans rfl
           go_wp2
           go_roundg k3
           case measure => have := HK1.out; have := HJ3.out; have := HK3.out; omega
           case rel => exact ⟨(wrap64 (x3_1 + 1)), (by first | rfl | (simp; done) | (simp [*]; done)), H', ⟨by have := HK1.out; have := HJ3.out; have := HK3.out; omega⟩, ⟨by repeat (first | (with_reducible first | exact HB.out | apply below_alloc | apply pw_below_drewN | apply below_drew1 | refine below_set ?_ GE119.out) | exact HB.out)⟩⟩
          rw [if_neg c36] at H
          have c36b0 : (((rd_T42 l0 x3_1).f1).toList == ([95] : List UInt8)) = false := beq_eq_false_iff_ne.mpr c36
          have c36b1 : (((rd_T42 l0 x3_1).f1).toList != ([95] : List UInt8)) = true := bne_iff_ne.mpr c36
          by_cases c38 : ((rd_T42 l0 x3_1).f1).toList = ([64] : List UInt8)
          ·
           rw [if_pos c38] at H
           have c38b0 : (((rd_T42 l0 x3_1).f1).toList == ([64] : List UInt8)) = true := beq_iff_eq.mpr c38
           have c38b1 : (((rd_T42 l0 x3_1).f1).toList != ([64] : List UInt8)) = false := bne_eq_false_iff_eq.mpr c38
           clear c38
           have H' := Aside0.mk H
           clear H
           have hcz39_0 : wr.cell? ⟨gb119, 0, none⟩ = some (.int .i64 ((rd_T42 l0 x3_1).f0)) := (blk_cell BK119.out 0).trans rfl
           have hcz39_1 : wr.cell? ⟨gb119, 1, none⟩ = some (.string ((rd_T42 l0 x3_1).f1)) := (blk_cell BK119.out 1).trans rfl
           have hcz39_2 : wr.cell? ⟨gb119, 2, none⟩ = some (.int .i64 ((rd_T42 l0 x3_1).f2)) := (blk_cell BK119.out 2).trans rfl
           have hcz39_3 : wr.cell? ⟨gb119, 3, none⟩ = some (.int .i64 ((rd_T42 l0 x3_1).f3)) := (blk_cell BK119.out 3).trans rfl
           have hcz39_4 : wr.cell? ⟨gb119, 4, none⟩ = some (.slice A118_4 ((rd_T42 l0 x3_1).f4).length c118_4) := (blk_cell BK119.out 4).trans rfl
           go_wp2
           go_roundg k3
           case measure => have := HK1.out; have := HJ3.out; have := HK3.out; omega
           case rel => exact ⟨(wrap64 (x3_1 + 1)), (by first | rfl | (simp; done) | (simp [*]; done)), H', ⟨by have := HK1.out; have := HJ3.out; have := HK3.out; omega⟩, ⟨by repeat (first | (with_reducible first | exact HB.out | apply below_alloc | apply pw_below_drewN | apply below_drew1 | refine below_set ?_ GE119.out) | exact HB.out)⟩⟩
          rw [if_neg c38] at H
          have c38b0 : (((rd_T42 l0 x3_1).f1).toList == ([64] : List UInt8)) = false := beq_eq_false_iff_ne.mpr c38
          have c38b1 : (((rd_T42 l0 x3_1).f1).toList != ([64] : List UInt8)) = true := bne_iff_ne.mpr c38
          obtain rfl := Option.some.inj H
          have hcz40_0 : wr.cell? ⟨gb119, 0, none⟩ = some (.int .i64 ((rd_T42 l0 x3_1).f0)) := (blk_cell BK119.out 0).trans rfl
          have hcz40_1 : wr.cell? ⟨gb119, 1, none⟩ = some (.string ((rd_T42 l0 x3_1).f1)) := (blk_cell BK119.out 1).trans rfl
          have hcz40_2 : wr.cell? ⟨gb119, 2, none⟩ = some (.int .i64 ((rd_T42 l0 x3_1).f2)) := (blk_cell BK119.out 2).trans rfl
          have hcz40_3 : wr.cell? ⟨gb119, 3, none⟩ = some (.int .i64 ((rd_T42 l0 x3_1).f3)) := (blk_cell BK119.out 3).trans rfl
          have hcz40_4 : wr.cell? ⟨gb119, 4, none⟩ = some (.slice A118_4 ((rd_T42 l0 x3_1).f4).length c118_4) := (blk_cell BK119.out 4).trans rfl
          go_wp2
          go_ret
          exact ⟨by first | rfl | (simp [errW_none, errW_some] <;> rfl) | (simp [*, errW_none, errW_some] <;> rfl), by repeat (first | (with_reducible first | exact HB.out | apply below_alloc | apply pw_below_drewN | apply below_drew1 | refine below_set ?_ GE119.out) | exact HB.out)⟩
         rw [if_neg c33] at H
         have c33b0 : (((rd_T42 l0 x3_1).f0) == 3) = false := beq_eq_false_iff_ne.mpr c33
         have c33b1 : (((rd_T42 l0 x3_1).f0) != 3) = true := bne_iff_ne.mpr c33
         have HC41 := Aside0.mk H
         clear H
         have hcz42_0 : wr.cell? ⟨gb119, 0, none⟩ = some (.int .i64 ((rd_T42 l0 x3_1).f0)) := (blk_cell BK119.out 0).trans rfl
         have hcz42_1 : wr.cell? ⟨gb119, 1, none⟩ = some (.string ((rd_T42 l0 x3_1).f1)) := (blk_cell BK119.out 1).trans rfl
         have hcz42_2 : wr.cell? ⟨gb119, 2, none⟩ = some (.int .i64 ((rd_T42 l0 x3_1).f2)) := (blk_cell BK119.out 2).trans rfl
         have hcz42_3 : wr.cell? ⟨gb119, 3, none⟩ = some (.int .i64 ((rd_T42 l0 x3_1).f3)) := (blk_cell BK119.out 3).trans rfl
         have hcz42_4 : wr.cell? ⟨gb119, 4, none⟩ = some (.slice A118_4 ((rd_T42 l0 x3_1).f4).length c118_4) := (blk_cell BK119.out 4).trans rfl
         go_upto_if 94 with (fail)
         go_cut [94] (fun v94 wc => ∃ (kq : Nat) (x94_40 : Bool), v94 = .bool x94_40 ∧ Aside0 (spec_Known.j3 kq l0 x3_1 ((rd_T42 l0 x3_1).f0) x94_40 ((rd_T42 l0 x3_1).f0) ((rd_T42 l0 x3_1).f1) ((rd_T42 l0 x3_1).f2) ((rd_T42 l0 x3_1).f3) ((rd_T42 l0 x3_1).f4) = some r) ∧ Aside0 (kq ≤ k3) ∧ Aside0 (wc.heap[gb119]? = some (.cells #[.int .i64 ((rd_T42 l0 x3_1).f0), .string ((rd_T42 l0 x3_1).f1), .int .i64 ((rd_T42 l0 x3_1).f2), .int .i64 ((rd_T42 l0 x3_1).f3), (.slice A118_4 ((rd_T42 l0 x3_1).f4).length c118_4)] 42 (0, 0))) ∧ Aside0 (Below w.heap.size w wc))
         case first =>
          have H := HC41.out
          clear HC41
          by_cases c43 : ((rd_T42 l0 x3_1).f0) = 4
          ·
           rw [if_pos c43] at H
           have c43b0 : (((rd_T42 l0 x3_1).f0) == 4) = true := beq_iff_eq.mpr c43
           have c43b1 : (((rd_T42 l0 x3_1).f0) != 4) = false := bne_eq_false_iff_eq.mpr c43
           clear c43
           (first | rw [c43b0] | (simp only [i64_w, i32_w]; rw [c43b0]) | skip)
           have H' := Aside0.mk H
           clear H
           go_wp2
           go_meet
           case rel => exact ⟨_, ((((rd_T42 l0 x3_1).f0) == 4)), (by first | rfl | (simp; done) | (simp [*]; done)), H', ⟨by have := HK1.out; have := HJ3.out; have := HK3.out; first | omega | exact Nat.le_refl _⟩, ⟨by (with_reducible repeat (first | refine blk_drewN ?_ _ | refine blk_drew ?_ | refine blk_alloc ?_ _)); exact BK119.out⟩, ⟨by repeat (first | (with_reducible first | exact HB.out | apply below_alloc | apply pw_below_drewN | apply below_drew1 | refine below_set ?_ GE119.out) | exact HB.out)⟩⟩
          rw [if_neg c43] at H
          have c43b0 : (((rd_T42 l0 x3_1).f0) == 4) = false := beq_eq_false_iff_ne.mpr c43
          have c43b1 : (((rd_T42 l0 x3_1).f0) != 4) = true := bne_iff_ne.mpr c43
          (first | rw [c43b0] | (simp only [i64_w, i32_w]; rw [c43b0]) | skip)
          by_cases c44 : ((rd_T42 l0 x3_1).f0) = 5
          ·
           rw [if_pos c44] at H
           have c44b0 : (((rd_T42 l0 x3_1).f0) == 5) = true := beq_iff_eq.mpr c44
           have c44b1 : (((rd_T42 l0 x3_1).f0) != 5) = false := bne_eq_false_iff_eq.mpr c44
           clear c44
           have H' := Aside0.mk H
           clear H
           go_wp2
           go_meet
           case rel => exact ⟨_, ((((rd_T42 l0 x3_1).f0) == 5)), (by first | rfl | (simp; done) | (simp [*]; done)), H', ⟨by have := HK1.out; have := HJ3.out; have := HK3.out; first | omega | exact Nat.le_refl _⟩, ⟨by (with_reducible repeat (first | refine blk_drewN ?_ _ | refine blk_drew ?_ | refine blk_alloc ?_ _)); exact BK119.out⟩, ⟨by repeat (first | (with_reducible first | exact HB.out | apply below_alloc | apply pw_below_drewN | apply below_drew1 | refine below_set ?_ GE119.out) | exact HB.out)⟩⟩
          rw [if_neg c44] at H
          have c44b0 : (((rd_T42 l0 x3_1).f0) == 5) = false := beq_eq_false_iff_ne.mpr c44
          have c44b1 : (((rd_T42 l0 x3_1).f0) != 5) = true := bne_iff_ne.mpr c44
          by_cases c45 : ((rd_T42 l0 x3_1).f0) = 6
          ·
           rw [if_pos c45] at H
           have c45b0 : (((rd_T42 l0 x3_1).f0) == 6) = true := beq_iff_eq.mpr c45
           have c45b1 : (((rd_T42 l0 x3_1).f0) != 6) = false := bne_eq_false_iff_eq.mpr c45
           clear c45
           have H' := Aside0.mk H
           clear H
           go_wp2
           go_meet
           case rel => exact ⟨_, ((((rd_T42 l0 x3_1).f0) == 6)), (by first | rfl | (simp; done) | (simp [*]; done)), H', ⟨by have := HK1.out; have := HJ3.out; have := HK3.out; first | omega | exact Nat.le_refl _⟩, ⟨by (with_reducible repeat (first | refine blk_drewN ?_ _ | refine blk_drew ?_ | refine blk_alloc ?_ _)); exact BK119.out⟩, ⟨by repeat (first | (with_reducible first | exact HB.out | apply below_alloc | apply pw_below_drewN | apply below_drew1 | refine below_set ?_ GE119.out) | exact HB.out)⟩⟩
          rw [if_neg c45] at H
          have c45b0 : (((rd_T42 l0 x3_1).f0) == 6) = false := beq_eq_false_iff_ne.mpr c45
          have c45b1 : (((rd_T42 l0 x3_1).f0) != 6) = true := bne_iff_ne.mpr c45
          by_cases c46 : ((rd_T42 l0 x3_1).f0) = 7
          ·
           rw [if_pos c46] at H
           have c46b0 : (((rd_T42 l0 x3_1).f0) == 7) = true := beq_iff_eq.mpr c46
           have c46b1 : (((rd_T42 l0 x3_1).f0) != 7) = false := bne_eq_false_iff_eq.mpr c46
           clear c46
           have H' := Aside0.mk H
           clear H
           go_wp2
           go_meet
           case rel => exact ⟨_, ((((rd_T42 l0 x3_1).f0) == 7)), (by first | rfl | (simp; done) | (simp [*]; done)), H', ⟨by have := HK1.out; have := HJ3.out; have := HK3.out; first | omega | exact Nat.le_refl _⟩, ⟨by (with_reducible repeat (first | refine blk_drewN ?_ _ | refine blk_drew ?_ | refine blk_alloc ?_ _)); exact BK119.out⟩, ⟨by repeat (first | (with_reducible first | exact HB.out | apply below_alloc | apply pw_below_drewN | apply below_drew1 | refine below_set ?_ GE119.out) | exact HB.out)⟩⟩
          rw [if_neg c46] at H
          have c46b0 : (((rd_T42 l0 x3_1).f0) == 7) = false := beq_eq_false_iff_ne.mpr c46
          have c46b1 : (((rd_T42 l0 x3_1).f0) != 7) = true := bne_iff_ne.mpr c46
          by_cases c47 : ((rd_T42 l0 x3_1).f0) = 8
          ·
           rw [if_pos c47] at H
           have c47b0 : (((rd_T42 l0 x3_1).f0) == 8) = true := beq_iff_eq.mpr c47
           have c47b1 : (((rd_T42 l0 x3_1).f0) != 8) = false := bne_eq_false_iff_eq.mpr c47
           clear c47
           have H' := Aside0.mk H
           clear H
           go_wp2
           go_meet
           case rel => exact ⟨_, ((((rd_T42 l0 x3_1).f0) == 8)), (by first | rfl | (simp; done) | (simp [*]; done)), H', ⟨by have := HK1.out; have := HJ3.out; have := HK3.out; first | omega | exact Nat.le_refl _⟩, ⟨by (with_reducible repeat (first | refine blk_drewN ?_ _ | refine blk_drew ?_ | refine blk_alloc ?_ _)); exact BK119.out⟩, ⟨by repeat (first | (with_reducible first | exact HB.out | apply below_alloc | apply pw_below_drewN | apply below_drew1 | refine below_set ?_ GE119.out) | exact HB.out)⟩⟩
          rw [if_neg c47] at H
          have c47b0 : (((rd_T42 l0 x3_1).f0) == 8) = false := beq_eq_false_iff_ne.mpr c47
          have c47b1 : (((rd_T42 l0 x3_1).f0) != 8) = true := bne_iff_ne.mpr c47
          have H' := Aside0.mk H
          clear H
          go_wp2
          go_meet
          case rel => exact ⟨_, ((((rd_T42 l0 x3_1).f0) == 9)), (by first | rfl | (simp; done) | (simp [*]; done)), H', ⟨by have := HK1.out; have := HJ3.out; have := HK3.out; first | omega | exact Nat.le_refl _⟩, ⟨by (with_reducible repeat (first | refine blk_drewN ?_ _ | refine blk_drew ?_ | refine blk_alloc ?_ _)); exact BK119.out⟩, ⟨by repeat (first | (with_reducible first | exact HB.out | apply below_alloc | apply pw_below_drewN | apply below_drew1 | refine below_set ?_ GE119.out) | exact HB.out)⟩⟩
         case rest =>
          clear HC41
          try clear c1
          try clear p1
          try clear q1
          try clear hx1
          try clear c2
          try clear c2b0
          try clear p2
          try clear c3
          try clear c3b0
          try clear c4
          try clear p6
          try clear c7
          try clear c7b0
          try clear c9
          try clear c9b0
          try clear c11
          try clear c11b0
          try clear p11
          try clear q11
          try clear hx11
          try clear p12
          try clear q12
          try clear hx12
          try clear c13
          try clear c13b0
          try clear c15
          try clear c15b0
          try clear c17
          try clear c17b0
          try clear c20
          try clear c21
          try clear c21b0
          try clear c22
          try clear c22b0
          try clear c23
          try clear c23b0
          try clear c25
          try clear c25b0
          try clear c28
          try clear c28b0
          try clear c28b1
          try clear c30
          try clear c33
          try clear c33b0
          try clear c33b1
          try clear c34
          try clear c34b0
          try clear c34b1
          try clear c36
          try clear c36b0
          try clear c36b1
          try clear c38
          try clear c38b0
          try clear c38b1
          try clear c41
          try clear c43
          try clear c43b0
          try clear c43b1
          try clear c44
          try clear c44b0
          try clear c44b1
          try clear c45
          try clear c45b0
          try clear c45b1
          try clear c46
          try clear c46b0
          try clear c46b1
          try clear c47
          try clear c47b0
          try clear c47b1
          try clear hcz10_0 hcz10_1 hcz10_2 hcz10_3 hcz10_4 hcz12_0 hcz12_1 hcz12_2 hcz12_3 hcz12_4 hcz14_0 hcz14_1 hcz14_2 hcz14_3 hcz14_4 hcz16_0 hcz16_1 hcz16_2 hcz16_3 hcz16_4 hcz18_0 hcz18_1 hcz18_2 hcz18_3 hcz18_4 hcz19_0 hcz19_1 hcz19_2 hcz19_3 hcz19_4 hcz24_0 hcz24_1 hcz24_2 hcz24_3 hcz24_4 hcz26_0 hcz26_1 hcz26_2 hcz26_3 hcz26_4 hcz27_0 hcz27_1 hcz27_2 hcz27_3 hcz27_4 hcz31_0 hcz31_1 hcz31_2 hcz31_3 hcz31_4 hcz32_0 hcz32_1 hcz32_2 hcz32_3 hcz32_4 hcz35_0 hcz35_1 hcz35_2 hcz35_3 hcz35_4 hcz37_0 hcz37_1 hcz37_2 hcz37_3 hcz37_4 hcz39_0 hcz39_1 hcz39_2 hcz39_3 hcz39_4 hcz40_0 hcz40_1 hcz40_2 hcz40_3 hcz40_4 hcz42_0 hcz42_1 hcz42_2 hcz42_3 hcz42_4 hcz6_0 hcz6_1 hcz6_2 hcz6_3 hcz6_4 hcz8_0 hcz8_1 hcz8_2 hcz8_3 hcz8_4
          try clear hx118_0
          try clear hx118_1
          try clear hx118_2
          try clear hx118_3
          try clear hx118_4
          try clear hx120_0
          try clear hx121_0
          try clear p1
          try clear p11
          try clear p118
          try clear p120
          try clear p121
          try clear p2
          try clear q1
          try clear q11
          try clear q118
          try clear q120
          try clear q121
          obtain ⟨kq, x94_40, rfl, HA, HJ40, BK119, HB⟩ := hcut
          cases kq with
          | zero => exact absurd HA.out (by simp [spec_Known.j3])
          | succ kj40 =>
           have H := HA.out
           clear HA
           simp only [spec_Known.j3] at H
           by_cases c48 : x94_40 = true
           ·
            subst c48
            have H1 : (if ((rd_T42 l0 x3_1).f3) < 1 then (some false) else (spec_Known.l0 kj40 l0 (wrap64 (x3_1 + 1)))) = some r := by rw [if_pos rfl] at H; exact H
            clear H
            have H := H1
            clear H1
            by_cases c49 : ((rd_T42 l0 x3_1).f3) < 1
            ·
             rw [if_pos c49] at H
             have c49b0 : decide (((rd_T42 l0 x3_1).f3) < 1) = true := decide_eq_true c49
             clear c49
             obtain rfl := Option.some.inj H
             have hcz50_0 : wc.cell? ⟨gb119, 0, none⟩ = some (.int .i64 ((rd_T42 l0 x3_1).f0)) := (blk_cell BK119.out 0).trans rfl
             have hcz50_1 : wc.cell? ⟨gb119, 1, none⟩ = some (.string ((rd_T42 l0 x3_1).f1)) := (blk_cell BK119.out 1).trans rfl
             have hcz50_2 : wc.cell? ⟨gb119, 2, none⟩ = some (.int .i64 ((rd_T42 l0 x3_1).f2)) := (blk_cell BK119.out 2).trans rfl
             have hcz50_3 : wc.cell? ⟨gb119, 3, none⟩ = some (.int .i64 ((rd_T42 l0 x3_1).f3)) := (blk_cell BK119.out 3).trans rfl
             have hcz50_4 : wc.cell? ⟨gb119, 4, none⟩ = some (.slice A118_4 ((rd_T42 l0 x3_1).f4).length c118_4) := (blk_cell BK119.out 4).trans rfl
             go_wp2
             go_ret
             exact ⟨by first | rfl | (simp [errW_none, errW_some] <;> rfl) | (simp [*, errW_none, errW_some] <;> rfl), by repeat (first | (with_reducible first | exact HB.out | apply below_alloc | apply pw_below_drewN | apply below_drew1 | refine below_set ?_ GE119.out) | exact HB.out)⟩
            rw [if_neg c49] at H
            have c49b0 : decide (((rd_T42 l0 x3_1).f3) < 1) = false := decide_eq_false c49
            clear c49
            have H' := Aside0.mk H
            clear H
            have hcz51_0 : wc.cell? ⟨gb119, 0, none⟩ = some (.int .i64 ((rd_T42 l0 x3_1).f0)) := (blk_cell BK119.out 0).trans rfl
            have hcz51_1 : wc.cell? ⟨gb119, 1, none⟩ = some (.string ((rd_T42 l0 x3_1).f1)) := (blk_cell BK119.out 1).trans rfl
            have hcz51_2 : wc.cell? ⟨gb119, 2, none⟩ = some (.int .i64 ((rd_T42 l0 x3_1).f2)) := (blk_cell BK119.out 2).trans rfl
            have hcz51_3 : wc.cell? ⟨gb119, 3, none⟩ = some (.int .i64 ((rd_T42 l0 x3_1).f3)) := (blk_cell BK119.out 3).trans rfl
            have hcz51_4 : wc.cell? ⟨gb119, 4, none⟩ = some (.slice A118_4 ((rd_T42 l0 x3_1).f4).length c118_4) := (blk_cell BK119.out 4).trans rfl
            go_wp2
            go_roundg kj40
            case measure => have := HK1.out; have := HJ3.out; have := HK3.out; have := HJ40.out; omega
            case rel => exact ⟨(wrap64 (x3_1 + 1)), (by first | rfl | (simp; done) | (simp [*]; done)), H', ⟨by have := HK1.out; have := HJ3.out; have := HK3.out; have := HJ40.out; omega⟩, ⟨by repeat (first | (with_reducible first | exact HB.out | apply below_alloc | apply pw_below_drewN | apply below_drew1 | refine below_set ?_ GE119.out) | exact HB.out)⟩⟩
           replace c48 := Bool.eq_false_iff.mpr c48
           subst c48
           have H1 : (if ((rd_T42 l0 x3_1).f0) = 10 then (if ((rd_T42 l0 x3_1).f3) < 1 then (some false) else (if (((rd_T42 l0 x3_1).f4).length : Int) = 0 then (some false) else (spec_Known.l0 kj40 l0 (wrap64 (x3_1 + 1))))) else (if ((rd_T42 l0 x3_1).f0) = 11 then (if (wrap64 (x3_1 + 1)) < (l0.length : Int) then (some false) else (spec_Known.l0 kj40 l0 (wrap64 (x3_1 + 1)))) else (spec_Known.l0 kj40 l0 (wrap64 (x3_1 + 1))))) = some r := by rw [if_neg (show ¬ (false = true) by decide)] at H; exact H
           clear H
           have H := H1
           clear H1
           by_cases c52 : ((rd_T42 l0 x3_1).f0) = 10
           ·
            rw [if_pos c52] at H
            have c52b0 : (((rd_T42 l0 x3_1).f0) == 10) = true := beq_iff_eq.mpr c52
            have c52b1 : (((rd_T42 l0 x3_1).f0) != 10) = false := bne_eq_false_iff_eq.mpr c52
            clear c52
            by_cases c53 : ((rd_T42 l0 x3_1).f3) < 1
            ·
             rw [if_pos c53] at H
             have c53b0 : decide (((rd_T42 l0 x3_1).f3) < 1) = true := decide_eq_true c53
             clear c53
             obtain rfl := Option.some.inj H
             have hcz54_0 : wc.cell? ⟨gb119, 0, none⟩ = some (.int .i64 ((rd_T42 l0 x3_1).f0)) := (blk_cell BK119.out 0).trans rfl
             have hcz54_1 : wc.cell? ⟨gb119, 1, none⟩ = some (.string ((rd_T42 l0 x3_1).f1)) := (blk_cell BK119.out 1).trans rfl
             have hcz54_2 : wc.cell? ⟨gb119, 2, none⟩ = some (.int .i64 ((rd_T42 l0 x3_1).f2)) := (blk_cell BK119.out 2).trans rfl
             have hcz54_3 : wc.cell? ⟨gb119, 3, none⟩ = some (.int .i64 ((rd_T42 l0 x3_1).f3)) := (blk_cell BK119.out 3).trans rfl
             have hcz54_4 : wc.cell? ⟨gb119, 4, none⟩ = some (.slice A118_4 ((rd_T42 l0 x3_1).f4).length c118_4) := (blk_cell BK119.out 4).trans rfl
             go_wp2
             go_ret
             exact ⟨by first | rfl | (simp [errW_none, errW_some] <;> rfl) | (simp [*, errW_none, errW_some] <;> rfl), by repeat (first | (with_reducible first | exact HB.out | apply below_alloc | apply pw_below_drewN | apply below_drew1 | refine below_set ?_ GE119.out) | exact HB.out)⟩
            rw [if_neg c53] at H
            have c53b0 : decide (((rd_T42 l0 x3_1).f3) < 1) = false := decide_eq_false c53
            clear c53
            by_cases c55 : (((rd_T42 l0 x3_1).f4).length : Int) = 0
            ·
             rw [if_pos c55] at H
             have c55b0 : ((((rd_T42 l0 x3_1).f4).length : Int) == 0) = true := beq_iff_eq.mpr c55
             have c55b1 : ((((rd_T42 l0 x3_1).f4).length : Int) != 0) = false := bne_eq_false_iff_eq.mpr c55
             clear c55
             obtain rfl := Option.some.inj H
             have hcz56_0 : wc.cell? ⟨gb119, 0, none⟩ = some (.int .i64 ((rd_T42 l0 x3_1).f0)) := (blk_cell BK119.out 0).trans rfl
             have hcz56_1 : wc.cell? ⟨gb119, 1, none⟩ = some (.string ((rd_T42 l0 x3_1).f1)) := (blk_cell BK119.out 1).trans rfl
             have hcz56_2 : wc.cell? ⟨gb119, 2, none⟩ = some (.int .i64 ((rd_T42 l0 x3_1).f2)) := (blk_cell BK119.out 2).trans rfl
             have hcz56_3 : wc.cell? ⟨gb119, 3, none⟩ = some (.int .i64 ((rd_T42 l0 x3_1).f3)) := (blk_cell BK119.out 3).trans rfl
             have hcz56_4 : wc.cell? ⟨gb119, 4, none⟩ = some (.slice A118_4 ((rd_T42 l0 x3_1).f4).length c118_4) := (blk_cell BK119.out 4).trans rfl
             go_wp2
             go_ret
             exact ⟨by first | rfl | (simp [errW_none, errW_some] <;> rfl) | (simp [*, errW_none, errW_some] <;> rfl), by repeat (first | (with_reducible first | exact HB.out | apply below_alloc | apply pw_below_drewN | apply below_drew1 | refine below_set ?_ GE119.out) | exact HB.out)⟩
            rw [if_neg c55] at H
            have c55b0 : ((((rd_T42 l0 x3_1).f4).length : Int) == 0) = false := beq_eq_false_iff_ne.mpr c55
            have c55b1 : ((((rd_T42 l0 x3_1).f4).length : Int) != 0) = true := bne_iff_ne.mpr c55
            have c55b2 : ¬ (((rd_T42 l0 x3_1).f4) = []) := fun h_ => c55 (by rw [h_]; rfl)
            have H' := Aside0.mk H
            clear H
            have hcz57_0 : wc.cell? ⟨gb119, 0, none⟩ = some (.int .i64 ((rd_T42 l0 x3_1).f0)) := (blk_cell BK119.out 0).trans rfl
            have hcz57_1 : wc.cell? ⟨gb119, 1, none⟩ = some (.string ((rd_T42 l0 x3_1).f1)) := (blk_cell BK119.out 1).trans rfl
            have hcz57_2 : wc.cell? ⟨gb119, 2, none⟩ = some (.int .i64 ((rd_T42 l0 x3_1).f2)) := (blk_cell BK119.out 2).trans rfl
            have hcz57_3 : wc.cell? ⟨gb119, 3, none⟩ = some (.int .i64 ((rd_T42 l0 x3_1).f3)) := (blk_cell BK119.out 3).trans rfl
            have hcz57_4 : wc.cell? ⟨gb119, 4, none⟩ = some (.slice A118_4 ((rd_T42 l0 x3_1).f4).length c118_4) := (blk_cell BK119.out 4).trans rfl
            go_wp2
            go_roundg kj40
            case measure => have := HK1.out; have := HJ3.out; have := HK3.out; have := HJ40.out; omega
            case rel => exact ⟨(wrap64 (x3_1 + 1)), (by first | rfl | (simp; done) | (simp [*]; done)), H', ⟨by have := HK1.out; have := HJ3.out; have := HK3.out; have := HJ40.out; omega⟩, ⟨by repeat (first | (with_reducible first | exact HB.out | apply below_alloc | apply pw_below_drewN | apply below_drew1 | refine below_set ?_ GE119.out) | exact HB.out)⟩⟩
           rw [if_neg c52] at H
           have c52b0 : (((rd_T42 l0 x3_1).f0) == 10) = false := beq_eq_false_iff_ne.mpr c52
           have c52b1 : (((rd_T42 l0 x3_1).f0) != 10) = true := bne_iff_ne.mpr c52
           by_cases c58 : ((rd_T42 l0 x3_1).f0) = 11
           ·
            rw [if_pos c58] at H
            have c58b0 : (((rd_T42 l0 x3_1).f0) == 11) = true := beq_iff_eq.mpr c58
            have c58b1 : (((rd_T42 l0 x3_1).f0) != 11) = false := bne_eq_false_iff_eq.mpr c58
            clear c58
            by_cases c59 : (wrap64 (x3_1 + 1)) < (l0.length : Int)
            ·
             rw [if_pos c59] at H
             have c59b0 : decide ((wrap64 (x3_1 + 1)) < (l0.length : Int)) = true := decide_eq_true c59
             clear c59
             obtain rfl := Option.some.inj H
             go_wp2
             go_ret
             exact ⟨by first | rfl | (simp [errW_none, errW_some] <;> rfl) | (simp [*, errW_none, errW_some] <;> rfl), by repeat (first | (with_reducible first | exact HB.out | apply below_alloc | apply pw_below_drewN | apply below_drew1 | refine below_set ?_ GE119.out) | exact HB.out)⟩
            rw [if_neg c59] at H
            have c59b0 : decide ((wrap64 (x3_1 + 1)) < (l0.length : Int)) = false := decide_eq_false c59
            clear c59
            have H' := Aside0.mk H
            clear H
            go_wp2
            go_roundg kj40
            case measure => have := HK1.out; have := HJ3.out; have := HK3.out; have := HJ40.out; omega
            case rel => exact ⟨(wrap64 (x3_1 + 1)), (by first | rfl | (simp; done) | (simp [*]; done)), H', ⟨by have := HK1.out; have := HJ3.out; have := HK3.out; have := HJ40.out; omega⟩, ⟨by repeat (first | (with_reducible first | exact HB.out | apply below_alloc | apply pw_below_drewN | apply below_drew1 | refine below_set ?_ GE119.out) | exact HB.out)⟩⟩
           rw [if_neg c58] at H
           have c58b0 : (((rd_T42 l0 x3_1).f0) == 11) = false := beq_eq_false_iff_ne.mpr c58
           have c58b1 : (((rd_T42 l0 x3_1).f0) != 11) = true := bne_iff_ne.mpr c58
           have H' := Aside0.mk H
           clear H
           go_wp2
           go_roundg kj40
           case measure => have := HK1.out; have := HJ3.out; have := HK3.out; have := HJ40.out; omega
           case rel => exact ⟨(wrap64 (x3_1 + 1)), (by first | rfl | (simp; done) | (simp [*]; done)), H', ⟨by have := HK1.out; have := HJ3.out; have := HK3.out; have := HJ40.out; omega⟩, ⟨by repeat (first | (with_reducible first | exact HB.out | apply below_alloc | apply pw_below_drewN | apply below_drew1 | refine below_set ?_ GE119.out) | exact HB.out)⟩⟩
    rw [if_neg c3] at H
    exact absurd H (by simp)
   rw [if_neg c2] at H
   have c2b0 : decide (x3_1 < (l0.length : Int)) = false := decide_eq_false c2
   clear c2
   obtain rfl := Option.some.inj H
   go_wp2
   go_ret
   exact ⟨by first | rfl | (simp [errW_none, errW_some] <;> rfl) | (simp [*, errW_none, errW_some] <;> rfl), by repeat (first | (with_reducible first | exact HB.out | apply below_alloc | apply pw_below_drewN | apply below_drew1) | exact HB.out)⟩
end Go.Proofs.YtoopmpjgmgffoaaDoor.GFnTransformBack
