/- A walk of Go functions (plain functions of theirs, and that the machine's calls do what these say), written by a program of this session's. -/
import Derived.Test.YtoopmpjgmgffoaaDoorTpF
namespace Go.Proofs.YtoopmpjgmgffoaaDoor.GFnTransformBack
open Go.RowKit Go.Proofs.YtoopmpjgmgffoaaDoorW.PrintWords Go.Proofs.YtoopmpjgmgffoaaDoorW.PrintLast Go.Proofs.YtoopmpjgmgffoaaDoorW.PrintMore
set_option linter.unusedVariables false
set_option linter.unusedSimpArgs false
mutual
def spec_Piece.j0 : Nat → ByteArray → Bool → Int → ByteArray → Int → Int → List Int → Option (ByteArray)
 | 0, _, _, _, _, _, _, _ => none
 | k + 1, x1, x5, x422000, x422001, x422002, x422003, x422004 => if x422000 = 3 then (if 0 < (x422001.size : Int) then ((spec_split.f k x1 (bt x422001 0)).bind fun t422 => (some t422)) else (none)) else (if x422000 = 4 then (spec_Piece.j1 k x1 x5 x5 x422000 x422001 x422002 x422003 x422004) else (spec_Piece.j1 k x1 x5 false x422000 x422001 x422002 x422003 x422004))
def spec_Piece.j1 : Nat → ByteArray → Bool → Bool → Int → ByteArray → Int → Int → List Int → Option (ByteArray)
 | 0, _, _, _, _, _, _, _, _ => none
 | k + 1, x1, x5, x25, x422000, x422001, x422002, x422003, x422004 => if x25 = true then (if 0 ≤ x422003 then (if x422003 ≤ (x1.size : Int) then (if (x1.extract 0 (x422003 : Int).toNat).size + 1 ≤ 9223372036854775807 then (if ((x1.extract 0 (x422003 : Int).toNat) ++ (⟨#[46]⟩ : ByteArray)).size + (x1.extract (x422003 : Int).toNat x1.size).size ≤ 9223372036854775807 then (some (((x1.extract 0 (x422003 : Int).toNat) ++ (⟨#[46]⟩ : ByteArray)) ++ (x1.extract (x422003 : Int).toNat x1.size))) else (none)) else (none)) else (none)) else (none)) else (if x422000 = 5 then (spec_Piece.j2 k x1 x5 x5 x422000 x422001 x422002 x422003 x422004) else (spec_Piece.j2 k x1 x5 false x422000 x422001 x422002 x422003 x422004))
def spec_Piece.j2 : Nat → ByteArray → Bool → Bool → Int → ByteArray → Int → Int → List Int → Option (ByteArray)
 | 0, _, _, _, _, _, _, _, _ => none
 | k + 1, x1, x5, x42, x422000, x422001, x422002, x422003, x422004 => if x42 = true then (if 0 ≤ (wrap64 ((x1.size : Int) - x422003)) then (if (wrap64 ((x1.size : Int) - x422003)) ≤ (x1.size : Int) then (if (x1.extract 0 ((wrap64 ((x1.size : Int) - x422003)) : Int).toNat).size + 1 ≤ 9223372036854775807 then (if ((x1.extract 0 ((wrap64 ((x1.size : Int) - x422003)) : Int).toNat) ++ (⟨#[46]⟩ : ByteArray)).size + (x1.extract ((wrap64 ((x1.size : Int) - x422003)) : Int).toNat x1.size).size ≤ 9223372036854775807 then (some (((x1.extract 0 ((wrap64 ((x1.size : Int) - x422003)) : Int).toNat) ++ (⟨#[46]⟩ : ByteArray)) ++ (x1.extract ((wrap64 ((x1.size : Int) - x422003)) : Int).toNat x1.size))) else (none)) else (none)) else (none)) else (none)) else (if x422000 = 6 then (spec_Piece.j3 k x1 x5 x5 x422000 x422001 x422002 x422003 x422004) else (spec_Piece.j3 k x1 x5 false x422000 x422001 x422002 x422003 x422004))
def spec_Piece.j3 : Nat → ByteArray → Bool → Bool → Int → ByteArray → Int → Int → List Int → Option (ByteArray)
 | 0, _, _, _, _, _, _, _, _ => none
 | k + 1, x1, x5, x65, x422000, x422001, x422002, x422003, x422004 => if x65 = true then ((spec_slices.f k x1 x422003 false).bind fun t423 => (some t423)) else (if x422000 = 7 then (spec_Piece.j4 k x1 x5 x5 x422000 x422001 x422002 x422003 x422004) else (spec_Piece.j4 k x1 x5 false x422000 x422001 x422002 x422003 x422004))
def spec_Piece.j4 : Nat → ByteArray → Bool → Bool → Int → ByteArray → Int → Int → List Int → Option (ByteArray)
 | 0, _, _, _, _, _, _, _, _ => none
 | k + 1, x1, x5, x76, x422000, x422001, x422002, x422003, x422004 => if x76 = true then ((spec_slices.f k x1 x422003 true).bind fun t424 => (some t424)) else (if x422000 = 8 then (spec_Piece.j5 k x1 x5 x5 x422000 x422001 x422002 x422003 x422004) else (spec_Piece.j5 k x1 x5 false x422000 x422001 x422002 x422003 x422004))
def spec_Piece.j5 : Nat → ByteArray → Bool → Bool → Int → ByteArray → Int → Int → List Int → Option (ByteArray)
 | 0, _, _, _, _, _, _, _, _ => none
 | k + 1, x1, x5, x87, x422000, x422001, x422002, x422003, x422004 => if x87 = true then (if 0 ≤ x422003 then (if x422003 ≤ (x1.size : Int) then (some (x1.extract 0 (x422003 : Int).toNat)) else (none)) else (none)) else (if x422000 = 9 then (if x5 = true then (if 0 ≤ (wrap64 ((x1.size : Int) - x422003)) then (if (wrap64 ((x1.size : Int) - x422003)) ≤ (x1.size : Int) then (some (x1.extract ((wrap64 ((x1.size : Int) - x422003)) : Int).toNat x1.size)) else (none)) else (none)) else (some x1)) else (some x1))
end
def spec_Piece.f (k : Nat) (a0_0 : Int) (a0_1 : ByteArray) (a0_2 : Int) (a0_3 : Int) (l0_4 : List Int) (a1 : ByteArray) : Option (ByteArray) := if a0_3 > 0 then (spec_Piece.j0 k a1 (decide (a0_3 < (a1.size : Int))) a0_0 a0_1 a0_2 a0_3 l0_4) else (spec_Piece.j0 k a1 false a0_0 a0_1 a0_2 a0_3 l0_4)
set_option maxHeartbeats 8000000 in
set_option maxRecDepth 100000 in
theorem spec_Piece.calls (k : Nat) (a0_0 : Int) (a0_1 : ByteArray) (a0_2 : Int) (a0_3 : Int) (A0_4 : Option Addr) (c0_4 : Nat) (l0_4 : List Int) (a1 : ByteArray) (r : ByteArray) (w : World) (hr0_4 : Kd.C (Kd.int .i64) w A0_4 l0_4.length l0_4) (hc0_4 : l0_4.length ≤ c0_4) (h : spec_Piece.f k a0_0 a0_1 a0_2 a0_3 l0_4 a1 = some r) :
  Calls Tryd.prog 36 #[.agg #[.int .i64 a0_0, .string a0_1, .int .i64 a0_2, .int .i64 a0_3, .slice A0_4 l0_4.length c0_4], .string a1] w fun e w' => e = .returned (.string r) ∧ Below w.heap.size w w' := by
 have hu42 := Tryd.underlying42
 have HR0_4 := Aside0.mk hr0_4
 have HC0_4 := Aside0.mk hc0_4
 clear hr0_4 hc0_4
 have HB := Aside0.mk (Below.refl w.heap.size w)
 have H : (if a0_3 > 0 then (spec_Piece.j0 k a1 (decide (a0_3 < (a1.size : Int))) a0_0 a0_1 a0_2 a0_3 l0_4) else (spec_Piece.j0 k a1 false a0_0 a0_1 a0_2 a0_3 l0_4)) = some r := h
 clear h
 have HC3 := Aside0.mk H
 clear H
 go_enter Tryd.func36, Tryd.ntmps36
 go_upto_region 1 with (first | ((with_reducible refine gate_dst (N := 2) rfl ?_); (try (refine gate_guard (by rfl) ?_; dsimp only)); refine box_event ?hg (N := 2) ?hd (cs := #[.int .i64 a0_0, .string a0_1, .int .i64 a0_2, .int .i64 a0_3, .slice A0_4 l0_4.length c0_4]) (t := 42) ?hr ?_; (case hd => rfl); (case hg => rfl); (case hr => first | (go_simp; done) | (go_simp; rfl)); intro gb421 hg w4 hbox hb; have n0_ := Aside0.mk (below_step (by repeat (first | (with_reducible first | exact HB.out | apply below_alloc | apply pw_below_drewN | apply below_drew1) | exact HB.out)) hb); have n1_ := Aside0.mk (hbox); have n2_ := Aside0.mk ((by rw [hg]; exact (below_size (by repeat (first | (with_reducible first | exact HB.out | apply below_alloc | apply pw_below_drewN | apply below_drew1) | exact HB.out))) : w.heap.size ≤ gb421)); have n3_ := Aside0.mk ((by rw [hg]; exact (below_size (by repeat (first | (with_reducible first | exact HB.out | apply below_alloc | apply pw_below_drewN | apply below_drew1) | exact HB.out))) : w.heap.size ≤ gb421)); clear HB; have HB := n0_; have BK421 := n1_; have GW421 := n2_; have GE421 := n3_; clear n0_ n1_ n2_ n3_; clear hb hbox hg))
 repeat (go_quiet (first | ((with_reducible refine gate_dst (N := 2) rfl ?_); (try (refine gate_guard (by rfl) ?_; dsimp only)); refine box_event ?hg (N := 2) ?hd (cs := #[.int .i64 a0_0, .string a0_1, .int .i64 a0_2, .int .i64 a0_3, .slice A0_4 l0_4.length c0_4]) (t := 42) ?hr ?_; (case hd => rfl); (case hg => rfl); (case hr => first | (go_simp; done) | (go_simp; rfl)); intro gb421 hg w4 hbox hb; have n0_ := Aside0.mk (below_step (by repeat (first | (with_reducible first | exact HB.out | apply below_alloc | apply pw_below_drewN | apply below_drew1) | exact HB.out)) hb); have n1_ := Aside0.mk (hbox); have n2_ := Aside0.mk ((by rw [hg]; exact (below_size (by repeat (first | (with_reducible first | exact HB.out | apply below_alloc | apply pw_below_drewN | apply below_drew1) | exact HB.out))) : w.heap.size ≤ gb421)); have n3_ := Aside0.mk ((by rw [hg]; exact (below_size (by repeat (first | (with_reducible first | exact HB.out | apply below_alloc | apply pw_below_drewN | apply below_drew1) | exact HB.out))) : w.heap.size ≤ gb421)); clear HB; have HB := n0_; have BK421 := n1_; have GW421 := n2_; have GE421 := n3_; clear n0_ n1_ n2_ n3_; clear hb hbox hg)); go_upto_region 1 with (first | ((with_reducible refine gate_dst (N := 2) rfl ?_); (try (refine gate_guard (by rfl) ?_; dsimp only)); refine box_event ?hg (N := 2) ?hd (cs := #[.int .i64 a0_0, .string a0_1, .int .i64 a0_2, .int .i64 a0_3, .slice A0_4 l0_4.length c0_4]) (t := 42) ?hr ?_; (case hd => rfl); (case hg => rfl); (case hr => first | (go_simp; done) | (go_simp; rfl)); intro gb421 hg w4 hbox hb; have n0_ := Aside0.mk (below_step (by repeat (first | (with_reducible first | exact HB.out | apply below_alloc | apply pw_below_drewN | apply below_drew1) | exact HB.out)) hb); have n1_ := Aside0.mk (hbox); have n2_ := Aside0.mk ((by rw [hg]; exact (below_size (by repeat (first | (with_reducible first | exact HB.out | apply below_alloc | apply pw_below_drewN | apply below_drew1) | exact HB.out))) : w.heap.size ≤ gb421)); have n3_ := Aside0.mk ((by rw [hg]; exact (below_size (by repeat (first | (with_reducible first | exact HB.out | apply below_alloc | apply pw_below_drewN | apply below_drew1) | exact HB.out))) : w.heap.size ≤ gb421)); clear HB; have HB := n0_; have BK421 := n1_; have GW421 := n2_; have GE421 := n3_; clear n0_ n1_ n2_ n3_; clear hb hbox hg)))
 (try simp only [Act.put, List.setIfInBounds_toArray, List.set_cons_zero, List.set_cons_succ])
 go_cut [5] (fun v5 wc => ∃ (kq : Nat) (x5_2 : Bool), v5 = .bool x5_2 ∧ Aside0 (spec_Piece.j0 kq a1 x5_2 a0_0 a0_1 a0_2 a0_3 l0_4 = some r) ∧ Aside0 (kq ≤ k) ∧ Aside0 (wc.heap[gb421]? = some (.cells #[.int .i64 a0_0, .string a0_1, .int .i64 a0_2, .int .i64 a0_3, (.slice A0_4 l0_4.length c0_4)] 42 (0, 0))) ∧ Aside0 (Below w.heap.size w wc))
 case first =>
  have H := HC3.out
  clear HC3
  by_cases c5 : a0_3 > 0
  ·
   rw [if_pos c5] at H
   have c5b0 : decide (0 < a0_3) = true := decide_eq_true c5
   clear c5
   (first | rw [c5b0] | (simp only [i64_w, i32_w]; rw [c5b0]) | skip)
   have H' := Aside0.mk H
   clear H
   have hcz6_0 : w4.cell? ⟨gb421, 0, none⟩ = some (.int .i64 a0_0) := (blk_cell BK421.out 0).trans rfl
   have hcz6_1 : w4.cell? ⟨gb421, 1, none⟩ = some (.string a0_1) := (blk_cell BK421.out 1).trans rfl
   have hcz6_2 : w4.cell? ⟨gb421, 2, none⟩ = some (.int .i64 a0_2) := (blk_cell BK421.out 2).trans rfl
   have hcz6_3 : w4.cell? ⟨gb421, 3, none⟩ = some (.int .i64 a0_3) := (blk_cell BK421.out 3).trans rfl
   have hcz6_4 : w4.cell? ⟨gb421, 4, none⟩ = some (.slice A0_4 l0_4.length c0_4) := (blk_cell BK421.out 4).trans rfl
   go_wp2
   repeat (go_quiet (fail); try go_wp2)
   go_meet
   case rel => exact ⟨_, (decide (a0_3 < (a1.size : Int))), (by first | rfl | (simp; done) | (simp [*]; done)), H', ⟨by first | omega | exact Nat.le_refl _⟩, ⟨by (with_reducible repeat (first | refine blk_drewN ?_ _ | refine blk_drew ?_ | refine blk_alloc ?_ _)); exact BK421.out⟩, ⟨by repeat (first | (with_reducible first | exact HB.out | apply below_alloc | apply pw_below_drewN | apply below_drew1 | refine below_set ?_ GE421.out) | exact HB.out)⟩⟩
  rw [if_neg c5] at H
  have c5b0 : decide (0 < a0_3) = false := decide_eq_false c5
  clear c5
  (first | rw [c5b0] | (simp only [i64_w, i32_w]; rw [c5b0]) | skip)
  have H' := Aside0.mk H
  clear H
  have hcz7_0 : w4.cell? ⟨gb421, 0, none⟩ = some (.int .i64 a0_0) := (blk_cell BK421.out 0).trans rfl
  have hcz7_1 : w4.cell? ⟨gb421, 1, none⟩ = some (.string a0_1) := (blk_cell BK421.out 1).trans rfl
  have hcz7_2 : w4.cell? ⟨gb421, 2, none⟩ = some (.int .i64 a0_2) := (blk_cell BK421.out 2).trans rfl
  have hcz7_3 : w4.cell? ⟨gb421, 3, none⟩ = some (.int .i64 a0_3) := (blk_cell BK421.out 3).trans rfl
  have hcz7_4 : w4.cell? ⟨gb421, 4, none⟩ = some (.slice A0_4 l0_4.length c0_4) := (blk_cell BK421.out 4).trans rfl
  go_wp2
  repeat (go_quiet (fail); try go_wp2)
  go_meet
  case rel => exact ⟨_, (false), (by first | rfl | (simp; done) | (simp [*]; done)), H', ⟨by first | omega | exact Nat.le_refl _⟩, ⟨by (with_reducible repeat (first | refine blk_drewN ?_ _ | refine blk_drew ?_ | refine blk_alloc ?_ _)); exact BK421.out⟩, ⟨by repeat (first | (with_reducible first | exact HB.out | apply below_alloc | apply pw_below_drewN | apply below_drew1 | refine below_set ?_ GE421.out) | exact HB.out)⟩⟩
 case rest =>
  clear HC3
  try clear p2
  try clear c3
  try clear c5
  try clear c5b0
  try clear hcz6_0 hcz6_1 hcz6_2 hcz6_3 hcz6_4 hcz7_0 hcz7_1 hcz7_2 hcz7_3 hcz7_4
  obtain ⟨kq, x5_2, rfl, HA, HJ2, BK421, HB⟩ := hcut
  cases kq with
  | zero => exact absurd HA.out (by simp [spec_Piece.j0])
  | succ kj2 =>
   have H := HA.out
   clear HA
   simp only [spec_Piece.j0] at H
   by_cases c8 : a0_0 = 3
   ·
    rw [if_pos c8] at H
    have c8b0 : (a0_0 == 3) = true := beq_iff_eq.mpr c8
    have c8b1 : (a0_0 != 3) = false := bne_eq_false_iff_eq.mpr c8
    clear c8
    by_cases c9 : 0 < (a0_1.size : Int)
    ·
     rw [if_pos c9] at H
     have c9b0 : decide (0 < (a0_1.size : Int)) = true := decide_eq_true c9
     have c9b1 : decide (0 < a0_1.size) = true := decide_eq_true (by omega)
     clear c9
     replace H := Option.bind_eq_some_iff.mp H
     obtain ⟨t422, A110, H⟩ := H
     replace H : (some t422) = some r := H
     have A11 := Aside0.mk A110
     clear A110
     obtain rfl := Option.some.inj H
     have hcz12_0 : wc.cell? ⟨gb421, 0, none⟩ = some (.int .i64 a0_0) := (blk_cell BK421.out 0).trans rfl
     have hcz12_1 : wc.cell? ⟨gb421, 1, none⟩ = some (.string a0_1) := (blk_cell BK421.out 1).trans rfl
     have hcz12_2 : wc.cell? ⟨gb421, 2, none⟩ = some (.int .i64 a0_2) := (blk_cell BK421.out 2).trans rfl
     have hcz12_3 : wc.cell? ⟨gb421, 3, none⟩ = some (.int .i64 a0_3) := (blk_cell BK421.out 3).trans rfl
     have hcz12_4 : wc.cell? ⟨gb421, 4, none⟩ = some (.slice A0_4 l0_4.length c0_4) := (blk_cell BK421.out 4).trans rfl
     have p10 : 0 ≤ (0 : Int) := (by omega)
     have q10 : 0 < a0_1.size := (by have : (0 : Int) < (a0_1.size : Int) := of_decide_eq_true (by first | (with_reducible assumption) | assumption); omega)
     have hx10 : ∀ h : 0 < a0_1.size, ((a0_1[0]'h).toNat : Int) = bt a0_1 0 := bt_at a0_1 0
     clear p10
     have qi10 : (0 < (a0_1.size : Int)) = True := eq_true (of_decide_eq_true (by first | (with_reducible assumption) | assumption))
     replace q10 := eq_true q10
     go_wp2_with (first | (go_at_call 52; (with_reducible refine (spec_split.calls kj2 a1 (bt a0_1 0) t422 _ A11.out).mono ?_); rintro e w' ⟨rfl, ⟨nd, rfl⟩⟩; (try first | exact ⟨rfl, _, World.drewN_drewN _ _ _⟩ | exact ⟨rfl, _, Eq.trans (World.drewN_drewN _ _ _) (congrArg (World.drewN _) (Nat.add_assoc _ _ _))⟩)))
     repeat (go_quiet (first | (go_at_call 52; (with_reducible refine (spec_split.calls kj2 a1 (bt a0_1 0) t422 _ A11.out).mono ?_); rintro e w' ⟨rfl, ⟨nd, rfl⟩⟩; (try first | exact ⟨rfl, _, World.drewN_drewN _ _ _⟩ | exact ⟨rfl, _, Eq.trans (World.drewN_drewN _ _ _) (congrArg (World.drewN _) (Nat.add_assoc _ _ _))⟩))); try go_wp2_with (first | (go_at_call 52; (with_reducible refine (spec_split.calls kj2 a1 (bt a0_1 0) t422 _ A11.out).mono ?_); rintro e w' ⟨rfl, ⟨nd, rfl⟩⟩; (try first | exact ⟨rfl, _, World.drewN_drewN _ _ _⟩ | exact ⟨rfl, _, Eq.trans (World.drewN_drewN _ _ _) (congrArg (World.drewN _) (Nat.add_assoc _ _ _))⟩))))
     go_ret
     exact ⟨by first | rfl | (simp [errW_none, errW_some] <;> rfl) | (simp [*, errW_none, errW_some] <;> rfl), by repeat (first | (with_reducible first | exact HB.out | apply below_alloc | apply pw_below_drewN | apply below_drew1 | refine below_set ?_ GE421.out) | exact HB.out)⟩
    rw [if_neg c9] at H
    exact absurd H (by simp)
   rw [if_neg c8] at H
   have c8b0 : (a0_0 == 3) = false := beq_eq_false_iff_ne.mpr c8
   have c8b1 : (a0_0 != 3) = true := bne_iff_ne.mpr c8
   have HC13 := Aside0.mk H
   clear H
   have hcz14_0 : wc.cell? ⟨gb421, 0, none⟩ = some (.int .i64 a0_0) := (blk_cell BK421.out 0).trans rfl
   have hcz14_1 : wc.cell? ⟨gb421, 1, none⟩ = some (.string a0_1) := (blk_cell BK421.out 1).trans rfl
   have hcz14_2 : wc.cell? ⟨gb421, 2, none⟩ = some (.int .i64 a0_2) := (blk_cell BK421.out 2).trans rfl
   have hcz14_3 : wc.cell? ⟨gb421, 3, none⟩ = some (.int .i64 a0_3) := (blk_cell BK421.out 3).trans rfl
   have hcz14_4 : wc.cell? ⟨gb421, 4, none⟩ = some (.slice A0_4 l0_4.length c0_4) := (blk_cell BK421.out 4).trans rfl
   go_upto_region 4 with (fail)
   repeat (go_quiet (fail); go_upto_region 4 with (fail))
   go_cut [25] (fun v25 wc => ∃ (kq : Nat) (x25_12 : Bool), v25 = .bool x25_12 ∧ Aside0 (spec_Piece.j1 kq a1 x5_2 x25_12 a0_0 a0_1 a0_2 a0_3 l0_4 = some r) ∧ Aside0 (kq ≤ kj2) ∧ Aside0 (wc.heap[gb421]? = some (.cells #[.int .i64 a0_0, .string a0_1, .int .i64 a0_2, .int .i64 a0_3, (.slice A0_4 l0_4.length c0_4)] 42 (0, 0))) ∧ Aside0 (Below w.heap.size w wc))
   case first =>
    have H := HC13.out
    clear HC13
    by_cases c15 : a0_0 = 4
    ·
     rw [if_pos c15] at H
     have c15b0 : (a0_0 == 4) = true := beq_iff_eq.mpr c15
     have c15b1 : (a0_0 != 4) = false := bne_eq_false_iff_eq.mpr c15
     clear c15
     (first | rw [c15b0] | (simp only [i64_w, i32_w]; rw [c15b0]) | skip)
     have H' := Aside0.mk H
     clear H
     have hcz16_0 : wc.cell? ⟨gb421, 0, none⟩ = some (.int .i64 a0_0) := (blk_cell BK421.out 0).trans rfl
     have hcz16_1 : wc.cell? ⟨gb421, 1, none⟩ = some (.string a0_1) := (blk_cell BK421.out 1).trans rfl
     have hcz16_2 : wc.cell? ⟨gb421, 2, none⟩ = some (.int .i64 a0_2) := (blk_cell BK421.out 2).trans rfl
     have hcz16_3 : wc.cell? ⟨gb421, 3, none⟩ = some (.int .i64 a0_3) := (blk_cell BK421.out 3).trans rfl
     have hcz16_4 : wc.cell? ⟨gb421, 4, none⟩ = some (.slice A0_4 l0_4.length c0_4) := (blk_cell BK421.out 4).trans rfl
     go_wp2
     repeat (go_quiet (fail); try go_wp2)
     go_meet
     case rel => exact ⟨_, (x5_2), (by first | rfl | (simp; done) | (simp [*]; done)), H', ⟨by have := HJ2.out; first | omega | exact Nat.le_refl _⟩, ⟨by (with_reducible repeat (first | refine blk_drewN ?_ _ | refine blk_drew ?_ | refine blk_alloc ?_ _)); exact BK421.out⟩, ⟨by repeat (first | (with_reducible first | exact HB.out | apply below_alloc | apply pw_below_drewN | apply below_drew1 | refine below_set ?_ GE421.out) | exact HB.out)⟩⟩
    rw [if_neg c15] at H
    have c15b0 : (a0_0 == 4) = false := beq_eq_false_iff_ne.mpr c15
    have c15b1 : (a0_0 != 4) = true := bne_iff_ne.mpr c15
    (first | rw [c15b0] | (simp only [i64_w, i32_w]; rw [c15b0]) | skip)
    have H' := Aside0.mk H
    clear H
    have hcz17_0 : wc.cell? ⟨gb421, 0, none⟩ = some (.int .i64 a0_0) := (blk_cell BK421.out 0).trans rfl
    have hcz17_1 : wc.cell? ⟨gb421, 1, none⟩ = some (.string a0_1) := (blk_cell BK421.out 1).trans rfl
    have hcz17_2 : wc.cell? ⟨gb421, 2, none⟩ = some (.int .i64 a0_2) := (blk_cell BK421.out 2).trans rfl
    have hcz17_3 : wc.cell? ⟨gb421, 3, none⟩ = some (.int .i64 a0_3) := (blk_cell BK421.out 3).trans rfl
    have hcz17_4 : wc.cell? ⟨gb421, 4, none⟩ = some (.slice A0_4 l0_4.length c0_4) := (blk_cell BK421.out 4).trans rfl
    go_wp2
    repeat (go_quiet (fail); try go_wp2)
    go_meet
    case rel => exact ⟨_, (false), (by first | rfl | (simp; done) | (simp [*]; done)), H', ⟨by have := HJ2.out; first | omega | exact Nat.le_refl _⟩, ⟨by (with_reducible repeat (first | refine blk_drewN ?_ _ | refine blk_drew ?_ | refine blk_alloc ?_ _)); exact BK421.out⟩, ⟨by repeat (first | (with_reducible first | exact HB.out | apply below_alloc | apply pw_below_drewN | apply below_drew1 | refine below_set ?_ GE421.out) | exact HB.out)⟩⟩
   case rest =>
    clear HC13
    try clear c1
    try clear p1
    try clear q1
    try clear hx1
    try clear qi1
    try clear p2
    try clear c3
    try clear c5
    try clear c5b0
    try clear c8
    try clear c8b0
    try clear c8b1
    try clear c9
    try clear c9b0
    try clear c9b1
    try clear p10
    try clear q10
    try clear hx10
    try clear qi10
    try clear c15
    try clear c15b0
    try clear c15b1
    try clear hcz12_0 hcz12_1 hcz12_2 hcz12_3 hcz12_4 hcz14_0 hcz14_1 hcz14_2 hcz14_3 hcz14_4 hcz16_0 hcz16_1 hcz16_2 hcz16_3 hcz16_4 hcz17_0 hcz17_1 hcz17_2 hcz17_3 hcz17_4 hcz6_0 hcz6_1 hcz6_2 hcz6_3 hcz6_4 hcz7_0 hcz7_1 hcz7_2 hcz7_3 hcz7_4
    try clear p10
    try clear p2
    try clear q10
    obtain ⟨kq, x25_12, rfl, HA, HJ12, BK421, HB⟩ := hcut
    cases kq with
    | zero => exact absurd HA.out (by simp [spec_Piece.j1])
    | succ kj12 =>
     have H := HA.out
     clear HA
     simp only [spec_Piece.j1] at H
     by_cases c18 : x25_12 = true
     ·
      subst c18
      have H1 : (if 0 ≤ a0_3 then (if a0_3 ≤ (a1.size : Int) then (if (a1.extract 0 (a0_3 : Int).toNat).size + 1 ≤ 9223372036854775807 then (if ((a1.extract 0 (a0_3 : Int).toNat) ++ (⟨#[46]⟩ : ByteArray)).size + (a1.extract (a0_3 : Int).toNat a1.size).size ≤ 9223372036854775807 then (some (((a1.extract 0 (a0_3 : Int).toNat) ++ (⟨#[46]⟩ : ByteArray)) ++ (a1.extract (a0_3 : Int).toNat a1.size))) else (none)) else (none)) else (none)) else (none)) = some r := by rw [if_pos rfl] at H; exact H
      clear H
      have H := H1
      clear H1
      by_cases c19 : 0 ≤ a0_3
      ·
       rw [if_pos c19] at H
       have c19b0 := eq_true c19
       have c19b1 : decide (0 ≤ a0_3) = true := decide_eq_true c19
       clear c19
       by_cases c20 : a0_3 ≤ (a1.size : Int)
       ·
        rw [if_pos c20] at H
        have c20b0 := eq_true c20
        have c20b1 : decide (a0_3 ≤ (a1.size : Int)) = true := decide_eq_true c20
        clear c20
        by_cases c21 : (a1.extract 0 (a0_3 : Int).toNat).size + 1 ≤ 9223372036854775807
        ·
         rw [if_pos c21] at H
         have c21b0 := eq_true c21
         have c21b1 : decide ((a1.extract 0 (a0_3 : Int).toNat).size + 1 ≤ 9223372036854775807) = true := decide_eq_true c21
         try have c21b2 : (9223372036854775807 < (a1.extract 0 (a0_3 : Int).toNat).size + 1) = False := eq_false (Nat.not_lt.2 c21)
         have c22b0 := eq_true (of_decide_eq_true (by first | (with_reducible assumption) | assumption) : 0 ≤ a0_3)
         have c23b0 := eq_true (of_decide_eq_true (by first | (with_reducible assumption) | assumption) : a0_3 ≤ (a1.size : Int))
         by_cases c24 : ((a1.extract 0 (a0_3 : Int).toNat) ++ (⟨#[46]⟩ : ByteArray)).size + (a1.extract (a0_3 : Int).toNat a1.size).size ≤ 9223372036854775807
         ·
          rw [if_pos c24] at H
          have c24b0 := eq_true c24
          have c24b1 : decide (((a1.extract 0 (a0_3 : Int).toNat) ++ (⟨#[46]⟩ : ByteArray)).size + (a1.extract (a0_3 : Int).toNat a1.size).size ≤ 9223372036854775807) = true := decide_eq_true c24
          try have c24b2 : (9223372036854775807 < ((a1.extract 0 (a0_3 : Int).toNat) ++ (⟨#[46]⟩ : ByteArray)).size + (a1.extract (a0_3 : Int).toNat a1.size).size) = False := eq_false (Nat.not_lt.2 c24)
          have c24z : (9223372036854775807 < (a1.extract 0 (a0_3 : Int).toNat).size + 1 + (a1.extract (a0_3 : Int).toNat a1.size).size) = False := eq_false (Nat.not_lt.2 (by have h_ := c24; simp only [ByteArray.size_append] at h_; exact h_))
          obtain rfl := Option.some.inj H
          have hcz25_0 : wc.cell? ⟨gb421, 0, none⟩ = some (.int .i64 a0_0) := (blk_cell BK421.out 0).trans rfl
          have hcz25_1 : wc.cell? ⟨gb421, 1, none⟩ = some (.string a0_1) := (blk_cell BK421.out 1).trans rfl
          have hcz25_2 : wc.cell? ⟨gb421, 2, none⟩ = some (.int .i64 a0_2) := (blk_cell BK421.out 2).trans rfl
          have hcz25_3 : wc.cell? ⟨gb421, 3, none⟩ = some (.int .i64 a0_3) := (blk_cell BK421.out 3).trans rfl
          have hcz25_4 : wc.cell? ⟨gb421, 4, none⟩ = some (.slice A0_4 l0_4.length c0_4) := (blk_cell BK421.out 4).trans rfl
          have hz_ : (a1.extract 0 (a0_3 : Int).toNat).size = (a0_3 : Int).toNat := by rw [ByteArray.size_extract]; have h20_ := of_eq_true c20b0; have h19_ := of_eq_true c19b0; omega
          have hz1_ : (9223372036854775807 < (a0_3 : Int).toNat + 1) = False := eq_false (by have h_ := c21; rw [hz_] at h_; omega)
          have hz2_ : (9223372036854775807 < (a0_3 : Int).toNat + 1 + (a1.size - (a0_3 : Int).toNat)) = False := eq_false (by have h_ := c24; rw [ByteArray.size_append, hz_, ByteArray.size_extract] at h_; have hq_ : (⟨#[46]⟩ : ByteArray).size = 1 := rfl; omega)
          clear hz_
          go_wp2
          repeat (go_quiet (fail); try go_wp2)
          go_ret
          exact ⟨by first | rfl | (simp [errW_none, errW_some] <;> rfl) | (simp [*, errW_none, errW_some] <;> rfl), by repeat (first | (with_reducible first | exact HB.out | apply below_alloc | apply pw_below_drewN | apply below_drew1 | refine below_set ?_ GE421.out) | exact HB.out)⟩
         rw [if_neg c24] at H
         exact absurd H (by simp)
        rw [if_neg c21] at H
        exact absurd H (by simp)
       rw [if_neg c20] at H
       exact absurd H (by simp)
      rw [if_neg c19] at H
      exact absurd H (by simp)
     replace c18 := Bool.eq_false_iff.mpr c18
     subst c18
     have H1 : (if a0_0 = 5 then (spec_Piece.j2 kj12 a1 x5_2 x5_2 a0_0 a0_1 a0_2 a0_3 l0_4) else (spec_Piece.j2 kj12 a1 x5_2 false a0_0 a0_1 a0_2 a0_3 l0_4)) = some r := by rw [if_neg (show ¬ (false = true) by decide)] at H; exact H
     clear H
     have H := H1
     clear H1
     have HC26 := Aside0.mk H
     clear H
     go_upto_region 6 with (fail)
     repeat (go_quiet (fail); go_upto_region 6 with (fail))
     go_cut [42] (fun v42 wc => ∃ (kq : Nat) (x42_25 : Bool), v42 = .bool x42_25 ∧ Aside0 (spec_Piece.j2 kq a1 x5_2 x42_25 a0_0 a0_1 a0_2 a0_3 l0_4 = some r) ∧ Aside0 (kq ≤ kj12) ∧ Aside0 (wc.heap[gb421]? = some (.cells #[.int .i64 a0_0, .string a0_1, .int .i64 a0_2, .int .i64 a0_3, (.slice A0_4 l0_4.length c0_4)] 42 (0, 0))) ∧ Aside0 (Below w.heap.size w wc))
     case first =>
      have H := HC26.out
      clear HC26
      by_cases c27 : a0_0 = 5
      ·
       rw [if_pos c27] at H
       have c27b0 : (a0_0 == 5) = true := beq_iff_eq.mpr c27
       have c27b1 : (a0_0 != 5) = false := bne_eq_false_iff_eq.mpr c27
       clear c27
       (first | rw [c27b0] | (simp only [i64_w, i32_w]; rw [c27b0]) | skip)
       have H' := Aside0.mk H
       clear H
       have hcz28_0 : wc.cell? ⟨gb421, 0, none⟩ = some (.int .i64 a0_0) := (blk_cell BK421.out 0).trans rfl
       have hcz28_1 : wc.cell? ⟨gb421, 1, none⟩ = some (.string a0_1) := (blk_cell BK421.out 1).trans rfl
       have hcz28_2 : wc.cell? ⟨gb421, 2, none⟩ = some (.int .i64 a0_2) := (blk_cell BK421.out 2).trans rfl
       have hcz28_3 : wc.cell? ⟨gb421, 3, none⟩ = some (.int .i64 a0_3) := (blk_cell BK421.out 3).trans rfl
       have hcz28_4 : wc.cell? ⟨gb421, 4, none⟩ = some (.slice A0_4 l0_4.length c0_4) := (blk_cell BK421.out 4).trans rfl
       go_wp2
       repeat (go_quiet (fail); try go_wp2)
       go_meet
       case rel => exact ⟨_, (x5_2), (by first | rfl | (simp; done) | (simp [*]; done)), H', ⟨by have := HJ2.out; have := HJ12.out; first | omega | exact Nat.le_refl _⟩, ⟨by (with_reducible repeat (first | refine blk_drewN ?_ _ | refine blk_drew ?_ | refine blk_alloc ?_ _)); exact BK421.out⟩, ⟨by repeat (first | (with_reducible first | exact HB.out | apply below_alloc | apply pw_below_drewN | apply below_drew1 | refine below_set ?_ GE421.out) | exact HB.out)⟩⟩
      rw [if_neg c27] at H
      have c27b0 : (a0_0 == 5) = false := beq_eq_false_iff_ne.mpr c27
      have c27b1 : (a0_0 != 5) = true := bne_iff_ne.mpr c27
      (first | rw [c27b0] | (simp only [i64_w, i32_w]; rw [c27b0]) | skip)
      have H' := Aside0.mk H
      clear H
      have hcz29_0 : wc.cell? ⟨gb421, 0, none⟩ = some (.int .i64 a0_0) := (blk_cell BK421.out 0).trans rfl
      have hcz29_1 : wc.cell? ⟨gb421, 1, none⟩ = some (.string a0_1) := (blk_cell BK421.out 1).trans rfl
      have hcz29_2 : wc.cell? ⟨gb421, 2, none⟩ = some (.int .i64 a0_2) := (blk_cell BK421.out 2).trans rfl
      have hcz29_3 : wc.cell? ⟨gb421, 3, none⟩ = some (.int .i64 a0_3) := (blk_cell BK421.out 3).trans rfl
      have hcz29_4 : wc.cell? ⟨gb421, 4, none⟩ = some (.slice A0_4 l0_4.length c0_4) := (blk_cell BK421.out 4).trans rfl
      go_wp2
      repeat (go_quiet (fail); try go_wp2)
      go_meet
      case rel => exact ⟨_, (false), (by first | rfl | (simp; done) | (simp [*]; done)), H', ⟨by have := HJ2.out; have := HJ12.out; first | omega | exact Nat.le_refl _⟩, ⟨by (with_reducible repeat (first | refine blk_drewN ?_ _ | refine blk_drew ?_ | refine blk_alloc ?_ _)); exact BK421.out⟩, ⟨by repeat (first | (with_reducible first | exact HB.out | apply below_alloc | apply pw_below_drewN | apply below_drew1 | refine below_set ?_ GE421.out) | exact HB.out)⟩⟩
     case rest =>
      clear HC26
      try clear c1
      try clear p1
      try clear q1
      try clear hx1
      try clear qi1
      try clear c2
      try clear p2
      try clear c3
      try clear c5
      try clear c5b0
      try clear c8
      try clear c8b0
      try clear c8b1
      try clear c9
      try clear c9b0
      try clear c9b1
      try clear p10
      try clear q10
      try clear hx10
      try clear qi10
      try clear c15
      try clear c15b0
      try clear c15b1
      try clear c18
      try clear c19
      try clear c19b0
      try clear c19b1
      try clear c20
      try clear c20b0
      try clear c20b1
      try clear c21
      try clear c21b0
      try clear c21b1
      try clear c21b2
      try clear c22
      try clear c22b0
      try clear c23
      try clear c23b0
      try clear c24
      try clear c24b0
      try clear c24b1
      try clear c24b2
      try clear c27
      try clear c27b0
      try clear c27b1
      try clear hcz12_0 hcz12_1 hcz12_2 hcz12_3 hcz12_4 hcz14_0 hcz14_1 hcz14_2 hcz14_3 hcz14_4 hcz16_0 hcz16_1 hcz16_2 hcz16_3 hcz16_4 hcz17_0 hcz17_1 hcz17_2 hcz17_3 hcz17_4 hcz25_0 hcz25_1 hcz25_2 hcz25_3 hcz25_4 hcz28_0 hcz28_1 hcz28_2 hcz28_3 hcz28_4 hcz29_0 hcz29_1 hcz29_2 hcz29_3 hcz29_4 hcz6_0 hcz6_1 hcz6_2 hcz6_3 hcz6_4 hcz7_0 hcz7_1 hcz7_2 hcz7_3 hcz7_4
      try clear p1
      try clear p10
      try clear p2
      try clear q1
      try clear q10
      obtain ⟨kq, x42_25, rfl, HA, HJ25, BK421, HB⟩ := hcut
      cases kq with
      | zero => exact absurd HA.out (by simp [spec_Piece.j2])
      | succ kj25 =>
       have H := HA.out
       clear HA
       simp only [spec_Piece.j2] at H
       by_cases c30 : x42_25 = true
       ·
        subst c30
        have H1 : (if 0 ≤ (wrap64 ((a1.size : Int) - a0_3)) then (if (wrap64 ((a1.size : Int) - a0_3)) ≤ (a1.size : Int) then (if (a1.extract 0 ((wrap64 ((a1.size : Int) - a0_3)) : Int).toNat).size + 1 ≤ 9223372036854775807 then (if ((a1.extract 0 ((wrap64 ((a1.size : Int) - a0_3)) : Int).toNat) ++ (⟨#[46]⟩ : ByteArray)).size + (a1.extract ((wrap64 ((a1.size : Int) - a0_3)) : Int).toNat a1.size).size ≤ 9223372036854775807 then (some (((a1.extract 0 ((wrap64 ((a1.size : Int) - a0_3)) : Int).toNat) ++ (⟨#[46]⟩ : ByteArray)) ++ (a1.extract ((wrap64 ((a1.size : Int) - a0_3)) : Int).toNat a1.size))) else (none)) else (none)) else (none)) else (none)) = some r := by rw [if_pos rfl] at H; exact H
        clear H
        have H := H1
        clear H1
        obtain ⟨ji31, hji31⟩ : ∃ j_ : Int, (wrap64 ((a1.size : Int) - a0_3)) = j_ := ⟨_, rfl⟩
        replace H : (if 0 ≤ (ji31) then (if (ji31) ≤ (a1.size : Int) then (if (a1.extract 0 ((ji31) : Int).toNat).size + 1 ≤ 9223372036854775807 then (if ((a1.extract 0 ((ji31) : Int).toNat) ++ (⟨#[46]⟩ : ByteArray)).size + (a1.extract ((ji31) : Int).toNat a1.size).size ≤ 9223372036854775807 then (some (((a1.extract 0 ((ji31) : Int).toNat) ++ (⟨#[46]⟩ : ByteArray)) ++ (a1.extract ((ji31) : Int).toNat a1.size))) else (none)) else (none)) else (none)) else (none)) = some r := by first | (rw [hji31] at H; exact H) | (simp only [hji31] at H ⊢; exact H)
        have hji31w : (IntKind.i64.wrap ((a1.size : Int) - a0_3)) = ji31 := (i64_w _).trans hji31
        by_cases c32 : 0 ≤ (ji31)
        ·
         rw [if_pos c32] at H
         have c32b0 := eq_true c32
         have c32b1 : decide (0 ≤ (ji31)) = true := decide_eq_true c32
         clear c32
         by_cases c33 : (ji31) ≤ (a1.size : Int)
         ·
          rw [if_pos c33] at H
          have c33b0 := eq_true c33
          have c33b1 : decide ((ji31) ≤ (a1.size : Int)) = true := decide_eq_true c33
          clear c33
          by_cases c34 : (a1.extract 0 ((ji31) : Int).toNat).size + 1 ≤ 9223372036854775807
          ·
           rw [if_pos c34] at H
           have c34b0 := eq_true c34
           have c34b1 : decide ((a1.extract 0 ((ji31) : Int).toNat).size + 1 ≤ 9223372036854775807) = true := decide_eq_true c34
           try have c34b2 : (9223372036854775807 < (a1.extract 0 ((ji31) : Int).toNat).size + 1) = False := eq_false (Nat.not_lt.2 c34)
           have c35b0 := eq_true (of_decide_eq_true (by first | (with_reducible assumption) | assumption) : 0 ≤ (ji31))
           have c36b0 := eq_true (of_decide_eq_true (by first | (with_reducible assumption) | assumption) : (ji31) ≤ (a1.size : Int))
           by_cases c37 : ((a1.extract 0 ((ji31) : Int).toNat) ++ (⟨#[46]⟩ : ByteArray)).size + (a1.extract ((ji31) : Int).toNat a1.size).size ≤ 9223372036854775807
           ·
            rw [if_pos c37] at H
            have c37b0 := eq_true c37
            have c37b1 : decide (((a1.extract 0 ((ji31) : Int).toNat) ++ (⟨#[46]⟩ : ByteArray)).size + (a1.extract ((ji31) : Int).toNat a1.size).size ≤ 9223372036854775807) = true := decide_eq_true c37
            try have c37b2 : (9223372036854775807 < ((a1.extract 0 ((ji31) : Int).toNat) ++ (⟨#[46]⟩ : ByteArray)).size + (a1.extract ((ji31) : Int).toNat a1.size).size) = False := eq_false (Nat.not_lt.2 c37)
            have c37z : (9223372036854775807 < (a1.extract 0 ((ji31) : Int).toNat).size + 1 + (a1.extract ((ji31) : Int).toNat a1.size).size) = False := eq_false (Nat.not_lt.2 (by have h_ := c37; simp only [ByteArray.size_append] at h_; exact h_))
            obtain rfl := Option.some.inj H
            have hcz38_0 : wc.cell? ⟨gb421, 0, none⟩ = some (.int .i64 a0_0) := (blk_cell BK421.out 0).trans rfl
            have hcz38_1 : wc.cell? ⟨gb421, 1, none⟩ = some (.string a0_1) := (blk_cell BK421.out 1).trans rfl
            have hcz38_2 : wc.cell? ⟨gb421, 2, none⟩ = some (.int .i64 a0_2) := (blk_cell BK421.out 2).trans rfl
            have hcz38_3 : wc.cell? ⟨gb421, 3, none⟩ = some (.int .i64 a0_3) := (blk_cell BK421.out 3).trans rfl
            have hcz38_4 : wc.cell? ⟨gb421, 4, none⟩ = some (.slice A0_4 l0_4.length c0_4) := (blk_cell BK421.out 4).trans rfl
            have hz_ : (a1.extract 0 (ji31 : Int).toNat).size = (ji31 : Int).toNat := by rw [ByteArray.size_extract]; have h20_ := of_eq_true c33b0; have h19_ := of_eq_true c32b0; omega
            have hz1_ : (9223372036854775807 < (ji31 : Int).toNat + 1) = False := eq_false (by have h_ := c34; rw [hz_] at h_; omega)
            have hz2_ : (9223372036854775807 < (ji31 : Int).toNat + 1 + (a1.size - (ji31 : Int).toNat)) = False := eq_false (by have h_ := c37; rw [ByteArray.size_append, hz_, ByteArray.size_extract] at h_; have hq_ : (⟨#[46]⟩ : ByteArray).size = 1 := rfl; omega)
            clear hz_
            go_wp2
            repeat (go_quiet (fail); try go_wp2)
            go_ret
            exact ⟨by first | rfl | (simp [errW_none, errW_some] <;> rfl) | (simp only [← hji31]; first | rfl | (simp [errW_none, errW_some] <;> rfl)) | (simp [*, errW_none, errW_some] <;> rfl), by repeat (first | (with_reducible first | exact HB.out | apply below_alloc | apply pw_below_drewN | apply below_drew1 | refine below_set ?_ GE421.out) | exact HB.out)⟩
           rw [if_neg c37] at H
           exact absurd H (by simp)
          rw [if_neg c34] at H
          exact absurd H (by simp)
         rw [if_neg c33] at H
         exact absurd H (by simp)
        rw [if_neg c32] at H
        exact absurd H (by simp)
       replace c30 := Bool.eq_false_iff.mpr c30
       subst c30
       have H1 : (if a0_0 = 6 then (spec_Piece.j3 kj25 a1 x5_2 x5_2 a0_0 a0_1 a0_2 a0_3 l0_4) else (spec_Piece.j3 kj25 a1 x5_2 false a0_0 a0_1 a0_2 a0_3 l0_4)) = some r := by rw [if_neg (show ¬ (false = true) by decide)] at H; exact H
       clear H
       have H := H1
       clear H1
       have HC39 := Aside0.mk H
       clear H
       go_upto_region 8 with (fail)
       repeat (go_quiet (fail); go_upto_region 8 with (fail))
       go_cut [65] (fun v65 wc => ∃ (kq : Nat) (x65_38 : Bool), v65 = .bool x65_38 ∧ Aside0 (spec_Piece.j3 kq a1 x5_2 x65_38 a0_0 a0_1 a0_2 a0_3 l0_4 = some r) ∧ Aside0 (kq ≤ kj25) ∧ Aside0 (wc.heap[gb421]? = some (.cells #[.int .i64 a0_0, .string a0_1, .int .i64 a0_2, .int .i64 a0_3, (.slice A0_4 l0_4.length c0_4)] 42 (0, 0))) ∧ Aside0 (Below w.heap.size w wc))
       case first =>
        have H := HC39.out
        clear HC39
        by_cases c40 : a0_0 = 6
        ·
         rw [if_pos c40] at H
         have c40b0 : (a0_0 == 6) = true := beq_iff_eq.mpr c40
         have c40b1 : (a0_0 != 6) = false := bne_eq_false_iff_eq.mpr c40
         clear c40
         (first | rw [c40b0] | (simp only [i64_w, i32_w]; rw [c40b0]) | skip)
         have H' := Aside0.mk H
         clear H
         have hcz41_0 : wc.cell? ⟨gb421, 0, none⟩ = some (.int .i64 a0_0) := (blk_cell BK421.out 0).trans rfl
         have hcz41_1 : wc.cell? ⟨gb421, 1, none⟩ = some (.string a0_1) := (blk_cell BK421.out 1).trans rfl
         have hcz41_2 : wc.cell? ⟨gb421, 2, none⟩ = some (.int .i64 a0_2) := (blk_cell BK421.out 2).trans rfl
         have hcz41_3 : wc.cell? ⟨gb421, 3, none⟩ = some (.int .i64 a0_3) := (blk_cell BK421.out 3).trans rfl
         have hcz41_4 : wc.cell? ⟨gb421, 4, none⟩ = some (.slice A0_4 l0_4.length c0_4) := (blk_cell BK421.out 4).trans rfl
         go_wp2
         repeat (go_quiet (fail); try go_wp2)
         go_meet
         case rel => exact ⟨_, (x5_2), (by first | rfl | (simp; done) | (simp [*]; done)), H', ⟨by have := HJ2.out; have := HJ12.out; have := HJ25.out; first | omega | exact Nat.le_refl _⟩, ⟨by (with_reducible repeat (first | refine blk_drewN ?_ _ | refine blk_drew ?_ | refine blk_alloc ?_ _)); exact BK421.out⟩, ⟨by repeat (first | (with_reducible first | exact HB.out | apply below_alloc | apply pw_below_drewN | apply below_drew1 | refine below_set ?_ GE421.out) | exact HB.out)⟩⟩
        rw [if_neg c40] at H
        have c40b0 : (a0_0 == 6) = false := beq_eq_false_iff_ne.mpr c40
        have c40b1 : (a0_0 != 6) = true := bne_iff_ne.mpr c40
        (first | rw [c40b0] | (simp only [i64_w, i32_w]; rw [c40b0]) | skip)
        have H' := Aside0.mk H
        clear H
        have hcz42_0 : wc.cell? ⟨gb421, 0, none⟩ = some (.int .i64 a0_0) := (blk_cell BK421.out 0).trans rfl
        have hcz42_1 : wc.cell? ⟨gb421, 1, none⟩ = some (.string a0_1) := (blk_cell BK421.out 1).trans rfl
        have hcz42_2 : wc.cell? ⟨gb421, 2, none⟩ = some (.int .i64 a0_2) := (blk_cell BK421.out 2).trans rfl
        have hcz42_3 : wc.cell? ⟨gb421, 3, none⟩ = some (.int .i64 a0_3) := (blk_cell BK421.out 3).trans rfl
        have hcz42_4 : wc.cell? ⟨gb421, 4, none⟩ = some (.slice A0_4 l0_4.length c0_4) := (blk_cell BK421.out 4).trans rfl
        go_wp2
        repeat (go_quiet (fail); try go_wp2)
        go_meet
        case rel => exact ⟨_, (false), (by first | rfl | (simp; done) | (simp [*]; done)), H', ⟨by have := HJ2.out; have := HJ12.out; have := HJ25.out; first | omega | exact Nat.le_refl _⟩, ⟨by (with_reducible repeat (first | refine blk_drewN ?_ _ | refine blk_drew ?_ | refine blk_alloc ?_ _)); exact BK421.out⟩, ⟨by repeat (first | (with_reducible first | exact HB.out | apply below_alloc | apply pw_below_drewN | apply below_drew1 | refine below_set ?_ GE421.out) | exact HB.out)⟩⟩
       case rest =>
        clear HC39
        try clear c1
        try clear p1
        try clear q1
        try clear hx1
        try clear qi1
        try clear c2
        try clear p2
        try clear c3
        try clear c4
        try clear c5
        try clear c5b0
        try clear p6
        try clear c8
        try clear c8b0
        try clear c8b1
        try clear c9
        try clear c9b0
        try clear c9b1
        try clear p10
        try clear q10
        try clear hx10
        try clear qi10
        try clear c15
        try clear c15b0
        try clear c15b1
        try clear c18
        try clear c19
        try clear c19b0
        try clear c19b1
        try clear c20
        try clear c20b0
        try clear c20b1
        try clear c21
        try clear c21b0
        try clear c21b1
        try clear c21b2
        try clear c22
        try clear c22b0
        try clear c23
        try clear c23b0
        try clear c24
        try clear c24b0
        try clear c24b1
        try clear c24b2
        try clear c27
        try clear c27b0
        try clear c27b1
        try clear c30
        try clear c32
        try clear c32b0
        try clear c32b1
        try clear c33
        try clear c33b0
        try clear c33b1
        try clear c34
        try clear c34b0
        try clear c34b1
        try clear c34b2
        try clear c35
        try clear c35b0
        try clear c36
        try clear c36b0
        try clear c37
        try clear c37b0
        try clear c37b1
        try clear c37b2
        try clear c40
        try clear c40b0
        try clear c40b1
        try clear hcz12_0 hcz12_1 hcz12_2 hcz12_3 hcz12_4 hcz14_0 hcz14_1 hcz14_2 hcz14_3 hcz14_4 hcz16_0 hcz16_1 hcz16_2 hcz16_3 hcz16_4 hcz17_0 hcz17_1 hcz17_2 hcz17_3 hcz17_4 hcz25_0 hcz25_1 hcz25_2 hcz25_3 hcz25_4 hcz28_0 hcz28_1 hcz28_2 hcz28_3 hcz28_4 hcz29_0 hcz29_1 hcz29_2 hcz29_3 hcz29_4 hcz38_0 hcz38_1 hcz38_2 hcz38_3 hcz38_4 hcz41_0 hcz41_1 hcz41_2 hcz41_3 hcz41_4 hcz42_0 hcz42_1 hcz42_2 hcz42_3 hcz42_4 hcz6_0 hcz6_1 hcz6_2 hcz6_3 hcz6_4 hcz7_0 hcz7_1 hcz7_2 hcz7_3 hcz7_4
        try clear p1
        try clear p10
        try clear p2
        try clear q1
        try clear q10
        obtain ⟨kq, x65_38, rfl, HA, HJ38, BK421, HB⟩ := hcut
        cases kq with
        | zero => exact absurd HA.out (by simp [spec_Piece.j3])
        | succ kj38 =>
         have H := HA.out
         clear HA
         simp only [spec_Piece.j3] at H
         by_cases c43 : x65_38 = true
         ·
          subst c43
          have H1 : ((spec_slices.f kj38 a1 a0_3 false).bind fun t423 => (some t423)) = some r := by rw [if_pos rfl] at H; exact H
          clear H
          have H := H1
          clear H1
          replace H := Option.bind_eq_some_iff.mp H
          obtain ⟨t423, A440, H⟩ := H
          replace H : (some t423) = some r := H
          have A44 := Aside0.mk A440
          clear A440
          obtain rfl := Option.some.inj H
          have hcz45_0 : wc.cell? ⟨gb421, 0, none⟩ = some (.int .i64 a0_0) := (blk_cell BK421.out 0).trans rfl
          have hcz45_1 : wc.cell? ⟨gb421, 1, none⟩ = some (.string a0_1) := (blk_cell BK421.out 1).trans rfl
          have hcz45_2 : wc.cell? ⟨gb421, 2, none⟩ = some (.int .i64 a0_2) := (blk_cell BK421.out 2).trans rfl
          have hcz45_3 : wc.cell? ⟨gb421, 3, none⟩ = some (.int .i64 a0_3) := (blk_cell BK421.out 3).trans rfl
          have hcz45_4 : wc.cell? ⟨gb421, 4, none⟩ = some (.slice A0_4 l0_4.length c0_4) := (blk_cell BK421.out 4).trans rfl
          go_wp2_with (first | (go_at_call 53; (with_reducible refine (spec_slices.calls kj38 a1 a0_3 false t423 _ A44.out).mono ?_); rintro e w' ⟨rfl, ⟨nd, rfl⟩⟩; (try first | exact ⟨rfl, _, World.drewN_drewN _ _ _⟩ | exact ⟨rfl, _, Eq.trans (World.drewN_drewN _ _ _) (congrArg (World.drewN _) (Nat.add_assoc _ _ _))⟩)))
          repeat (go_quiet (first | (go_at_call 53; (with_reducible refine (spec_slices.calls kj38 a1 a0_3 false t423 _ A44.out).mono ?_); rintro e w' ⟨rfl, ⟨nd, rfl⟩⟩; (try first | exact ⟨rfl, _, World.drewN_drewN _ _ _⟩ | exact ⟨rfl, _, Eq.trans (World.drewN_drewN _ _ _) (congrArg (World.drewN _) (Nat.add_assoc _ _ _))⟩))); try go_wp2_with (first | (go_at_call 53; (with_reducible refine (spec_slices.calls kj38 a1 a0_3 false t423 _ A44.out).mono ?_); rintro e w' ⟨rfl, ⟨nd, rfl⟩⟩; (try first | exact ⟨rfl, _, World.drewN_drewN _ _ _⟩ | exact ⟨rfl, _, Eq.trans (World.drewN_drewN _ _ _) (congrArg (World.drewN _) (Nat.add_assoc _ _ _))⟩))))
          go_ret
          exact ⟨by first | rfl | (simp [errW_none, errW_some] <;> rfl) | (simp [*, errW_none, errW_some] <;> rfl), by repeat (first | (with_reducible first | exact HB.out | apply below_alloc | apply pw_below_drewN | apply below_drew1 | refine below_set ?_ GE421.out) | exact HB.out)⟩
         replace c43 := Bool.eq_false_iff.mpr c43
         subst c43
         have H1 : (if a0_0 = 7 then (spec_Piece.j4 kj38 a1 x5_2 x5_2 a0_0 a0_1 a0_2 a0_3 l0_4) else (spec_Piece.j4 kj38 a1 x5_2 false a0_0 a0_1 a0_2 a0_3 l0_4)) = some r := by rw [if_neg (show ¬ (false = true) by decide)] at H; exact H
         clear H
         have H := H1
         clear H1
         have HC46 := Aside0.mk H
         clear H
         go_upto_region 10 with (fail)
         repeat (go_quiet (fail); go_upto_region 10 with (fail))
         go_cut [76] (fun v76 wc => ∃ (kq : Nat) (x76_45 : Bool), v76 = .bool x76_45 ∧ Aside0 (spec_Piece.j4 kq a1 x5_2 x76_45 a0_0 a0_1 a0_2 a0_3 l0_4 = some r) ∧ Aside0 (kq ≤ kj38) ∧ Aside0 (wc.heap[gb421]? = some (.cells #[.int .i64 a0_0, .string a0_1, .int .i64 a0_2, .int .i64 a0_3, (.slice A0_4 l0_4.length c0_4)] 42 (0, 0))) ∧ Aside0 (Below w.heap.size w wc))
         case first =>
          have H := HC46.out
          clear HC46
          by_cases c47 : a0_0 = 7
          ·
           rw [if_pos c47] at H
           have c47b0 : (a0_0 == 7) = true := beq_iff_eq.mpr c47
           have c47b1 : (a0_0 != 7) = false := bne_eq_false_iff_eq.mpr c47
           clear c47
           (first | rw [c47b0] | (simp only [i64_w, i32_w]; rw [c47b0]) | skip)
           have H' := Aside0.mk H
           clear H
           have hcz48_0 : wc.cell? ⟨gb421, 0, none⟩ = some (.int .i64 a0_0) := (blk_cell BK421.out 0).trans rfl
           have hcz48_1 : wc.cell? ⟨gb421, 1, none⟩ = some (.string a0_1) := (blk_cell BK421.out 1).trans rfl
           have hcz48_2 : wc.cell? ⟨gb421, 2, none⟩ = some (.int .i64 a0_2) := (blk_cell BK421.out 2).trans rfl
           have hcz48_3 : wc.cell? ⟨gb421, 3, none⟩ = some (.int .i64 a0_3) := (blk_cell BK421.out 3).trans rfl
           have hcz48_4 : wc.cell? ⟨gb421, 4, none⟩ = some (.slice A0_4 l0_4.length c0_4) := (blk_cell BK421.out 4).trans rfl
           go_wp2
           repeat (go_quiet (fail); try go_wp2)
           go_meet
           case rel => exact ⟨_, (x5_2), (by first | rfl | (simp; done) | (simp [*]; done)), H', ⟨by have := HJ2.out; have := HJ12.out; have := HJ25.out; have := HJ38.out; first | omega | exact Nat.le_refl _⟩, ⟨by (with_reducible repeat (first | refine blk_drewN ?_ _ | refine blk_drew ?_ | refine blk_alloc ?_ _)); exact BK421.out⟩, ⟨by repeat (first | (with_reducible first | exact HB.out | apply below_alloc | apply pw_below_drewN | apply below_drew1 | refine below_set ?_ GE421.out) | exact HB.out)⟩⟩
          rw [if_neg c47] at H
          have c47b0 : (a0_0 == 7) = false := beq_eq_false_iff_ne.mpr c47
          have c47b1 : (a0_0 != 7) = true := bne_iff_ne.mpr c47
          (first | rw [c47b0] | (simp only [i64_w, i32_w]; rw [c47b0]) | skip)
          have H' := Aside0.mk H
          clear H
          have hcz49_0 : wc.cell? ⟨gb421, 0, none⟩ = some (.int .i64 a0_0) := (blk_cell BK421.out 0).trans rfl
          have hcz49_1 : wc.cell? ⟨gb421, 1, none⟩ = some (.string a0_1) := (blk_cell BK421.out 1).trans rfl
          have hcz49_2 : wc.cell? ⟨gb421, 2, none⟩ = some (.int .i64 a0_2) := (blk_cell BK421.out 2).trans rfl
          have hcz49_3 : wc.cell? ⟨gb421, 3, none⟩ = some (.int .i64 a0_3) := (blk_cell BK421.out 3).trans rfl
          have hcz49_4 : wc.cell? ⟨gb421, 4, none⟩ = some (.slice A0_4 l0_4.length c0_4) := (blk_cell BK421.out 4).trans rfl
          go_wp2
          repeat (go_quiet (fail); try go_wp2)
          go_meet
          case rel => exact ⟨_, (false), (by first | rfl | (simp; done) | (simp [*]; done)), H', ⟨by have := HJ2.out; have := HJ12.out; have := HJ25.out; have := HJ38.out; first | omega | exact Nat.le_refl _⟩, ⟨by (with_reducible repeat (first | refine blk_drewN ?_ _ | refine blk_drew ?_ | refine blk_alloc ?_ _)); exact BK421.out⟩, ⟨by repeat (first | (with_reducible first | exact HB.out | apply below_alloc | apply pw_below_drewN | apply below_drew1 | refine below_set ?_ GE421.out) | exact HB.out)⟩⟩
         case rest =>
          clear HC46
          try clear c1
          try clear p1
          try clear q1
          try clear hx1
          try clear qi1
          try clear c2
          try clear p2
          try clear c3
          try clear c4
          try clear c5
          try clear c5b0
          try clear p6
          try clear c8
          try clear c8b0
          try clear c8b1
          try clear c9
          try clear c9b0
          try clear c9b1
          try clear p10
          try clear q10
          try clear hx10
          try clear qi10
          try clear c15
          try clear c15b0
          try clear c15b1
          try clear c18
          try clear c19
          try clear c19b0
          try clear c19b1
          try clear c20
          try clear c20b0
          try clear c20b1
          try clear c21
          try clear c21b0
          try clear c21b1
          try clear c21b2
          try clear c22
          try clear c22b0
          try clear c23
          try clear c23b0
          try clear c24
          try clear c24b0
          try clear c24b1
          try clear c24b2
          try clear c27
          try clear c27b0
          try clear c27b1
          try clear c30
          try clear c32
          try clear c32b0
          try clear c32b1
          try clear c33
          try clear c33b0
          try clear c33b1
          try clear c34
          try clear c34b0
          try clear c34b1
          try clear c34b2
          try clear c35
          try clear c35b0
          try clear c36
          try clear c36b0
          try clear c37
          try clear c37b0
          try clear c37b1
          try clear c37b2
          try clear c40
          try clear c40b0
          try clear c40b1
          try clear c43
          try clear c47
          try clear c47b0
          try clear c47b1
          try clear hcz12_0 hcz12_1 hcz12_2 hcz12_3 hcz12_4 hcz14_0 hcz14_1 hcz14_2 hcz14_3 hcz14_4 hcz16_0 hcz16_1 hcz16_2 hcz16_3 hcz16_4 hcz17_0 hcz17_1 hcz17_2 hcz17_3 hcz17_4 hcz25_0 hcz25_1 hcz25_2 hcz25_3 hcz25_4 hcz28_0 hcz28_1 hcz28_2 hcz28_3 hcz28_4 hcz29_0 hcz29_1 hcz29_2 hcz29_3 hcz29_4 hcz38_0 hcz38_1 hcz38_2 hcz38_3 hcz38_4 hcz41_0 hcz41_1 hcz41_2 hcz41_3 hcz41_4 hcz42_0 hcz42_1 hcz42_2 hcz42_3 hcz42_4 hcz45_0 hcz45_1 hcz45_2 hcz45_3 hcz45_4 hcz48_0 hcz48_1 hcz48_2 hcz48_3 hcz48_4 hcz49_0 hcz49_1 hcz49_2 hcz49_3 hcz49_4 hcz6_0 hcz6_1 hcz6_2 hcz6_3 hcz6_4 hcz7_0 hcz7_1 hcz7_2 hcz7_3 hcz7_4
          try clear p1
          try clear p10
          try clear p2
          try clear p6
          try clear q1
          try clear q10
          obtain ⟨kq, x76_45, rfl, HA, HJ45, BK421, HB⟩ := hcut
          cases kq with
          | zero => exact absurd HA.out (by simp [spec_Piece.j4])
          | succ kj45 =>
           have H := HA.out
           clear HA
           simp only [spec_Piece.j4] at H
           by_cases c50 : x76_45 = true
           ·
            subst c50
            have H1 : ((spec_slices.f kj45 a1 a0_3 true).bind fun t424 => (some t424)) = some r := by rw [if_pos rfl] at H; exact H
            clear H
            have H := H1
            clear H1
            replace H := Option.bind_eq_some_iff.mp H
            obtain ⟨t424, A510, H⟩ := H
            replace H : (some t424) = some r := H
            have A51 := Aside0.mk A510
            clear A510
            obtain rfl := Option.some.inj H
            have hcz52_0 : wc.cell? ⟨gb421, 0, none⟩ = some (.int .i64 a0_0) := (blk_cell BK421.out 0).trans rfl
            have hcz52_1 : wc.cell? ⟨gb421, 1, none⟩ = some (.string a0_1) := (blk_cell BK421.out 1).trans rfl
            have hcz52_2 : wc.cell? ⟨gb421, 2, none⟩ = some (.int .i64 a0_2) := (blk_cell BK421.out 2).trans rfl
            have hcz52_3 : wc.cell? ⟨gb421, 3, none⟩ = some (.int .i64 a0_3) := (blk_cell BK421.out 3).trans rfl
            have hcz52_4 : wc.cell? ⟨gb421, 4, none⟩ = some (.slice A0_4 l0_4.length c0_4) := (blk_cell BK421.out 4).trans rfl
            go_wp2_with (first | (go_at_call 53; (with_reducible refine (spec_slices.calls kj45 a1 a0_3 true t424 _ A51.out).mono ?_); rintro e w' ⟨rfl, ⟨nd, rfl⟩⟩; (try first | exact ⟨rfl, _, World.drewN_drewN _ _ _⟩ | exact ⟨rfl, _, Eq.trans (World.drewN_drewN _ _ _) (congrArg (World.drewN _) (Nat.add_assoc _ _ _))⟩)))
            repeat (go_quiet (first | (go_at_call 53; (with_reducible refine (spec_slices.calls kj45 a1 a0_3 true t424 _ A51.out).mono ?_); rintro e w' ⟨rfl, ⟨nd, rfl⟩⟩; (try first | exact ⟨rfl, _, World.drewN_drewN _ _ _⟩ | exact ⟨rfl, _, Eq.trans (World.drewN_drewN _ _ _) (congrArg (World.drewN _) (Nat.add_assoc _ _ _))⟩))); try go_wp2_with (first | (go_at_call 53; (with_reducible refine (spec_slices.calls kj45 a1 a0_3 true t424 _ A51.out).mono ?_); rintro e w' ⟨rfl, ⟨nd, rfl⟩⟩; (try first | exact ⟨rfl, _, World.drewN_drewN _ _ _⟩ | exact ⟨rfl, _, Eq.trans (World.drewN_drewN _ _ _) (congrArg (World.drewN _) (Nat.add_assoc _ _ _))⟩))))
            go_ret
            exact ⟨by first | rfl | (simp [errW_none, errW_some] <;> rfl) | (simp [*, errW_none, errW_some] <;> rfl), by repeat (first | (with_reducible first | exact HB.out | apply below_alloc | apply pw_below_drewN | apply below_drew1 | refine below_set ?_ GE421.out) | exact HB.out)⟩
           replace c50 := Bool.eq_false_iff.mpr c50
           subst c50
           have H1 : (if a0_0 = 8 then (spec_Piece.j5 kj45 a1 x5_2 x5_2 a0_0 a0_1 a0_2 a0_3 l0_4) else (spec_Piece.j5 kj45 a1 x5_2 false a0_0 a0_1 a0_2 a0_3 l0_4)) = some r := by rw [if_neg (show ¬ (false = true) by decide)] at H; exact H
           clear H
           have H := H1
           clear H1
           have HC53 := Aside0.mk H
           clear H
           go_upto_region 12 with (fail)
           repeat (go_quiet (fail); go_upto_region 12 with (fail))
           go_cut [87] (fun v87 wc => ∃ (kq : Nat) (x87_52 : Bool), v87 = .bool x87_52 ∧ Aside0 (spec_Piece.j5 kq a1 x5_2 x87_52 a0_0 a0_1 a0_2 a0_3 l0_4 = some r) ∧ Aside0 (kq ≤ kj45) ∧ Aside0 (wc.heap[gb421]? = some (.cells #[.int .i64 a0_0, .string a0_1, .int .i64 a0_2, .int .i64 a0_3, (.slice A0_4 l0_4.length c0_4)] 42 (0, 0))) ∧ Aside0 (Below w.heap.size w wc))
           case first =>
            have H := HC53.out
            clear HC53
            by_cases c54 : a0_0 = 8
            ·
             rw [if_pos c54] at H
             have c54b0 : (a0_0 == 8) = true := beq_iff_eq.mpr c54
             have c54b1 : (a0_0 != 8) = false := bne_eq_false_iff_eq.mpr c54
             clear c54
             (first | rw [c54b0] | (simp only [i64_w, i32_w]; rw [c54b0]) | skip)
             have H' := Aside0.mk H
             clear H
             have hcz55_0 : wc.cell? ⟨gb421, 0, none⟩ = some (.int .i64 a0_0) := (blk_cell BK421.out 0).trans rfl
             have hcz55_1 : wc.cell? ⟨gb421, 1, none⟩ = some (.string a0_1) := (blk_cell BK421.out 1).trans rfl
             have hcz55_2 : wc.cell? ⟨gb421, 2, none⟩ = some (.int .i64 a0_2) := (blk_cell BK421.out 2).trans rfl
             have hcz55_3 : wc.cell? ⟨gb421, 3, none⟩ = some (.int .i64 a0_3) := (blk_cell BK421.out 3).trans rfl
             have hcz55_4 : wc.cell? ⟨gb421, 4, none⟩ = some (.slice A0_4 l0_4.length c0_4) := (blk_cell BK421.out 4).trans rfl
             go_wp2
             repeat (go_quiet (fail); try go_wp2)
             go_meet
             case rel => exact ⟨_, (x5_2), (by first | rfl | (simp; done) | (simp [*]; done)), H', ⟨by have := HJ2.out; have := HJ12.out; have := HJ25.out; have := HJ38.out; have := HJ45.out; first | omega | exact Nat.le_refl _⟩, ⟨by (with_reducible repeat (first | refine blk_drewN ?_ _ | refine blk_drew ?_ | refine blk_alloc ?_ _)); exact BK421.out⟩, ⟨by repeat (first | (with_reducible first | exact HB.out | apply below_alloc | apply pw_below_drewN | apply below_drew1 | refine below_set ?_ GE421.out) | exact HB.out)⟩⟩
            rw [if_neg c54] at H
            have c54b0 : (a0_0 == 8) = false := beq_eq_false_iff_ne.mpr c54
            have c54b1 : (a0_0 != 8) = true := bne_iff_ne.mpr c54
            (first | rw [c54b0] | (simp only [i64_w, i32_w]; rw [c54b0]) | skip)
            have H' := Aside0.mk H
            clear H
            have hcz56_0 : wc.cell? ⟨gb421, 0, none⟩ = some (.int .i64 a0_0) := (blk_cell BK421.out 0).trans rfl
            have hcz56_1 : wc.cell? ⟨gb421, 1, none⟩ = some (.string a0_1) := (blk_cell BK421.out 1).trans rfl
            have hcz56_2 : wc.cell? ⟨gb421, 2, none⟩ = some (.int .i64 a0_2) := (blk_cell BK421.out 2).trans rfl
            have hcz56_3 : wc.cell? ⟨gb421, 3, none⟩ = some (.int .i64 a0_3) := (blk_cell BK421.out 3).trans rfl
            have hcz56_4 : wc.cell? ⟨gb421, 4, none⟩ = some (.slice A0_4 l0_4.length c0_4) := (blk_cell BK421.out 4).trans rfl
            go_wp2
            repeat (go_quiet (fail); try go_wp2)
            go_meet
            case rel => exact ⟨_, (false), (by first | rfl | (simp; done) | (simp [*]; done)), H', ⟨by have := HJ2.out; have := HJ12.out; have := HJ25.out; have := HJ38.out; have := HJ45.out; first | omega | exact Nat.le_refl _⟩, ⟨by (with_reducible repeat (first | refine blk_drewN ?_ _ | refine blk_drew ?_ | refine blk_alloc ?_ _)); exact BK421.out⟩, ⟨by repeat (first | (with_reducible first | exact HB.out | apply below_alloc | apply pw_below_drewN | apply below_drew1 | refine below_set ?_ GE421.out) | exact HB.out)⟩⟩
           case rest =>
            clear HC53
            try clear c1
            try clear p1
            try clear q1
            try clear hx1
            try clear qi1
            try clear c2
            try clear p2
            try clear c3
            try clear c4
            try clear c5
            try clear c5b0
            try clear p6
            try clear c8
            try clear c8b0
            try clear c8b1
            try clear c9
            try clear c9b0
            try clear c9b1
            try clear p10
            try clear q10
            try clear hx10
            try clear qi10
            try clear c15
            try clear c15b0
            try clear c15b1
            try clear c18
            try clear c19
            try clear c19b0
            try clear c19b1
            try clear c20
            try clear c20b0
            try clear c20b1
            try clear c21
            try clear c21b0
            try clear c21b1
            try clear c21b2
            try clear c22
            try clear c22b0
            try clear c23
            try clear c23b0
            try clear c24
            try clear c24b0
            try clear c24b1
            try clear c24b2
            try clear c27
            try clear c27b0
            try clear c27b1
            try clear c30
            try clear c32
            try clear c32b0
            try clear c32b1
            try clear c33
            try clear c33b0
            try clear c33b1
            try clear c34
            try clear c34b0
            try clear c34b1
            try clear c34b2
            try clear c35
            try clear c35b0
            try clear c36
            try clear c36b0
            try clear c37
            try clear c37b0
            try clear c37b1
            try clear c37b2
            try clear c40
            try clear c40b0
            try clear c40b1
            try clear c43
            try clear c47
            try clear c47b0
            try clear c47b1
            try clear c50
            try clear c54
            try clear c54b0
            try clear c54b1
            try clear hcz12_0 hcz12_1 hcz12_2 hcz12_3 hcz12_4 hcz14_0 hcz14_1 hcz14_2 hcz14_3 hcz14_4 hcz16_0 hcz16_1 hcz16_2 hcz16_3 hcz16_4 hcz17_0 hcz17_1 hcz17_2 hcz17_3 hcz17_4 hcz25_0 hcz25_1 hcz25_2 hcz25_3 hcz25_4 hcz28_0 hcz28_1 hcz28_2 hcz28_3 hcz28_4 hcz29_0 hcz29_1 hcz29_2 hcz29_3 hcz29_4 hcz38_0 hcz38_1 hcz38_2 hcz38_3 hcz38_4 hcz41_0 hcz41_1 hcz41_2 hcz41_3 hcz41_4 hcz42_0 hcz42_1 hcz42_2 hcz42_3 hcz42_4 hcz45_0 hcz45_1 hcz45_2 hcz45_3 hcz45_4 hcz48_0 hcz48_1 hcz48_2 hcz48_3 hcz48_4 hcz49_0 hcz49_1 hcz49_2 hcz49_3 hcz49_4 hcz52_0 hcz52_1 hcz52_2 hcz52_3 hcz52_4 hcz55_0 hcz55_1 hcz55_2 hcz55_3 hcz55_4 hcz56_0 hcz56_1 hcz56_2 hcz56_3 hcz56_4 hcz6_0 hcz6_1 hcz6_2 hcz6_3 hcz6_4 hcz7_0 hcz7_1 hcz7_2 hcz7_3 hcz7_4
            try clear p1
            try clear p10
            try clear p2
            try clear p6
            try clear q1
            try clear q10
            obtain ⟨kq, x87_52, rfl, HA, HJ52, BK421, HB⟩ := hcut
            cases kq with
            | zero => exact absurd HA.out (by simp [spec_Piece.j5])
            | succ kj52 =>
             have H := HA.out
             clear HA
             simp only [spec_Piece.j5] at H
             by_cases c57 : x87_52 = true
             ·
              subst c57
              have H1 : (if 0 ≤ a0_3 then (if a0_3 ≤ (a1.size : Int) then (some (a1.extract 0 (a0_3 : Int).toNat)) else (none)) else (none)) = some r := by rw [if_pos rfl] at H; exact H
              clear H
              have H := H1
              clear H1
              by_cases c58 : 0 ≤ a0_3
              ·
               rw [if_pos c58] at H
               have c58b0 := eq_true c58
               have c58b1 : decide (0 ≤ a0_3) = true := decide_eq_true c58
               clear c58
               by_cases c59 : a0_3 ≤ (a1.size : Int)
               ·
                rw [if_pos c59] at H
                have c59b0 := eq_true c59
                have c59b1 : decide (a0_3 ≤ (a1.size : Int)) = true := decide_eq_true c59
                clear c59
                obtain rfl := Option.some.inj H
                have hcz60_0 : wc.cell? ⟨gb421, 0, none⟩ = some (.int .i64 a0_0) := (blk_cell BK421.out 0).trans rfl
                have hcz60_1 : wc.cell? ⟨gb421, 1, none⟩ = some (.string a0_1) := (blk_cell BK421.out 1).trans rfl
                have hcz60_2 : wc.cell? ⟨gb421, 2, none⟩ = some (.int .i64 a0_2) := (blk_cell BK421.out 2).trans rfl
                have hcz60_3 : wc.cell? ⟨gb421, 3, none⟩ = some (.int .i64 a0_3) := (blk_cell BK421.out 3).trans rfl
                have hcz60_4 : wc.cell? ⟨gb421, 4, none⟩ = some (.slice A0_4 l0_4.length c0_4) := (blk_cell BK421.out 4).trans rfl
                go_wp2
                repeat (go_quiet (fail); try go_wp2)
                go_ret
                exact ⟨by first | rfl | (simp [errW_none, errW_some] <;> rfl) | (simp [*, errW_none, errW_some] <;> rfl), by repeat (first | (with_reducible first | exact HB.out | apply below_alloc | apply pw_below_drewN | apply below_drew1 | refine below_set ?_ GE421.out) | exact HB.out)⟩
               rw [if_neg c59] at H
               exact absurd H (by simp)
              rw [if_neg c58] at H
              exact absurd H (by simp)
             replace c57 := Bool.eq_false_iff.mpr c57
             subst c57
             have H1 : (if a0_0 = 9 then (if x5_2 = true then (if 0 ≤ (wrap64 ((a1.size : Int) - a0_3)) then (if (wrap64 ((a1.size : Int) - a0_3)) ≤ (a1.size : Int) then (some (a1.extract ((wrap64 ((a1.size : Int) - a0_3)) : Int).toNat a1.size)) else (none)) else (none)) else (some a1)) else (some a1)) = some r := by rw [if_neg (show ¬ (false = true) by decide)] at H; exact H
             clear H
             have H := H1
             clear H1
             by_cases c61 : a0_0 = 9
             ·
              rw [if_pos c61] at H
              have c61b0 : (a0_0 == 9) = true := beq_iff_eq.mpr c61
              have c61b1 : (a0_0 != 9) = false := bne_eq_false_iff_eq.mpr c61
              clear c61
              by_cases c62 : x5_2 = true
              ·
               subst c62
               have H1 : (if 0 ≤ (wrap64 ((a1.size : Int) - a0_3)) then (if (wrap64 ((a1.size : Int) - a0_3)) ≤ (a1.size : Int) then (some (a1.extract ((wrap64 ((a1.size : Int) - a0_3)) : Int).toNat a1.size)) else (none)) else (none)) = some r := by rw [if_pos rfl] at H; exact H
               clear H
               have H := H1
               clear H1
               obtain ⟨ji63, hji63⟩ : ∃ j_ : Int, (wrap64 ((a1.size : Int) - a0_3)) = j_ := ⟨_, rfl⟩
               replace H : (if 0 ≤ (ji63) then (if (ji63) ≤ (a1.size : Int) then (some (a1.extract ((ji63) : Int).toNat a1.size)) else (none)) else (none)) = some r := by first | (rw [hji63] at H; exact H) | (simp only [hji63] at H ⊢; exact H)
               have hji63w : (IntKind.i64.wrap ((a1.size : Int) - a0_3)) = ji63 := (i64_w _).trans hji63
               by_cases c64 : 0 ≤ (ji63)
               ·
                rw [if_pos c64] at H
                have c64b0 := eq_true c64
                have c64b1 : decide (0 ≤ (ji63)) = true := decide_eq_true c64
                clear c64
                by_cases c65 : (ji63) ≤ (a1.size : Int)
                ·
                 rw [if_pos c65] at H
                 have c65b0 := eq_true c65
                 have c65b1 : decide ((ji63) ≤ (a1.size : Int)) = true := decide_eq_true c65
                 clear c65
                 obtain rfl := Option.some.inj H
                 have hcz66_0 : wc.cell? ⟨gb421, 0, none⟩ = some (.int .i64 a0_0) := (blk_cell BK421.out 0).trans rfl
                 have hcz66_1 : wc.cell? ⟨gb421, 1, none⟩ = some (.string a0_1) := (blk_cell BK421.out 1).trans rfl
                 have hcz66_2 : wc.cell? ⟨gb421, 2, none⟩ = some (.int .i64 a0_2) := (blk_cell BK421.out 2).trans rfl
                 have hcz66_3 : wc.cell? ⟨gb421, 3, none⟩ = some (.int .i64 a0_3) := (blk_cell BK421.out 3).trans rfl
                 have hcz66_4 : wc.cell? ⟨gb421, 4, none⟩ = some (.slice A0_4 l0_4.length c0_4) := (blk_cell BK421.out 4).trans rfl
                 go_wp2
                 repeat (go_quiet (fail); try go_wp2)
                 go_ret
                 exact ⟨by first | rfl | (simp [errW_none, errW_some] <;> rfl) | (simp only [← hji63]; first | rfl | (simp [errW_none, errW_some] <;> rfl)) | (simp [*, errW_none, errW_some] <;> rfl), by repeat (first | (with_reducible first | exact HB.out | apply below_alloc | apply pw_below_drewN | apply below_drew1 | refine below_set ?_ GE421.out) | exact HB.out)⟩
                rw [if_neg c65] at H
                exact absurd H (by simp)
               rw [if_neg c64] at H
               exact absurd H (by simp)
              replace c62 := Bool.eq_false_iff.mpr c62
              subst c62
              have H1 : (some a1) = some r := by rw [if_neg (show ¬ (false = true) by decide)] at H; exact H
              clear H
              have H := H1
              clear H1
              obtain rfl := Option.some.inj H
              have hcz67_0 : wc.cell? ⟨gb421, 0, none⟩ = some (.int .i64 a0_0) := (blk_cell BK421.out 0).trans rfl
              have hcz67_1 : wc.cell? ⟨gb421, 1, none⟩ = some (.string a0_1) := (blk_cell BK421.out 1).trans rfl
              have hcz67_2 : wc.cell? ⟨gb421, 2, none⟩ = some (.int .i64 a0_2) := (blk_cell BK421.out 2).trans rfl
              have hcz67_3 : wc.cell? ⟨gb421, 3, none⟩ = some (.int .i64 a0_3) := (blk_cell BK421.out 3).trans rfl
              have hcz67_4 : wc.cell? ⟨gb421, 4, none⟩ = some (.slice A0_4 l0_4.length c0_4) := (blk_cell BK421.out 4).trans rfl
              go_wp2
              repeat (go_quiet (fail); try go_wp2)
              go_ret
              exact ⟨by first | rfl | (simp [errW_none, errW_some] <;> rfl) | (simp [*, errW_none, errW_some] <;> rfl), by repeat (first | (with_reducible first | exact HB.out | apply below_alloc | apply pw_below_drewN | apply below_drew1 | refine below_set ?_ GE421.out) | exact HB.out)⟩
             rw [if_neg c61] at H
             have c61b0 : (a0_0 == 9) = false := beq_eq_false_iff_ne.mpr c61
             have c61b1 : (a0_0 != 9) = true := bne_iff_ne.mpr c61
             obtain rfl := Option.some.inj H
             have hcz68_0 : wc.cell? ⟨gb421, 0, none⟩ = some (.int .i64 a0_0) := (blk_cell BK421.out 0).trans rfl
             have hcz68_1 : wc.cell? ⟨gb421, 1, none⟩ = some (.string a0_1) := (blk_cell BK421.out 1).trans rfl
             have hcz68_2 : wc.cell? ⟨gb421, 2, none⟩ = some (.int .i64 a0_2) := (blk_cell BK421.out 2).trans rfl
             have hcz68_3 : wc.cell? ⟨gb421, 3, none⟩ = some (.int .i64 a0_3) := (blk_cell BK421.out 3).trans rfl
             have hcz68_4 : wc.cell? ⟨gb421, 4, none⟩ = some (.slice A0_4 l0_4.length c0_4) := (blk_cell BK421.out 4).trans rfl
             go_wp2
             repeat (go_quiet (fail); try go_wp2)
             go_ret
             exact ⟨by first | rfl | (simp [errW_none, errW_some] <;> rfl) | (simp [*, errW_none, errW_some] <;> rfl), by repeat (first | (with_reducible first | exact HB.out | apply below_alloc | apply pw_below_drewN | apply below_drew1 | refine below_set ?_ GE421.out) | exact HB.out)⟩
end Go.Proofs.YtoopmpjgmgffoaaDoor.GFnTransformBack
