/- A walk of Go functions (plain functions of theirs, and that the machine's calls do what these say), written by a program of this session's. -/
import Derived.Test.YtnkioieocjgekaaDoorGFnProtoFieldx0
import Derived.Test.YtnkioieocjgekaaDoorGFnProtoFieldx1
namespace Go.Proofs.YtnkioieocjgekaaDoor.GFnProtoField
open Go.RowKit Go.Proofs.YtnkioieocjgekaaDoorW.PrintWords Go.Proofs.YtnkioieocjgekaaDoorW.PrintLast Go.Proofs.YtnkioieocjgekaaDoorW.PrintMore
attribute [local go_sem] max2_int min2_int max_two min_two max_three min_three max_four min_four   -- for this text's walks alone
set_option linter.unusedVariables false
set_option linter.unusedSimpArgs false

variable {E : Int → TypeId × Value}
/-! ### server_ScanVarint: function 22 -/
def server_ScanVarint.f (l0 : List Int) : Option (Int × Int × Option Int) := (server_protoScanVarint.f l0).bind fun bt111 => (some (bt111.1, bt111.2.1, bt111.2.2))
set_option maxHeartbeats 8000000 in
set_option maxRecDepth 100000 in
theorem server_ScanVarint.calls (A0 : Option Addr) (c0 : Nat) (l0 : List Int) (r1 : Int) (r2 : Int) (r3 : Option Int) (w : World) (hr0 : Kd.C (Kd.int .u8) w A0 l0.length l0) (hc0 : l0.length ≤ c0) (hG : GlE E w) (h : server_ScanVarint.f l0 = some (r1, r2, r3)) :
    Calls Tryd.prog 22 #[.slice A0 l0.length c0] w fun e w' => e = .returned (.tuple #[.int .u64 r1, .int .i64 r2, errW E r3]) ∧ Drawn0 w w' := by
  have HG := Aside0.mk hG
  clear hG
  have HR0 := Aside0.mk hr0
  have HC0 := Aside0.mk hc0
  clear hr0 hc0
  have H : ((server_protoScanVarint.f l0).bind fun bt111 => (some (bt111.1, bt111.2.1, bt111.2.2))) = some (r1, r2, r3) := h
  clear h
  replace H := Option.bind_eq_some_iff.mp H
  obtain ⟨⟨t111, t112, t113⟩, A20, H⟩ := H
  replace H : (some (t111, t112, t113)) = some (r1, r2, r3) := H
  have A2 := Aside0.mk A20
  clear A20
  simp only [Option.some.injEq, Prod.mk.injEq] at H
  obtain ⟨rfl, rfl, rfl⟩ := H
  go_enter Tryd.func22, Tryd.ntmps22
  go_wp2_with (first | ((with_reducible refine gate_callee (f := 28) rfl ?_); refine goesL_ (some 6) rfl rfl Tryd.func28 (by kernel_rfl) rfl #[.slice A0 l0.length c0] rfl (by (try simp only [List.map_toArray, List.map_cons, List.map_nil]); first | done | rfl | (simp only [List.length_drop, List.length_take]; rfl)) ?_; (with_reducible refine (server_protoScanVarint.calls _ _ l0 t111 t112 t113 _ ?side1 ?side2 (by first | exact HG.out | exact GlE.below HG.out HB.out | exact (by repeat (first | exact HG.out | exact GlE.below HG.out HB.out | apply GlE.drewN | apply GlE.drew | apply GlE.alloc))) A2.out).mono ?_); (case side1 => repeat (first | exact HR0.out | (with_reducible refine Kd.C_alloc ?_ _) | (with_reducible refine Kd.C_drewN ?_ _) | (with_reducible refine Kd.C_drew ?_))); (case side2 => exact HC0.out); rintro e w' ⟨rfl, ⟨nd, rfl⟩⟩; refine ⟨_, rfl, ?_⟩; (try simp only [errW_none, errW_some])))
  go_ret3
  exact ⟨by first | rfl | (simp; done) | (simp [*]; done), by repeat (first | exact Drawn0.refl _ | apply Drawn0.step)⟩

/-! ### impl_one: function 23 -/
def impl_one.f (a0 : Option Int) : Option (Int) := if a0.isNone = true then (some 0) else (some 1)
set_option maxHeartbeats 8000000 in
set_option maxRecDepth 100000 in
theorem impl_one.calls (a0 : Option Int) (r : Int) (w : World) (hG : GlE E w) (h : impl_one.f a0 = some r) :
    Calls Tryd.prog 23 #[errW E a0] w fun e w' => e = .returned (.int .i64 r) ∧ Drawn0 w w' := by
  have HG := Aside0.mk hG
  clear hG
  have hu45 := Tryd.underlying45
  have H : (if a0.isNone = true then (some 0) else (some 1)) = some r := h
  clear h
  rcases a0 with _ | q114
  · have H1 : (some 0) = some r := by rw [if_pos (show (none : Option Int).isNone = true by rfl)] at H; exact H
    clear H
    have H := H1
    clear H1
    simp only [errW_none, errW_some]
    obtain rfl := Option.some.inj H
    go_enter Tryd.func23, Tryd.ntmps23
    go_wp2
    go_ret
    exact ⟨by first | rfl | (simp; done) | (simp [*]; done), by repeat (first | exact Drawn0.refl _ | apply Drawn0.step)⟩
  · have H1 : (some 1) = some r := by rw [if_neg (show ¬ (some q114).isNone = true by simp)] at H; exact H
    clear H
    have H := H1
    clear H1
    simp only [errW_none, errW_some]
    obtain rfl := Option.some.inj H
    go_enter Tryd.func23, Tryd.ntmps23
    go_wp2
    go_ret
    exact ⟨by first | rfl | (simp; done) | (simp [*]; done), by repeat (first | exact Drawn0.refl _ | apply Drawn0.step)⟩

/-! ### impl_ProtoVarint: function 12 -/
def impl_ProtoVarint.f (l0 : List Int) : Option (Int × Int × Int) := (server_ScanVarint.f l0).bind fun bt115 => ((impl_one.f bt115.2.2).bind fun t118 => (some (bt115.1, bt115.2.1, t118)))
set_option maxHeartbeats 8000000 in
set_option maxRecDepth 100000 in
theorem impl_ProtoVarint.calls (A0 : Option Addr) (c0 : Nat) (l0 : List Int) (r1 : Int) (r2 : Int) (r3 : Int) (w : World) (hr0 : Kd.C (Kd.int .u8) w A0 l0.length l0) (hc0 : l0.length ≤ c0) (hG : GlE E w) (h : impl_ProtoVarint.f l0 = some (r1, r2, r3)) :
    Calls Tryd.prog 12 #[.slice A0 l0.length c0] w fun e w' => e = .returned (.tuple #[.int .u64 r1, .int .i64 r2, .int .i64 r3]) ∧ Drawn0 w w' := by
  have HG := Aside0.mk hG
  clear hG
  have HR0 := Aside0.mk hr0
  have HC0 := Aside0.mk hc0
  clear hr0 hc0
  have H : ((server_ScanVarint.f l0).bind fun bt115 => ((impl_one.f bt115.2.2).bind fun t118 => (some (bt115.1, bt115.2.1, t118)))) = some (r1, r2, r3) := h
  clear h
  replace H := Option.bind_eq_some_iff.mp H
  obtain ⟨⟨t115, t116, t117⟩, A20, H⟩ := H
  replace H : ((impl_one.f t117).bind fun t118 => (some (t115, t116, t118))) = some (r1, r2, r3) := H
  have A2 := Aside0.mk A20
  clear A20
  replace H := Option.bind_eq_some_iff.mp H
  obtain ⟨t118, A30, H⟩ := H
  replace H : (some (t115, t116, t118)) = some (r1, r2, r3) := H
  have A3 := Aside0.mk A30
  clear A30
  simp only [Option.some.injEq, Prod.mk.injEq] at H
  obtain ⟨rfl, rfl, rfl⟩ := H
  go_enter Tryd.func12, Tryd.ntmps12
  go_wp2_with (first | ((with_reducible refine gate_callee (f := 22) rfl ?_); refine goesL_ (some 8) rfl rfl Tryd.func22 (by kernel_rfl) rfl #[.slice A0 l0.length c0] rfl (by (try simp only [List.map_toArray, List.map_cons, List.map_nil]); first | done | rfl | (simp only [List.length_drop, List.length_take]; rfl)) ?_; (with_reducible refine (server_ScanVarint.calls _ _ l0 t115 t116 t117 _ ?side1 ?side2 (by first | exact HG.out | exact GlE.below HG.out HB.out | exact (by repeat (first | exact HG.out | exact GlE.below HG.out HB.out | apply GlE.drewN | apply GlE.drew | apply GlE.alloc))) A2.out).mono ?_); (case side1 => repeat (first | exact HR0.out | (with_reducible refine Kd.C_alloc ?_ _) | (with_reducible refine Kd.C_drewN ?_ _) | (with_reducible refine Kd.C_drew ?_))); (case side2 => exact HC0.out); rintro e w' ⟨rfl, ⟨nd, rfl⟩⟩; refine ⟨_, rfl, ?_⟩; (try simp only [errW_none, errW_some]); have CA3 := fun (W : World) (hG_ : GlE E W) => impl_one.calls t117 t118 W hG_ A3.out; try simp only [errW_none, errW_some] at CA3) | (go_at_call 23; (with_reducible refine (CA3 _ (by first | exact HG.out | exact GlE.below HG.out HB.out | exact (by repeat (first | exact HG.out | exact GlE.below HG.out HB.out | apply GlE.drewN | apply GlE.drew | apply GlE.alloc)))).mono ?_); rintro e w' ⟨rfl, ⟨nd, rfl⟩⟩))
  go_ret3
  exact ⟨by first | rfl | (simp; done) | (simp [*]; done), by repeat (first | exact Drawn0.refl _ | apply Drawn0.step)⟩

/-! ### laws_awakeProto: function 10 -/
def laws_awakeProto.f  : Option (Bool) := (impl_ProtoVarint.f (([150, 1] : List Int))).bind fun bt122 => (if bt122.1 = 150 then (if bt122.2.1 = 2 then (some (bt122.2.2 == 0)) else (some false)) else (some false))
set_option maxHeartbeats 8000000 in
set_option maxRecDepth 100000 in
theorem laws_awakeProto.calls  (r : Bool) (w : World) (hG : GlE E w) (h : laws_awakeProto.f  = some r) :
    Calls Tryd.prog 10 #[] w fun e w' => e = .returned (.bool r) ∧ Below w.heap.size w w' := by
  have HG := Aside0.mk hG
  clear hG
  have HB := Aside0.mk (Below.refl w.heap.size w)
  have H : ((impl_ProtoVarint.f (([150, 1] : List Int))).bind fun bt122 => (if bt122.1 = 150 then (if bt122.2.1 = 2 then (some (bt122.2.2 == 0)) else (some false)) else (some false))) = some r := h
  clear h
  obtain ⟨y119, hy119⟩ : ∃ y_ : List Int, y_ = (([150, 1] : List Int)) := ⟨_, rfl⟩
  replace H : ((impl_ProtoVarint.f y119).bind fun bt122 => (if bt122.1 = 150 then (if bt122.2.1 = 2 then (some (bt122.2.2 == 0)) else (some false)) else (some false))) = some r := by first | (rw [hy119]; with_reducible exact H) | (have H2_ := (Option.bind_some _ _).symm.trans H; rw [hy119]; with_reducible exact H2_) | (have H2_ := (Option.bind_some _ _).symm.trans H; with_reducible exact H2_) | with_reducible exact H | (rw [hy119]; exact H) | exact H
  have Ny119 := Aside0.mk hy119
  clear hy119
  replace H := Option.bind_eq_some_iff.mp H
  obtain ⟨⟨t122, t123, t124⟩, A10, H⟩ := H
  replace H : (if t122 = 150 then (if t123 = 2 then (some (t124 == 0)) else (some false)) else (some false)) = some r := H
  have A1 := Aside0.mk A10
  clear A10
  by_cases c2 : t122 = 150
  · rw [if_pos c2] at H
    have c2b0 : (t122 == 150) = true := beq_iff_eq.mpr c2
    have c2b1 : (t122 != 150) = false := bne_eq_false_iff_eq.mpr c2
    clear c2
    by_cases c3 : t123 = 2
    · rw [if_pos c3] at H
      have c3b0 : (t123 == 2) = true := beq_iff_eq.mpr c3
      have c3b1 : (t123 != 2) = false := bne_eq_false_iff_eq.mpr c3
      clear c3
      obtain rfl := Option.some.inj H
      go_enter Tryd.func10, Tryd.ntmps10
      go_wp2_with (first | ((with_reducible refine gate_dst (N := 5) rfl ?_); refine Kd.R_lit (Kd.int .u8) _ 5 ?hg (N := 5) ?hd (xs := ([150, 1] : List Int)) (inner := [.int .u8 150, .int .u8 1]) (ok := fun _ => True) (okp := fun _ => True) ?hr ?hp (fun _ hk => hk) trivial (Below.refl _ _) (Nat.le_refl _) (by simp) ?_; (case hd => rfl); (case hg => rfl); (case hr => first | (go_simp; done) | (go_simp; rfl)); (case hp => exact (Reps.one (show Kd.M (Kd.int .u8) _ _ _ 150 [.int .u8 150] from rfl) (Reps.one (show Kd.M (Kd.int .u8) _ _ _ 1 [.int .u8 1] from rfl) (Reps.none _ _)))); intro v120 w4 ho5 hb hg_ hnew_; clear hg_ hnew_; (first | rw [← Ny119.out] at ho5 | (simp only [Int.reduceToNat] at ho5; rw [← Ny119.out] at ho5)); have n0_ := Aside0.mk (Kd.R_lower ho5 (below_size (by repeat (first | (with_reducible first | exact HB.out | apply below_alloc | apply pw_below_drewN | apply below_drew1) | exact HB.out)))); have n1_ := Aside0.mk (below_step (by repeat (first | (with_reducible first | exact HB.out | apply below_alloc | apply pw_below_drewN | apply below_drew1) | exact HB.out)) hb); clear HB; have HO121 := n0_; have HB := n1_; clear n0_ n1_; clear hb ho5; obtain ⟨Ao6, co6, eo6⟩ := Kd.R_slice HO121.out; subst eo6) | ((with_reducible refine gate_callee (f := 12) rfl ?_); refine goesL_ (some 6) rfl rfl Tryd.func12 (by kernel_rfl) rfl #[.slice Ao6 y119.length co6] rfl (by (try simp only [List.map_toArray, List.map_cons, List.map_nil]); first | done | rfl | (simp only [List.length_drop, List.length_take]; rfl)) ?_; (with_reducible refine (impl_ProtoVarint.calls _ _ y119 t122 t123 t124 _ ?side1 ?side2 (by first | exact HG.out | exact GlE.below HG.out HB.out | exact (by repeat (first | exact HG.out | exact GlE.below HG.out HB.out | apply GlE.drewN | apply GlE.drew | apply GlE.alloc))) A1.out).mono ?_); (case side1 => repeat (first | exact (Kd.R_reads' HO121.out).2.2 | (with_reducible refine Kd.C_alloc ?_ _) | (with_reducible refine Kd.C_drewN ?_ _) | (with_reducible refine Kd.C_drew ?_))); (case side2 => exact (Kd.R_reads' HO121.out).2.1); rintro e w' ⟨rfl, ⟨nd, rfl⟩⟩; refine ⟨_, rfl, ?_⟩))
      go_ret
      exact ⟨by first | rfl | (simp [errW_none, errW_some] <;> rfl) | (simp [*, errW_none, errW_some] <;> rfl), by repeat (first | (with_reducible first | exact HB.out | apply below_alloc | apply pw_below_drewN | apply below_drew1) | exact HB.out)⟩
    · rw [if_neg c3] at H
      have c3b0 : (t123 == 2) = false := beq_eq_false_iff_ne.mpr c3
      have c3b1 : (t123 != 2) = true := bne_iff_ne.mpr c3
      obtain rfl := Option.some.inj H
      go_enter Tryd.func10, Tryd.ntmps10
      go_wp2_with (first | ((with_reducible refine gate_dst (N := 5) rfl ?_); refine Kd.R_lit (Kd.int .u8) _ 5 ?hg (N := 5) ?hd (xs := ([150, 1] : List Int)) (inner := [.int .u8 150, .int .u8 1]) (ok := fun _ => True) (okp := fun _ => True) ?hr ?hp (fun _ hk => hk) trivial (Below.refl _ _) (Nat.le_refl _) (by simp) ?_; (case hd => rfl); (case hg => rfl); (case hr => first | (go_simp; done) | (go_simp; rfl)); (case hp => exact (Reps.one (show Kd.M (Kd.int .u8) _ _ _ 150 [.int .u8 150] from rfl) (Reps.one (show Kd.M (Kd.int .u8) _ _ _ 1 [.int .u8 1] from rfl) (Reps.none _ _)))); intro v120 w7 ho8 hb hg_ hnew_; clear hg_ hnew_; (first | rw [← Ny119.out] at ho8 | (simp only [Int.reduceToNat] at ho8; rw [← Ny119.out] at ho8)); have n0_ := Aside0.mk (Kd.R_lower ho8 (below_size (by repeat (first | (with_reducible first | exact HB.out | apply below_alloc | apply pw_below_drewN | apply below_drew1) | exact HB.out)))); have n1_ := Aside0.mk (below_step (by repeat (first | (with_reducible first | exact HB.out | apply below_alloc | apply pw_below_drewN | apply below_drew1) | exact HB.out)) hb); clear HB; have HO121 := n0_; have HB := n1_; clear n0_ n1_; clear hb ho8; obtain ⟨Ao9, co9, eo9⟩ := Kd.R_slice HO121.out; subst eo9) | ((with_reducible refine gate_callee (f := 12) rfl ?_); refine goesL_ (some 6) rfl rfl Tryd.func12 (by kernel_rfl) rfl #[.slice Ao9 y119.length co9] rfl (by (try simp only [List.map_toArray, List.map_cons, List.map_nil]); first | done | rfl | (simp only [List.length_drop, List.length_take]; rfl)) ?_; (with_reducible refine (impl_ProtoVarint.calls _ _ y119 t122 t123 t124 _ ?side1 ?side2 (by first | exact HG.out | exact GlE.below HG.out HB.out | exact (by repeat (first | exact HG.out | exact GlE.below HG.out HB.out | apply GlE.drewN | apply GlE.drew | apply GlE.alloc))) A1.out).mono ?_); (case side1 => repeat (first | exact (Kd.R_reads' HO121.out).2.2 | (with_reducible refine Kd.C_alloc ?_ _) | (with_reducible refine Kd.C_drewN ?_ _) | (with_reducible refine Kd.C_drew ?_))); (case side2 => exact (Kd.R_reads' HO121.out).2.1); rintro e w' ⟨rfl, ⟨nd, rfl⟩⟩; refine ⟨_, rfl, ?_⟩))
      go_ret
      exact ⟨by first | rfl | (simp [errW_none, errW_some] <;> rfl) | (simp [*, errW_none, errW_some] <;> rfl), by repeat (first | (with_reducible first | exact HB.out | apply below_alloc | apply pw_below_drewN | apply below_drew1) | exact HB.out)⟩
  · rw [if_neg c2] at H
    have c2b0 : (t122 == 150) = false := beq_eq_false_iff_ne.mpr c2
    have c2b1 : (t122 != 150) = true := bne_iff_ne.mpr c2
    obtain rfl := Option.some.inj H
    go_enter Tryd.func10, Tryd.ntmps10
    go_wp2_with (first | ((with_reducible refine gate_dst (N := 5) rfl ?_); refine Kd.R_lit (Kd.int .u8) _ 5 ?hg (N := 5) ?hd (xs := ([150, 1] : List Int)) (inner := [.int .u8 150, .int .u8 1]) (ok := fun _ => True) (okp := fun _ => True) ?hr ?hp (fun _ hk => hk) trivial (Below.refl _ _) (Nat.le_refl _) (by simp) ?_; (case hd => rfl); (case hg => rfl); (case hr => first | (go_simp; done) | (go_simp; rfl)); (case hp => exact (Reps.one (show Kd.M (Kd.int .u8) _ _ _ 150 [.int .u8 150] from rfl) (Reps.one (show Kd.M (Kd.int .u8) _ _ _ 1 [.int .u8 1] from rfl) (Reps.none _ _)))); intro v120 w10 ho11 hb hg_ hnew_; clear hg_ hnew_; (first | rw [← Ny119.out] at ho11 | (simp only [Int.reduceToNat] at ho11; rw [← Ny119.out] at ho11)); have n0_ := Aside0.mk (Kd.R_lower ho11 (below_size (by repeat (first | (with_reducible first | exact HB.out | apply below_alloc | apply pw_below_drewN | apply below_drew1) | exact HB.out)))); have n1_ := Aside0.mk (below_step (by repeat (first | (with_reducible first | exact HB.out | apply below_alloc | apply pw_below_drewN | apply below_drew1) | exact HB.out)) hb); clear HB; have HO121 := n0_; have HB := n1_; clear n0_ n1_; clear hb ho11; obtain ⟨Ao12, co12, eo12⟩ := Kd.R_slice HO121.out; subst eo12) | ((with_reducible refine gate_callee (f := 12) rfl ?_); refine goesL_ (some 6) rfl rfl Tryd.func12 (by kernel_rfl) rfl #[.slice Ao12 y119.length co12] rfl (by (try simp only [List.map_toArray, List.map_cons, List.map_nil]); first | done | rfl | (simp only [List.length_drop, List.length_take]; rfl)) ?_; (with_reducible refine (impl_ProtoVarint.calls _ _ y119 t122 t123 t124 _ ?side1 ?side2 (by first | exact HG.out | exact GlE.below HG.out HB.out | exact (by repeat (first | exact HG.out | exact GlE.below HG.out HB.out | apply GlE.drewN | apply GlE.drew | apply GlE.alloc))) A1.out).mono ?_); (case side1 => repeat (first | exact (Kd.R_reads' HO121.out).2.2 | (with_reducible refine Kd.C_alloc ?_ _) | (with_reducible refine Kd.C_drewN ?_ _) | (with_reducible refine Kd.C_drew ?_))); (case side2 => exact (Kd.R_reads' HO121.out).2.1); rintro e w' ⟨rfl, ⟨nd, rfl⟩⟩; refine ⟨_, rfl, ?_⟩))
    go_ret
    exact ⟨by first | rfl | (simp [errW_none, errW_some] <;> rfl) | (simp [*, errW_none, errW_some] <;> rfl), by repeat (first | (with_reducible first | exact HB.out | apply below_alloc | apply pw_below_drewN | apply below_drew1) | exact HB.out)⟩

/-! ### spec_Varint: function 11 -/
mutual
def spec_Varint.l0 : Nat → List Int → Int → Int → Option (Int × Int × Bool)
  | 0, _, _, _ => none
  | k + 1, x0, x5, x6 => if x6 < (x0.length : Int) then (spec_Varint.j1 k x0 x5 x6 (decide (x6 < 10))) else (spec_Varint.j1 k x0 x5 x6 false)
def spec_Varint.j1 : Nat → List Int → Int → Int → Bool → Option (Int × Int × Bool)
  | 0, _, _, _, _ => none
  | k + 1, x0, x5, x6, x14 => if x14 = true then (if x6 = 9 then (if 0 ≤ x6 then (if x6 < (x0.length : Int) then (spec_Varint.j2 k x0 x5 x6 (decide ((rd x0 x6) > 1))) else (none)) else (none)) else (spec_Varint.j2 k x0 x5 x6 false)) else (some (0, 0, false))
def spec_Varint.j2 : Nat → List Int → Int → Int → Bool → Option (Int × Int × Bool)
  | 0, _, _, _, _ => none
  | k + 1, x0, x5, x6, x25 => if x25 = true then (some (0, 0, false)) else (if 0 ≤ x6 then (if x6 < (x0.length : Int) then (if 0 ≤ (IntKind.u64.wrap (7 * (IntKind.u64.wrap (x6)))) then (if (rd x0 x6) < 128 then (some (IntKind.u64.wrap (x5 + (shl .u64 (IntKind.u64.wrap (Int.tmod (rd x0 x6) 128)) (IntKind.u64.wrap (7 * (IntKind.u64.wrap (x6)))))), wrap64 (x6 + 1), true)) else (spec_Varint.l0 k x0 (IntKind.u64.wrap (x5 + (shl .u64 (IntKind.u64.wrap (Int.tmod (rd x0 x6) 128)) (IntKind.u64.wrap (7 * (IntKind.u64.wrap (x6))))))) (wrap64 (x6 + 1)))) else (none)) else (none)) else (none))
end
def spec_Varint.f (k : Nat) (l0 : List Int) : Option (Int × Int × Bool) := spec_Varint.l0 k l0 0 0
theorem spec_Varint.mono_l : ∀ k, (∀ y0 y1 y2, LeO (spec_Varint.l0 k y0 y1 y2) (spec_Varint.l0 (k + 1) y0 y1 y2)) ∧ (∀ y0 y1 y2 y3, LeO (spec_Varint.j1 k y0 y1 y2 y3) (spec_Varint.j1 (k + 1) y0 y1 y2 y3)) ∧ (∀ y0 y1 y2 y3, LeO (spec_Varint.j2 k y0 y1 y2 y3) (spec_Varint.j2 (k + 1) y0 y1 y2 y3))
  | 0 => ⟨fun _ _ _ r h => by simp [spec_Varint.l0] at h, fun _ _ _ _ r h => by simp [spec_Varint.j1] at h, fun _ _ _ _ r h => by simp [spec_Varint.j2] at h⟩
  | k + 1 => by
    obtain ⟨ih0, ih1, ih2⟩ := spec_Varint.mono_l k
    refine ⟨?_, ?_, ?_⟩
    · intro y0 y1 y2
      unfold spec_Varint.l0
      repeat' first
      | (with_reducible exact ih0 _ _ _)
      | (with_reducible exact ih1 _ _ _ _)
      | (with_reducible exact ih2 _ _ _ _)
      | (with_reducible exact LeO.refl _)
      | (with_reducible exact LeO.none _)
      | (with_reducible refine LeO.ite ?_ ?_)
      | (with_reducible refine LeO.bind ?_ (fun _ => ?_))
      | exact ih0 _ _ _
      | exact ih1 _ _ _ _
      | exact ih2 _ _ _ _
      | exact LeO.none _
      | refine LeO.ite ?_ ?_
      | refine LeO.bind ?_ (fun _ => ?_)
    · intro y0 y1 y2 y3
      unfold spec_Varint.j1
      repeat' first
      | (with_reducible exact ih0 _ _ _)
      | (with_reducible exact ih1 _ _ _ _)
      | (with_reducible exact ih2 _ _ _ _)
      | (with_reducible exact LeO.refl _)
      | (with_reducible exact LeO.none _)
      | (with_reducible refine LeO.ite ?_ ?_)
      | (with_reducible refine LeO.bind ?_ (fun _ => ?_))
      | exact ih0 _ _ _
      | exact ih1 _ _ _ _
      | exact ih2 _ _ _ _
      | exact LeO.none _
      | refine LeO.ite ?_ ?_
      | refine LeO.bind ?_ (fun _ => ?_)
    · intro y0 y1 y2 y3
      unfold spec_Varint.j2
      repeat' first
      | (with_reducible exact ih0 _ _ _)
      | (with_reducible exact ih1 _ _ _ _)
      | (with_reducible exact ih2 _ _ _ _)
      | (with_reducible exact LeO.refl _)
      | (with_reducible exact LeO.none _)
      | (with_reducible refine LeO.ite ?_ ?_)
      | (with_reducible refine LeO.bind ?_ (fun _ => ?_))
      | exact ih0 _ _ _
      | exact ih1 _ _ _ _
      | exact ih2 _ _ _ _
      | exact LeO.none _
      | refine LeO.ite ?_ ?_
      | refine LeO.bind ?_ (fun _ => ?_)
theorem spec_Varint.mono : ∀ a0 k, LeO (spec_Varint.f k a0) (spec_Varint.f (k + 1) a0) := by
  intro a0 k
  obtain ⟨ih0, ih1, ih2⟩ := spec_Varint.mono_l k
  unfold spec_Varint.f
  repeat' first
      | (with_reducible exact ih0 _ _ _)
      | (with_reducible exact ih1 _ _ _ _)
      | (with_reducible exact ih2 _ _ _ _)
      | (with_reducible exact LeO.refl _)
      | (with_reducible exact LeO.none _)
      | (with_reducible refine LeO.ite ?_ ?_)
      | (with_reducible refine LeO.bind ?_ (fun _ => ?_))
      | exact ih0 _ _ _
      | exact ih1 _ _ _ _
      | exact ih2 _ _ _ _
      | exact LeO.none _
      | refine LeO.ite ?_ ?_
      | refine LeO.bind ?_ (fun _ => ?_)
set_option maxHeartbeats 8000000 in
set_option maxRecDepth 100000 in
theorem spec_Varint.calls (k : Nat) (A0 : Option Addr) (c0 : Nat) (l0 : List Int) (r1 : Int) (r2 : Int) (r3 : Bool) (w : World) (hr0 : Kd.C (Kd.int .u8) w A0 l0.length l0) (hc0 : l0.length ≤ c0) (hG : GlE E w) (h : spec_Varint.f k l0 = some (r1, r2, r3)) :
    Calls Tryd.prog 11 #[.slice A0 l0.length c0] w fun e w' => e = .returned (.tuple #[.int .u64 r1, .int .i64 r2, .bool r3]) ∧ Drawn0 w w' := by
  have HG := Aside0.mk hG
  clear hG
  have HR0 := Aside0.mk hr0
  have HC0 := Aside0.mk hc0
  clear hr0 hc0
  have H : (spec_Varint.l0 k l0 0 0) = some (r1, r2, r3) := h
  clear h
  have H' := Aside0.mk H
  clear H
  go_enter Tryd.func11, Tryd.ntmps11
  go_wp2
  go_loopg [5, 6] k (fun kq v5 v6 w' => ∃ (x5_1 : Int) (x6_1 : Int), v5 = .int .u64 x5_1 ∧ v6 = .int .i64 x6_1 ∧ Aside0 (spec_Varint.l0 kq l0 x5_1 x6_1 = some (r1, r2, r3)) ∧ Aside0 (kq ≤ k) ∧ Drawn0 w w')
  case atStart => exact ⟨(0), (0), (by first | rfl | (simp; done) | (simp [*]; done)), (by first | rfl | (simp; done) | (simp [*]; done)), H', ⟨Nat.le_refl _⟩, by repeat (first | exact Drawn0.refl _ | apply Drawn0.step)⟩
  case round =>
    clear H'
    try clear c1
    obtain ⟨x5_1, x6_1, rfl, rfl, HA, HK1, ⟨m1, rfl⟩⟩ := hrel
    cases gk with
    | zero => exact absurd HA.out (by simp [spec_Varint.l0])
    | succ k1 =>
      have H := HA.out
      clear HA
      simp only [spec_Varint.l0] at H
      have HC2 := Aside0.mk H
      clear H
      go_upto_region 3 with (fail)
      go_cut [14] (fun v14 wc => ∃ (kq : Nat) (x14_1 : Bool), v14 = .bool x14_1 ∧ Aside0 (spec_Varint.j1 kq l0 x5_1 x6_1 x14_1 = some (r1, r2, r3)) ∧ Aside0 (kq ≤ k1) ∧ Drawn0 w wc)
      case first =>
        have H := HC2.out
        clear HC2
        by_cases c3 : x6_1 < (l0.length : Int)
        · rw [if_pos c3] at H
          have c3b0 : decide (x6_1 < (l0.length : Int)) = true := decide_eq_true c3
          clear c3
          (first | rw [c3b0] | (simp only [i64_w, i32_w]; rw [c3b0]) | skip)
          have H' := Aside0.mk H
          clear H
          go_wp2
          go_meet
          case rel => exact ⟨_, (decide (x6_1 < 10)), (by first | rfl | (simp; done) | (simp [*]; done)), H', ⟨by have := HK1.out; first | omega | exact Nat.le_refl _⟩, by repeat (first | exact Drawn0.refl _ | apply Drawn0.step)⟩
        · rw [if_neg c3] at H
          have c3b0 : decide (x6_1 < (l0.length : Int)) = false := decide_eq_false c3
          clear c3
          (first | rw [c3b0] | (simp only [i64_w, i32_w]; rw [c3b0]) | skip)
          have H' := Aside0.mk H
          clear H
          go_wp2
          go_meet
          case rel => exact ⟨_, (false), (by first | rfl | (simp; done) | (simp [*]; done)), H', ⟨by have := HK1.out; first | omega | exact Nat.le_refl _⟩, by repeat (first | exact Drawn0.refl _ | apply Drawn0.step)⟩
      case rest =>
        clear HC2
        try clear c1
        try clear p2
        try clear c3
        try clear c3b0
        obtain ⟨kq, x14_1, rfl, HA, HJ1, ⟨mc1, rfl⟩⟩ := hcut
        cases kq with
        | zero => exact absurd HA.out (by simp [spec_Varint.j1])
        | succ kj1 =>
          have H := HA.out
          clear HA
          simp only [spec_Varint.j1] at H
          by_cases c4 : x14_1 = true
          · subst c4
            have H1 : (if x6_1 = 9 then (if 0 ≤ x6_1 then (if x6_1 < (l0.length : Int) then (spec_Varint.j2 kj1 l0 x5_1 x6_1 (decide ((rd l0 x6_1) > 1))) else (none)) else (none)) else (spec_Varint.j2 kj1 l0 x5_1 x6_1 false)) = some (r1, r2, r3) := by rw [if_pos rfl] at H; exact H
            clear H
            have H := H1
            clear H1
            have HC5 := Aside0.mk H
            clear H
            go_upto_region 5 with (fail)
            go_cut [25] (fun v25 wc => ∃ (kq : Nat) (x25_4 : Bool), v25 = .bool x25_4 ∧ Aside0 (spec_Varint.j2 kq l0 x5_1 x6_1 x25_4 = some (r1, r2, r3)) ∧ Aside0 (kq ≤ kj1) ∧ Drawn0 w wc)
            case first =>
              have H := HC5.out
              clear HC5
              by_cases c6 : x6_1 = 9
              · rw [if_pos c6] at H
                have c6b0 : (x6_1 == 9) = true := beq_iff_eq.mpr c6
                have c6b1 : (x6_1 != 9) = false := bne_eq_false_iff_eq.mpr c6
                clear c6
                (first | rw [c6b0] | (simp only [i64_w, i32_w]; rw [c6b0]) | skip)
                by_cases c7 : 0 ≤ x6_1
                · rw [if_pos c7] at H
                  have c7b0 : decide (0 ≤ x6_1) = true := decide_eq_true c7
                  clear c7
                  by_cases c8 : x6_1 < (l0.length : Int)
                  · rw [if_pos c8] at H
                    have c8b0 : decide (x6_1 < (l0.length : Int)) = true := decide_eq_true c8
                    clear c8
                    have H' := Aside0.mk H
                    clear H
                    have p125 : 0 ≤ (x6_1 : Int) := of_decide_eq_true (by first | (with_reducible assumption) | assumption)
                    have q125 : x6_1 < (l0.length : Int) := of_decide_eq_true (by first | (with_reducible assumption) | assumption)
                    obtain ⟨ad125, e125, hx125_0⟩ := Kd.at_int HR0.out x6_1 p125 q125
                    cases e125
                    replace p125 := eq_true p125
                    replace q125 := eq_true q125
                    go_wp2
                    go_meet
                    case rel => exact ⟨_, (decide ((rd l0 x6_1) > 1)), (by first | rfl | (simp; done) | (simp [*]; done)), H', ⟨by have := HK1.out; have := HJ1.out; first | omega | exact Nat.le_refl _⟩, by repeat (first | exact Drawn0.refl _ | apply Drawn0.step)⟩
                  · rw [if_neg c8] at H
                    exact absurd H (by simp)
                · rw [if_neg c7] at H
                  exact absurd H (by simp)
              · rw [if_neg c6] at H
                have c6b0 : (x6_1 == 9) = false := beq_eq_false_iff_ne.mpr c6
                have c6b1 : (x6_1 != 9) = true := bne_iff_ne.mpr c6
                (first | rw [c6b0] | (simp only [i64_w, i32_w]; rw [c6b0]) | skip)
                have H' := Aside0.mk H
                clear H
                go_wp2
                go_meet
                case rel => exact ⟨_, (false), (by first | rfl | (simp; done) | (simp [*]; done)), H', ⟨by have := HK1.out; have := HJ1.out; first | omega | exact Nat.le_refl _⟩, by repeat (first | exact Drawn0.refl _ | apply Drawn0.step)⟩
            case rest =>
              clear HC5
              try clear c1
              try clear p1
              try clear q1
              try clear hx1
              try clear p2
              try clear c3
              try clear c3b0
              try clear c4
              try clear c6
              try clear c6b0
              try clear c6b1
              try clear c7
              try clear c7b0
              try clear c8
              try clear c8b0
              try clear hx125_0
              try clear p125
              try clear p2
              try clear q125
              obtain ⟨kq, x25_4, rfl, HA, HJ4, ⟨mc4, rfl⟩⟩ := hcut
              cases kq with
              | zero => exact absurd HA.out (by simp [spec_Varint.j2])
              | succ kj4 =>
                have H := HA.out
                clear HA
                simp only [spec_Varint.j2] at H
                by_cases c9 : x25_4 = true
                · subst c9
                  have H1 : (some (0, 0, false)) = some (r1, r2, r3) := by rw [if_pos rfl] at H; exact H
                  clear H
                  have H := H1
                  clear H1
                  simp only [Option.some.injEq, Prod.mk.injEq] at H
                  obtain ⟨rfl, rfl, rfl⟩ := H
                  go_wp2
                  go_ret3
                  exact ⟨by first | rfl | (simp; done) | (simp [*]; done), by repeat (first | exact Drawn0.refl _ | apply Drawn0.step)⟩
                · replace c9 := Bool.eq_false_iff.mpr c9
                  subst c9
                  have H1 : (if 0 ≤ x6_1 then (if x6_1 < (l0.length : Int) then (if 0 ≤ (IntKind.u64.wrap (7 * (IntKind.u64.wrap (x6_1)))) then (if (rd l0 x6_1) < 128 then (some (IntKind.u64.wrap (x5_1 + (shl .u64 (IntKind.u64.wrap (Int.tmod (rd l0 x6_1) 128)) (IntKind.u64.wrap (7 * (IntKind.u64.wrap (x6_1)))))), wrap64 (x6_1 + 1), true)) else (spec_Varint.l0 kj4 l0 (IntKind.u64.wrap (x5_1 + (shl .u64 (IntKind.u64.wrap (Int.tmod (rd l0 x6_1) 128)) (IntKind.u64.wrap (7 * (IntKind.u64.wrap (x6_1))))))) (wrap64 (x6_1 + 1)))) else (none)) else (none)) else (none)) = some (r1, r2, r3) := by rw [if_neg (show ¬ (false = true) by decide)] at H; exact H
                  clear H
                  have H := H1
                  clear H1
                  by_cases c10 : 0 ≤ x6_1
                  · rw [if_pos c10] at H
                    have c10b0 : decide (0 ≤ x6_1) = true := decide_eq_true c10
                    clear c10
                    by_cases c11 : x6_1 < (l0.length : Int)
                    · rw [if_pos c11] at H
                      have c11b0 : decide (x6_1 < (l0.length : Int)) = true := decide_eq_true c11
                      clear c11
                      obtain ⟨ji12, hji12⟩ : ∃ j_ : Int, (IntKind.u64.wrap (7 * (IntKind.u64.wrap (x6_1)))) = j_ := ⟨_, rfl⟩
                      replace H : (if 0 ≤ (ji12) then (if (rd l0 x6_1) < 128 then (some (IntKind.u64.wrap (x5_1 + (shl .u64 (IntKind.u64.wrap (Int.tmod (rd l0 x6_1) 128)) (ji12))), wrap64 (x6_1 + 1), true)) else (spec_Varint.l0 kj4 l0 (IntKind.u64.wrap (x5_1 + (shl .u64 (IntKind.u64.wrap (Int.tmod (rd l0 x6_1) 128)) (ji12)))) (wrap64 (x6_1 + 1)))) else (none)) = some (r1, r2, r3) := by first | (rw [hji12] at H; exact H) | (simp only [hji12] at H ⊢; exact H)
                      by_cases c13 : 0 ≤ (ji12)
                      · rw [if_pos c13] at H
                        have c13b0 := eq_true c13
                        have c13b1 : decide (0 ≤ (ji12)) = true := decide_eq_true c13
                        clear c13
                        obtain ⟨ji14, hji14⟩ : ∃ j_ : Int, (shl .u64 (IntKind.u64.wrap (Int.tmod (rd l0 x6_1) 128)) (ji12)) = j_ := ⟨_, rfl⟩
                        replace H : (if (rd l0 x6_1) < 128 then (some (IntKind.u64.wrap (x5_1 + (ji14)), wrap64 (x6_1 + 1), true)) else (spec_Varint.l0 kj4 l0 (IntKind.u64.wrap (x5_1 + (ji14))) (wrap64 (x6_1 + 1)))) = some (r1, r2, r3) := by first | (rw [hji14] at H; exact H) | (simp only [hji14] at H ⊢; exact H)
                        have hji14_ : (IntKind.u64.wrap ((IntKind.u64.wrap (Int.tmod (rd l0 x6_1) 128)) * 2 ^ min (ji12).toNat 64)) = ji14 := hji14
                        have hji14z : (ji12) ≤ 64 → (IntKind.u64.wrap ((IntKind.u64.wrap (Int.tmod (rd l0 x6_1) 128)) * 2 ^ (ji12).toNat)) = ji14 := shl_small hji14
                        by_cases c15 : (rd l0 x6_1) < 128
                        · rw [if_pos c15] at H
                          have c15b0 : decide ((rd l0 x6_1) < 128) = true := decide_eq_true c15
                          clear c15
                          simp only [Option.some.injEq, Prod.mk.injEq] at H
                          obtain ⟨rfl, rfl, rfl⟩ := H
                          have p126 : 0 ≤ (x6_1 : Int) := of_decide_eq_true (by first | (with_reducible assumption) | assumption)
                          have q126 : x6_1 < (l0.length : Int) := of_decide_eq_true (by first | (with_reducible assumption) | assumption)
                          obtain ⟨ad126, e126, hx126_0⟩ := Kd.at_int HR0.out x6_1 p126 q126
                          cases e126
                          replace p126 := eq_true p126
                          replace q126 := eq_true q126
                          have p127 : 0 ≤ (x6_1 : Int) := of_decide_eq_true (by first | (with_reducible assumption) | assumption)
                          have q127 : x6_1 < (l0.length : Int) := of_decide_eq_true (by first | (with_reducible assumption) | assumption)
                          obtain ⟨ad127, e127, hx127_0⟩ := Kd.at_int HR0.out x6_1 p127 q127
                          obtain rfl : ad126 = ad127 := (by injection e127)
                          replace p127 := eq_true p127
                          replace q127 := eq_true q127
                          go_wp2
                          go_ret3
                          exact ⟨by first | rfl | (simp; done) | (simp only [← hji12, ← hji14] <;> (first | rfl | simp)) | (simp [*]; done), by repeat (first | exact Drawn0.refl _ | apply Drawn0.step)⟩
                        · rw [if_neg c15] at H
                          have c15b0 : decide ((rd l0 x6_1) < 128) = false := decide_eq_false c15
                          clear c15
                          have H' := Aside0.mk H
                          clear H
                          have p126 : 0 ≤ (x6_1 : Int) := of_decide_eq_true (by first | (with_reducible assumption) | assumption)
                          have q126 : x6_1 < (l0.length : Int) := of_decide_eq_true (by first | (with_reducible assumption) | assumption)
                          obtain ⟨ad126, e126, hx126_0⟩ := Kd.at_int HR0.out x6_1 p126 q126
                          cases e126
                          replace p126 := eq_true p126
                          replace q126 := eq_true q126
                          have p127 : 0 ≤ (x6_1 : Int) := of_decide_eq_true (by first | (with_reducible assumption) | assumption)
                          have q127 : x6_1 < (l0.length : Int) := of_decide_eq_true (by first | (with_reducible assumption) | assumption)
                          obtain ⟨ad127, e127, hx127_0⟩ := Kd.at_int HR0.out x6_1 p127 q127
                          obtain rfl : ad126 = ad127 := (by injection e127)
                          replace p127 := eq_true p127
                          replace q127 := eq_true q127
                          go_wp2
                          go_roundg kj4
                          case measure => have := HK1.out; have := HJ1.out; have := HJ4.out; omega
                          case rel => exact ⟨(IntKind.u64.wrap (x5_1 + (ji14))), (wrap64 (x6_1 + 1)), (by first | rfl | (simp; done) | (simp only [← hji14] <;> (first | rfl | simp)) | (simp [*]; done)), (by first | rfl | (simp; done) | (simp [*]; done)), H', ⟨by have := HK1.out; have := HJ1.out; have := HJ4.out; omega⟩, by repeat (first | exact Drawn0.refl _ | apply Drawn0.step)⟩
                      · rw [if_neg c13] at H
                        exact absurd H (by simp)
                    · rw [if_neg c11] at H
                      exact absurd H (by simp)
                  · rw [if_neg c10] at H
                    exact absurd H (by simp)
          · replace c4 := Bool.eq_false_iff.mpr c4
            subst c4
            have H1 : (some (0, 0, false)) = some (r1, r2, r3) := by rw [if_neg (show ¬ (false = true) by decide)] at H; exact H
            clear H
            have H := H1
            clear H1
            simp only [Option.some.injEq, Prod.mk.injEq] at H
            obtain ⟨rfl, rfl, rfl⟩ := H
            go_wp2
            go_ret3
            exact ⟨by first | rfl | (simp; done) | (simp [*]; done), by repeat (first | exact Drawn0.refl _ | apply Drawn0.step)⟩

/-! ### spec_Tag: function 13 -/
def spec_Tag.f (k : Nat) (l0 : List Int) : Option (Int × Int × Int × Bool) := (spec_Varint.f k l0).bind fun bt128 => (if bt128.2.2 = true then (if (IntKind.u64.wrap (Int.tdiv bt128.1 8)) < 1 then (some (0, 0, 0, false)) else (if (IntKind.u64.wrap (Int.tdiv bt128.1 8)) > 2147483647 then (some (0, 0, 0, false)) else (some (wrap64 (IntKind.u64.wrap (Int.tdiv bt128.1 8)), wrap64 (Int.tmod bt128.1 8), bt128.2.1, true)))) else (some (0, 0, 0, false)))
theorem spec_Tag.mono : ∀ a0 k, LeO (spec_Tag.f k a0) (spec_Tag.f (k + 1) a0) := by
  intro a0 k
  unfold spec_Tag.f
  repeat' first
      | (with_reducible exact spec_Varint.mono _ _)
      | (with_reducible exact LeO.refl _)
      | (with_reducible exact LeO.none _)
      | (with_reducible refine LeO.ite ?_ ?_)
      | (with_reducible refine LeO.bind ?_ (fun _ => ?_))
      | exact spec_Varint.mono _ _
      | exact LeO.none _
      | refine LeO.ite ?_ ?_
      | refine LeO.bind ?_ (fun _ => ?_)
set_option maxHeartbeats 8000000 in
set_option maxRecDepth 100000 in
theorem spec_Tag.calls (k : Nat) (A0 : Option Addr) (c0 : Nat) (l0 : List Int) (r1 : Int) (r2 : Int) (r3 : Int) (r4 : Bool) (w : World) (hr0 : Kd.C (Kd.int .u8) w A0 l0.length l0) (hc0 : l0.length ≤ c0) (hG : GlE E w) (h : spec_Tag.f k l0 = some (r1, r2, r3, r4)) :
    Calls Tryd.prog 13 #[.slice A0 l0.length c0] w fun e w' => e = .returned (.tuple #[.int .i64 r1, .int .i64 r2, .int .i64 r3, .bool r4]) ∧ Drawn0 w w' := by
  have HG := Aside0.mk hG
  clear hG
  have HR0 := Aside0.mk hr0
  have HC0 := Aside0.mk hc0
  clear hr0 hc0
  have H : ((spec_Varint.f k l0).bind fun bt128 => (if bt128.2.2 = true then (if (IntKind.u64.wrap (Int.tdiv bt128.1 8)) < 1 then (some (0, 0, 0, false)) else (if (IntKind.u64.wrap (Int.tdiv bt128.1 8)) > 2147483647 then (some (0, 0, 0, false)) else (some (wrap64 (IntKind.u64.wrap (Int.tdiv bt128.1 8)), wrap64 (Int.tmod bt128.1 8), bt128.2.1, true)))) else (some (0, 0, 0, false)))) = some (r1, r2, r3, r4) := h
  clear h
  replace H := Option.bind_eq_some_iff.mp H
  obtain ⟨⟨t128, t129, t130⟩, A20, H⟩ := H
  replace H : (if t130 = true then (if (IntKind.u64.wrap (Int.tdiv t128 8)) < 1 then (some (0, 0, 0, false)) else (if (IntKind.u64.wrap (Int.tdiv t128 8)) > 2147483647 then (some (0, 0, 0, false)) else (some (wrap64 (IntKind.u64.wrap (Int.tdiv t128 8)), wrap64 (Int.tmod t128 8), t129, true)))) else (some (0, 0, 0, false))) = some (r1, r2, r3, r4) := H
  have A2 := Aside0.mk A20
  clear A20
  by_cases c3 : t130 = true
  · subst c3
    have H1 : (if (IntKind.u64.wrap (Int.tdiv t128 8)) < 1 then (some (0, 0, 0, false)) else (if (IntKind.u64.wrap (Int.tdiv t128 8)) > 2147483647 then (some (0, 0, 0, false)) else (some (wrap64 (IntKind.u64.wrap (Int.tdiv t128 8)), wrap64 (Int.tmod t128 8), t129, true)))) = some (r1, r2, r3, r4) := by rw [if_pos rfl] at H; exact H
    clear H
    have H := H1
    clear H1
    by_cases c4 : (IntKind.u64.wrap (Int.tdiv t128 8)) < 1
    · rw [if_pos c4] at H
      have c4b0 : decide ((IntKind.u64.wrap (Int.tdiv t128 8)) < 1) = true := decide_eq_true c4
      clear c4
      simp only [Option.some.injEq, Prod.mk.injEq] at H
      obtain ⟨rfl, rfl, rfl, rfl⟩ := H
      go_enter Tryd.func13, Tryd.ntmps13
      go_wp2_with (first | ((with_reducible refine gate_callee (f := 11) rfl ?_); refine goesL_ (some 11) rfl rfl Tryd.func11 (by kernel_rfl) rfl #[.slice A0 l0.length c0] rfl (by (try simp only [List.map_toArray, List.map_cons, List.map_nil]); first | done | rfl | (simp only [List.length_drop, List.length_take]; rfl)) ?_; (with_reducible refine (spec_Varint.calls k _ _ l0 t128 t129 true _ ?side1 ?side2 (by first | exact HG.out | exact GlE.below HG.out HB.out | exact (by repeat (first | exact HG.out | exact GlE.below HG.out HB.out | apply GlE.drewN | apply GlE.drew | apply GlE.alloc))) A2.out).mono ?_); (case side1 => repeat (first | exact HR0.out | (with_reducible refine Kd.C_alloc ?_ _) | (with_reducible refine Kd.C_drewN ?_ _) | (with_reducible refine Kd.C_drew ?_))); (case side2 => exact HC0.out); rintro e w' ⟨rfl, ⟨nd, rfl⟩⟩; refine ⟨_, rfl, ?_⟩))
      refine bodyPost_ret (results_list (rs := [.tmp 2, .tmp 3, .tmp 4, .tmp 5]) rfl (by simp) (.tmp (.tmp (.tmp (.tmp .nil))))) rfl ?_
      exact ⟨by first | rfl | (simp; done) | (simp [*]; done), by repeat (first | exact Drawn0.refl _ | apply Drawn0.step)⟩
    · rw [if_neg c4] at H
      have c4b0 : decide ((IntKind.u64.wrap (Int.tdiv t128 8)) < 1) = false := decide_eq_false c4
      clear c4
      by_cases c5 : (IntKind.u64.wrap (Int.tdiv t128 8)) > 2147483647
      · rw [if_pos c5] at H
        have c5b0 : decide (2147483647 < (IntKind.u64.wrap (Int.tdiv t128 8))) = true := decide_eq_true c5
        clear c5
        simp only [Option.some.injEq, Prod.mk.injEq] at H
        obtain ⟨rfl, rfl, rfl, rfl⟩ := H
        go_enter Tryd.func13, Tryd.ntmps13
        go_wp2_with (first | ((with_reducible refine gate_callee (f := 11) rfl ?_); refine goesL_ (some 11) rfl rfl Tryd.func11 (by kernel_rfl) rfl #[.slice A0 l0.length c0] rfl (by (try simp only [List.map_toArray, List.map_cons, List.map_nil]); first | done | rfl | (simp only [List.length_drop, List.length_take]; rfl)) ?_; (with_reducible refine (spec_Varint.calls k _ _ l0 t128 t129 true _ ?side1 ?side2 (by first | exact HG.out | exact GlE.below HG.out HB.out | exact (by repeat (first | exact HG.out | exact GlE.below HG.out HB.out | apply GlE.drewN | apply GlE.drew | apply GlE.alloc))) A2.out).mono ?_); (case side1 => repeat (first | exact HR0.out | (with_reducible refine Kd.C_alloc ?_ _) | (with_reducible refine Kd.C_drewN ?_ _) | (with_reducible refine Kd.C_drew ?_))); (case side2 => exact HC0.out); rintro e w' ⟨rfl, ⟨nd, rfl⟩⟩; refine ⟨_, rfl, ?_⟩))
        refine bodyPost_ret (results_list (rs := [.tmp 2, .tmp 3, .tmp 4, .tmp 5]) rfl (by simp) (.tmp (.tmp (.tmp (.tmp .nil))))) rfl ?_
        exact ⟨by first | rfl | (simp; done) | (simp [*]; done), by repeat (first | exact Drawn0.refl _ | apply Drawn0.step)⟩
      · rw [if_neg c5] at H
        have c5b0 : decide (2147483647 < (IntKind.u64.wrap (Int.tdiv t128 8))) = false := decide_eq_false c5
        clear c5
        simp only [Option.some.injEq, Prod.mk.injEq] at H
        obtain ⟨rfl, rfl, rfl, rfl⟩ := H
        go_enter Tryd.func13, Tryd.ntmps13
        go_wp2_with (first | ((with_reducible refine gate_callee (f := 11) rfl ?_); refine goesL_ (some 11) rfl rfl Tryd.func11 (by kernel_rfl) rfl #[.slice A0 l0.length c0] rfl (by (try simp only [List.map_toArray, List.map_cons, List.map_nil]); first | done | rfl | (simp only [List.length_drop, List.length_take]; rfl)) ?_; (with_reducible refine (spec_Varint.calls k _ _ l0 t128 t129 true _ ?side1 ?side2 (by first | exact HG.out | exact GlE.below HG.out HB.out | exact (by repeat (first | exact HG.out | exact GlE.below HG.out HB.out | apply GlE.drewN | apply GlE.drew | apply GlE.alloc))) A2.out).mono ?_); (case side1 => repeat (first | exact HR0.out | (with_reducible refine Kd.C_alloc ?_ _) | (with_reducible refine Kd.C_drewN ?_ _) | (with_reducible refine Kd.C_drew ?_))); (case side2 => exact HC0.out); rintro e w' ⟨rfl, ⟨nd, rfl⟩⟩; refine ⟨_, rfl, ?_⟩))
        refine bodyPost_ret (results_list (rs := [.tmp 2, .tmp 3, .tmp 4, .tmp 5]) rfl (by simp) (.tmp (.tmp (.tmp (.tmp .nil))))) rfl ?_
        exact ⟨by first | rfl | (simp; done) | (simp [*]; done), by repeat (first | exact Drawn0.refl _ | apply Drawn0.step)⟩
  · replace c3 := Bool.eq_false_iff.mpr c3
    subst c3
    have H1 : (some (0, 0, 0, false)) = some (r1, r2, r3, r4) := by rw [if_neg (show ¬ (false = true) by decide)] at H; exact H
    clear H
    have H := H1
    clear H1
    simp only [Option.some.injEq, Prod.mk.injEq] at H
    obtain ⟨rfl, rfl, rfl, rfl⟩ := H
    go_enter Tryd.func13, Tryd.ntmps13
    go_wp2_with (first | ((with_reducible refine gate_callee (f := 11) rfl ?_); refine goesL_ (some 11) rfl rfl Tryd.func11 (by kernel_rfl) rfl #[.slice A0 l0.length c0] rfl (by (try simp only [List.map_toArray, List.map_cons, List.map_nil]); first | done | rfl | (simp only [List.length_drop, List.length_take]; rfl)) ?_; (with_reducible refine (spec_Varint.calls k _ _ l0 t128 t129 false _ ?side1 ?side2 (by first | exact HG.out | exact GlE.below HG.out HB.out | exact (by repeat (first | exact HG.out | exact GlE.below HG.out HB.out | apply GlE.drewN | apply GlE.drew | apply GlE.alloc))) A2.out).mono ?_); (case side1 => repeat (first | exact HR0.out | (with_reducible refine Kd.C_alloc ?_ _) | (with_reducible refine Kd.C_drewN ?_ _) | (with_reducible refine Kd.C_drew ?_))); (case side2 => exact HC0.out); rintro e w' ⟨rfl, ⟨nd, rfl⟩⟩; refine ⟨_, rfl, ?_⟩))
    refine bodyPost_ret (results_list (rs := [.tmp 2, .tmp 3, .tmp 4, .tmp 5]) rfl (by simp) (.tmp (.tmp (.tmp (.tmp .nil))))) rfl ?_
    exact ⟨by first | rfl | (simp; done) | (simp [*]; done), by repeat (first | exact Drawn0.refl _ | apply Drawn0.step)⟩

/-! ### spec_Bytes: function 30 (by hand) -/
def spec_Bytes.f (k : Nat) (l : List Int) : Option (Int × Bool) :=
  (spec_Varint.f k l).bind fun q => if q.2.2 = true then (if q.1 > IntKind.u64.wrap (wrap64 ((l.length : Int) - q.2.1)) then some (0, false) else (if 0 ≤ q.2.1 ∧ q.2.1 ≤ wrap64 (q.2.1 + wrap64 q.1) ∧ wrap64 (q.2.1 + wrap64 q.1) ≤ (l.length : Int) then some (wrap64 (q.2.1 + wrap64 q.1), true) else none)) else some (0, false)
theorem spec_Bytes.mono : ∀ l k, LeO (spec_Bytes.f k l) (spec_Bytes.f (k + 1) l) := by
  intro l k
  unfold spec_Bytes.f
  exact LeO.bind (spec_Varint.mono _ _) (fun _ => LeO.refl _)
set_option maxHeartbeats 4000000 in
set_option maxRecDepth 100000 in
theorem spec_Bytes.calls (k : Nat) (A0 : Option Addr) (c0 : Nat) (l0 : List Int) (r1 : Int) (r2 : Bool) (w : World) (hr0 : Kd.C (Kd.int .u8) w A0 l0.length l0) (hc0 : l0.length ≤ c0) (hG : GlE E w) (h : spec_Bytes.f k l0 = some (r1, r2)) :
    Calls Tryd.prog 30 #[.slice A0 l0.length c0] w fun e w' => (∃ v, e = .returned (.tuple #[v, .int .i64 r1, .bool r2])) ∧ Drawn0 w w' := by
  have HG := Aside0.mk hG
  have HR := Aside0.mk hr0
  have HC := Aside0.mk hc0
  clear hG hr0 hc0
  obtain ⟨⟨q1, q2, q3⟩, hq, h⟩ := Option.bind_eq_some_iff.mp h
  have HQ := Aside0.mk hq
  clear hq
  have h1 : (if q3 = true then (if q1 > IntKind.u64.wrap (wrap64 ((l0.length : Int) - q2)) then some (0, false) else (if 0 ≤ q2 ∧ q2 ≤ wrap64 (q2 + wrap64 q1) ∧ wrap64 (q2 + wrap64 q1) ≤ (l0.length : Int) then some (wrap64 (q2 + wrap64 q1), true) else none)) else some (0, false)) = some (r1, r2) := h
  clear h
  cases q3 with
  | false =>
    have h2 : (some (0, false) : Option (Int × Bool)) = some (r1, r2) := h1
    simp only [Option.some.injEq, Prod.mk.injEq] at h2
    obtain ⟨rfl, rfl⟩ := h2
    clear h1
    go_enter Tryd.func30, Tryd.ntmps30
    go_wp2_with fail
    refine (spec_Varint.calls k A0 c0 l0 q1 q2 false w HR.out HC.out HG.out HQ.out).mono ?_
    rintro e w' ⟨rfl, ⟨nd, rfl⟩⟩
    go_wp2
    refine bodyPost_ret (results_list (rs := [.tmp 2, .tmp 3, .tmp 4]) rfl (by simp) (.tmp (.tmp (.tmp .nil)))) rfl ?_
    exact ⟨⟨_, rfl⟩, by repeat (first | exact Drawn0.refl _ | apply Drawn0.step | exact ⟨_, rfl⟩)⟩
  | true =>
    rw [if_pos rfl] at h1
    by_cases d : q1 > IntKind.u64.wrap (wrap64 ((l0.length : Int) - q2))
    · rw [if_pos d] at h1
      simp only [Option.some.injEq, Prod.mk.injEq] at h1
      obtain ⟨rfl, rfl⟩ := h1
      have d1 : decide (IntKind.u64.wrap (wrap64 ((l0.length : Int) - q2)) < q1) = true := decide_eq_true d
      clear d
      go_enter Tryd.func30, Tryd.ntmps30
      go_wp2_with fail
      refine (spec_Varint.calls k A0 c0 l0 q1 q2 true w HR.out HC.out HG.out HQ.out).mono ?_
      rintro e w' ⟨rfl, ⟨nd, rfl⟩⟩
      go_wp2
      refine bodyPost_ret (results_list (rs := [.tmp 2, .tmp 3, .tmp 4]) rfl (by simp) (.tmp (.tmp (.tmp .nil)))) rfl ?_
      exact ⟨⟨_, rfl⟩, by repeat (first | exact Drawn0.refl _ | apply Drawn0.step | exact ⟨_, rfl⟩)⟩
    · rw [if_neg d] at h1
      have d1 : decide (IntKind.u64.wrap (wrap64 ((l0.length : Int) - q2)) < q1) = false := decide_eq_false d
      clear d
      by_cases g : 0 ≤ q2 ∧ q2 ≤ wrap64 (q2 + wrap64 q1) ∧ wrap64 (q2 + wrap64 q1) ≤ (l0.length : Int)
      rotate_left
      · rw [if_neg g] at h1; cases h1
      rw [if_pos g] at h1
      simp only [Option.some.injEq, Prod.mk.injEq] at h1
      obtain ⟨rfl, rfl⟩ := h1
      have GG := Aside0.mk g
      clear g
      go_enter Tryd.func30, Tryd.ntmps30
      go_wp2_with fail
      refine (spec_Varint.calls k A0 c0 l0 q1 q2 true w HR.out HC.out HG.out HQ.out).mono ?_
      rintro e w' ⟨rfl, ⟨nd, rfl⟩⟩
      obtain ⟨i08, hi08, _, hsz8, _⟩ := info_parts info5
      obtain ⟨A8, hcut8, hA8, hC8⟩ := print_mid_of (P := Tryd.prog) (Value.int .u8) 0 22 5 .i64 .i64 Tryd.underlying22 hi08 hsz8 A0 c0 l0 q2 (wrap64 (q2 + wrap64 q1)) GG.out.1 GG.out.2.1 GG.out.2.2 HC.out
      clear hA8 hC8 hi08 hsz8
      go_wp2
      refine bodyPost_ret (results_list (rs := [.tmp 2, .tmp 3, .tmp 4]) rfl (by simp) (.tmp (.tmp (.tmp .nil)))) rfl ?_
      exact ⟨⟨_, rfl⟩, by repeat (first | exact Drawn0.refl _ | apply Drawn0.step | exact ⟨_, rfl⟩)⟩

/-! ### spec_Value: function 25 (by hand) -/
def spec_Value.f (k : Nat) (typ : Int) (l : List Int) : Option (Int × Bool) :=
  if typ = 0 then (spec_Varint.f k l).map fun q => (q.2.1, q.2.2)
  else if typ = 1 then some (8, decide ((l.length : Int) ≥ 8))
  else if typ = 2 then spec_Bytes.f k l
  else if typ = 5 then some (4, decide ((l.length : Int) ≥ 4))
  else some (0, false)
theorem spec_Value.mono : ∀ a l k, LeO (spec_Value.f k a l) (spec_Value.f (k + 1) a l) := by
  intro a l k
  unfold spec_Value.f
  repeat' (first | exact LeO.refl _ | exact spec_Bytes.mono _ _ | (rw [Option.map_eq_bind, Option.map_eq_bind]; exact LeO.bind (spec_Varint.mono _ _) (fun _ => LeO.refl _)) | split)
set_option maxHeartbeats 4000000 in
set_option maxRecDepth 100000 in
theorem spec_Value.calls (k : Nat) (a0 : Int) (A1 : Option Addr) (c1 : Nat) (l1 : List Int) (r1 : Int) (r2 : Bool) (w : World) (hr1 : Kd.C (Kd.int .u8) w A1 l1.length l1) (hc1 : l1.length ≤ c1) (hG : GlE E w) (h : spec_Value.f k a0 l1 = some (r1, r2)) :
    Calls Tryd.prog 25 #[.int .i64 a0, .slice A1 l1.length c1] w fun e w' => e = .returned (.tuple #[.int .i64 r1, .bool r2]) ∧ Drawn0 w w' := by
  have HG := Aside0.mk hG
  have HR := Aside0.mk hr1
  have HC := Aside0.mk hc1
  clear hG hr1 hc1
  unfold spec_Value.f at h
  by_cases c0 : a0 = 0
  · subst c0
    rw [if_pos rfl] at h
    obtain ⟨⟨q1, q2, q3⟩, hq, e⟩ := Option.map_eq_some_iff.mp h
    simp only [Prod.mk.injEq] at e
    obtain ⟨rfl, rfl⟩ := e
    have HQ := Aside0.mk hq
    clear hq h
    go_enter Tryd.func25, Tryd.ntmps25
    go_wp2_with fail
    refine (spec_Varint.calls k A1 c1 l1 q1 q2 q3 w HR.out HC.out HG.out HQ.out).mono ?_
    rintro e w' ⟨rfl, ⟨nd, rfl⟩⟩
    go_wp2
    refine bodyPost_ret (results_list (rs := [.tmp 4, .tmp 5]) rfl (by simp) (.tmp (.tmp .nil))) rfl ?_
    exact ⟨rfl, by repeat (first | exact Drawn0.refl _ | apply Drawn0.step | exact ⟨_, rfl⟩)⟩
  rw [if_neg c0] at h
  have n0 : (a0 == 0) = false := beq_eq_false_iff_ne.mpr c0
  by_cases c1_ : a0 = 1
  · subst c1_
    rw [if_pos rfl] at h
    simp only [Option.some.injEq, Prod.mk.injEq] at h
    obtain ⟨rfl, rfl⟩ := h
    go_enter Tryd.func25, Tryd.ntmps25
    go_wp2
    refine bodyPost_ret (results_list (rs := [.tmp 4, .tmp 5]) rfl (by simp) (.tmp (.tmp .nil))) rfl ?_
    exact ⟨by first | rfl | (simp; done), by repeat (first | exact Drawn0.refl _ | apply Drawn0.step | exact ⟨_, rfl⟩)⟩
  rw [if_neg c1_] at h
  have n1 : (a0 == 1) = false := beq_eq_false_iff_ne.mpr c1_
  by_cases c2 : a0 = 2
  · subst c2
    rw [if_pos rfl] at h
    have HQ := Aside0.mk h
    clear h
    go_enter Tryd.func25, Tryd.ntmps25
    go_wp2_with fail
    refine (spec_Bytes.calls k A1 c1 l1 r1 r2 w HR.out HC.out HG.out HQ.out).mono ?_
    rintro e w' ⟨⟨v, rfl⟩, ⟨nd, rfl⟩⟩
    go_wp2
    refine bodyPost_ret (results_list (rs := [.tmp 4, .tmp 5]) rfl (by simp) (.tmp (.tmp .nil))) rfl ?_
    exact ⟨rfl, by repeat (first | exact Drawn0.refl _ | apply Drawn0.step | exact ⟨_, rfl⟩)⟩
  rw [if_neg c2] at h
  have n2 : (a0 == 2) = false := beq_eq_false_iff_ne.mpr c2
  by_cases c5 : a0 = 5
  · subst c5
    rw [if_pos rfl] at h
    simp only [Option.some.injEq, Prod.mk.injEq] at h
    obtain ⟨rfl, rfl⟩ := h
    go_enter Tryd.func25, Tryd.ntmps25
    go_wp2
    refine bodyPost_ret (results_list (rs := [.tmp 4, .tmp 5]) rfl (by simp) (.tmp (.tmp .nil))) rfl ?_
    exact ⟨by first | rfl | (simp; done), by repeat (first | exact Drawn0.refl _ | apply Drawn0.step | exact ⟨_, rfl⟩)⟩
  rw [if_neg c5] at h
  have n5 : (a0 == 5) = false := beq_eq_false_iff_ne.mpr c5
  simp only [Option.some.injEq, Prod.mk.injEq] at h
  obtain ⟨rfl, rfl⟩ := h
  go_enter Tryd.func25, Tryd.ntmps25
  go_wp2
  refine bodyPost_ret (results_list (rs := [.tmp 4, .tmp 5]) rfl (by simp) (.tmp (.tmp .nil))) rfl ?_
  exact ⟨rfl, by repeat (first | exact Drawn0.refl _ | apply Drawn0.step | exact ⟨_, rfl⟩)⟩

/-! ### spec_ScanField: function 15 -/
def spec_ScanField.f (k : Nat) (l0 : List Int) : Option (Int × Int × Int × Bool) := (spec_Tag.f k l0).bind fun bt131 => (if bt131.2.2.2 = true then (if 0 ≤ bt131.2.2.1 then (if bt131.2.2.1 ≤ (l0.length : Int) then ((spec_Value.f k bt131.2.1 (l0.drop (bt131.2.2.1 : Int).toNat)).bind fun bt136 => (if bt136.2 = true then (some (bt131.1, bt131.2.1, wrap64 (bt131.2.2.1 + bt136.1), true)) else (some (0, 0, 0, false)))) else (none)) else (none)) else (some (0, 0, 0, false)))
theorem spec_ScanField.mono : ∀ a0 k, LeO (spec_ScanField.f k a0) (spec_ScanField.f (k + 1) a0) := by
  intro a0 k
  unfold spec_ScanField.f
  repeat' first
      | (with_reducible exact spec_Tag.mono _ _)
      | (with_reducible exact spec_Value.mono _ _ _)
      | (with_reducible exact LeO.refl _)
      | (with_reducible exact LeO.none _)
      | (with_reducible refine LeO.ite ?_ ?_)
      | (with_reducible refine LeO.bind ?_ (fun _ => ?_))
      | exact spec_Tag.mono _ _
      | exact spec_Value.mono _ _ _
      | exact LeO.none _
      | refine LeO.ite ?_ ?_
      | refine LeO.bind ?_ (fun _ => ?_)
set_option maxHeartbeats 8000000 in
set_option maxRecDepth 100000 in
theorem spec_ScanField.calls (k : Nat) (A0 : Option Addr) (c0 : Nat) (l0 : List Int) (r1 : Int) (r2 : Int) (r3 : Int) (r4 : Bool) (w : World) (hr0 : Kd.C (Kd.int .u8) w A0 l0.length l0) (hc0 : l0.length ≤ c0) (hG : GlE E w) (h : spec_ScanField.f k l0 = some (r1, r2, r3, r4)) :
    Calls Tryd.prog 15 #[.slice A0 l0.length c0] w fun e w' => e = .returned (.tuple #[.int .i64 r1, .int .i64 r2, .int .i64 r3, .bool r4]) ∧ Drawn0 w w' := by
  have HG := Aside0.mk hG
  clear hG
  have HR0 := Aside0.mk hr0
  have HC0 := Aside0.mk hc0
  clear hr0 hc0
  have H : ((spec_Tag.f k l0).bind fun bt131 => (if bt131.2.2.2 = true then (if 0 ≤ bt131.2.2.1 then (if bt131.2.2.1 ≤ (l0.length : Int) then ((spec_Value.f k bt131.2.1 (l0.drop (bt131.2.2.1 : Int).toNat)).bind fun bt136 => (if bt136.2 = true then (some (bt131.1, bt131.2.1, wrap64 (bt131.2.2.1 + bt136.1), true)) else (some (0, 0, 0, false)))) else (none)) else (none)) else (some (0, 0, 0, false)))) = some (r1, r2, r3, r4) := h
  clear h
  replace H := Option.bind_eq_some_iff.mp H
  obtain ⟨⟨t131, t132, t133, t134⟩, A20, H⟩ := H
  replace H : (if t134 = true then (if 0 ≤ t133 then (if t133 ≤ (l0.length : Int) then ((spec_Value.f k t132 (l0.drop (t133 : Int).toNat)).bind fun bt136 => (if bt136.2 = true then (some (t131, t132, wrap64 (t133 + bt136.1), true)) else (some (0, 0, 0, false)))) else (none)) else (none)) else (some (0, 0, 0, false))) = some (r1, r2, r3, r4) := H
  have A2 := Aside0.mk A20
  clear A20
  by_cases c3 : t134 = true
  · subst c3
    have H1 : (if 0 ≤ t133 then (if t133 ≤ (l0.length : Int) then ((spec_Value.f k t132 (l0.drop (t133 : Int).toNat)).bind fun bt136 => (if bt136.2 = true then (some (t131, t132, wrap64 (t133 + bt136.1), true)) else (some (0, 0, 0, false)))) else (none)) else (none)) = some (r1, r2, r3, r4) := by rw [if_pos rfl] at H; exact H
    clear H
    have H := H1
    clear H1
    by_cases c4 : 0 ≤ t133
    · rw [if_pos c4] at H
      have c4b0 := eq_true c4
      have c4b1 : decide (0 ≤ t133) = true := decide_eq_true c4
      clear c4
      by_cases c5 : t133 ≤ (l0.length : Int)
      · rw [if_pos c5] at H
        have c5b0 := eq_true c5
        have c5b1 : decide (t133 ≤ (l0.length : Int)) = true := decide_eq_true c5
        clear c5
        replace H := Option.bind_eq_some_iff.mp H
        obtain ⟨⟨t136, t137⟩, A60, H⟩ := H
        replace H : (if t137 = true then (some (t131, t132, wrap64 (t133 + t136), true)) else (some (0, 0, 0, false))) = some (r1, r2, r3, r4) := H
        have A6 := Aside0.mk A60
        clear A60
        by_cases c7 : t137 = true
        · subst c7
          have H1 : (some (t131, t132, wrap64 (t133 + t136), true)) = some (r1, r2, r3, r4) := by rw [if_pos rfl] at H; exact H
          clear H
          have H := H1
          clear H1
          simp only [Option.some.injEq, Prod.mk.injEq] at H
          obtain ⟨rfl, rfl, rfl, rfl⟩ := H
          go_enter Tryd.func15, Tryd.ntmps15
          go_wp2_with (first | ((with_reducible refine gate_callee (f := 13) rfl ?_); refine goesL_ (some 11) rfl rfl Tryd.func13 (by kernel_rfl) rfl #[.slice A0 l0.length c0] rfl (by (try simp only [List.map_toArray, List.map_cons, List.map_nil]); first | done | rfl | (simp only [List.length_drop, List.length_take]; rfl)) ?_; (with_reducible refine (spec_Tag.calls k _ _ l0 t131 t132 t133 true _ ?side1 ?side2 (by first | exact HG.out | exact GlE.below HG.out HB.out | exact (by repeat (first | exact HG.out | exact GlE.below HG.out HB.out | apply GlE.drewN | apply GlE.drew | apply GlE.alloc))) A2.out).mono ?_); (case side1 => repeat (first | exact HR0.out | (with_reducible refine Kd.C_alloc ?_ _) | (with_reducible refine Kd.C_drewN ?_ _) | (with_reducible refine Kd.C_drew ?_))); (case side2 => exact HC0.out); rintro e w' ⟨rfl, ⟨nd, rfl⟩⟩; refine ⟨_, rfl, ?_⟩; obtain ⟨i08, hi08, _, hsz8, _⟩ := info_parts info5; obtain ⟨A8, hcut8, hA8, hC8⟩ := print_drop_of (P := Tryd.prog) (Value.int .u8) 0 22 5 .i64 Tryd.underlying22 hi08 hsz8 A0 c0 l0 t133 (of_decide_eq_true (by first | (with_reducible assumption) | assumption)) (of_decide_eq_true (by first | (with_reducible assumption) | assumption)) HC0.out; have HR135 := Aside0.mk (Kd.C_of_reads (h1 := fun _ => rfl) (hA8 _ (Kd.reads_of_C HR0.out))); have HC135 := Aside0.mk hC8; clear hA8 hC8 hi08 hsz8) | ((with_reducible refine gate_callee (f := 25) rfl ?_); refine goesL_ (some 23) rfl rfl Tryd.func25 (by kernel_rfl) rfl #[.int .i64 t132, .slice A8 (l0.drop (t133 : Int).toNat).length (c0 - t133.toNat)] rfl (by (try simp only [List.map_toArray, List.map_cons, List.map_nil]); first | done | (rw [show (l0.drop (t133 : Int).toNat).length = (l0.length - t133.toNat) from List.length_drop] <;> rfl) | rfl | (simp only [List.length_drop, List.length_take]; rfl)) ?_; (with_reducible refine (spec_Value.calls k t132 _ _ (l0.drop (t133 : Int).toNat) t136 true _ ?side1 ?side2 (by first | exact HG.out | exact GlE.below HG.out HB.out | exact (by repeat (first | exact HG.out | exact GlE.below HG.out HB.out | apply GlE.drewN | apply GlE.drew | apply GlE.alloc))) A6.out).mono ?_); (case side1 => repeat (first | exact HR135.out | (with_reducible refine Kd.C_alloc ?_ _) | (with_reducible refine Kd.C_drewN ?_ _) | (with_reducible refine Kd.C_drew ?_))); (case side2 => exact HC135.out); rintro e w' ⟨rfl, ⟨nd, rfl⟩⟩; refine ⟨_, rfl, ?_⟩))
          refine bodyPost_ret (results_list (rs := [.tmp 2, .tmp 3, .tmp 4, .tmp 5]) rfl (by simp) (.tmp (.tmp (.tmp (.tmp .nil))))) rfl ?_
          exact ⟨by first | rfl | (simp; done) | (simp [*]; done), by repeat (first | exact Drawn0.refl _ | apply Drawn0.step)⟩
        · replace c7 := Bool.eq_false_iff.mpr c7
          subst c7
          have H1 : (some (0, 0, 0, false)) = some (r1, r2, r3, r4) := by rw [if_neg (show ¬ (false = true) by decide)] at H; exact H
          clear H
          have H := H1
          clear H1
          simp only [Option.some.injEq, Prod.mk.injEq] at H
          obtain ⟨rfl, rfl, rfl, rfl⟩ := H
          go_enter Tryd.func15, Tryd.ntmps15
          go_wp2_with (first | ((with_reducible refine gate_callee (f := 13) rfl ?_); refine goesL_ (some 11) rfl rfl Tryd.func13 (by kernel_rfl) rfl #[.slice A0 l0.length c0] rfl (by (try simp only [List.map_toArray, List.map_cons, List.map_nil]); first | done | rfl | (simp only [List.length_drop, List.length_take]; rfl)) ?_; (with_reducible refine (spec_Tag.calls k _ _ l0 t131 t132 t133 true _ ?side1 ?side2 (by first | exact HG.out | exact GlE.below HG.out HB.out | exact (by repeat (first | exact HG.out | exact GlE.below HG.out HB.out | apply GlE.drewN | apply GlE.drew | apply GlE.alloc))) A2.out).mono ?_); (case side1 => repeat (first | exact HR0.out | (with_reducible refine Kd.C_alloc ?_ _) | (with_reducible refine Kd.C_drewN ?_ _) | (with_reducible refine Kd.C_drew ?_))); (case side2 => exact HC0.out); rintro e w' ⟨rfl, ⟨nd, rfl⟩⟩; refine ⟨_, rfl, ?_⟩; obtain ⟨i09, hi09, _, hsz9, _⟩ := info_parts info5; obtain ⟨A9, hcut9, hA9, hC9⟩ := print_drop_of (P := Tryd.prog) (Value.int .u8) 0 22 5 .i64 Tryd.underlying22 hi09 hsz9 A0 c0 l0 t133 (of_decide_eq_true (by first | (with_reducible assumption) | assumption)) (of_decide_eq_true (by first | (with_reducible assumption) | assumption)) HC0.out; have HR135 := Aside0.mk (Kd.C_of_reads (h1 := fun _ => rfl) (hA9 _ (Kd.reads_of_C HR0.out))); have HC135 := Aside0.mk hC9; clear hA9 hC9 hi09 hsz9) | ((with_reducible refine gate_callee (f := 25) rfl ?_); refine goesL_ (some 23) rfl rfl Tryd.func25 (by kernel_rfl) rfl #[.int .i64 t132, .slice A9 (l0.drop (t133 : Int).toNat).length (c0 - t133.toNat)] rfl (by (try simp only [List.map_toArray, List.map_cons, List.map_nil]); first | done | (rw [show (l0.drop (t133 : Int).toNat).length = (l0.length - t133.toNat) from List.length_drop] <;> rfl) | rfl | (simp only [List.length_drop, List.length_take]; rfl)) ?_; (with_reducible refine (spec_Value.calls k t132 _ _ (l0.drop (t133 : Int).toNat) t136 false _ ?side1 ?side2 (by first | exact HG.out | exact GlE.below HG.out HB.out | exact (by repeat (first | exact HG.out | exact GlE.below HG.out HB.out | apply GlE.drewN | apply GlE.drew | apply GlE.alloc))) A6.out).mono ?_); (case side1 => repeat (first | exact HR135.out | (with_reducible refine Kd.C_alloc ?_ _) | (with_reducible refine Kd.C_drewN ?_ _) | (with_reducible refine Kd.C_drew ?_))); (case side2 => exact HC135.out); rintro e w' ⟨rfl, ⟨nd, rfl⟩⟩; refine ⟨_, rfl, ?_⟩))
          refine bodyPost_ret (results_list (rs := [.tmp 2, .tmp 3, .tmp 4, .tmp 5]) rfl (by simp) (.tmp (.tmp (.tmp (.tmp .nil))))) rfl ?_
          exact ⟨by first | rfl | (simp; done) | (simp [*]; done), by repeat (first | exact Drawn0.refl _ | apply Drawn0.step)⟩
      · rw [if_neg c5] at H
        exact absurd H (by simp)
    · rw [if_neg c4] at H
      exact absurd H (by simp)
  · replace c3 := Bool.eq_false_iff.mpr c3
    subst c3
    have H1 : (some (0, 0, 0, false)) = some (r1, r2, r3, r4) := by rw [if_neg (show ¬ (false = true) by decide)] at H; exact H
    clear H
    have H := H1
    clear H1
    simp only [Option.some.injEq, Prod.mk.injEq] at H
    obtain ⟨rfl, rfl, rfl, rfl⟩ := H
    go_enter Tryd.func15, Tryd.ntmps15
    go_wp2_with (first | ((with_reducible refine gate_callee (f := 13) rfl ?_); refine goesL_ (some 11) rfl rfl Tryd.func13 (by kernel_rfl) rfl #[.slice A0 l0.length c0] rfl (by (try simp only [List.map_toArray, List.map_cons, List.map_nil]); first | done | rfl | (simp only [List.length_drop, List.length_take]; rfl)) ?_; (with_reducible refine (spec_Tag.calls k _ _ l0 t131 t132 t133 false _ ?side1 ?side2 (by first | exact HG.out | exact GlE.below HG.out HB.out | exact (by repeat (first | exact HG.out | exact GlE.below HG.out HB.out | apply GlE.drewN | apply GlE.drew | apply GlE.alloc))) A2.out).mono ?_); (case side1 => repeat (first | exact HR0.out | (with_reducible refine Kd.C_alloc ?_ _) | (with_reducible refine Kd.C_drewN ?_ _) | (with_reducible refine Kd.C_drew ?_))); (case side2 => exact HC0.out); rintro e w' ⟨rfl, ⟨nd, rfl⟩⟩; refine ⟨_, rfl, ?_⟩))
    refine bodyPost_ret (results_list (rs := [.tmp 2, .tmp 3, .tmp 4, .tmp 5]) rfl (by simp) (.tmp (.tmp (.tmp (.tmp .nil))))) rfl ?_
    exact ⟨by first | rfl | (simp; done) | (simp [*]; done), by repeat (first | exact Drawn0.refl _ | apply Drawn0.step)⟩

/-! ### server_protoScanTag: function 29 -/
def server_protoScanTag.f (l0 : List Int) : Option (Int × Int × Int × Option Int) := (server_protoScanVarint.f l0).bind fun bt138 => (if bt138.2.2.isNone = true then (if (bt138.1 / 8) > 2147483647 then (some (0, 0, 0, some 4)) else (if (wrap64 (bt138.1 / 8)) < 1 then (some (0, 0, 0, some 4)) else (some (wrap64 (bt138.1 / 8), wrap64 (Go.bits .and .u64 bt138.1 7), bt138.2.1, none)))) else (some (0, 0, 0, some (bt138.2.2.getD 0))))
set_option maxHeartbeats 8000000 in
set_option maxRecDepth 100000 in
theorem server_protoScanTag.calls (A0 : Option Addr) (c0 : Nat) (l0 : List Int) (r1 : Int) (r2 : Int) (r3 : Int) (r4 : Option Int) (w : World) (hr0 : Kd.C (Kd.int .u8) w A0 l0.length l0) (hc0 : l0.length ≤ c0) (hG : GlE E w) (h : server_protoScanTag.f l0 = some (r1, r2, r3, r4)) :
    Calls Tryd.prog 29 #[.slice A0 l0.length c0] w fun e w' => e = .returned (.tuple #[.int .i64 r1, .int .i64 r2, .int .i64 r3, errW E r4]) ∧ Drawn0 w w' := by
  have HG := Aside0.mk hG
  clear hG
  have hu45 := Tryd.underlying45
  have HR0 := Aside0.mk hr0
  have HC0 := Aside0.mk hc0
  clear hr0 hc0
  have H : ((server_protoScanVarint.f l0).bind fun bt138 => (if bt138.2.2.isNone = true then (if (bt138.1 / 8) > 2147483647 then (some (0, 0, 0, some 4)) else (if (wrap64 (bt138.1 / 8)) < 1 then (some (0, 0, 0, some 4)) else (some (wrap64 (bt138.1 / 8), wrap64 (Go.bits .and .u64 bt138.1 7), bt138.2.1, none)))) else (some (0, 0, 0, some (bt138.2.2.getD 0))))) = some (r1, r2, r3, r4) := h
  clear h
  replace H := Option.bind_eq_some_iff.mp H
  obtain ⟨⟨t138, t139, t140⟩, A20, H⟩ := H
  replace H : (if t140.isNone = true then (if (t138 / 8) > 2147483647 then (some (0, 0, 0, some 4)) else (if (wrap64 (t138 / 8)) < 1 then (some (0, 0, 0, some 4)) else (some (wrap64 (t138 / 8), wrap64 (Go.bits .and .u64 t138 7), t139, none)))) else (some (0, 0, 0, some (t140.getD 0)))) = some (r1, r2, r3, r4) := H
  have A2 := Aside0.mk A20
  clear A20
  rcases t140 with _ | q141
  · have H1 : (if (t138 / 8) > 2147483647 then (some (0, 0, 0, some 4)) else (if (wrap64 (t138 / 8)) < 1 then (some (0, 0, 0, some 4)) else (some (wrap64 (t138 / 8), wrap64 (Go.bits .and .u64 t138 7), t139, none)))) = some (r1, r2, r3, r4) := by rw [if_pos (show (none : Option Int).isNone = true by rfl)] at H; exact H
    clear H
    have H := H1
    clear H1
    try simp only [errW_none, errW_some]
    by_cases c3 : (t138 / 8) > 2147483647
    · rw [if_pos c3] at H
      have c3b0 : decide (2147483647 < (t138 / 8)) = true := decide_eq_true c3
      clear c3
      simp only [Option.some.injEq, Prod.mk.injEq] at H
      obtain ⟨rfl, rfl, rfl, rfl⟩ := H
      go_enter Tryd.func29, Tryd.ntmps29
      go_wp2_with (first | (go_at_call 28; (with_reducible refine (server_protoScanVarint.calls _ _ l0 t138 t139 none _ ?side1 ?side2 (by first | exact HG.out | exact GlE.below HG.out HB.out | exact (by repeat (first | exact HG.out | exact GlE.below HG.out HB.out | apply GlE.drewN | apply GlE.drew | apply GlE.alloc))) A2.out).mono ?_); (case side1 => repeat (first | exact HR0.out | (with_reducible refine Kd.C_alloc ?_ _) | (with_reducible refine Kd.C_drewN ?_ _) | (with_reducible refine Kd.C_drew ?_))); (case side2 => exact HC0.out); rintro e w' ⟨rfl, ⟨nd, rfl⟩⟩; (try simp only [errW_none, errW_some]); (try first | exact ⟨rfl, _, World.drewN_drewN _ _ _⟩ | exact ⟨rfl, _, Eq.trans (World.drewN_drewN _ _ _) (congrArg (World.drewN _) (Nat.add_assoc _ _ _))⟩); have hgl4 : w.cell? ⟨4, 0, none⟩ = some (.iface (E 4).1 (E 4).2) := (by first | exact GlE.g4 HG.out | exact (HB.out.cell (World.block_lt_of_cell? w _ (GlE.g4 HG.out))).trans (GlE.g4 HG.out) | exact GlE.g4 (by repeat (first | exact HG.out | apply GlE.drewN | apply GlE.drew | apply GlE.alloc)))))
      repeat (go_quiet (first | (go_at_call 28; (with_reducible refine (server_protoScanVarint.calls _ _ l0 t138 t139 none _ ?side1 ?side2 (by first | exact HG.out | exact GlE.below HG.out HB.out | exact (by repeat (first | exact HG.out | exact GlE.below HG.out HB.out | apply GlE.drewN | apply GlE.drew | apply GlE.alloc))) A2.out).mono ?_); (case side1 => repeat (first | exact HR0.out | (with_reducible refine Kd.C_alloc ?_ _) | (with_reducible refine Kd.C_drewN ?_ _) | (with_reducible refine Kd.C_drew ?_))); (case side2 => exact HC0.out); rintro e w' ⟨rfl, ⟨nd, rfl⟩⟩; (try simp only [errW_none, errW_some]); (try first | exact ⟨rfl, _, World.drewN_drewN _ _ _⟩ | exact ⟨rfl, _, Eq.trans (World.drewN_drewN _ _ _) (congrArg (World.drewN _) (Nat.add_assoc _ _ _))⟩); have hgl4 : w.cell? ⟨4, 0, none⟩ = some (.iface (E 4).1 (E 4).2) := (by first | exact GlE.g4 HG.out | exact (HB.out.cell (World.block_lt_of_cell? w _ (GlE.g4 HG.out))).trans (GlE.g4 HG.out) | exact GlE.g4 (by repeat (first | exact HG.out | apply GlE.drewN | apply GlE.drew | apply GlE.alloc))))); try go_wp2_with (first | (go_at_call 28; (with_reducible refine (server_protoScanVarint.calls _ _ l0 t138 t139 none _ ?side1 ?side2 (by first | exact HG.out | exact GlE.below HG.out HB.out | exact (by repeat (first | exact HG.out | exact GlE.below HG.out HB.out | apply GlE.drewN | apply GlE.drew | apply GlE.alloc))) A2.out).mono ?_); (case side1 => repeat (first | exact HR0.out | (with_reducible refine Kd.C_alloc ?_ _) | (with_reducible refine Kd.C_drewN ?_ _) | (with_reducible refine Kd.C_drew ?_))); (case side2 => exact HC0.out); rintro e w' ⟨rfl, ⟨nd, rfl⟩⟩; (try simp only [errW_none, errW_some]); (try first | exact ⟨rfl, _, World.drewN_drewN _ _ _⟩ | exact ⟨rfl, _, Eq.trans (World.drewN_drewN _ _ _) (congrArg (World.drewN _) (Nat.add_assoc _ _ _))⟩); have hgl4 : w.cell? ⟨4, 0, none⟩ = some (.iface (E 4).1 (E 4).2) := (by first | exact GlE.g4 HG.out | exact (HB.out.cell (World.block_lt_of_cell? w _ (GlE.g4 HG.out))).trans (GlE.g4 HG.out) | exact GlE.g4 (by repeat (first | exact HG.out | apply GlE.drewN | apply GlE.drew | apply GlE.alloc))))))
      refine bodyPost_ret (results_list (rs := [.tmp 2, .tmp 3, .tmp 4, .tmp 5]) rfl (by simp) (.tmp (.tmp (.tmp (.tmp .nil))))) rfl ?_
      exact ⟨by first | rfl | (simp; done) | (simp [*]; done), by repeat (first | exact Drawn0.refl _ | apply Drawn0.step)⟩
    · rw [if_neg c3] at H
      have c3b0 : decide (2147483647 < (t138 / 8)) = false := decide_eq_false c3
      clear c3
      by_cases c5 : (wrap64 (t138 / 8)) < 1
      · rw [if_pos c5] at H
        have c5b0 : decide ((wrap64 (t138 / 8)) < 1) = true := decide_eq_true c5
        clear c5
        simp only [Option.some.injEq, Prod.mk.injEq] at H
        obtain ⟨rfl, rfl, rfl, rfl⟩ := H
        go_enter Tryd.func29, Tryd.ntmps29
        go_wp2_with (first | (go_at_call 28; (with_reducible refine (server_protoScanVarint.calls _ _ l0 t138 t139 none _ ?side1 ?side2 (by first | exact HG.out | exact GlE.below HG.out HB.out | exact (by repeat (first | exact HG.out | exact GlE.below HG.out HB.out | apply GlE.drewN | apply GlE.drew | apply GlE.alloc))) A2.out).mono ?_); (case side1 => repeat (first | exact HR0.out | (with_reducible refine Kd.C_alloc ?_ _) | (with_reducible refine Kd.C_drewN ?_ _) | (with_reducible refine Kd.C_drew ?_))); (case side2 => exact HC0.out); rintro e w' ⟨rfl, ⟨nd, rfl⟩⟩; (try simp only [errW_none, errW_some]); (try first | exact ⟨rfl, _, World.drewN_drewN _ _ _⟩ | exact ⟨rfl, _, Eq.trans (World.drewN_drewN _ _ _) (congrArg (World.drewN _) (Nat.add_assoc _ _ _))⟩); have hgl6 : w.cell? ⟨4, 0, none⟩ = some (.iface (E 4).1 (E 4).2) := (by first | exact GlE.g4 HG.out | exact (HB.out.cell (World.block_lt_of_cell? w _ (GlE.g4 HG.out))).trans (GlE.g4 HG.out) | exact GlE.g4 (by repeat (first | exact HG.out | apply GlE.drewN | apply GlE.drew | apply GlE.alloc)))))
        repeat (go_quiet (first | (go_at_call 28; (with_reducible refine (server_protoScanVarint.calls _ _ l0 t138 t139 none _ ?side1 ?side2 (by first | exact HG.out | exact GlE.below HG.out HB.out | exact (by repeat (first | exact HG.out | exact GlE.below HG.out HB.out | apply GlE.drewN | apply GlE.drew | apply GlE.alloc))) A2.out).mono ?_); (case side1 => repeat (first | exact HR0.out | (with_reducible refine Kd.C_alloc ?_ _) | (with_reducible refine Kd.C_drewN ?_ _) | (with_reducible refine Kd.C_drew ?_))); (case side2 => exact HC0.out); rintro e w' ⟨rfl, ⟨nd, rfl⟩⟩; (try simp only [errW_none, errW_some]); (try first | exact ⟨rfl, _, World.drewN_drewN _ _ _⟩ | exact ⟨rfl, _, Eq.trans (World.drewN_drewN _ _ _) (congrArg (World.drewN _) (Nat.add_assoc _ _ _))⟩); have hgl6 : w.cell? ⟨4, 0, none⟩ = some (.iface (E 4).1 (E 4).2) := (by first | exact GlE.g4 HG.out | exact (HB.out.cell (World.block_lt_of_cell? w _ (GlE.g4 HG.out))).trans (GlE.g4 HG.out) | exact GlE.g4 (by repeat (first | exact HG.out | apply GlE.drewN | apply GlE.drew | apply GlE.alloc))))); try go_wp2_with (first | (go_at_call 28; (with_reducible refine (server_protoScanVarint.calls _ _ l0 t138 t139 none _ ?side1 ?side2 (by first | exact HG.out | exact GlE.below HG.out HB.out | exact (by repeat (first | exact HG.out | exact GlE.below HG.out HB.out | apply GlE.drewN | apply GlE.drew | apply GlE.alloc))) A2.out).mono ?_); (case side1 => repeat (first | exact HR0.out | (with_reducible refine Kd.C_alloc ?_ _) | (with_reducible refine Kd.C_drewN ?_ _) | (with_reducible refine Kd.C_drew ?_))); (case side2 => exact HC0.out); rintro e w' ⟨rfl, ⟨nd, rfl⟩⟩; (try simp only [errW_none, errW_some]); (try first | exact ⟨rfl, _, World.drewN_drewN _ _ _⟩ | exact ⟨rfl, _, Eq.trans (World.drewN_drewN _ _ _) (congrArg (World.drewN _) (Nat.add_assoc _ _ _))⟩); have hgl6 : w.cell? ⟨4, 0, none⟩ = some (.iface (E 4).1 (E 4).2) := (by first | exact GlE.g4 HG.out | exact (HB.out.cell (World.block_lt_of_cell? w _ (GlE.g4 HG.out))).trans (GlE.g4 HG.out) | exact GlE.g4 (by repeat (first | exact HG.out | apply GlE.drewN | apply GlE.drew | apply GlE.alloc))))))
        refine bodyPost_ret (results_list (rs := [.tmp 2, .tmp 3, .tmp 4, .tmp 5]) rfl (by simp) (.tmp (.tmp (.tmp (.tmp .nil))))) rfl ?_
        exact ⟨by first | rfl | (simp; done) | (simp [*]; done), by repeat (first | exact Drawn0.refl _ | apply Drawn0.step)⟩
      · rw [if_neg c5] at H
        have c5b0 : decide ((wrap64 (t138 / 8)) < 1) = false := decide_eq_false c5
        clear c5
        simp only [Option.some.injEq, Prod.mk.injEq] at H
        obtain ⟨rfl, rfl, rfl, rfl⟩ := H
        go_enter Tryd.func29, Tryd.ntmps29
        go_wp2_with (first | (go_at_call 28; (with_reducible refine (server_protoScanVarint.calls _ _ l0 t138 t139 none _ ?side1 ?side2 (by first | exact HG.out | exact GlE.below HG.out HB.out | exact (by repeat (first | exact HG.out | exact GlE.below HG.out HB.out | apply GlE.drewN | apply GlE.drew | apply GlE.alloc))) A2.out).mono ?_); (case side1 => repeat (first | exact HR0.out | (with_reducible refine Kd.C_alloc ?_ _) | (with_reducible refine Kd.C_drewN ?_ _) | (with_reducible refine Kd.C_drew ?_))); (case side2 => exact HC0.out); rintro e w' ⟨rfl, ⟨nd, rfl⟩⟩; (try simp only [errW_none, errW_some]); (try first | exact ⟨rfl, _, World.drewN_drewN _ _ _⟩ | exact ⟨rfl, _, Eq.trans (World.drewN_drewN _ _ _) (congrArg (World.drewN _) (Nat.add_assoc _ _ _))⟩)))
        repeat (go_quiet (first | (go_at_call 28; (with_reducible refine (server_protoScanVarint.calls _ _ l0 t138 t139 none _ ?side1 ?side2 (by first | exact HG.out | exact GlE.below HG.out HB.out | exact (by repeat (first | exact HG.out | exact GlE.below HG.out HB.out | apply GlE.drewN | apply GlE.drew | apply GlE.alloc))) A2.out).mono ?_); (case side1 => repeat (first | exact HR0.out | (with_reducible refine Kd.C_alloc ?_ _) | (with_reducible refine Kd.C_drewN ?_ _) | (with_reducible refine Kd.C_drew ?_))); (case side2 => exact HC0.out); rintro e w' ⟨rfl, ⟨nd, rfl⟩⟩; (try simp only [errW_none, errW_some]); (try first | exact ⟨rfl, _, World.drewN_drewN _ _ _⟩ | exact ⟨rfl, _, Eq.trans (World.drewN_drewN _ _ _) (congrArg (World.drewN _) (Nat.add_assoc _ _ _))⟩))); try go_wp2_with (first | (go_at_call 28; (with_reducible refine (server_protoScanVarint.calls _ _ l0 t138 t139 none _ ?side1 ?side2 (by first | exact HG.out | exact GlE.below HG.out HB.out | exact (by repeat (first | exact HG.out | exact GlE.below HG.out HB.out | apply GlE.drewN | apply GlE.drew | apply GlE.alloc))) A2.out).mono ?_); (case side1 => repeat (first | exact HR0.out | (with_reducible refine Kd.C_alloc ?_ _) | (with_reducible refine Kd.C_drewN ?_ _) | (with_reducible refine Kd.C_drew ?_))); (case side2 => exact HC0.out); rintro e w' ⟨rfl, ⟨nd, rfl⟩⟩; (try simp only [errW_none, errW_some]); (try first | exact ⟨rfl, _, World.drewN_drewN _ _ _⟩ | exact ⟨rfl, _, Eq.trans (World.drewN_drewN _ _ _) (congrArg (World.drewN _) (Nat.add_assoc _ _ _))⟩))))
        refine bodyPost_ret (results_list (rs := [.tmp 2, .tmp 3, .tmp 4, .tmp 5]) rfl (by simp) (.tmp (.tmp (.tmp (.tmp .nil))))) rfl ?_
        exact ⟨by first | rfl | (simp; done) | (simp [*]; done), by repeat (first | exact Drawn0.refl _ | apply Drawn0.step)⟩
  · have H1 : (some (0, 0, 0, some q141)) = some (r1, r2, r3, r4) := by rw [if_neg (show ¬ (some q141).isNone = true by simp)] at H; exact H
    clear H
    have H := H1
    clear H1
    try simp only [errW_none, errW_some]
    simp only [Option.some.injEq, Prod.mk.injEq] at H
    obtain ⟨rfl, rfl, rfl, rfl⟩ := H
    go_enter Tryd.func29, Tryd.ntmps29
    go_wp2_with (first | (go_at_call 28; (with_reducible refine (server_protoScanVarint.calls _ _ l0 t138 t139 (some q141) _ ?side1 ?side2 (by first | exact HG.out | exact GlE.below HG.out HB.out | exact (by repeat (first | exact HG.out | exact GlE.below HG.out HB.out | apply GlE.drewN | apply GlE.drew | apply GlE.alloc))) A2.out).mono ?_); (case side1 => repeat (first | exact HR0.out | (with_reducible refine Kd.C_alloc ?_ _) | (with_reducible refine Kd.C_drewN ?_ _) | (with_reducible refine Kd.C_drew ?_))); (case side2 => exact HC0.out); rintro e w' ⟨rfl, ⟨nd, rfl⟩⟩; (try simp only [errW_none, errW_some]); (try first | exact ⟨rfl, _, World.drewN_drewN _ _ _⟩ | exact ⟨rfl, _, Eq.trans (World.drewN_drewN _ _ _) (congrArg (World.drewN _) (Nat.add_assoc _ _ _))⟩)))
    repeat (go_quiet (first | (go_at_call 28; (with_reducible refine (server_protoScanVarint.calls _ _ l0 t138 t139 (some q141) _ ?side1 ?side2 (by first | exact HG.out | exact GlE.below HG.out HB.out | exact (by repeat (first | exact HG.out | exact GlE.below HG.out HB.out | apply GlE.drewN | apply GlE.drew | apply GlE.alloc))) A2.out).mono ?_); (case side1 => repeat (first | exact HR0.out | (with_reducible refine Kd.C_alloc ?_ _) | (with_reducible refine Kd.C_drewN ?_ _) | (with_reducible refine Kd.C_drew ?_))); (case side2 => exact HC0.out); rintro e w' ⟨rfl, ⟨nd, rfl⟩⟩; (try simp only [errW_none, errW_some]); (try first | exact ⟨rfl, _, World.drewN_drewN _ _ _⟩ | exact ⟨rfl, _, Eq.trans (World.drewN_drewN _ _ _) (congrArg (World.drewN _) (Nat.add_assoc _ _ _))⟩))); try go_wp2_with (first | (go_at_call 28; (with_reducible refine (server_protoScanVarint.calls _ _ l0 t138 t139 (some q141) _ ?side1 ?side2 (by first | exact HG.out | exact GlE.below HG.out HB.out | exact (by repeat (first | exact HG.out | exact GlE.below HG.out HB.out | apply GlE.drewN | apply GlE.drew | apply GlE.alloc))) A2.out).mono ?_); (case side1 => repeat (first | exact HR0.out | (with_reducible refine Kd.C_alloc ?_ _) | (with_reducible refine Kd.C_drewN ?_ _) | (with_reducible refine Kd.C_drew ?_))); (case side2 => exact HC0.out); rintro e w' ⟨rfl, ⟨nd, rfl⟩⟩; (try simp only [errW_none, errW_some]); (try first | exact ⟨rfl, _, World.drewN_drewN _ _ _⟩ | exact ⟨rfl, _, Eq.trans (World.drewN_drewN _ _ _) (congrArg (World.drewN _) (Nat.add_assoc _ _ _))⟩))))
    refine bodyPost_ret (results_list (rs := [.tmp 2, .tmp 3, .tmp 4, .tmp 5]) rfl (by simp) (.tmp (.tmp (.tmp (.tmp .nil))))) rfl ?_
    exact ⟨by first | rfl | (simp; done) | (simp [*]; done), by repeat (first | exact Drawn0.refl _ | apply Drawn0.step)⟩

/-! ### errors_New: function 33 (by hand) -/
def errors_New.f (a0 : ByteArray) : Option (Option Int) := none
theorem errors_New.calls (a0 : ByteArray) (w : World) :
    Calls Tryd.prog 33 #[.string a0] w fun e w' => (∃ t u, e = .returned (.iface t u)) ∧ Below w.heap.size w w' := by
  go_enter Tryd.func33, Tryd.ntmps33
  go_wp2
  go_ret
  exact ⟨⟨_, _, rfl⟩, below_alloc (Below.refl _ _) _⟩

end Go.Proofs.YtnkioieocjgekaaDoor.GFnProtoField
