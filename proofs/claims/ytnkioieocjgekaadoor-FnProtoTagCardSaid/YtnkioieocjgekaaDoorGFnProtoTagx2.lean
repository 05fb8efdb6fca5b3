/- A walk of Go functions (plain functions of theirs, and that the machine's calls do what these say), written by a program of this session's. -/
import Derived.Test.YtnkioieocjgekaaDoorGFnProtoTagx0
import Derived.Test.YtnkioieocjgekaaDoorGFnProtoTagx1
namespace Go.Proofs.YtnkioieocjgekaaDoor.GFnProtoTag
open Go.RowKit Go.Proofs.YtnkioieocjgekaaDoorW.PrintWords Go.Proofs.YtnkioieocjgekaaDoorW.PrintLast Go.Proofs.YtnkioieocjgekaaDoorW.PrintMore
attribute [local go_sem] max2_int min2_int max_two min_two max_three min_three max_four min_four   -- for this text's walks alone
set_option linter.unusedVariables false
set_option linter.unusedSimpArgs false

variable {E : Int → TypeId × Value}
/-! ### server_ScanVarint: function 22 -/
def server_ScanVarint.f (l0 : List Int) : Option (Int × Int × Option Int) := (server_protoScanVarint.f l0).bind fun bt111 => (some (bt111.1, bt111.2.1, bt111.2.2))
set_option maxHeartbeats 8000000 in
set_option maxRecDepth 100000 in
theorem server_ScanVarint.calls (A0 : Option Addr) (c0 : Nat) (l0 : List Int) (r1 : Int) (r2 : Int) (r3 : Option Int) (w : World) (hr0 : Kd.C (Kd.int .u8) w A0 l0.length l0) (hc0 : l0.length ≤ c0) (hG : GlE E w) (h : server_ScanVarint.f l0 = some (r1, r2, r3)) :
    Calls Tryd.prog 22 #[.slice A0 l0.length c0] w fun e w' => e = .returned (.tuple #[.int .u64 r1, .int .i64 r2, errW E r3]) ∧ Drawn0 w w' := by
  have HG := Aside0.mk hG
  clear hG
  have HR0 := Aside0.mk hr0
  have HC0 := Aside0.mk hc0
  clear hr0 hc0
  have H : ((server_protoScanVarint.f l0).bind fun bt111 => (some (bt111.1, bt111.2.1, bt111.2.2))) = some (r1, r2, r3) := h
  clear h
  replace H := Option.bind_eq_some_iff.mp H
  obtain ⟨⟨t111, t112, t113⟩, A20, H⟩ := H
  replace H : (some (t111, t112, t113)) = some (r1, r2, r3) := H
  have A2 := Aside0.mk A20
  clear A20
  simp only [Option.some.injEq, Prod.mk.injEq] at H
  obtain ⟨rfl, rfl, rfl⟩ := H
  go_enter Tryd.func22, Tryd.ntmps22
  go_wp2_with (first | ((with_reducible refine gate_callee (f := 28) rfl ?_); refine goesL_ (some 6) rfl rfl Tryd.func28 (by kernel_rfl) rfl #[.slice A0 l0.length c0] rfl (by (try simp only [List.map_toArray, List.map_cons, List.map_nil]); first | done | rfl | (simp only [List.length_drop, List.length_take]; rfl)) ?_; (with_reducible refine (server_protoScanVarint.calls _ _ l0 t111 t112 t113 _ ?side1 ?side2 (by first | exact HG.out | exact GlE.below HG.out HB.out | exact (by repeat (first | exact HG.out | exact GlE.below HG.out HB.out | apply GlE.drewN | apply GlE.drew | apply GlE.alloc))) A2.out).mono ?_); (case side1 => repeat (first | exact HR0.out | (with_reducible refine Kd.C_alloc ?_ _) | (with_reducible refine Kd.C_drewN ?_ _) | (with_reducible refine Kd.C_drew ?_))); (case side2 => exact HC0.out); rintro e w' ⟨rfl, ⟨nd, rfl⟩⟩; refine ⟨_, rfl, ?_⟩; (try simp only [errW_none, errW_some])))
  go_ret3
  exact ⟨by first | rfl | (simp; done) | (simp [*]; done), by repeat (first | exact Drawn0.refl _ | apply Drawn0.step)⟩

/-! ### impl_one: function 23 -/
def impl_one.f (a0 : Option Int) : Option (Int) := if a0.isNone = true then (some 0) else (some 1)
set_option maxHeartbeats 8000000 in
set_option maxRecDepth 100000 in
theorem impl_one.calls (a0 : Option Int) (r : Int) (w : World) (hG : GlE E w) (h : impl_one.f a0 = some r) :
    Calls Tryd.prog 23 #[errW E a0] w fun e w' => e = .returned (.int .i64 r) ∧ Drawn0 w w' := by
  have HG := Aside0.mk hG
  clear hG
  have hu45 := Tryd.underlying45
  have H : (if a0.isNone = true then (some 0) else (some 1)) = some r := h
  clear h
  rcases a0 with _ | q114
  · have H1 : (some 0) = some r := by rw [if_pos (show (none : Option Int).isNone = true by rfl)] at H; exact H
    clear H
    have H := H1
    clear H1
    simp only [errW_none, errW_some]
    obtain rfl := Option.some.inj H
    go_enter Tryd.func23, Tryd.ntmps23
    go_wp2
    go_ret
    exact ⟨by first | rfl | (simp; done) | (simp [*]; done), by repeat (first | exact Drawn0.refl _ | apply Drawn0.step)⟩
  · have H1 : (some 1) = some r := by rw [if_neg (show ¬ (some q114).isNone = true by simp)] at H; exact H
    clear H
    have H := H1
    clear H1
    simp only [errW_none, errW_some]
    obtain rfl := Option.some.inj H
    go_enter Tryd.func23, Tryd.ntmps23
    go_wp2
    go_ret
    exact ⟨by first | rfl | (simp; done) | (simp [*]; done), by repeat (first | exact Drawn0.refl _ | apply Drawn0.step)⟩

/-! ### impl_ProtoVarint: function 12 -/
def impl_ProtoVarint.f (l0 : List Int) : Option (Int × Int × Int) := (server_ScanVarint.f l0).bind fun bt115 => ((impl_one.f bt115.2.2).bind fun t118 => (some (bt115.1, bt115.2.1, t118)))
set_option maxHeartbeats 8000000 in
set_option maxRecDepth 100000 in
theorem impl_ProtoVarint.calls (A0 : Option Addr) (c0 : Nat) (l0 : List Int) (r1 : Int) (r2 : Int) (r3 : Int) (w : World) (hr0 : Kd.C (Kd.int .u8) w A0 l0.length l0) (hc0 : l0.length ≤ c0) (hG : GlE E w) (h : impl_ProtoVarint.f l0 = some (r1, r2, r3)) :
    Calls Tryd.prog 12 #[.slice A0 l0.length c0] w fun e w' => e = .returned (.tuple #[.int .u64 r1, .int .i64 r2, .int .i64 r3]) ∧ Drawn0 w w' := by
  have HG := Aside0.mk hG
  clear hG
  have HR0 := Aside0.mk hr0
  have HC0 := Aside0.mk hc0
  clear hr0 hc0
  have H : ((server_ScanVarint.f l0).bind fun bt115 => ((impl_one.f bt115.2.2).bind fun t118 => (some (bt115.1, bt115.2.1, t118)))) = some (r1, r2, r3) := h
  clear h
  replace H := Option.bind_eq_some_iff.mp H
  obtain ⟨⟨t115, t116, t117⟩, A20, H⟩ := H
  replace H : ((impl_one.f t117).bind fun t118 => (some (t115, t116, t118))) = some (r1, r2, r3) := H
  have A2 := Aside0.mk A20
  clear A20
  replace H := Option.bind_eq_some_iff.mp H
  obtain ⟨t118, A30, H⟩ := H
  replace H : (some (t115, t116, t118)) = some (r1, r2, r3) := H
  have A3 := Aside0.mk A30
  clear A30
  simp only [Option.some.injEq, Prod.mk.injEq] at H
  obtain ⟨rfl, rfl, rfl⟩ := H
  go_enter Tryd.func12, Tryd.ntmps12
  go_wp2_with (first | ((with_reducible refine gate_callee (f := 22) rfl ?_); refine goesL_ (some 8) rfl rfl Tryd.func22 (by kernel_rfl) rfl #[.slice A0 l0.length c0] rfl (by (try simp only [List.map_toArray, List.map_cons, List.map_nil]); first | done | rfl | (simp only [List.length_drop, List.length_take]; rfl)) ?_; (with_reducible refine (server_ScanVarint.calls _ _ l0 t115 t116 t117 _ ?side1 ?side2 (by first | exact HG.out | exact GlE.below HG.out HB.out | exact (by repeat (first | exact HG.out | exact GlE.below HG.out HB.out | apply GlE.drewN | apply GlE.drew | apply GlE.alloc))) A2.out).mono ?_); (case side1 => repeat (first | exact HR0.out | (with_reducible refine Kd.C_alloc ?_ _) | (with_reducible refine Kd.C_drewN ?_ _) | (with_reducible refine Kd.C_drew ?_))); (case side2 => exact HC0.out); rintro e w' ⟨rfl, ⟨nd, rfl⟩⟩; refine ⟨_, rfl, ?_⟩; (try simp only [errW_none, errW_some]); have CA3 := fun (W : World) (hG_ : GlE E W) => impl_one.calls t117 t118 W hG_ A3.out; try simp only [errW_none, errW_some] at CA3) | (go_at_call 23; (with_reducible refine (CA3 _ (by first | exact HG.out | exact GlE.below HG.out HB.out | exact (by repeat (first | exact HG.out | exact GlE.below HG.out HB.out | apply GlE.drewN | apply GlE.drew | apply GlE.alloc)))).mono ?_); rintro e w' ⟨rfl, ⟨nd, rfl⟩⟩))
  go_ret3
  exact ⟨by first | rfl | (simp; done) | (simp [*]; done), by repeat (first | exact Drawn0.refl _ | apply Drawn0.step)⟩

/-! ### laws_awakeProto: function 10 -/
def laws_awakeProto.f  : Option (Bool) := (impl_ProtoVarint.f (([150, 1] : List Int))).bind fun bt122 => (if bt122.1 = 150 then (if bt122.2.1 = 2 then (some (bt122.2.2 == 0)) else (some false)) else (some false))
set_option maxHeartbeats 8000000 in
set_option maxRecDepth 100000 in
theorem laws_awakeProto.calls  (r : Bool) (w : World) (hG : GlE E w) (h : laws_awakeProto.f  = some r) :
    Calls Tryd.prog 10 #[] w fun e w' => e = .returned (.bool r) ∧ Below w.heap.size w w' := by
  have HG := Aside0.mk hG
  clear hG
  have HB := Aside0.mk (Below.refl w.heap.size w)
  have H : ((impl_ProtoVarint.f (([150, 1] : List Int))).bind fun bt122 => (if bt122.1 = 150 then (if bt122.2.1 = 2 then (some (bt122.2.2 == 0)) else (some false)) else (some false))) = some r := h
  clear h
  obtain ⟨y119, hy119⟩ : ∃ y_ : List Int, y_ = (([150, 1] : List Int)) := ⟨_, rfl⟩
  replace H : ((impl_ProtoVarint.f y119).bind fun bt122 => (if bt122.1 = 150 then (if bt122.2.1 = 2 then (some (bt122.2.2 == 0)) else (some false)) else (some false))) = some r := by first | (rw [hy119]; with_reducible exact H) | (have H2_ := (Option.bind_some _ _).symm.trans H; rw [hy119]; with_reducible exact H2_) | (have H2_ := (Option.bind_some _ _).symm.trans H; with_reducible exact H2_) | with_reducible exact H | (rw [hy119]; exact H) | exact H
  have Ny119 := Aside0.mk hy119
  clear hy119
  replace H := Option.bind_eq_some_iff.mp H
  obtain ⟨⟨t122, t123, t124⟩, A10, H⟩ := H
  replace H : (if t122 = 150 then (if t123 = 2 then (some (t124 == 0)) else (some false)) else (some false)) = some r := H
  have A1 := Aside0.mk A10
  clear A10
  by_cases c2 : t122 = 150
  · rw [if_pos c2] at H
    have c2b0 : (t122 == 150) = true := beq_iff_eq.mpr c2
    have c2b1 : (t122 != 150) = false := bne_eq_false_iff_eq.mpr c2
    clear c2
    by_cases c3 : t123 = 2
    · rw [if_pos c3] at H
      have c3b0 : (t123 == 2) = true := beq_iff_eq.mpr c3
      have c3b1 : (t123 != 2) = false := bne_eq_false_iff_eq.mpr c3
      clear c3
      obtain rfl := Option.some.inj H
      go_enter Tryd.func10, Tryd.ntmps10
      go_wp2_with (first | ((with_reducible refine gate_dst (N := 5) rfl ?_); refine Kd.R_lit (Kd.int .u8) _ 5 ?hg (N := 5) ?hd (xs := ([150, 1] : List Int)) (inner := [.int .u8 150, .int .u8 1]) (ok := fun _ => True) (okp := fun _ => True) ?hr ?hp (fun _ hk => hk) trivial (Below.refl _ _) (Nat.le_refl _) (by simp) ?_; (case hd => rfl); (case hg => rfl); (case hr => first | (go_simp; done) | (go_simp; rfl)); (case hp => exact (Reps.one (show Kd.M (Kd.int .u8) _ _ _ 150 [.int .u8 150] from rfl) (Reps.one (show Kd.M (Kd.int .u8) _ _ _ 1 [.int .u8 1] from rfl) (Reps.none _ _)))); intro v120 w4 ho5 hb hg_ hnew_; clear hg_ hnew_; (first | rw [← Ny119.out] at ho5 | (simp only [Int.reduceToNat] at ho5; rw [← Ny119.out] at ho5)); have n0_ := Aside0.mk (Kd.R_lower ho5 (below_size (by repeat (first | (with_reducible first | exact HB.out | apply below_alloc | apply pw_below_drewN | apply below_drew1) | exact HB.out)))); have n1_ := Aside0.mk (below_step (by repeat (first | (with_reducible first | exact HB.out | apply below_alloc | apply pw_below_drewN | apply below_drew1) | exact HB.out)) hb); clear HB; have HO121 := n0_; have HB := n1_; clear n0_ n1_; clear hb ho5; obtain ⟨Ao6, co6, eo6⟩ := Kd.R_slice HO121.out; subst eo6) | ((with_reducible refine gate_callee (f := 12) rfl ?_); refine goesL_ (some 6) rfl rfl Tryd.func12 (by kernel_rfl) rfl #[.slice Ao6 y119.length co6] rfl (by (try simp only [List.map_toArray, List.map_cons, List.map_nil]); first | done | rfl | (simp only [List.length_drop, List.length_take]; rfl)) ?_; (with_reducible refine (impl_ProtoVarint.calls _ _ y119 t122 t123 t124 _ ?side1 ?side2 (by first | exact HG.out | exact GlE.below HG.out HB.out | exact (by repeat (first | exact HG.out | exact GlE.below HG.out HB.out | apply GlE.drewN | apply GlE.drew | apply GlE.alloc))) A1.out).mono ?_); (case side1 => repeat (first | exact (Kd.R_reads' HO121.out).2.2 | (with_reducible refine Kd.C_alloc ?_ _) | (with_reducible refine Kd.C_drewN ?_ _) | (with_reducible refine Kd.C_drew ?_))); (case side2 => exact (Kd.R_reads' HO121.out).2.1); rintro e w' ⟨rfl, ⟨nd, rfl⟩⟩; refine ⟨_, rfl, ?_⟩))
      go_ret
      exact ⟨by first | rfl | (simp [errW_none, errW_some] <;> rfl) | (simp [*, errW_none, errW_some] <;> rfl), by repeat (first | (with_reducible first | exact HB.out | apply below_alloc | apply pw_below_drewN | apply below_drew1) | exact HB.out)⟩
    · rw [if_neg c3] at H
      have c3b0 : (t123 == 2) = false := beq_eq_false_iff_ne.mpr c3
      have c3b1 : (t123 != 2) = true := bne_iff_ne.mpr c3
      obtain rfl := Option.some.inj H
      go_enter Tryd.func10, Tryd.ntmps10
      go_wp2_with (first | ((with_reducible refine gate_dst (N := 5) rfl ?_); refine Kd.R_lit (Kd.int .u8) _ 5 ?hg (N := 5) ?hd (xs := ([150, 1] : List Int)) (inner := [.int .u8 150, .int .u8 1]) (ok := fun _ => True) (okp := fun _ => True) ?hr ?hp (fun _ hk => hk) trivial (Below.refl _ _) (Nat.le_refl _) (by simp) ?_; (case hd => rfl); (case hg => rfl); (case hr => first | (go_simp; done) | (go_simp; rfl)); (case hp => exact (Reps.one (show Kd.M (Kd.int .u8) _ _ _ 150 [.int .u8 150] from rfl) (Reps.one (show Kd.M (Kd.int .u8) _ _ _ 1 [.int .u8 1] from rfl) (Reps.none _ _)))); intro v120 w7 ho8 hb hg_ hnew_; clear hg_ hnew_; (first | rw [← Ny119.out] at ho8 | (simp only [Int.reduceToNat] at ho8; rw [← Ny119.out] at ho8)); have n0_ := Aside0.mk (Kd.R_lower ho8 (below_size (by repeat (first | (with_reducible first | exact HB.out | apply below_alloc | apply pw_below_drewN | apply below_drew1) | exact HB.out)))); have n1_ := Aside0.mk (below_step (by repeat (first | (with_reducible first | exact HB.out | apply below_alloc | apply pw_below_drewN | apply below_drew1) | exact HB.out)) hb); clear HB; have HO121 := n0_; have HB := n1_; clear n0_ n1_; clear hb ho8; obtain ⟨Ao9, co9, eo9⟩ := Kd.R_slice HO121.out; subst eo9) | ((with_reducible refine gate_callee (f := 12) rfl ?_); refine goesL_ (some 6) rfl rfl Tryd.func12 (by kernel_rfl) rfl #[.slice Ao9 y119.length co9] rfl (by (try simp only [List.map_toArray, List.map_cons, List.map_nil]); first | done | rfl | (simp only [List.length_drop, List.length_take]; rfl)) ?_; (with_reducible refine (impl_ProtoVarint.calls _ _ y119 t122 t123 t124 _ ?side1 ?side2 (by first | exact HG.out | exact GlE.below HG.out HB.out | exact (by repeat (first | exact HG.out | exact GlE.below HG.out HB.out | apply GlE.drewN | apply GlE.drew | apply GlE.alloc))) A1.out).mono ?_); (case side1 => repeat (first | exact (Kd.R_reads' HO121.out).2.2 | (with_reducible refine Kd.C_alloc ?_ _) | (with_reducible refine Kd.C_drewN ?_ _) | (with_reducible refine Kd.C_drew ?_))); (case side2 => exact (Kd.R_reads' HO121.out).2.1); rintro e w' ⟨rfl, ⟨nd, rfl⟩⟩; refine ⟨_, rfl, ?_⟩))
      go_ret
      exact ⟨by first | rfl | (simp [errW_none, errW_some] <;> rfl) | (simp [*, errW_none, errW_some] <;> rfl), by repeat (first | (with_reducible first | exact HB.out | apply below_alloc | apply pw_below_drewN | apply below_drew1) | exact HB.out)⟩
  · rw [if_neg c2] at H
    have c2b0 : (t122 == 150) = false := beq_eq_false_iff_ne.mpr c2
    have c2b1 : (t122 != 150) = true := bne_iff_ne.mpr c2
    obtain rfl := Option.some.inj H
    go_enter Tryd.func10, Tryd.ntmps10
    go_wp2_with (first | ((with_reducible refine gate_dst (N := 5) rfl ?_); refine Kd.R_lit (Kd.int .u8) _ 5 ?hg (N := 5) ?hd (xs := ([150, 1] : List Int)) (inner := [.int .u8 150, .int .u8 1]) (ok := fun _ => True) (okp := fun _ => True) ?hr ?hp (fun _ hk => hk) trivial (Below.refl _ _) (Nat.le_refl _) (by simp) ?_; (case hd => rfl); (case hg => rfl); (case hr => first | (go_simp; done) | (go_simp; rfl)); (case hp => exact (Reps.one (show Kd.M (Kd.int .u8) _ _ _ 150 [.int .u8 150] from rfl) (Reps.one (show Kd.M (Kd.int .u8) _ _ _ 1 [.int .u8 1] from rfl) (Reps.none _ _)))); intro v120 w10 ho11 hb hg_ hnew_; clear hg_ hnew_; (first | rw [← Ny119.out] at ho11 | (simp only [Int.reduceToNat] at ho11; rw [← Ny119.out] at ho11)); have n0_ := Aside0.mk (Kd.R_lower ho11 (below_size (by repeat (first | (with_reducible first | exact HB.out | apply below_alloc | apply pw_below_drewN | apply below_drew1) | exact HB.out)))); have n1_ := Aside0.mk (below_step (by repeat (first | (with_reducible first | exact HB.out | apply below_alloc | apply pw_below_drewN | apply below_drew1) | exact HB.out)) hb); clear HB; have HO121 := n0_; have HB := n1_; clear n0_ n1_; clear hb ho11; obtain ⟨Ao12, co12, eo12⟩ := Kd.R_slice HO121.out; subst eo12) | ((with_reducible refine gate_callee (f := 12) rfl ?_); refine goesL_ (some 6) rfl rfl Tryd.func12 (by kernel_rfl) rfl #[.slice Ao12 y119.length co12] rfl (by (try simp only [List.map_toArray, List.map_cons, List.map_nil]); first | done | rfl | (simp only [List.length_drop, List.length_take]; rfl)) ?_; (with_reducible refine (impl_ProtoVarint.calls _ _ y119 t122 t123 t124 _ ?side1 ?side2 (by first | exact HG.out | exact GlE.below HG.out HB.out | exact (by repeat (first | exact HG.out | exact GlE.below HG.out HB.out | apply GlE.drewN | apply GlE.drew | apply GlE.alloc))) A1.out).mono ?_); (case side1 => repeat (first | exact (Kd.R_reads' HO121.out).2.2 | (with_reducible refine Kd.C_alloc ?_ _) | (with_reducible refine Kd.C_drewN ?_ _) | (with_reducible refine Kd.C_drew ?_))); (case side2 => exact (Kd.R_reads' HO121.out).2.1); rintro e w' ⟨rfl, ⟨nd, rfl⟩⟩; refine ⟨_, rfl, ?_⟩))
    go_ret
    exact ⟨by first | rfl | (simp [errW_none, errW_some] <;> rfl) | (simp [*, errW_none, errW_some] <;> rfl), by repeat (first | (with_reducible first | exact HB.out | apply below_alloc | apply pw_below_drewN | apply below_drew1) | exact HB.out)⟩

/-! ### spec_Varint: function 11 -/
mutual
def spec_Varint.l0 : Nat → List Int → Int → Int → Option (Int × Int × Bool)
  | 0, _, _, _ => none
  | k + 1, x0, x5, x6 => if x6 < (x0.length : Int) then (spec_Varint.j1 k x0 x5 x6 (decide (x6 < 10))) else (spec_Varint.j1 k x0 x5 x6 false)
def spec_Varint.j1 : Nat → List Int → Int → Int → Bool → Option (Int × Int × Bool)
  | 0, _, _, _, _ => none
  | k + 1, x0, x5, x6, x14 => if x14 = true then (if x6 = 9 then (if 0 ≤ x6 then (if x6 < (x0.length : Int) then (spec_Varint.j2 k x0 x5 x6 (decide ((rd x0 x6) > 1))) else (none)) else (none)) else (spec_Varint.j2 k x0 x5 x6 false)) else (some (0, 0, false))
def spec_Varint.j2 : Nat → List Int → Int → Int → Bool → Option (Int × Int × Bool)
  | 0, _, _, _, _ => none
  | k + 1, x0, x5, x6, x25 => if x25 = true then (some (0, 0, false)) else (if 0 ≤ x6 then (if x6 < (x0.length : Int) then (if 0 ≤ (IntKind.u64.wrap (7 * (IntKind.u64.wrap (x6)))) then (if (rd x0 x6) < 128 then (some (IntKind.u64.wrap (x5 + (shl .u64 (IntKind.u64.wrap (Int.tmod (rd x0 x6) 128)) (IntKind.u64.wrap (7 * (IntKind.u64.wrap (x6)))))), wrap64 (x6 + 1), true)) else (spec_Varint.l0 k x0 (IntKind.u64.wrap (x5 + (shl .u64 (IntKind.u64.wrap (Int.tmod (rd x0 x6) 128)) (IntKind.u64.wrap (7 * (IntKind.u64.wrap (x6))))))) (wrap64 (x6 + 1)))) else (none)) else (none)) else (none))
end
def spec_Varint.f (k : Nat) (l0 : List Int) : Option (Int × Int × Bool) := spec_Varint.l0 k l0 0 0
theorem spec_Varint.mono_l : ∀ k, (∀ y0 y1 y2, LeO (spec_Varint.l0 k y0 y1 y2) (spec_Varint.l0 (k + 1) y0 y1 y2)) ∧ (∀ y0 y1 y2 y3, LeO (spec_Varint.j1 k y0 y1 y2 y3) (spec_Varint.j1 (k + 1) y0 y1 y2 y3)) ∧ (∀ y0 y1 y2 y3, LeO (spec_Varint.j2 k y0 y1 y2 y3) (spec_Varint.j2 (k + 1) y0 y1 y2 y3))
  | 0 => ⟨fun _ _ _ r h => by simp [spec_Varint.l0] at h, fun _ _ _ _ r h => by simp [spec_Varint.j1] at h, fun _ _ _ _ r h => by simp [spec_Varint.j2] at h⟩
  | k + 1 => by
    obtain ⟨ih0, ih1, ih2⟩ := spec_Varint.mono_l k
    refine ⟨?_, ?_, ?_⟩
    · intro y0 y1 y2
      unfold spec_Varint.l0
      repeat' first
      | (with_reducible exact ih0 _ _ _)
      | (with_reducible exact ih1 _ _ _ _)
      | (with_reducible exact ih2 _ _ _ _)
      | (with_reducible exact LeO.refl _)
      | (with_reducible exact LeO.none _)
      | (with_reducible refine LeO.ite ?_ ?_)
      | (with_reducible refine LeO.bind ?_ (fun _ => ?_))
      | exact ih0 _ _ _
      | exact ih1 _ _ _ _
      | exact ih2 _ _ _ _
      | exact LeO.none _
      | refine LeO.ite ?_ ?_
      | refine LeO.bind ?_ (fun _ => ?_)
    · intro y0 y1 y2 y3
      unfold spec_Varint.j1
      repeat' first
      | (with_reducible exact ih0 _ _ _)
      | (with_reducible exact ih1 _ _ _ _)
      | (with_reducible exact ih2 _ _ _ _)
      | (with_reducible exact LeO.refl _)
      | (with_reducible exact LeO.none _)
      | (with_reducible refine LeO.ite ?_ ?_)
      | (with_reducible refine LeO.bind ?_ (fun _ => ?_))
      | exact ih0 _ _ _
      | exact ih1 _ _ _ _
      | exact ih2 _ _ _ _
      | exact LeO.none _
      | refine LeO.ite ?_ ?_
      | refine LeO.bind ?_ (fun _ => ?_)
    · intro y0 y1 y2 y3
      unfold spec_Varint.j2
      repeat' first
      | (with_reducible exact ih0 _ _ _)
      | (with_reducible exact ih1 _ _ _ _)
      | (with_reducible exact ih2 _ _ _ _)
      | (with_reducible exact LeO.refl _)
      | (with_reducible exact LeO.none _)
      | (with_reducible refine LeO.ite ?_ ?_)
      | (with_reducible refine LeO.bind ?_ (fun _ => ?_))
      | exact ih0 _ _ _
      | exact ih1 _ _ _ _
      | exact ih2 _ _ _ _
      | exact LeO.none _
      | refine LeO.ite ?_ ?_
      | refine LeO.bind ?_ (fun _ => ?_)
theorem spec_Varint.mono : ∀ a0 k, LeO (spec_Varint.f k a0) (spec_Varint.f (k + 1) a0) := by
  intro a0 k
  obtain ⟨ih0, ih1, ih2⟩ := spec_Varint.mono_l k
  unfold spec_Varint.f
  repeat' first
      | (with_reducible exact ih0 _ _ _)
      | (with_reducible exact ih1 _ _ _ _)
      | (with_reducible exact ih2 _ _ _ _)
      | (with_reducible exact LeO.refl _)
      | (with_reducible exact LeO.none _)
      | (with_reducible refine LeO.ite ?_ ?_)
      | (with_reducible refine LeO.bind ?_ (fun _ => ?_))
      | exact ih0 _ _ _
      | exact ih1 _ _ _ _
      | exact ih2 _ _ _ _
      | exact LeO.none _
      | refine LeO.ite ?_ ?_
      | refine LeO.bind ?_ (fun _ => ?_)
set_option maxHeartbeats 8000000 in
set_option maxRecDepth 100000 in
theorem spec_Varint.calls (k : Nat) (A0 : Option Addr) (c0 : Nat) (l0 : List Int) (r1 : Int) (r2 : Int) (r3 : Bool) (w : World) (hr0 : Kd.C (Kd.int .u8) w A0 l0.length l0) (hc0 : l0.length ≤ c0) (hG : GlE E w) (h : spec_Varint.f k l0 = some (r1, r2, r3)) :
    Calls Tryd.prog 11 #[.slice A0 l0.length c0] w fun e w' => e = .returned (.tuple #[.int .u64 r1, .int .i64 r2, .bool r3]) ∧ Drawn0 w w' := by
  have HG := Aside0.mk hG
  clear hG
  have HR0 := Aside0.mk hr0
  have HC0 := Aside0.mk hc0
  clear hr0 hc0
  have H : (spec_Varint.l0 k l0 0 0) = some (r1, r2, r3) := h
  clear h
  have H' := Aside0.mk H
  clear H
  go_enter Tryd.func11, Tryd.ntmps11
  go_wp2
  go_loopg [5, 6] k (fun kq v5 v6 w' => ∃ (x5_1 : Int) (x6_1 : Int), v5 = .int .u64 x5_1 ∧ v6 = .int .i64 x6_1 ∧ Aside0 (spec_Varint.l0 kq l0 x5_1 x6_1 = some (r1, r2, r3)) ∧ Aside0 (kq ≤ k) ∧ Drawn0 w w')
  case atStart => exact ⟨(0), (0), (by first | rfl | (simp; done) | (simp [*]; done)), (by first | rfl | (simp; done) | (simp [*]; done)), H', ⟨Nat.le_refl _⟩, by repeat (first | exact Drawn0.refl _ | apply Drawn0.step)⟩
  case round =>
    clear H'
    try clear c1
    obtain ⟨x5_1, x6_1, rfl, rfl, HA, HK1, ⟨m1, rfl⟩⟩ := hrel
    cases gk with
    | zero => exact absurd HA.out (by simp [spec_Varint.l0])
    | succ k1 =>
      have H := HA.out
      clear HA
      simp only [spec_Varint.l0] at H
      have HC2 := Aside0.mk H
      clear H
      go_upto_region 3 with (fail)
      go_cut [14] (fun v14 wc => ∃ (kq : Nat) (x14_1 : Bool), v14 = .bool x14_1 ∧ Aside0 (spec_Varint.j1 kq l0 x5_1 x6_1 x14_1 = some (r1, r2, r3)) ∧ Aside0 (kq ≤ k1) ∧ Drawn0 w wc)
      case first =>
        have H := HC2.out
        clear HC2
        by_cases c3 : x6_1 < (l0.length : Int)
        · rw [if_pos c3] at H
          have c3b0 : decide (x6_1 < (l0.length : Int)) = true := decide_eq_true c3
          clear c3
          (first | rw [c3b0] | (simp only [i64_w, i32_w]; rw [c3b0]) | skip)
          have H' := Aside0.mk H
          clear H
          go_wp2
          go_meet
          case rel => exact ⟨_, (decide (x6_1 < 10)), (by first | rfl | (simp; done) | (simp [*]; done)), H', ⟨by have := HK1.out; first | omega | exact Nat.le_refl _⟩, by repeat (first | exact Drawn0.refl _ | apply Drawn0.step)⟩
        · rw [if_neg c3] at H
          have c3b0 : decide (x6_1 < (l0.length : Int)) = false := decide_eq_false c3
          clear c3
          (first | rw [c3b0] | (simp only [i64_w, i32_w]; rw [c3b0]) | skip)
          have H' := Aside0.mk H
          clear H
          go_wp2
          go_meet
          case rel => exact ⟨_, (false), (by first | rfl | (simp; done) | (simp [*]; done)), H', ⟨by have := HK1.out; first | omega | exact Nat.le_refl _⟩, by repeat (first | exact Drawn0.refl _ | apply Drawn0.step)⟩
      case rest =>
        clear HC2
        try clear c1
        try clear p2
        try clear c3
        try clear c3b0
        obtain ⟨kq, x14_1, rfl, HA, HJ1, ⟨mc1, rfl⟩⟩ := hcut
        cases kq with
        | zero => exact absurd HA.out (by simp [spec_Varint.j1])
        | succ kj1 =>
          have H := HA.out
          clear HA
          simp only [spec_Varint.j1] at H
          by_cases c4 : x14_1 = true
          · subst c4
            have H1 : (if x6_1 = 9 then (if 0 ≤ x6_1 then (if x6_1 < (l0.length : Int) then (spec_Varint.j2 kj1 l0 x5_1 x6_1 (decide ((rd l0 x6_1) > 1))) else (none)) else (none)) else (spec_Varint.j2 kj1 l0 x5_1 x6_1 false)) = some (r1, r2, r3) := by rw [if_pos rfl] at H; exact H
            clear H
            have H := H1
            clear H1
            have HC5 := Aside0.mk H
            clear H
            go_upto_region 5 with (fail)
            go_cut [25] (fun v25 wc => ∃ (kq : Nat) (x25_4 : Bool), v25 = .bool x25_4 ∧ Aside0 (spec_Varint.j2 kq l0 x5_1 x6_1 x25_4 = some (r1, r2, r3)) ∧ Aside0 (kq ≤ kj1) ∧ Drawn0 w wc)
            case first =>
              have H := HC5.out
              clear HC5
              by_cases c6 : x6_1 = 9
              · rw [if_pos c6] at H
                have c6b0 : (x6_1 == 9) = true := beq_iff_eq.mpr c6
                have c6b1 : (x6_1 != 9) = false := bne_eq_false_iff_eq.mpr c6
                clear c6
                (first | rw [c6b0] | (simp only [i64_w, i32_w]; rw [c6b0]) | skip)
                by_cases c7 : 0 ≤ x6_1
                · rw [if_pos c7] at H
                  have c7b0 : decide (0 ≤ x6_1) = true := decide_eq_true c7
                  clear c7
                  by_cases c8 : x6_1 < (l0.length : Int)
                  · rw [if_pos c8] at H
                    have c8b0 : decide (x6_1 < (l0.length : Int)) = true := decide_eq_true c8
                    clear c8
                    have H' := Aside0.mk H
                    clear H
                    have p125 : 0 ≤ (x6_1 : Int) := of_decide_eq_true (by first | (with_reducible assumption) | assumption)
                    have q125 : x6_1 < (l0.length : Int) := of_decide_eq_true (by first | (with_reducible assumption) | assumption)
                    obtain ⟨ad125, e125, hx125_0⟩ := Kd.at_int HR0.out x6_1 p125 q125
                    cases e125
                    replace p125 := eq_true p125
                    replace q125 := eq_true q125
                    go_wp2
                    go_meet
                    case rel => exact ⟨_, (decide ((rd l0 x6_1) > 1)), (by first | rfl | (simp; done) | (simp [*]; done)), H', ⟨by have := HK1.out; have := HJ1.out; first | omega | exact Nat.le_refl _⟩, by repeat (first | exact Drawn0.refl _ | apply Drawn0.step)⟩
                  · rw [if_neg c8] at H
                    exact absurd H (by simp)
                · rw [if_neg c7] at H
                  exact absurd H (by simp)
              · rw [if_neg c6] at H
                have c6b0 : (x6_1 == 9) = false := beq_eq_false_iff_ne.mpr c6
                have c6b1 : (x6_1 != 9) = true := bne_iff_ne.mpr c6
                (first | rw [c6b0] | (simp only [i64_w, i32_w]; rw [c6b0]) | skip)
                have H' := Aside0.mk H
                clear H
                go_wp2
                go_meet
                case rel => exact ⟨_, (false), (by first | rfl | (simp; done) | (simp [*]; done)), H', ⟨by have := HK1.out; have := HJ1.out; first | omega | exact Nat.le_refl _⟩, by repeat (first | exact Drawn0.refl _ | apply Drawn0.step)⟩
            case rest =>
              clear HC5
              try clear c1
              try clear p1
              try clear q1
              try clear hx1
              try clear p2
              try clear c3
              try clear c3b0
              try clear c4
              try clear c6
              try clear c6b0
              try clear c6b1
              try clear c7
              try clear c7b0
              try clear c8
              try clear c8b0
              try clear hx125_0
              try clear p125
              try clear p2
              try clear q125
              obtain ⟨kq, x25_4, rfl, HA, HJ4, ⟨mc4, rfl⟩⟩ := hcut
              cases kq with
              | zero => exact absurd HA.out (by simp [spec_Varint.j2])
              | succ kj4 =>
                have H := HA.out
                clear HA
                simp only [spec_Varint.j2] at H
                by_cases c9 : x25_4 = true
                · subst c9
                  have H1 : (some (0, 0, false)) = some (r1, r2, r3) := by rw [if_pos rfl] at H; exact H
                  clear H
                  have H := H1
                  clear H1
                  simp only [Option.some.injEq, Prod.mk.injEq] at H
                  obtain ⟨rfl, rfl, rfl⟩ := H
                  go_wp2
                  go_ret3
                  exact ⟨by first | rfl | (simp; done) | (simp [*]; done), by repeat (first | exact Drawn0.refl _ | apply Drawn0.step)⟩
                · replace c9 := Bool.eq_false_iff.mpr c9
                  subst c9
                  have H1 : (if 0 ≤ x6_1 then (if x6_1 < (l0.length : Int) then (if 0 ≤ (IntKind.u64.wrap (7 * (IntKind.u64.wrap (x6_1)))) then (if (rd l0 x6_1) < 128 then (some (IntKind.u64.wrap (x5_1 + (shl .u64 (IntKind.u64.wrap (Int.tmod (rd l0 x6_1) 128)) (IntKind.u64.wrap (7 * (IntKind.u64.wrap (x6_1)))))), wrap64 (x6_1 + 1), true)) else (spec_Varint.l0 kj4 l0 (IntKind.u64.wrap (x5_1 + (shl .u64 (IntKind.u64.wrap (Int.tmod (rd l0 x6_1) 128)) (IntKind.u64.wrap (7 * (IntKind.u64.wrap (x6_1))))))) (wrap64 (x6_1 + 1)))) else (none)) else (none)) else (none)) = some (r1, r2, r3) := by rw [if_neg (show ¬ (false = true) by decide)] at H; exact H
                  clear H
                  have H := H1
                  clear H1
                  by_cases c10 : 0 ≤ x6_1
                  · rw [if_pos c10] at H
                    have c10b0 : decide (0 ≤ x6_1) = true := decide_eq_true c10
                    clear c10
                    by_cases c11 : x6_1 < (l0.length : Int)
                    · rw [if_pos c11] at H
                      have c11b0 : decide (x6_1 < (l0.length : Int)) = true := decide_eq_true c11
                      clear c11
                      obtain ⟨ji12, hji12⟩ : ∃ j_ : Int, (IntKind.u64.wrap (7 * (IntKind.u64.wrap (x6_1)))) = j_ := ⟨_, rfl⟩
                      replace H : (if 0 ≤ (ji12) then (if (rd l0 x6_1) < 128 then (some (IntKind.u64.wrap (x5_1 + (shl .u64 (IntKind.u64.wrap (Int.tmod (rd l0 x6_1) 128)) (ji12))), wrap64 (x6_1 + 1), true)) else (spec_Varint.l0 kj4 l0 (IntKind.u64.wrap (x5_1 + (shl .u64 (IntKind.u64.wrap (Int.tmod (rd l0 x6_1) 128)) (ji12)))) (wrap64 (x6_1 + 1)))) else (none)) = some (r1, r2, r3) := by first | (rw [hji12] at H; exact H) | (simp only [hji12] at H ⊢; exact H)
                      by_cases c13 : 0 ≤ (ji12)
                      · rw [if_pos c13] at H
                        have c13b0 := eq_true c13
                        have c13b1 : decide (0 ≤ (ji12)) = true := decide_eq_true c13
                        clear c13
                        obtain ⟨ji14, hji14⟩ : ∃ j_ : Int, (shl .u64 (IntKind.u64.wrap (Int.tmod (rd l0 x6_1) 128)) (ji12)) = j_ := ⟨_, rfl⟩
                        replace H : (if (rd l0 x6_1) < 128 then (some (IntKind.u64.wrap (x5_1 + (ji14)), wrap64 (x6_1 + 1), true)) else (spec_Varint.l0 kj4 l0 (IntKind.u64.wrap (x5_1 + (ji14))) (wrap64 (x6_1 + 1)))) = some (r1, r2, r3) := by first | (rw [hji14] at H; exact H) | (simp only [hji14] at H ⊢; exact H)
                        have hji14_ : (IntKind.u64.wrap ((IntKind.u64.wrap (Int.tmod (rd l0 x6_1) 128)) * 2 ^ min (ji12).toNat 64)) = ji14 := hji14
                        have hji14z : (ji12) ≤ 64 → (IntKind.u64.wrap ((IntKind.u64.wrap (Int.tmod (rd l0 x6_1) 128)) * 2 ^ (ji12).toNat)) = ji14 := shl_small hji14
                        by_cases c15 : (rd l0 x6_1) < 128
                        · rw [if_pos c15] at H
                          have c15b0 : decide ((rd l0 x6_1) < 128) = true := decide_eq_true c15
                          clear c15
                          simp only [Option.some.injEq, Prod.mk.injEq] at H
                          obtain ⟨rfl, rfl, rfl⟩ := H
                          have p126 : 0 ≤ (x6_1 : Int) := of_decide_eq_true (by first | (with_reducible assumption) | assumption)
                          have q126 : x6_1 < (l0.length : Int) := of_decide_eq_true (by first | (with_reducible assumption) | assumption)
                          obtain ⟨ad126, e126, hx126_0⟩ := Kd.at_int HR0.out x6_1 p126 q126
                          cases e126
                          replace p126 := eq_true p126
                          replace q126 := eq_true q126
                          have p127 : 0 ≤ (x6_1 : Int) := of_decide_eq_true (by first | (with_reducible assumption) | assumption)
                          have q127 : x6_1 < (l0.length : Int) := of_decide_eq_true (by first | (with_reducible assumption) | assumption)
                          obtain ⟨ad127, e127, hx127_0⟩ := Kd.at_int HR0.out x6_1 p127 q127
                          obtain rfl : ad126 = ad127 := (by injection e127)
                          replace p127 := eq_true p127
                          replace q127 := eq_true q127
                          go_wp2
                          go_ret3
                          exact ⟨by first | rfl | (simp; done) | (simp only [← hji12, ← hji14] <;> (first | rfl | simp)) | (simp [*]; done), by repeat (first | exact Drawn0.refl _ | apply Drawn0.step)⟩
                        · rw [if_neg c15] at H
                          have c15b0 : decide ((rd l0 x6_1) < 128) = false := decide_eq_false c15
                          clear c15
                          have H' := Aside0.mk H
                          clear H
                          have p126 : 0 ≤ (x6_1 : Int) := of_decide_eq_true (by first | (with_reducible assumption) | assumption)
                          have q126 : x6_1 < (l0.length : Int) := of_decide_eq_true (by first | (with_reducible assumption) | assumption)
                          obtain ⟨ad126, e126, hx126_0⟩ := Kd.at_int HR0.out x6_1 p126 q126
                          cases e126
                          replace p126 := eq_true p126
                          replace q126 := eq_true q126
                          have p127 : 0 ≤ (x6_1 : Int) := of_decide_eq_true (by first | (with_reducible assumption) | assumption)
                          have q127 : x6_1 < (l0.length : Int) := of_decide_eq_true (by first | (with_reducible assumption) | assumption)
                          obtain ⟨ad127, e127, hx127_0⟩ := Kd.at_int HR0.out x6_1 p127 q127
                          obtain rfl : ad126 = ad127 := (by injection e127)
                          replace p127 := eq_true p127
                          replace q127 := eq_true q127
                          go_wp2
                          go_roundg kj4
                          case measure => have := HK1.out; have := HJ1.out; have := HJ4.out; omega
                          case rel => exact ⟨(IntKind.u64.wrap (x5_1 + (ji14))), (wrap64 (x6_1 + 1)), (by first | rfl | (simp; done) | (simp only [← hji14] <;> (first | rfl | simp)) | (simp [*]; done)), (by first | rfl | (simp; done) | (simp [*]; done)), H', ⟨by have := HK1.out; have := HJ1.out; have := HJ4.out; omega⟩, by repeat (first | exact Drawn0.refl _ | apply Drawn0.step)⟩
                      · rw [if_neg c13] at H
                        exact absurd H (by simp)
                    · rw [if_neg c11] at H
                      exact absurd H (by simp)
                  · rw [if_neg c10] at H
                    exact absurd H (by simp)
          · replace c4 := Bool.eq_false_iff.mpr c4
            subst c4
            have H1 : (some (0, 0, false)) = some (r1, r2, r3) := by rw [if_neg (show ¬ (false = true) by decide)] at H; exact H
            clear H
            have H := H1
            clear H1
            simp only [Option.some.injEq, Prod.mk.injEq] at H
            obtain ⟨rfl, rfl, rfl⟩ := H
            go_wp2
            go_ret3
            exact ⟨by first | rfl | (simp; done) | (simp [*]; done), by repeat (first | exact Drawn0.refl _ | apply Drawn0.step)⟩

/-! ### spec_Tag: function 13 -/
def spec_Tag.f (k : Nat) (l0 : List Int) : Option (Int × Int × Int × Bool) := (spec_Varint.f k l0).bind fun bt128 => (if bt128.2.2 = true then (if (IntKind.u64.wrap (Int.tdiv bt128.1 8)) < 1 then (some (0, 0, 0, false)) else (if (IntKind.u64.wrap (Int.tdiv bt128.1 8)) > 2147483647 then (some (0, 0, 0, false)) else (some (wrap64 (IntKind.u64.wrap (Int.tdiv bt128.1 8)), wrap64 (Int.tmod bt128.1 8), bt128.2.1, true)))) else (some (0, 0, 0, false)))
theorem spec_Tag.mono : ∀ a0 k, LeO (spec_Tag.f k a0) (spec_Tag.f (k + 1) a0) := by
  intro a0 k
  unfold spec_Tag.f
  repeat' first
      | (with_reducible exact spec_Varint.mono _ _)
      | (with_reducible exact LeO.refl _)
      | (with_reducible exact LeO.none _)
      | (with_reducible refine LeO.ite ?_ ?_)
      | (with_reducible refine LeO.bind ?_ (fun _ => ?_))
      | exact spec_Varint.mono _ _
      | exact LeO.none _
      | refine LeO.ite ?_ ?_
      | refine LeO.bind ?_ (fun _ => ?_)
set_option maxHeartbeats 8000000 in
set_option maxRecDepth 100000 in
theorem spec_Tag.calls (k : Nat) (A0 : Option Addr) (c0 : Nat) (l0 : List Int) (r1 : Int) (r2 : Int) (r3 : Int) (r4 : Bool) (w : World) (hr0 : Kd.C (Kd.int .u8) w A0 l0.length l0) (hc0 : l0.length ≤ c0) (hG : GlE E w) (h : spec_Tag.f k l0 = some (r1, r2, r3, r4)) :
    Calls Tryd.prog 13 #[.slice A0 l0.length c0] w fun e w' => e = .returned (.tuple #[.int .i64 r1, .int .i64 r2, .int .i64 r3, .bool r4]) ∧ Drawn0 w w' := by
  have HG := Aside0.mk hG
  clear hG
  have HR0 := Aside0.mk hr0
  have HC0 := Aside0.mk hc0
  clear hr0 hc0
  have H : ((spec_Varint.f k l0).bind fun bt128 => (if bt128.2.2 = true then (if (IntKind.u64.wrap (Int.tdiv bt128.1 8)) < 1 then (some (0, 0, 0, false)) else (if (IntKind.u64.wrap (Int.tdiv bt128.1 8)) > 2147483647 then (some (0, 0, 0, false)) else (some (wrap64 (IntKind.u64.wrap (Int.tdiv bt128.1 8)), wrap64 (Int.tmod bt128.1 8), bt128.2.1, true)))) else (some (0, 0, 0, false)))) = some (r1, r2, r3, r4) := h
  clear h
  replace H := Option.bind_eq_some_iff.mp H
  obtain ⟨⟨t128, t129, t130⟩, A20, H⟩ := H
  replace H : (if t130 = true then (if (IntKind.u64.wrap (Int.tdiv t128 8)) < 1 then (some (0, 0, 0, false)) else (if (IntKind.u64.wrap (Int.tdiv t128 8)) > 2147483647 then (some (0, 0, 0, false)) else (some (wrap64 (IntKind.u64.wrap (Int.tdiv t128 8)), wrap64 (Int.tmod t128 8), t129, true)))) else (some (0, 0, 0, false))) = some (r1, r2, r3, r4) := H
  have A2 := Aside0.mk A20
  clear A20
  by_cases c3 : t130 = true
  · subst c3
    have H1 : (if (IntKind.u64.wrap (Int.tdiv t128 8)) < 1 then (some (0, 0, 0, false)) else (if (IntKind.u64.wrap (Int.tdiv t128 8)) > 2147483647 then (some (0, 0, 0, false)) else (some (wrap64 (IntKind.u64.wrap (Int.tdiv t128 8)), wrap64 (Int.tmod t128 8), t129, true)))) = some (r1, r2, r3, r4) := by rw [if_pos rfl] at H; exact H
    clear H
    have H := H1
    clear H1
    by_cases c4 : (IntKind.u64.wrap (Int.tdiv t128 8)) < 1
    · rw [if_pos c4] at H
      have c4b0 : decide ((IntKind.u64.wrap (Int.tdiv t128 8)) < 1) = true := decide_eq_true c4
      clear c4
      simp only [Option.some.injEq, Prod.mk.injEq] at H
      obtain ⟨rfl, rfl, rfl, rfl⟩ := H
      go_enter Tryd.func13, Tryd.ntmps13
      go_wp2_with (first | ((with_reducible refine gate_callee (f := 11) rfl ?_); refine goesL_ (some 11) rfl rfl Tryd.func11 (by kernel_rfl) rfl #[.slice A0 l0.length c0] rfl (by (try simp only [List.map_toArray, List.map_cons, List.map_nil]); first | done | rfl | (simp only [List.length_drop, List.length_take]; rfl)) ?_; (with_reducible refine (spec_Varint.calls k _ _ l0 t128 t129 true _ ?side1 ?side2 (by first | exact HG.out | exact GlE.below HG.out HB.out | exact (by repeat (first | exact HG.out | exact GlE.below HG.out HB.out | apply GlE.drewN | apply GlE.drew | apply GlE.alloc))) A2.out).mono ?_); (case side1 => repeat (first | exact HR0.out | (with_reducible refine Kd.C_alloc ?_ _) | (with_reducible refine Kd.C_drewN ?_ _) | (with_reducible refine Kd.C_drew ?_))); (case side2 => exact HC0.out); rintro e w' ⟨rfl, ⟨nd, rfl⟩⟩; refine ⟨_, rfl, ?_⟩))
      refine bodyPost_ret (results_list (rs := [.tmp 2, .tmp 3, .tmp 4, .tmp 5]) rfl (by simp) (.tmp (.tmp (.tmp (.tmp .nil))))) rfl ?_
      exact ⟨by first | rfl | (simp; done) | (simp [*]; done), by repeat (first | exact Drawn0.refl _ | apply Drawn0.step)⟩
    · rw [if_neg c4] at H
      have c4b0 : decide ((IntKind.u64.wrap (Int.tdiv t128 8)) < 1) = false := decide_eq_false c4
      clear c4
      by_cases c5 : (IntKind.u64.wrap (Int.tdiv t128 8)) > 2147483647
      · rw [if_pos c5] at H
        have c5b0 : decide (2147483647 < (IntKind.u64.wrap (Int.tdiv t128 8))) = true := decide_eq_true c5
        clear c5
        simp only [Option.some.injEq, Prod.mk.injEq] at H
        obtain ⟨rfl, rfl, rfl, rfl⟩ := H
        go_enter Tryd.func13, Tryd.ntmps13
        go_wp2_with (first | ((with_reducible refine gate_callee (f := 11) rfl ?_); refine goesL_ (some 11) rfl rfl Tryd.func11 (by kernel_rfl) rfl #[.slice A0 l0.length c0] rfl (by (try simp only [List.map_toArray, List.map_cons, List.map_nil]); first | done | rfl | (simp only [List.length_drop, List.length_take]; rfl)) ?_; (with_reducible refine (spec_Varint.calls k _ _ l0 t128 t129 true _ ?side1 ?side2 (by first | exact HG.out | exact GlE.below HG.out HB.out | exact (by repeat (first | exact HG.out | exact GlE.below HG.out HB.out | apply GlE.drewN | apply GlE.drew | apply GlE.alloc))) A2.out).mono ?_); (case side1 => repeat (first | exact HR0.out | (with_reducible refine Kd.C_alloc ?_ _) | (with_reducible refine Kd.C_drewN ?_ _) | (with_reducible refine Kd.C_drew ?_))); (case side2 => exact HC0.out); rintro e w' ⟨rfl, ⟨nd, rfl⟩⟩; refine ⟨_, rfl, ?_⟩))
        refine bodyPost_ret (results_list (rs := [.tmp 2, .tmp 3, .tmp 4, .tmp 5]) rfl (by simp) (.tmp (.tmp (.tmp (.tmp .nil))))) rfl ?_
        exact ⟨by first | rfl | (simp; done) | (simp [*]; done), by repeat (first | exact Drawn0.refl _ | apply Drawn0.step)⟩
      · rw [if_neg c5] at H
        have c5b0 : decide (2147483647 < (IntKind.u64.wrap (Int.tdiv t128 8))) = false := decide_eq_false c5
        clear c5
        simp only [Option.some.injEq, Prod.mk.injEq] at H
        obtain ⟨rfl, rfl, rfl, rfl⟩ := H
        go_enter Tryd.func13, Tryd.ntmps13
        go_wp2_with (first | ((with_reducible refine gate_callee (f := 11) rfl ?_); refine goesL_ (some 11) rfl rfl Tryd.func11 (by kernel_rfl) rfl #[.slice A0 l0.length c0] rfl (by (try simp only [List.map_toArray, List.map_cons, List.map_nil]); first | done | rfl | (simp only [List.length_drop, List.length_take]; rfl)) ?_; (with_reducible refine (spec_Varint.calls k _ _ l0 t128 t129 true _ ?side1 ?side2 (by first | exact HG.out | exact GlE.below HG.out HB.out | exact (by repeat (first | exact HG.out | exact GlE.below HG.out HB.out | apply GlE.drewN | apply GlE.drew | apply GlE.alloc))) A2.out).mono ?_); (case side1 => repeat (first | exact HR0.out | (with_reducible refine Kd.C_alloc ?_ _) | (with_reducible refine Kd.C_drewN ?_ _) | (with_reducible refine Kd.C_drew ?_))); (case side2 => exact HC0.out); rintro e w' ⟨rfl, ⟨nd, rfl⟩⟩; refine ⟨_, rfl, ?_⟩))
        refine bodyPost_ret (results_list (rs := [.tmp 2, .tmp 3, .tmp 4, .tmp 5]) rfl (by simp) (.tmp (.tmp (.tmp (.tmp .nil))))) rfl ?_
        exact ⟨by first | rfl | (simp; done) | (simp [*]; done), by repeat (first | exact Drawn0.refl _ | apply Drawn0.step)⟩
  · replace c3 := Bool.eq_false_iff.mpr c3
    subst c3
    have H1 : (some (0, 0, 0, false)) = some (r1, r2, r3, r4) := by rw [if_neg (show ¬ (false = true) by decide)] at H; exact H
    clear H
    have H := H1
    clear H1
    simp only [Option.some.injEq, Prod.mk.injEq] at H
    obtain ⟨rfl, rfl, rfl, rfl⟩ := H
    go_enter Tryd.func13, Tryd.ntmps13
    go_wp2_with (first | ((with_reducible refine gate_callee (f := 11) rfl ?_); refine goesL_ (some 11) rfl rfl Tryd.func11 (by kernel_rfl) rfl #[.slice A0 l0.length c0] rfl (by (try simp only [List.map_toArray, List.map_cons, List.map_nil]); first | done | rfl | (simp only [List.length_drop, List.length_take]; rfl)) ?_; (with_reducible refine (spec_Varint.calls k _ _ l0 t128 t129 false _ ?side1 ?side2 (by first | exact HG.out | exact GlE.below HG.out HB.out | exact (by repeat (first | exact HG.out | exact GlE.below HG.out HB.out | apply GlE.drewN | apply GlE.drew | apply GlE.alloc))) A2.out).mono ?_); (case side1 => repeat (first | exact HR0.out | (with_reducible refine Kd.C_alloc ?_ _) | (with_reducible refine Kd.C_drewN ?_ _) | (with_reducible refine Kd.C_drew ?_))); (case side2 => exact HC0.out); rintro e w' ⟨rfl, ⟨nd, rfl⟩⟩; refine ⟨_, rfl, ?_⟩))
    refine bodyPost_ret (results_list (rs := [.tmp 2, .tmp 3, .tmp 4, .tmp 5]) rfl (by simp) (.tmp (.tmp (.tmp (.tmp .nil))))) rfl ?_
    exact ⟨by first | rfl | (simp; done) | (simp [*]; done), by repeat (first | exact Drawn0.refl _ | apply Drawn0.step)⟩

/-! ### server_protoScanTag: function 29 -/
def server_protoScanTag.f (l0 : List Int) : Option (Int × Int × Int × Option Int) := (server_protoScanVarint.f l0).bind fun bt131 => (if bt131.2.2.isNone = true then (if (bt131.1 / 8) > 2147483647 then (some (0, 0, 0, some 4)) else (if (wrap64 (bt131.1 / 8)) < 1 then (some (0, 0, 0, some 4)) else (some (wrap64 (bt131.1 / 8), wrap64 (Go.bits .and .u64 bt131.1 7), bt131.2.1, none)))) else (some (0, 0, 0, some (bt131.2.2.getD 0))))
set_option maxHeartbeats 8000000 in
set_option maxRecDepth 100000 in
theorem server_protoScanTag.calls (A0 : Option Addr) (c0 : Nat) (l0 : List Int) (r1 : Int) (r2 : Int) (r3 : Int) (r4 : Option Int) (w : World) (hr0 : Kd.C (Kd.int .u8) w A0 l0.length l0) (hc0 : l0.length ≤ c0) (hG : GlE E w) (h : server_protoScanTag.f l0 = some (r1, r2, r3, r4)) :
    Calls Tryd.prog 29 #[.slice A0 l0.length c0] w fun e w' => e = .returned (.tuple #[.int .i64 r1, .int .i64 r2, .int .i64 r3, errW E r4]) ∧ Drawn0 w w' := by
  have HG := Aside0.mk hG
  clear hG
  have hu45 := Tryd.underlying45
  have HR0 := Aside0.mk hr0
  have HC0 := Aside0.mk hc0
  clear hr0 hc0
  have H : ((server_protoScanVarint.f l0).bind fun bt131 => (if bt131.2.2.isNone = true then (if (bt131.1 / 8) > 2147483647 then (some (0, 0, 0, some 4)) else (if (wrap64 (bt131.1 / 8)) < 1 then (some (0, 0, 0, some 4)) else (some (wrap64 (bt131.1 / 8), wrap64 (Go.bits .and .u64 bt131.1 7), bt131.2.1, none)))) else (some (0, 0, 0, some (bt131.2.2.getD 0))))) = some (r1, r2, r3, r4) := h
  clear h
  replace H := Option.bind_eq_some_iff.mp H
  obtain ⟨⟨t131, t132, t133⟩, A20, H⟩ := H
  replace H : (if t133.isNone = true then (if (t131 / 8) > 2147483647 then (some (0, 0, 0, some 4)) else (if (wrap64 (t131 / 8)) < 1 then (some (0, 0, 0, some 4)) else (some (wrap64 (t131 / 8), wrap64 (Go.bits .and .u64 t131 7), t132, none)))) else (some (0, 0, 0, some (t133.getD 0)))) = some (r1, r2, r3, r4) := H
  have A2 := Aside0.mk A20
  clear A20
  rcases t133 with _ | q134
  · have H1 : (if (t131 / 8) > 2147483647 then (some (0, 0, 0, some 4)) else (if (wrap64 (t131 / 8)) < 1 then (some (0, 0, 0, some 4)) else (some (wrap64 (t131 / 8), wrap64 (Go.bits .and .u64 t131 7), t132, none)))) = some (r1, r2, r3, r4) := by rw [if_pos (show (none : Option Int).isNone = true by rfl)] at H; exact H
    clear H
    have H := H1
    clear H1
    try simp only [errW_none, errW_some]
    by_cases c3 : (t131 / 8) > 2147483647
    · rw [if_pos c3] at H
      have c3b0 : decide (2147483647 < (t131 / 8)) = true := decide_eq_true c3
      clear c3
      simp only [Option.some.injEq, Prod.mk.injEq] at H
      obtain ⟨rfl, rfl, rfl, rfl⟩ := H
      go_enter Tryd.func29, Tryd.ntmps29
      go_wp2_with (first | (go_at_call 28; (with_reducible refine (server_protoScanVarint.calls _ _ l0 t131 t132 none _ ?side1 ?side2 (by first | exact HG.out | exact GlE.below HG.out HB.out | exact (by repeat (first | exact HG.out | exact GlE.below HG.out HB.out | apply GlE.drewN | apply GlE.drew | apply GlE.alloc))) A2.out).mono ?_); (case side1 => repeat (first | exact HR0.out | (with_reducible refine Kd.C_alloc ?_ _) | (with_reducible refine Kd.C_drewN ?_ _) | (with_reducible refine Kd.C_drew ?_))); (case side2 => exact HC0.out); rintro e w' ⟨rfl, ⟨nd, rfl⟩⟩; (try simp only [errW_none, errW_some]); (try first | exact ⟨rfl, _, World.drewN_drewN _ _ _⟩ | exact ⟨rfl, _, Eq.trans (World.drewN_drewN _ _ _) (congrArg (World.drewN _) (Nat.add_assoc _ _ _))⟩); have hgl4 : w.cell? ⟨4, 0, none⟩ = some (.iface (E 4).1 (E 4).2) := (by first | exact GlE.g4 HG.out | exact (HB.out.cell (World.block_lt_of_cell? w _ (GlE.g4 HG.out))).trans (GlE.g4 HG.out) | exact GlE.g4 (by repeat (first | exact HG.out | apply GlE.drewN | apply GlE.drew | apply GlE.alloc)))))
      repeat (go_quiet (first | (go_at_call 28; (with_reducible refine (server_protoScanVarint.calls _ _ l0 t131 t132 none _ ?side1 ?side2 (by first | exact HG.out | exact GlE.below HG.out HB.out | exact (by repeat (first | exact HG.out | exact GlE.below HG.out HB.out | apply GlE.drewN | apply GlE.drew | apply GlE.alloc))) A2.out).mono ?_); (case side1 => repeat (first | exact HR0.out | (with_reducible refine Kd.C_alloc ?_ _) | (with_reducible refine Kd.C_drewN ?_ _) | (with_reducible refine Kd.C_drew ?_))); (case side2 => exact HC0.out); rintro e w' ⟨rfl, ⟨nd, rfl⟩⟩; (try simp only [errW_none, errW_some]); (try first | exact ⟨rfl, _, World.drewN_drewN _ _ _⟩ | exact ⟨rfl, _, Eq.trans (World.drewN_drewN _ _ _) (congrArg (World.drewN _) (Nat.add_assoc _ _ _))⟩); have hgl4 : w.cell? ⟨4, 0, none⟩ = some (.iface (E 4).1 (E 4).2) := (by first | exact GlE.g4 HG.out | exact (HB.out.cell (World.block_lt_of_cell? w _ (GlE.g4 HG.out))).trans (GlE.g4 HG.out) | exact GlE.g4 (by repeat (first | exact HG.out | apply GlE.drewN | apply GlE.drew | apply GlE.alloc))))); try go_wp2_with (first | (go_at_call 28; (with_reducible refine (server_protoScanVarint.calls _ _ l0 t131 t132 none _ ?side1 ?side2 (by first | exact HG.out | exact GlE.below HG.out HB.out | exact (by repeat (first | exact HG.out | exact GlE.below HG.out HB.out | apply GlE.drewN | apply GlE.drew | apply GlE.alloc))) A2.out).mono ?_); (case side1 => repeat (first | exact HR0.out | (with_reducible refine Kd.C_alloc ?_ _) | (with_reducible refine Kd.C_drewN ?_ _) | (with_reducible refine Kd.C_drew ?_))); (case side2 => exact HC0.out); rintro e w' ⟨rfl, ⟨nd, rfl⟩⟩; (try simp only [errW_none, errW_some]); (try first | exact ⟨rfl, _, World.drewN_drewN _ _ _⟩ | exact ⟨rfl, _, Eq.trans (World.drewN_drewN _ _ _) (congrArg (World.drewN _) (Nat.add_assoc _ _ _))⟩); have hgl4 : w.cell? ⟨4, 0, none⟩ = some (.iface (E 4).1 (E 4).2) := (by first | exact GlE.g4 HG.out | exact (HB.out.cell (World.block_lt_of_cell? w _ (GlE.g4 HG.out))).trans (GlE.g4 HG.out) | exact GlE.g4 (by repeat (first | exact HG.out | apply GlE.drewN | apply GlE.drew | apply GlE.alloc))))))
      refine bodyPost_ret (results_list (rs := [.tmp 2, .tmp 3, .tmp 4, .tmp 5]) rfl (by simp) (.tmp (.tmp (.tmp (.tmp .nil))))) rfl ?_
      exact ⟨by first | rfl | (simp; done) | (simp [*]; done), by repeat (first | exact Drawn0.refl _ | apply Drawn0.step)⟩
    · rw [if_neg c3] at H
      have c3b0 : decide (2147483647 < (t131 / 8)) = false := decide_eq_false c3
      clear c3
      by_cases c5 : (wrap64 (t131 / 8)) < 1
      · rw [if_pos c5] at H
        have c5b0 : decide ((wrap64 (t131 / 8)) < 1) = true := decide_eq_true c5
        clear c5
        simp only [Option.some.injEq, Prod.mk.injEq] at H
        obtain ⟨rfl, rfl, rfl, rfl⟩ := H
        go_enter Tryd.func29, Tryd.ntmps29
        go_wp2_with (first | (go_at_call 28; (with_reducible refine (server_protoScanVarint.calls _ _ l0 t131 t132 none _ ?side1 ?side2 (by first | exact HG.out | exact GlE.below HG.out HB.out | exact (by repeat (first | exact HG.out | exact GlE.below HG.out HB.out | apply GlE.drewN | apply GlE.drew | apply GlE.alloc))) A2.out).mono ?_); (case side1 => repeat (first | exact HR0.out | (with_reducible refine Kd.C_alloc ?_ _) | (with_reducible refine Kd.C_drewN ?_ _) | (with_reducible refine Kd.C_drew ?_))); (case side2 => exact HC0.out); rintro e w' ⟨rfl, ⟨nd, rfl⟩⟩; (try simp only [errW_none, errW_some]); (try first | exact ⟨rfl, _, World.drewN_drewN _ _ _⟩ | exact ⟨rfl, _, Eq.trans (World.drewN_drewN _ _ _) (congrArg (World.drewN _) (Nat.add_assoc _ _ _))⟩); have hgl6 : w.cell? ⟨4, 0, none⟩ = some (.iface (E 4).1 (E 4).2) := (by first | exact GlE.g4 HG.out | exact (HB.out.cell (World.block_lt_of_cell? w _ (GlE.g4 HG.out))).trans (GlE.g4 HG.out) | exact GlE.g4 (by repeat (first | exact HG.out | apply GlE.drewN | apply GlE.drew | apply GlE.alloc)))))
        repeat (go_quiet (first | (go_at_call 28; (with_reducible refine (server_protoScanVarint.calls _ _ l0 t131 t132 none _ ?side1 ?side2 (by first | exact HG.out | exact GlE.below HG.out HB.out | exact (by repeat (first | exact HG.out | exact GlE.below HG.out HB.out | apply GlE.drewN | apply GlE.drew | apply GlE.alloc))) A2.out).mono ?_); (case side1 => repeat (first | exact HR0.out | (with_reducible refine Kd.C_alloc ?_ _) | (with_reducible refine Kd.C_drewN ?_ _) | (with_reducible refine Kd.C_drew ?_))); (case side2 => exact HC0.out); rintro e w' ⟨rfl, ⟨nd, rfl⟩⟩; (try simp only [errW_none, errW_some]); (try first | exact ⟨rfl, _, World.drewN_drewN _ _ _⟩ | exact ⟨rfl, _, Eq.trans (World.drewN_drewN _ _ _) (congrArg (World.drewN _) (Nat.add_assoc _ _ _))⟩); have hgl6 : w.cell? ⟨4, 0, none⟩ = some (.iface (E 4).1 (E 4).2) := (by first | exact GlE.g4 HG.out | exact (HB.out.cell (World.block_lt_of_cell? w _ (GlE.g4 HG.out))).trans (GlE.g4 HG.out) | exact GlE.g4 (by repeat (first | exact HG.out | apply GlE.drewN | apply GlE.drew | apply GlE.alloc))))); try go_wp2_with (first | (go_at_call 28; (with_reducible refine (server_protoScanVarint.calls _ _ l0 t131 t132 none _ ?side1 ?side2 (by first | exact HG.out | exact GlE.below HG.out HB.out | exact (by repeat (first | exact HG.out | exact GlE.below HG.out HB.out | apply GlE.drewN | apply GlE.drew | apply GlE.alloc))) A2.out).mono ?_); (case side1 => repeat (first | exact HR0.out | (with_reducible refine Kd.C_alloc ?_ _) | (with_reducible refine Kd.C_drewN ?_ _) | (with_reducible refine Kd.C_drew ?_))); (case side2 => exact HC0.out); rintro e w' ⟨rfl, ⟨nd, rfl⟩⟩; (try simp only [errW_none, errW_some]); (try first | exact ⟨rfl, _, World.drewN_drewN _ _ _⟩ | exact ⟨rfl, _, Eq.trans (World.drewN_drewN _ _ _) (congrArg (World.drewN _) (Nat.add_assoc _ _ _))⟩); have hgl6 : w.cell? ⟨4, 0, none⟩ = some (.iface (E 4).1 (E 4).2) := (by first | exact GlE.g4 HG.out | exact (HB.out.cell (World.block_lt_of_cell? w _ (GlE.g4 HG.out))).trans (GlE.g4 HG.out) | exact GlE.g4 (by repeat (first | exact HG.out | apply GlE.drewN | apply GlE.drew | apply GlE.alloc))))))
        refine bodyPost_ret (results_list (rs := [.tmp 2, .tmp 3, .tmp 4, .tmp 5]) rfl (by simp) (.tmp (.tmp (.tmp (.tmp .nil))))) rfl ?_
        exact ⟨by first | rfl | (simp; done) | (simp [*]; done), by repeat (first | exact Drawn0.refl _ | apply Drawn0.step)⟩
      · rw [if_neg c5] at H
        have c5b0 : decide ((wrap64 (t131 / 8)) < 1) = false := decide_eq_false c5
        clear c5
        simp only [Option.some.injEq, Prod.mk.injEq] at H
        obtain ⟨rfl, rfl, rfl, rfl⟩ := H
        go_enter Tryd.func29, Tryd.ntmps29
        go_wp2_with (first | (go_at_call 28; (with_reducible refine (server_protoScanVarint.calls _ _ l0 t131 t132 none _ ?side1 ?side2 (by first | exact HG.out | exact GlE.below HG.out HB.out | exact (by repeat (first | exact HG.out | exact GlE.below HG.out HB.out | apply GlE.drewN | apply GlE.drew | apply GlE.alloc))) A2.out).mono ?_); (case side1 => repeat (first | exact HR0.out | (with_reducible refine Kd.C_alloc ?_ _) | (with_reducible refine Kd.C_drewN ?_ _) | (with_reducible refine Kd.C_drew ?_))); (case side2 => exact HC0.out); rintro e w' ⟨rfl, ⟨nd, rfl⟩⟩; (try simp only [errW_none, errW_some]); (try first | exact ⟨rfl, _, World.drewN_drewN _ _ _⟩ | exact ⟨rfl, _, Eq.trans (World.drewN_drewN _ _ _) (congrArg (World.drewN _) (Nat.add_assoc _ _ _))⟩)))
        repeat (go_quiet (first | (go_at_call 28; (with_reducible refine (server_protoScanVarint.calls _ _ l0 t131 t132 none _ ?side1 ?side2 (by first | exact HG.out | exact GlE.below HG.out HB.out | exact (by repeat (first | exact HG.out | exact GlE.below HG.out HB.out | apply GlE.drewN | apply GlE.drew | apply GlE.alloc))) A2.out).mono ?_); (case side1 => repeat (first | exact HR0.out | (with_reducible refine Kd.C_alloc ?_ _) | (with_reducible refine Kd.C_drewN ?_ _) | (with_reducible refine Kd.C_drew ?_))); (case side2 => exact HC0.out); rintro e w' ⟨rfl, ⟨nd, rfl⟩⟩; (try simp only [errW_none, errW_some]); (try first | exact ⟨rfl, _, World.drewN_drewN _ _ _⟩ | exact ⟨rfl, _, Eq.trans (World.drewN_drewN _ _ _) (congrArg (World.drewN _) (Nat.add_assoc _ _ _))⟩))); try go_wp2_with (first | (go_at_call 28; (with_reducible refine (server_protoScanVarint.calls _ _ l0 t131 t132 none _ ?side1 ?side2 (by first | exact HG.out | exact GlE.below HG.out HB.out | exact (by repeat (first | exact HG.out | exact GlE.below HG.out HB.out | apply GlE.drewN | apply GlE.drew | apply GlE.alloc))) A2.out).mono ?_); (case side1 => repeat (first | exact HR0.out | (with_reducible refine Kd.C_alloc ?_ _) | (with_reducible refine Kd.C_drewN ?_ _) | (with_reducible refine Kd.C_drew ?_))); (case side2 => exact HC0.out); rintro e w' ⟨rfl, ⟨nd, rfl⟩⟩; (try simp only [errW_none, errW_some]); (try first | exact ⟨rfl, _, World.drewN_drewN _ _ _⟩ | exact ⟨rfl, _, Eq.trans (World.drewN_drewN _ _ _) (congrArg (World.drewN _) (Nat.add_assoc _ _ _))⟩))))
        refine bodyPost_ret (results_list (rs := [.tmp 2, .tmp 3, .tmp 4, .tmp 5]) rfl (by simp) (.tmp (.tmp (.tmp (.tmp .nil))))) rfl ?_
        exact ⟨by first | rfl | (simp; done) | (simp [*]; done), by repeat (first | exact Drawn0.refl _ | apply Drawn0.step)⟩
  · have H1 : (some (0, 0, 0, some q134)) = some (r1, r2, r3, r4) := by rw [if_neg (show ¬ (some q134).isNone = true by simp)] at H; exact H
    clear H
    have H := H1
    clear H1
    try simp only [errW_none, errW_some]
    simp only [Option.some.injEq, Prod.mk.injEq] at H
    obtain ⟨rfl, rfl, rfl, rfl⟩ := H
    go_enter Tryd.func29, Tryd.ntmps29
    go_wp2_with (first | (go_at_call 28; (with_reducible refine (server_protoScanVarint.calls _ _ l0 t131 t132 (some q134) _ ?side1 ?side2 (by first | exact HG.out | exact GlE.below HG.out HB.out | exact (by repeat (first | exact HG.out | exact GlE.below HG.out HB.out | apply GlE.drewN | apply GlE.drew | apply GlE.alloc))) A2.out).mono ?_); (case side1 => repeat (first | exact HR0.out | (with_reducible refine Kd.C_alloc ?_ _) | (with_reducible refine Kd.C_drewN ?_ _) | (with_reducible refine Kd.C_drew ?_))); (case side2 => exact HC0.out); rintro e w' ⟨rfl, ⟨nd, rfl⟩⟩; (try simp only [errW_none, errW_some]); (try first | exact ⟨rfl, _, World.drewN_drewN _ _ _⟩ | exact ⟨rfl, _, Eq.trans (World.drewN_drewN _ _ _) (congrArg (World.drewN _) (Nat.add_assoc _ _ _))⟩)))
    repeat (go_quiet (first | (go_at_call 28; (with_reducible refine (server_protoScanVarint.calls _ _ l0 t131 t132 (some q134) _ ?side1 ?side2 (by first | exact HG.out | exact GlE.below HG.out HB.out | exact (by repeat (first | exact HG.out | exact GlE.below HG.out HB.out | apply GlE.drewN | apply GlE.drew | apply GlE.alloc))) A2.out).mono ?_); (case side1 => repeat (first | exact HR0.out | (with_reducible refine Kd.C_alloc ?_ _) | (with_reducible refine Kd.C_drewN ?_ _) | (with_reducible refine Kd.C_drew ?_))); (case side2 => exact HC0.out); rintro e w' ⟨rfl, ⟨nd, rfl⟩⟩; (try simp only [errW_none, errW_some]); (try first | exact ⟨rfl, _, World.drewN_drewN _ _ _⟩ | exact ⟨rfl, _, Eq.trans (World.drewN_drewN _ _ _) (congrArg (World.drewN _) (Nat.add_assoc _ _ _))⟩))); try go_wp2_with (first | (go_at_call 28; (with_reducible refine (server_protoScanVarint.calls _ _ l0 t131 t132 (some q134) _ ?side1 ?side2 (by first | exact HG.out | exact GlE.below HG.out HB.out | exact (by repeat (first | exact HG.out | exact GlE.below HG.out HB.out | apply GlE.drewN | apply GlE.drew | apply GlE.alloc))) A2.out).mono ?_); (case side1 => repeat (first | exact HR0.out | (with_reducible refine Kd.C_alloc ?_ _) | (with_reducible refine Kd.C_drewN ?_ _) | (with_reducible refine Kd.C_drew ?_))); (case side2 => exact HC0.out); rintro e w' ⟨rfl, ⟨nd, rfl⟩⟩; (try simp only [errW_none, errW_some]); (try first | exact ⟨rfl, _, World.drewN_drewN _ _ _⟩ | exact ⟨rfl, _, Eq.trans (World.drewN_drewN _ _ _) (congrArg (World.drewN _) (Nat.add_assoc _ _ _))⟩))))
    refine bodyPost_ret (results_list (rs := [.tmp 2, .tmp 3, .tmp 4, .tmp 5]) rfl (by simp) (.tmp (.tmp (.tmp (.tmp .nil))))) rfl ?_
    exact ⟨by first | rfl | (simp; done) | (simp [*]; done), by repeat (first | exact Drawn0.refl _ | apply Drawn0.step)⟩

/-! ### server_ScanTag: function 24 -/
def server_ScanTag.f (l0 : List Int) : Option (Int × Int × Int × Option Int) := (server_protoScanTag.f l0).bind fun bt135 => (some (bt135.1, bt135.2.1, bt135.2.2.1, bt135.2.2.2))
set_option maxHeartbeats 8000000 in
set_option maxRecDepth 100000 in
theorem server_ScanTag.calls (A0 : Option Addr) (c0 : Nat) (l0 : List Int) (r1 : Int) (r2 : Int) (r3 : Int) (r4 : Option Int) (w : World) (hr0 : Kd.C (Kd.int .u8) w A0 l0.length l0) (hc0 : l0.length ≤ c0) (hG : GlE E w) (h : server_ScanTag.f l0 = some (r1, r2, r3, r4)) :
    Calls Tryd.prog 24 #[.slice A0 l0.length c0] w fun e w' => e = .returned (.tuple #[.int .i64 r1, .int .i64 r2, .int .i64 r3, errW E r4]) ∧ Drawn0 w w' := by
  have HG := Aside0.mk hG
  clear hG
  have HR0 := Aside0.mk hr0
  have HC0 := Aside0.mk hc0
  clear hr0 hc0
  have H : ((server_protoScanTag.f l0).bind fun bt135 => (some (bt135.1, bt135.2.1, bt135.2.2.1, bt135.2.2.2))) = some (r1, r2, r3, r4) := h
  clear h
  replace H := Option.bind_eq_some_iff.mp H
  obtain ⟨⟨t135, t136, t137, t138⟩, A20, H⟩ := H
  replace H : (some (t135, t136, t137, t138)) = some (r1, r2, r3, r4) := H
  have A2 := Aside0.mk A20
  clear A20
  simp only [Option.some.injEq, Prod.mk.injEq] at H
  obtain ⟨rfl, rfl, rfl, rfl⟩ := H
  go_enter Tryd.func24, Tryd.ntmps24
  go_wp2_with (first | ((with_reducible refine gate_callee (f := 29) rfl ?_); refine goesL_ (some 7) rfl rfl Tryd.func29 (by kernel_rfl) rfl #[.slice A0 l0.length c0] rfl (by (try simp only [List.map_toArray, List.map_cons, List.map_nil]); first | done | rfl | (simp only [List.length_drop, List.length_take]; rfl)) ?_; (with_reducible refine (server_protoScanTag.calls _ _ l0 t135 t136 t137 t138 _ ?side1 ?side2 (by first | exact HG.out | exact GlE.below HG.out HB.out | exact (by repeat (first | exact HG.out | exact GlE.below HG.out HB.out | apply GlE.drewN | apply GlE.drew | apply GlE.alloc))) A2.out).mono ?_); (case side1 => repeat (first | exact HR0.out | (with_reducible refine Kd.C_alloc ?_ _) | (with_reducible refine Kd.C_drewN ?_ _) | (with_reducible refine Kd.C_drew ?_))); (case side2 => exact HC0.out); rintro e w' ⟨rfl, ⟨nd, rfl⟩⟩; refine ⟨_, rfl, ?_⟩; (try simp only [errW_none, errW_some])))
  refine bodyPost_ret (results_list (rs := [.tmp 2, .tmp 3, .tmp 4, .tmp 5]) rfl (by simp) (.tmp (.tmp (.tmp (.tmp .nil))))) rfl ?_
  exact ⟨by first | rfl | (simp; done) | (simp [*]; done), by repeat (first | exact Drawn0.refl _ | apply Drawn0.step)⟩

/-! ### impl_ProtoTag: function 14 -/
def impl_ProtoTag.f (l0 : List Int) : Option (Int × Int × Int × Int) := (server_ScanTag.f l0).bind fun bt139 => ((impl_one.f bt139.2.2.2).bind fun t143 => (some (bt139.1, bt139.2.1, bt139.2.2.1, t143)))
set_option maxHeartbeats 8000000 in
set_option maxRecDepth 100000 in
theorem impl_ProtoTag.calls (A0 : Option Addr) (c0 : Nat) (l0 : List Int) (r1 : Int) (r2 : Int) (r3 : Int) (r4 : Int) (w : World) (hr0 : Kd.C (Kd.int .u8) w A0 l0.length l0) (hc0 : l0.length ≤ c0) (hG : GlE E w) (h : impl_ProtoTag.f l0 = some (r1, r2, r3, r4)) :
    Calls Tryd.prog 14 #[.slice A0 l0.length c0] w fun e w' => e = .returned (.tuple #[.int .i64 r1, .int .i64 r2, .int .i64 r3, .int .i64 r4]) ∧ Drawn0 w w' := by
  have HG := Aside0.mk hG
  clear hG
  have HR0 := Aside0.mk hr0
  have HC0 := Aside0.mk hc0
  clear hr0 hc0
  have H : ((server_ScanTag.f l0).bind fun bt139 => ((impl_one.f bt139.2.2.2).bind fun t143 => (some (bt139.1, bt139.2.1, bt139.2.2.1, t143)))) = some (r1, r2, r3, r4) := h
  clear h
  replace H := Option.bind_eq_some_iff.mp H
  obtain ⟨⟨t139, t140, t141, t142⟩, A20, H⟩ := H
  replace H : ((impl_one.f t142).bind fun t143 => (some (t139, t140, t141, t143))) = some (r1, r2, r3, r4) := H
  have A2 := Aside0.mk A20
  clear A20
  replace H := Option.bind_eq_some_iff.mp H
  obtain ⟨t143, A30, H⟩ := H
  replace H : (some (t139, t140, t141, t143)) = some (r1, r2, r3, r4) := H
  have A3 := Aside0.mk A30
  clear A30
  simp only [Option.some.injEq, Prod.mk.injEq] at H
  obtain ⟨rfl, rfl, rfl, rfl⟩ := H
  go_enter Tryd.func14, Tryd.ntmps14
  go_wp2_with (first | ((with_reducible refine gate_callee (f := 24) rfl ?_); refine goesL_ (some 9) rfl rfl Tryd.func24 (by kernel_rfl) rfl #[.slice A0 l0.length c0] rfl (by (try simp only [List.map_toArray, List.map_cons, List.map_nil]); first | done | rfl | (simp only [List.length_drop, List.length_take]; rfl)) ?_; (with_reducible refine (server_ScanTag.calls _ _ l0 t139 t140 t141 t142 _ ?side1 ?side2 (by first | exact HG.out | exact GlE.below HG.out HB.out | exact (by repeat (first | exact HG.out | exact GlE.below HG.out HB.out | apply GlE.drewN | apply GlE.drew | apply GlE.alloc))) A2.out).mono ?_); (case side1 => repeat (first | exact HR0.out | (with_reducible refine Kd.C_alloc ?_ _) | (with_reducible refine Kd.C_drewN ?_ _) | (with_reducible refine Kd.C_drew ?_))); (case side2 => exact HC0.out); rintro e w' ⟨rfl, ⟨nd, rfl⟩⟩; refine ⟨_, rfl, ?_⟩; (try simp only [errW_none, errW_some]); have CA3 := fun (W : World) (hG_ : GlE E W) => impl_one.calls t142 t143 W hG_ A3.out; try simp only [errW_none, errW_some] at CA3) | (go_at_call 23; (with_reducible refine (CA3 _ (by first | exact HG.out | exact GlE.below HG.out HB.out | exact (by repeat (first | exact HG.out | exact GlE.below HG.out HB.out | apply GlE.drewN | apply GlE.drew | apply GlE.alloc)))).mono ?_); rintro e w' ⟨rfl, ⟨nd, rfl⟩⟩))
  refine bodyPost_ret (results_list (rs := [.tmp 2, .tmp 3, .tmp 4, .tmp 5]) rfl (by simp) (.tmp (.tmp (.tmp (.tmp .nil))))) rfl ?_
  exact ⟨by first | rfl | (simp; done) | (simp [*]; done), by repeat (first | exact Drawn0.refl _ | apply Drawn0.step)⟩

/-! ### laws_FnProtoTag: function 5 -/
def laws_FnProtoTag.f (k : Nat) (l0 : List Int) : Option (Bool) := if (l0.length : Int) > 2147483647 then (some true) else (if (l0.length : Int) > 400 then ((laws_awakeProto.f).bind fun t144 => (some t144)) else ((spec_Tag.f k l0).bind fun bt145 => ((some (([] : List Int) : List Int)).bind fun y149 => (if y149.length + l0.length < 140737488355328 then ((impl_ProtoTag.f (y149 ++ l0)).bind fun bt155 => (if ((bt155.2.2.2 == 0) == bt145.2.2.2) = true then (if bt145.2.2.2 = true then (if bt155.1 = bt145.1 then (if bt155.2.1 = bt145.2.1 then (if bt155.2.2.1 = bt145.2.2.1 then ((laws_awakeProto.f).bind fun t159 => (some t159)) else (some false)) else (some false)) else (some false)) else ((laws_awakeProto.f).bind fun t160 => (some t160))) else (some false))) else (none)))))
theorem laws_FnProtoTag.mono : ∀ a0 k, LeO (laws_FnProtoTag.f k a0) (laws_FnProtoTag.f (k + 1) a0) := by
  intro a0 k
  unfold laws_FnProtoTag.f
  repeat' first
      | (with_reducible exact spec_Tag.mono _ _)
      | (with_reducible exact LeO.refl _)
      | (with_reducible exact LeO.none _)
      | (with_reducible refine LeO.ite ?_ ?_)
      | (with_reducible refine LeO.bind ?_ (fun _ => ?_))
      | exact spec_Tag.mono _ _
      | exact LeO.none _
      | refine LeO.ite ?_ ?_
      | refine LeO.bind ?_ (fun _ => ?_)
set_option maxHeartbeats 8000000 in
set_option maxRecDepth 100000 in
theorem laws_FnProtoTag.calls (k : Nat) (A0 : Option Addr) (c0 : Nat) (l0 : List Int) (r : Bool) (w : World) (hr0 : Kd.C (Kd.int .u8) w A0 l0.length l0) (hc0 : l0.length ≤ c0) (hG : GlE E w) (h : laws_FnProtoTag.f k l0 = some r) :
    Calls Tryd.prog 5 #[.slice A0 l0.length c0] w fun e w' => e = .returned (.bool r) ∧ Below w.heap.size w w' := by
  have HG := Aside0.mk hG
  clear hG
  have HR0 := Aside0.mk hr0
  have HC0 := Aside0.mk hc0
  clear hr0 hc0
  have HB := Aside0.mk (Below.refl w.heap.size w)
  have H : (if (l0.length : Int) > 2147483647 then (some true) else (if (l0.length : Int) > 400 then ((laws_awakeProto.f).bind fun t144 => (some t144)) else ((spec_Tag.f k l0).bind fun bt145 => ((some (([] : List Int) : List Int)).bind fun y149 => (if y149.length + l0.length < 140737488355328 then ((impl_ProtoTag.f (y149 ++ l0)).bind fun bt155 => (if ((bt155.2.2.2 == 0) == bt145.2.2.2) = true then (if bt145.2.2.2 = true then (if bt155.1 = bt145.1 then (if bt155.2.1 = bt145.2.1 then (if bt155.2.2.1 = bt145.2.2.1 then ((laws_awakeProto.f).bind fun t159 => (some t159)) else (some false)) else (some false)) else (some false)) else ((laws_awakeProto.f).bind fun t160 => (some t160))) else (some false))) else (none)))))) = some r := h
  clear h
  by_cases c2 : (l0.length : Int) > 2147483647
  · rw [if_pos c2] at H
    have c2b0 : decide (2147483647 < (l0.length : Int)) = true := decide_eq_true c2
    have c2b1 : decide (2147483647 < l0.length) = true := decide_eq_true (by omega)
    clear c2
    obtain rfl := Option.some.inj H
    go_enter Tryd.func5, Tryd.ntmps5
    go_wp2
    go_ret
    exact ⟨by first | rfl | (simp [errW_none, errW_some] <;> rfl) | (simp [*, errW_none, errW_some] <;> rfl), by repeat (first | (with_reducible first | exact HB.out | apply below_alloc | apply pw_below_drewN | apply below_drew1) | exact HB.out)⟩
  · rw [if_neg c2] at H
    have c2b0 : decide (2147483647 < (l0.length : Int)) = false := decide_eq_false c2
    have c2b1 : decide (2147483647 < l0.length) = false := decide_eq_false (by omega)
    clear c2
    by_cases c3 : (l0.length : Int) > 400
    · rw [if_pos c3] at H
      have c3b0 : decide (400 < (l0.length : Int)) = true := decide_eq_true c3
      have c3b1 : decide (400 < l0.length) = true := decide_eq_true (by omega)
      clear c3
      replace H := Option.bind_eq_some_iff.mp H
      obtain ⟨t144, A40, H⟩ := H
      replace H : (some t144) = some r := H
      have A4 := Aside0.mk A40
      clear A40
      obtain rfl := Option.some.inj H
      go_enter Tryd.func5, Tryd.ntmps5
      go_wp2_with (first | ((with_reducible refine gate_callee (f := 10) rfl ?_); refine goesL_ (some 17) rfl rfl Tryd.func10 (by kernel_rfl) rfl #[] rfl (by (try simp only [List.map_toArray, List.map_cons, List.map_nil]); first | done | rfl | (simp only [List.length_drop, List.length_take]; rfl)) ?_; (with_reducible refine (laws_awakeProto.calls  t144 _ (by first | exact HG.out | exact GlE.below HG.out HB.out | exact (by repeat (first | exact HG.out | exact GlE.below HG.out HB.out | apply GlE.drewN | apply GlE.drew | apply GlE.alloc))) A4.out).mono ?_); rintro e w5 ⟨rfl, hb⟩; refine ⟨_, rfl, ?_⟩; have n0_ := Aside0.mk (below_step (by repeat (first | (with_reducible first | exact HB.out | apply below_alloc | apply pw_below_drewN | apply below_drew1) | exact HB.out)) hb); clear HB; have HB := n0_; clear n0_; (try clear hb); (try clear hb2); (try clear hk); (try clear hi)))
      go_ret
      exact ⟨by first | rfl | (simp [errW_none, errW_some] <;> rfl) | (simp [*, errW_none, errW_some] <;> rfl), by repeat (first | (with_reducible first | exact HB.out | apply below_alloc | apply pw_below_drewN | apply below_drew1) | exact HB.out)⟩
    · rw [if_neg c3] at H
      have c3b0 : decide (400 < (l0.length : Int)) = false := decide_eq_false c3
      have c3b1 : decide (400 < l0.length) = false := decide_eq_false (by omega)
      clear c3
      replace H := Option.bind_eq_some_iff.mp H
      obtain ⟨⟨t145, t146, t147, t148⟩, A60, H⟩ := H
      replace H : ((some (([] : List Int) : List Int)).bind fun y149 => (if y149.length + l0.length < 140737488355328 then ((impl_ProtoTag.f (y149 ++ l0)).bind fun bt155 => (if ((bt155.2.2.2 == 0) == t148) = true then (if t148 = true then (if bt155.1 = t145 then (if bt155.2.1 = t146 then (if bt155.2.2.1 = t147 then ((laws_awakeProto.f).bind fun t159 => (some t159)) else (some false)) else (some false)) else (some false)) else ((laws_awakeProto.f).bind fun t160 => (some t160))) else (some false))) else (none))) = some r := H
      have A6 := Aside0.mk A60
      clear A60
      obtain ⟨y149, hy149⟩ : ∃ y_ : List Int, y_ = (([] : List Int)) := ⟨_, rfl⟩
      replace H : (if y149.length + l0.length < 140737488355328 then ((impl_ProtoTag.f (y149 ++ l0)).bind fun bt155 => (if ((bt155.2.2.2 == 0) == t148) = true then (if t148 = true then (if bt155.1 = t145 then (if bt155.2.1 = t146 then (if bt155.2.2.1 = t147 then ((laws_awakeProto.f).bind fun t159 => (some t159)) else (some false)) else (some false)) else (some false)) else ((laws_awakeProto.f).bind fun t160 => (some t160))) else (some false))) else (none)) = some r := by first | (rw [hy149]; with_reducible exact H) | (have H2_ := (Option.bind_some _ _).symm.trans H; rw [hy149]; with_reducible exact H2_) | (have H2_ := (Option.bind_some _ _).symm.trans H; with_reducible exact H2_) | with_reducible exact H | (rw [hy149]; exact H) | exact H
      have Ny149 := Aside0.mk hy149
      clear hy149
      by_cases c7 : y149.length + l0.length < 140737488355328
      · rw [if_pos c7] at H
        have LMc7 := Aside0.mk c7
        clear c7
        obtain ⟨y152, hy152⟩ : ∃ y_ : List Int, y_ = (y149 ++ l0) := ⟨_, rfl⟩
        replace H : ((impl_ProtoTag.f y152).bind fun bt155 => (if ((bt155.2.2.2 == 0) == t148) = true then (if t148 = true then (if bt155.1 = t145 then (if bt155.2.1 = t146 then (if bt155.2.2.1 = t147 then ((laws_awakeProto.f).bind fun t159 => (some t159)) else (some false)) else (some false)) else (some false)) else ((laws_awakeProto.f).bind fun t160 => (some t160))) else (some false))) = some r := by first | (rw [hy152]; with_reducible exact H) | (have H2_ := (Option.bind_some _ _).symm.trans H; rw [hy152]; with_reducible exact H2_) | (have H2_ := (Option.bind_some _ _).symm.trans H; with_reducible exact H2_) | with_reducible exact H | (rw [hy152]; exact H) | exact H
        have Ny152 := Aside0.mk hy152
        clear hy152
        replace H := Option.bind_eq_some_iff.mp H
        obtain ⟨⟨t155, t156, t157, t158⟩, A80, H⟩ := H
        replace H : (if ((t158 == 0) == t148) = true then (if t148 = true then (if t155 = t145 then (if t156 = t146 then (if t157 = t147 then ((laws_awakeProto.f).bind fun t159 => (some t159)) else (some false)) else (some false)) else (some false)) else ((laws_awakeProto.f).bind fun t160 => (some t160))) else (some false)) = some r := H
        have A8 := Aside0.mk A80
        clear A80
        by_cases c9 : ((t158 == 0) == t148) = true
        · rw [if_pos c9] at H
          have c9b0 : ((t158 == 0) == t148) = true := c9
          (try (have c9b1 : decide ((t158 == 0) = t148) = true := by simpa using c9))
          (try (have c9b2 : ((t158 == 0) == t148) = true := by simpa using c9))
          clear c9
          by_cases c10 : t148 = true
          · subst c10
            have H1 : (if t155 = t145 then (if t156 = t146 then (if t157 = t147 then ((laws_awakeProto.f).bind fun t159 => (some t159)) else (some false)) else (some false)) else (some false)) = some r := by rw [if_pos rfl] at H; exact H
            clear H
            have H := H1
            clear H1
            by_cases c11 : t155 = t145
            · rw [if_pos c11] at H
              have c11b0 : (t155 == t145) = true := beq_iff_eq.mpr c11
              have c11b1 : (t155 != t145) = false := bne_eq_false_iff_eq.mpr c11
              clear c11
              by_cases c12 : t156 = t146
              · rw [if_pos c12] at H
                have c12b0 : (t156 == t146) = true := beq_iff_eq.mpr c12
                have c12b1 : (t156 != t146) = false := bne_eq_false_iff_eq.mpr c12
                clear c12
                by_cases c13 : t157 = t147
                · rw [if_pos c13] at H
                  have c13b0 : (t157 == t147) = true := beq_iff_eq.mpr c13
                  have c13b1 : (t157 != t147) = false := bne_eq_false_iff_eq.mpr c13
                  clear c13
                  replace H := Option.bind_eq_some_iff.mp H
                  obtain ⟨t159, A140, H⟩ := H
                  replace H : (some t159) = some r := H
                  have A14 := Aside0.mk A140
                  clear A140
                  obtain rfl := Option.some.inj H
                  go_enter Tryd.func5, Tryd.ntmps5
                  go_wp2_with (first | ((with_reducible refine gate_callee (f := 13) rfl ?_); refine goesL_ (some 20) rfl rfl Tryd.func13 (by kernel_rfl) rfl #[.slice A0 l0.length c0] rfl (by (try simp only [List.map_toArray, List.map_cons, List.map_nil]); first | done | rfl | (simp only [List.length_drop, List.length_take]; rfl)) ?_; (with_reducible refine (spec_Tag.calls k _ _ l0 t145 t146 t147 true _ ?side1 ?side2 (by first | exact HG.out | exact GlE.below HG.out HB.out | exact (by repeat (first | exact HG.out | exact GlE.below HG.out HB.out | apply GlE.drewN | apply GlE.drew | apply GlE.alloc))) A6.out).mono ?_); (case side1 => repeat (first | exact HR0.out | (with_reducible refine Kd.C_alloc ?_ _) | (with_reducible refine Kd.C_drewN ?_ _) | (with_reducible refine Kd.C_drew ?_))); (case side2 => exact HC0.out); rintro e w' ⟨rfl, ⟨nd, rfl⟩⟩; refine ⟨_, rfl, ?_⟩) | ((with_reducible refine gate_dst (N := 26) rfl ?_); refine Kd.R_lit (Kd.int .u8) _ 5 ?hg (N := 26) ?hd (xs := ([] : List Int)) (inner := []) (ok := fun _ => True) (okp := fun _ => True) ?hr ?hp (fun _ hk => hk) trivial (Below.refl _ _) (Nat.le_refl _) (by simp) ?_; (case hd => rfl); (case hg => rfl); (case hr => first | (go_simp; done) | (go_simp; rfl)); (case hp => exact (Reps.none _ _)); intro v150 w15 ho16 hb hg_ hnew_; clear hg_ hnew_; (first | rw [← Ny149.out] at ho16 | (simp only [Int.reduceToNat] at ho16; rw [← Ny149.out] at ho16)); have n0_ := Aside0.mk (Kd.R_lower ho16 (below_size (by repeat (first | (with_reducible first | exact HB.out | apply below_alloc | apply pw_below_drewN | apply below_drew1) | exact HB.out)))); have n1_ := Aside0.mk (below_step (by repeat (first | (with_reducible first | exact HB.out | apply below_alloc | apply pw_below_drewN | apply below_drew1) | exact HB.out)) hb); clear HB; have HO151 := n0_; have HB := n1_; clear n0_ n1_; clear hb ho16) | ((with_reducible refine gate_builtin (b := .append) (xs := #[.tmp 26, .tmp 27]) rfl ?_); at_builtin; refine Kd.R_append_rows (Kd.int .u8) (w0 := w) w.heap.size rfl (.tmp 26) (.tmp 27) 22 5 (.int .u8 0) 1 rfl Tryd.underlying22 info5 rfl (by decide) (by omega) v150 y149 l0 _ _ _ (fun _ => True) (fun _ => False) rfl rfl ?aO ?aR (fun _ _ h => h) (fun _ h => h.elim) ?aF ?aB ?aS ?aL ?_; (case aR => repeat (first | exact (Kd.C_below HR0.out HB.out) | (with_reducible refine Kd.C_alloc ?_ _) | (with_reducible refine Kd.C_drewN ?_ _) | (with_reducible refine Kd.C_drew ?_))); (case aB => exact (by repeat (first | (with_reducible first | exact HB.out | apply below_alloc | apply pw_below_drewN | apply below_drew1) | exact HB.out))); (case aF => exact (fun _ _ => trivial)); (case aO => exact (by (with_reducible repeat (first | apply Kd.R_alloc | apply Kd.R_drewN | apply Kd.R_drew)); exact HO151.out)); (case aS => exact (below_size (by repeat (first | (with_reducible first | exact HB.out | apply below_alloc | apply pw_below_drewN | apply below_drew1) | exact HB.out)))); (case aL => have := LMc7.out; omega); intro v153 w17 ho hb hg hat; rw [← Ny152.out] at ho; have n0_ := Aside0.mk (hb); have n1_ := Aside0.mk (ho); clear HB; clear HO151; have HB := n0_; have HO154 := n1_; clear n0_ n1_; clear ho hb hg hat; obtain ⟨Ao18, co18, eo18⟩ := Kd.R_slice HO154.out; subst eo18) | ((with_reducible refine gate_callee (f := 14) rfl ?_); refine goesL_ (some 29) rfl rfl Tryd.func14 (by kernel_rfl) rfl #[.slice Ao18 y152.length co18] rfl (by (try simp only [List.map_toArray, List.map_cons, List.map_nil]); first | done | rfl | (simp only [List.length_drop, List.length_take]; rfl)) ?_; (with_reducible refine (impl_ProtoTag.calls _ _ y152 t155 t156 t157 t158 _ ?side1 ?side2 (by first | exact HG.out | exact GlE.below HG.out HB.out | exact (by repeat (first | exact HG.out | exact GlE.below HG.out HB.out | apply GlE.drewN | apply GlE.drew | apply GlE.alloc))) A8.out).mono ?_); (case side1 => repeat (first | exact (Kd.R_reads' HO154.out).2.2 | (with_reducible refine Kd.C_alloc ?_ _) | (with_reducible refine Kd.C_drewN ?_ _) | (with_reducible refine Kd.C_drew ?_))); (case side2 => exact (Kd.R_reads' HO154.out).2.1); rintro e w' ⟨rfl, ⟨nd, rfl⟩⟩; refine ⟨_, rfl, ?_⟩) | (go_at_call 10; (with_reducible refine (laws_awakeProto.calls  t159 _ (by first | exact HG.out | exact GlE.below HG.out HB.out | exact (by repeat (first | exact HG.out | exact GlE.below HG.out HB.out | apply GlE.drewN | apply GlE.drew | apply GlE.alloc))) A14.out).mono ?_); rintro e w19 ⟨rfl, hb⟩; have n0_ := Aside0.mk (Kd.R_below (by (with_reducible repeat (first | apply Kd.R_alloc | apply Kd.R_drewN | apply Kd.R_drew)); exact HO154.out) hb); have n1_ := Aside0.mk (below_step (by repeat (first | (with_reducible first | exact HB.out | apply below_alloc | apply pw_below_drewN | apply below_drew1) | exact HB.out)) hb); clear HO154; clear HB; have HO154 := n0_; have HB := n1_; clear n0_ n1_; (try clear hb); (try clear hb2); (try clear hk); (try clear hi)))
                  go_ret
                  exact ⟨by first | rfl | (simp [errW_none, errW_some] <;> rfl) | (simp [*, errW_none, errW_some] <;> rfl), by repeat (first | (with_reducible first | exact HB.out | apply below_alloc | apply pw_below_drewN | apply below_drew1) | exact HB.out)⟩
                · rw [if_neg c13] at H
                  have c13b0 : (t157 == t147) = false := beq_eq_false_iff_ne.mpr c13
                  have c13b1 : (t157 != t147) = true := bne_iff_ne.mpr c13
                  obtain rfl := Option.some.inj H
                  go_enter Tryd.func5, Tryd.ntmps5
                  go_wp2_with (first | ((with_reducible refine gate_callee (f := 13) rfl ?_); refine goesL_ (some 20) rfl rfl Tryd.func13 (by kernel_rfl) rfl #[.slice A0 l0.length c0] rfl (by (try simp only [List.map_toArray, List.map_cons, List.map_nil]); first | done | rfl | (simp only [List.length_drop, List.length_take]; rfl)) ?_; (with_reducible refine (spec_Tag.calls k _ _ l0 t145 t146 t147 true _ ?side1 ?side2 (by first | exact HG.out | exact GlE.below HG.out HB.out | exact (by repeat (first | exact HG.out | exact GlE.below HG.out HB.out | apply GlE.drewN | apply GlE.drew | apply GlE.alloc))) A6.out).mono ?_); (case side1 => repeat (first | exact HR0.out | (with_reducible refine Kd.C_alloc ?_ _) | (with_reducible refine Kd.C_drewN ?_ _) | (with_reducible refine Kd.C_drew ?_))); (case side2 => exact HC0.out); rintro e w' ⟨rfl, ⟨nd, rfl⟩⟩; refine ⟨_, rfl, ?_⟩) | ((with_reducible refine gate_dst (N := 26) rfl ?_); refine Kd.R_lit (Kd.int .u8) _ 5 ?hg (N := 26) ?hd (xs := ([] : List Int)) (inner := []) (ok := fun _ => True) (okp := fun _ => True) ?hr ?hp (fun _ hk => hk) trivial (Below.refl _ _) (Nat.le_refl _) (by simp) ?_; (case hd => rfl); (case hg => rfl); (case hr => first | (go_simp; done) | (go_simp; rfl)); (case hp => exact (Reps.none _ _)); intro v150 w20 ho21 hb hg_ hnew_; clear hg_ hnew_; (first | rw [← Ny149.out] at ho21 | (simp only [Int.reduceToNat] at ho21; rw [← Ny149.out] at ho21)); have n0_ := Aside0.mk (Kd.R_lower ho21 (below_size (by repeat (first | (with_reducible first | exact HB.out | apply below_alloc | apply pw_below_drewN | apply below_drew1) | exact HB.out)))); have n1_ := Aside0.mk (below_step (by repeat (first | (with_reducible first | exact HB.out | apply below_alloc | apply pw_below_drewN | apply below_drew1) | exact HB.out)) hb); clear HB; have HO151 := n0_; have HB := n1_; clear n0_ n1_; clear hb ho21) | ((with_reducible refine gate_builtin (b := .append) (xs := #[.tmp 26, .tmp 27]) rfl ?_); at_builtin; refine Kd.R_append_rows (Kd.int .u8) (w0 := w) w.heap.size rfl (.tmp 26) (.tmp 27) 22 5 (.int .u8 0) 1 rfl Tryd.underlying22 info5 rfl (by decide) (by omega) v150 y149 l0 _ _ _ (fun _ => True) (fun _ => False) rfl rfl ?aO ?aR (fun _ _ h => h) (fun _ h => h.elim) ?aF ?aB ?aS ?aL ?_; (case aR => repeat (first | exact (Kd.C_below HR0.out HB.out) | (with_reducible refine Kd.C_alloc ?_ _) | (with_reducible refine Kd.C_drewN ?_ _) | (with_reducible refine Kd.C_drew ?_))); (case aB => exact (by repeat (first | (with_reducible first | exact HB.out | apply below_alloc | apply pw_below_drewN | apply below_drew1) | exact HB.out))); (case aF => exact (fun _ _ => trivial)); (case aO => exact (by (with_reducible repeat (first | apply Kd.R_alloc | apply Kd.R_drewN | apply Kd.R_drew)); exact HO151.out)); (case aS => exact (below_size (by repeat (first | (with_reducible first | exact HB.out | apply below_alloc | apply pw_below_drewN | apply below_drew1) | exact HB.out)))); (case aL => have := LMc7.out; omega); intro v153 w22 ho hb hg hat; rw [← Ny152.out] at ho; have n0_ := Aside0.mk (hb); have n1_ := Aside0.mk (ho); clear HB; clear HO151; have HB := n0_; have HO154 := n1_; clear n0_ n1_; clear ho hb hg hat; obtain ⟨Ao23, co23, eo23⟩ := Kd.R_slice HO154.out; subst eo23) | ((with_reducible refine gate_callee (f := 14) rfl ?_); refine goesL_ (some 29) rfl rfl Tryd.func14 (by kernel_rfl) rfl #[.slice Ao23 y152.length co23] rfl (by (try simp only [List.map_toArray, List.map_cons, List.map_nil]); first | done | rfl | (simp only [List.length_drop, List.length_take]; rfl)) ?_; (with_reducible refine (impl_ProtoTag.calls _ _ y152 t155 t156 t157 t158 _ ?side1 ?side2 (by first | exact HG.out | exact GlE.below HG.out HB.out | exact (by repeat (first | exact HG.out | exact GlE.below HG.out HB.out | apply GlE.drewN | apply GlE.drew | apply GlE.alloc))) A8.out).mono ?_); (case side1 => repeat (first | exact (Kd.R_reads' HO154.out).2.2 | (with_reducible refine Kd.C_alloc ?_ _) | (with_reducible refine Kd.C_drewN ?_ _) | (with_reducible refine Kd.C_drew ?_))); (case side2 => exact (Kd.R_reads' HO154.out).2.1); rintro e w' ⟨rfl, ⟨nd, rfl⟩⟩; refine ⟨_, rfl, ?_⟩))
                  go_ret
                  exact ⟨by first | rfl | (simp [errW_none, errW_some] <;> rfl) | (simp [*, errW_none, errW_some] <;> rfl), by repeat (first | (with_reducible first | exact HB.out | apply below_alloc | apply pw_below_drewN | apply below_drew1) | exact HB.out)⟩
              · rw [if_neg c12] at H
                have c12b0 : (t156 == t146) = false := beq_eq_false_iff_ne.mpr c12
                have c12b1 : (t156 != t146) = true := bne_iff_ne.mpr c12
                obtain rfl := Option.some.inj H
                go_enter Tryd.func5, Tryd.ntmps5
                go_wp2_with (first | ((with_reducible refine gate_callee (f := 13) rfl ?_); refine goesL_ (some 20) rfl rfl Tryd.func13 (by kernel_rfl) rfl #[.slice A0 l0.length c0] rfl (by (try simp only [List.map_toArray, List.map_cons, List.map_nil]); first | done | rfl | (simp only [List.length_drop, List.length_take]; rfl)) ?_; (with_reducible refine (spec_Tag.calls k _ _ l0 t145 t146 t147 true _ ?side1 ?side2 (by first | exact HG.out | exact GlE.below HG.out HB.out | exact (by repeat (first | exact HG.out | exact GlE.below HG.out HB.out | apply GlE.drewN | apply GlE.drew | apply GlE.alloc))) A6.out).mono ?_); (case side1 => repeat (first | exact HR0.out | (with_reducible refine Kd.C_alloc ?_ _) | (with_reducible refine Kd.C_drewN ?_ _) | (with_reducible refine Kd.C_drew ?_))); (case side2 => exact HC0.out); rintro e w' ⟨rfl, ⟨nd, rfl⟩⟩; refine ⟨_, rfl, ?_⟩) | ((with_reducible refine gate_dst (N := 26) rfl ?_); refine Kd.R_lit (Kd.int .u8) _ 5 ?hg (N := 26) ?hd (xs := ([] : List Int)) (inner := []) (ok := fun _ => True) (okp := fun _ => True) ?hr ?hp (fun _ hk => hk) trivial (Below.refl _ _) (Nat.le_refl _) (by simp) ?_; (case hd => rfl); (case hg => rfl); (case hr => first | (go_simp; done) | (go_simp; rfl)); (case hp => exact (Reps.none _ _)); intro v150 w24 ho25 hb hg_ hnew_; clear hg_ hnew_; (first | rw [← Ny149.out] at ho25 | (simp only [Int.reduceToNat] at ho25; rw [← Ny149.out] at ho25)); have n0_ := Aside0.mk (Kd.R_lower ho25 (below_size (by repeat (first | (with_reducible first | exact HB.out | apply below_alloc | apply pw_below_drewN | apply below_drew1) | exact HB.out)))); have n1_ := Aside0.mk (below_step (by repeat (first | (with_reducible first | exact HB.out | apply below_alloc | apply pw_below_drewN | apply below_drew1) | exact HB.out)) hb); clear HB; have HO151 := n0_; have HB := n1_; clear n0_ n1_; clear hb ho25) | ((with_reducible refine gate_builtin (b := .append) (xs := #[.tmp 26, .tmp 27]) rfl ?_); at_builtin; refine Kd.R_append_rows (Kd.int .u8) (w0 := w) w.heap.size rfl (.tmp 26) (.tmp 27) 22 5 (.int .u8 0) 1 rfl Tryd.underlying22 info5 rfl (by decide) (by omega) v150 y149 l0 _ _ _ (fun _ => True) (fun _ => False) rfl rfl ?aO ?aR (fun _ _ h => h) (fun _ h => h.elim) ?aF ?aB ?aS ?aL ?_; (case aR => repeat (first | exact (Kd.C_below HR0.out HB.out) | (with_reducible refine Kd.C_alloc ?_ _) | (with_reducible refine Kd.C_drewN ?_ _) | (with_reducible refine Kd.C_drew ?_))); (case aB => exact (by repeat (first | (with_reducible first | exact HB.out | apply below_alloc | apply pw_below_drewN | apply below_drew1) | exact HB.out))); (case aF => exact (fun _ _ => trivial)); (case aO => exact (by (with_reducible repeat (first | apply Kd.R_alloc | apply Kd.R_drewN | apply Kd.R_drew)); exact HO151.out)); (case aS => exact (below_size (by repeat (first | (with_reducible first | exact HB.out | apply below_alloc | apply pw_below_drewN | apply below_drew1) | exact HB.out)))); (case aL => have := LMc7.out; omega); intro v153 w26 ho hb hg hat; rw [← Ny152.out] at ho; have n0_ := Aside0.mk (hb); have n1_ := Aside0.mk (ho); clear HB; clear HO151; have HB := n0_; have HO154 := n1_; clear n0_ n1_; clear ho hb hg hat; obtain ⟨Ao27, co27, eo27⟩ := Kd.R_slice HO154.out; subst eo27) | ((with_reducible refine gate_callee (f := 14) rfl ?_); refine goesL_ (some 29) rfl rfl Tryd.func14 (by kernel_rfl) rfl #[.slice Ao27 y152.length co27] rfl (by (try simp only [List.map_toArray, List.map_cons, List.map_nil]); first | done | rfl | (simp only [List.length_drop, List.length_take]; rfl)) ?_; (with_reducible refine (impl_ProtoTag.calls _ _ y152 t155 t156 t157 t158 _ ?side1 ?side2 (by first | exact HG.out | exact GlE.below HG.out HB.out | exact (by repeat (first | exact HG.out | exact GlE.below HG.out HB.out | apply GlE.drewN | apply GlE.drew | apply GlE.alloc))) A8.out).mono ?_); (case side1 => repeat (first | exact (Kd.R_reads' HO154.out).2.2 | (with_reducible refine Kd.C_alloc ?_ _) | (with_reducible refine Kd.C_drewN ?_ _) | (with_reducible refine Kd.C_drew ?_))); (case side2 => exact (Kd.R_reads' HO154.out).2.1); rintro e w' ⟨rfl, ⟨nd, rfl⟩⟩; refine ⟨_, rfl, ?_⟩))
                go_ret
                exact ⟨by first | rfl | (simp [errW_none, errW_some] <;> rfl) | (simp [*, errW_none, errW_some] <;> rfl), by repeat (first | (with_reducible first | exact HB.out | apply below_alloc | apply pw_below_drewN | apply below_drew1) | exact HB.out)⟩
            · rw [if_neg c11] at H
              have c11b0 : (t155 == t145) = false := beq_eq_false_iff_ne.mpr c11
              have c11b1 : (t155 != t145) = true := bne_iff_ne.mpr c11
              obtain rfl := Option.some.inj H
              go_enter Tryd.func5, Tryd.ntmps5
              go_wp2_with (first | ((with_reducible refine gate_callee (f := 13) rfl ?_); refine goesL_ (some 20) rfl rfl Tryd.func13 (by kernel_rfl) rfl #[.slice A0 l0.length c0] rfl (by (try simp only [List.map_toArray, List.map_cons, List.map_nil]); first | done | rfl | (simp only [List.length_drop, List.length_take]; rfl)) ?_; (with_reducible refine (spec_Tag.calls k _ _ l0 t145 t146 t147 true _ ?side1 ?side2 (by first | exact HG.out | exact GlE.below HG.out HB.out | exact (by repeat (first | exact HG.out | exact GlE.below HG.out HB.out | apply GlE.drewN | apply GlE.drew | apply GlE.alloc))) A6.out).mono ?_); (case side1 => repeat (first | exact HR0.out | (with_reducible refine Kd.C_alloc ?_ _) | (with_reducible refine Kd.C_drewN ?_ _) | (with_reducible refine Kd.C_drew ?_))); (case side2 => exact HC0.out); rintro e w' ⟨rfl, ⟨nd, rfl⟩⟩; refine ⟨_, rfl, ?_⟩) | ((with_reducible refine gate_dst (N := 26) rfl ?_); refine Kd.R_lit (Kd.int .u8) _ 5 ?hg (N := 26) ?hd (xs := ([] : List Int)) (inner := []) (ok := fun _ => True) (okp := fun _ => True) ?hr ?hp (fun _ hk => hk) trivial (Below.refl _ _) (Nat.le_refl _) (by simp) ?_; (case hd => rfl); (case hg => rfl); (case hr => first | (go_simp; done) | (go_simp; rfl)); (case hp => exact (Reps.none _ _)); intro v150 w28 ho29 hb hg_ hnew_; clear hg_ hnew_; (first | rw [← Ny149.out] at ho29 | (simp only [Int.reduceToNat] at ho29; rw [← Ny149.out] at ho29)); have n0_ := Aside0.mk (Kd.R_lower ho29 (below_size (by repeat (first | (with_reducible first | exact HB.out | apply below_alloc | apply pw_below_drewN | apply below_drew1) | exact HB.out)))); have n1_ := Aside0.mk (below_step (by repeat (first | (with_reducible first | exact HB.out | apply below_alloc | apply pw_below_drewN | apply below_drew1) | exact HB.out)) hb); clear HB; have HO151 := n0_; have HB := n1_; clear n0_ n1_; clear hb ho29) | ((with_reducible refine gate_builtin (b := .append) (xs := #[.tmp 26, .tmp 27]) rfl ?_); at_builtin; refine Kd.R_append_rows (Kd.int .u8) (w0 := w) w.heap.size rfl (.tmp 26) (.tmp 27) 22 5 (.int .u8 0) 1 rfl Tryd.underlying22 info5 rfl (by decide) (by omega) v150 y149 l0 _ _ _ (fun _ => True) (fun _ => False) rfl rfl ?aO ?aR (fun _ _ h => h) (fun _ h => h.elim) ?aF ?aB ?aS ?aL ?_; (case aR => repeat (first | exact (Kd.C_below HR0.out HB.out) | (with_reducible refine Kd.C_alloc ?_ _) | (with_reducible refine Kd.C_drewN ?_ _) | (with_reducible refine Kd.C_drew ?_))); (case aB => exact (by repeat (first | (with_reducible first | exact HB.out | apply below_alloc | apply pw_below_drewN | apply below_drew1) | exact HB.out))); (case aF => exact (fun _ _ => trivial)); (case aO => exact (by (with_reducible repeat (first | apply Kd.R_alloc | apply Kd.R_drewN | apply Kd.R_drew)); exact HO151.out)); (case aS => exact (below_size (by repeat (first | (with_reducible first | exact HB.out | apply below_alloc | apply pw_below_drewN | apply below_drew1) | exact HB.out)))); (case aL => have := LMc7.out; omega); intro v153 w30 ho hb hg hat; rw [← Ny152.out] at ho; have n0_ := Aside0.mk (hb); have n1_ := Aside0.mk (ho); clear HB; clear HO151; have HB := n0_; have HO154 := n1_; clear n0_ n1_; clear ho hb hg hat; obtain ⟨Ao31, co31, eo31⟩ := Kd.R_slice HO154.out; subst eo31) | ((with_reducible refine gate_callee (f := 14) rfl ?_); refine goesL_ (some 29) rfl rfl Tryd.func14 (by kernel_rfl) rfl #[.slice Ao31 y152.length co31] rfl (by (try simp only [List.map_toArray, List.map_cons, List.map_nil]); first | done | rfl | (simp only [List.length_drop, List.length_take]; rfl)) ?_; (with_reducible refine (impl_ProtoTag.calls _ _ y152 t155 t156 t157 t158 _ ?side1 ?side2 (by first | exact HG.out | exact GlE.below HG.out HB.out | exact (by repeat (first | exact HG.out | exact GlE.below HG.out HB.out | apply GlE.drewN | apply GlE.drew | apply GlE.alloc))) A8.out).mono ?_); (case side1 => repeat (first | exact (Kd.R_reads' HO154.out).2.2 | (with_reducible refine Kd.C_alloc ?_ _) | (with_reducible refine Kd.C_drewN ?_ _) | (with_reducible refine Kd.C_drew ?_))); (case side2 => exact (Kd.R_reads' HO154.out).2.1); rintro e w' ⟨rfl, ⟨nd, rfl⟩⟩; refine ⟨_, rfl, ?_⟩))
              go_ret
              exact ⟨by first | rfl | (simp [errW_none, errW_some] <;> rfl) | (simp [*, errW_none, errW_some] <;> rfl), by repeat (first | (with_reducible first | exact HB.out | apply below_alloc | apply pw_below_drewN | apply below_drew1) | exact HB.out)⟩
          · replace c10 := Bool.eq_false_iff.mpr c10
            subst c10
            have H1 : ((laws_awakeProto.f).bind fun t160 => (some t160)) = some r := by rw [if_neg (show ¬ (false = true) by decide)] at H; exact H
            clear H
            have H := H1
            clear H1
            replace H := Option.bind_eq_some_iff.mp H
            obtain ⟨t160, A320, H⟩ := H
            replace H : (some t160) = some r := H
            have A32 := Aside0.mk A320
            clear A320
            obtain rfl := Option.some.inj H
            go_enter Tryd.func5, Tryd.ntmps5
            go_wp2_with (first | ((with_reducible refine gate_callee (f := 13) rfl ?_); refine goesL_ (some 20) rfl rfl Tryd.func13 (by kernel_rfl) rfl #[.slice A0 l0.length c0] rfl (by (try simp only [List.map_toArray, List.map_cons, List.map_nil]); first | done | rfl | (simp only [List.length_drop, List.length_take]; rfl)) ?_; (with_reducible refine (spec_Tag.calls k _ _ l0 t145 t146 t147 false _ ?side1 ?side2 (by first | exact HG.out | exact GlE.below HG.out HB.out | exact (by repeat (first | exact HG.out | exact GlE.below HG.out HB.out | apply GlE.drewN | apply GlE.drew | apply GlE.alloc))) A6.out).mono ?_); (case side1 => repeat (first | exact HR0.out | (with_reducible refine Kd.C_alloc ?_ _) | (with_reducible refine Kd.C_drewN ?_ _) | (with_reducible refine Kd.C_drew ?_))); (case side2 => exact HC0.out); rintro e w' ⟨rfl, ⟨nd, rfl⟩⟩; refine ⟨_, rfl, ?_⟩) | ((with_reducible refine gate_dst (N := 26) rfl ?_); refine Kd.R_lit (Kd.int .u8) _ 5 ?hg (N := 26) ?hd (xs := ([] : List Int)) (inner := []) (ok := fun _ => True) (okp := fun _ => True) ?hr ?hp (fun _ hk => hk) trivial (Below.refl _ _) (Nat.le_refl _) (by simp) ?_; (case hd => rfl); (case hg => rfl); (case hr => first | (go_simp; done) | (go_simp; rfl)); (case hp => exact (Reps.none _ _)); intro v150 w33 ho34 hb hg_ hnew_; clear hg_ hnew_; (first | rw [← Ny149.out] at ho34 | (simp only [Int.reduceToNat] at ho34; rw [← Ny149.out] at ho34)); have n0_ := Aside0.mk (Kd.R_lower ho34 (below_size (by repeat (first | (with_reducible first | exact HB.out | apply below_alloc | apply pw_below_drewN | apply below_drew1) | exact HB.out)))); have n1_ := Aside0.mk (below_step (by repeat (first | (with_reducible first | exact HB.out | apply below_alloc | apply pw_below_drewN | apply below_drew1) | exact HB.out)) hb); clear HB; have HO151 := n0_; have HB := n1_; clear n0_ n1_; clear hb ho34) | ((with_reducible refine gate_builtin (b := .append) (xs := #[.tmp 26, .tmp 27]) rfl ?_); at_builtin; refine Kd.R_append_rows (Kd.int .u8) (w0 := w) w.heap.size rfl (.tmp 26) (.tmp 27) 22 5 (.int .u8 0) 1 rfl Tryd.underlying22 info5 rfl (by decide) (by omega) v150 y149 l0 _ _ _ (fun _ => True) (fun _ => False) rfl rfl ?aO ?aR (fun _ _ h => h) (fun _ h => h.elim) ?aF ?aB ?aS ?aL ?_; (case aR => repeat (first | exact (Kd.C_below HR0.out HB.out) | (with_reducible refine Kd.C_alloc ?_ _) | (with_reducible refine Kd.C_drewN ?_ _) | (with_reducible refine Kd.C_drew ?_))); (case aB => exact (by repeat (first | (with_reducible first | exact HB.out | apply below_alloc | apply pw_below_drewN | apply below_drew1) | exact HB.out))); (case aF => exact (fun _ _ => trivial)); (case aO => exact (by (with_reducible repeat (first | apply Kd.R_alloc | apply Kd.R_drewN | apply Kd.R_drew)); exact HO151.out)); (case aS => exact (below_size (by repeat (first | (with_reducible first | exact HB.out | apply below_alloc | apply pw_below_drewN | apply below_drew1) | exact HB.out)))); (case aL => have := LMc7.out; omega); intro v153 w35 ho hb hg hat; rw [← Ny152.out] at ho; have n0_ := Aside0.mk (hb); have n1_ := Aside0.mk (ho); clear HB; clear HO151; have HB := n0_; have HO154 := n1_; clear n0_ n1_; clear ho hb hg hat; obtain ⟨Ao36, co36, eo36⟩ := Kd.R_slice HO154.out; subst eo36) | ((with_reducible refine gate_callee (f := 14) rfl ?_); refine goesL_ (some 29) rfl rfl Tryd.func14 (by kernel_rfl) rfl #[.slice Ao36 y152.length co36] rfl (by (try simp only [List.map_toArray, List.map_cons, List.map_nil]); first | done | rfl | (simp only [List.length_drop, List.length_take]; rfl)) ?_; (with_reducible refine (impl_ProtoTag.calls _ _ y152 t155 t156 t157 t158 _ ?side1 ?side2 (by first | exact HG.out | exact GlE.below HG.out HB.out | exact (by repeat (first | exact HG.out | exact GlE.below HG.out HB.out | apply GlE.drewN | apply GlE.drew | apply GlE.alloc))) A8.out).mono ?_); (case side1 => repeat (first | exact (Kd.R_reads' HO154.out).2.2 | (with_reducible refine Kd.C_alloc ?_ _) | (with_reducible refine Kd.C_drewN ?_ _) | (with_reducible refine Kd.C_drew ?_))); (case side2 => exact (Kd.R_reads' HO154.out).2.1); rintro e w' ⟨rfl, ⟨nd, rfl⟩⟩; refine ⟨_, rfl, ?_⟩) | (go_at_call 10; (with_reducible refine (laws_awakeProto.calls  t160 _ (by first | exact HG.out | exact GlE.below HG.out HB.out | exact (by repeat (first | exact HG.out | exact GlE.below HG.out HB.out | apply GlE.drewN | apply GlE.drew | apply GlE.alloc))) A32.out).mono ?_); rintro e w37 ⟨rfl, hb⟩; have n0_ := Aside0.mk (Kd.R_below (by (with_reducible repeat (first | apply Kd.R_alloc | apply Kd.R_drewN | apply Kd.R_drew)); exact HO154.out) hb); have n1_ := Aside0.mk (below_step (by repeat (first | (with_reducible first | exact HB.out | apply below_alloc | apply pw_below_drewN | apply below_drew1) | exact HB.out)) hb); clear HO154; clear HB; have HO154 := n0_; have HB := n1_; clear n0_ n1_; (try clear hb); (try clear hb2); (try clear hk); (try clear hi)))
            go_ret
            exact ⟨by first | rfl | (simp [errW_none, errW_some] <;> rfl) | (simp [*, errW_none, errW_some] <;> rfl), by repeat (first | (with_reducible first | exact HB.out | apply below_alloc | apply pw_below_drewN | apply below_drew1) | exact HB.out)⟩
        · rw [if_neg c9] at H
          have c9b0 : ((t158 == 0) == t148) = false := by simpa using c9
          (try (have c9b1 : decide ((t158 == 0) = t148) = false := by simpa using c9))
          (try (have c9b2 : ((t158 == 0) == t148) = false := by simpa using c9))
          (try (have c9b3 : ¬ ((t158 == 0) = t148) := by simpa using c9))
          clear c9
          obtain rfl := Option.some.inj H
          go_enter Tryd.func5, Tryd.ntmps5
          go_wp2_with (first | ((with_reducible refine gate_callee (f := 13) rfl ?_); refine goesL_ (some 20) rfl rfl Tryd.func13 (by kernel_rfl) rfl #[.slice A0 l0.length c0] rfl (by (try simp only [List.map_toArray, List.map_cons, List.map_nil]); first | done | rfl | (simp only [List.length_drop, List.length_take]; rfl)) ?_; (with_reducible refine (spec_Tag.calls k _ _ l0 t145 t146 t147 t148 _ ?side1 ?side2 (by first | exact HG.out | exact GlE.below HG.out HB.out | exact (by repeat (first | exact HG.out | exact GlE.below HG.out HB.out | apply GlE.drewN | apply GlE.drew | apply GlE.alloc))) A6.out).mono ?_); (case side1 => repeat (first | exact HR0.out | (with_reducible refine Kd.C_alloc ?_ _) | (with_reducible refine Kd.C_drewN ?_ _) | (with_reducible refine Kd.C_drew ?_))); (case side2 => exact HC0.out); rintro e w' ⟨rfl, ⟨nd, rfl⟩⟩; refine ⟨_, rfl, ?_⟩) | ((with_reducible refine gate_dst (N := 26) rfl ?_); refine Kd.R_lit (Kd.int .u8) _ 5 ?hg (N := 26) ?hd (xs := ([] : List Int)) (inner := []) (ok := fun _ => True) (okp := fun _ => True) ?hr ?hp (fun _ hk => hk) trivial (Below.refl _ _) (Nat.le_refl _) (by simp) ?_; (case hd => rfl); (case hg => rfl); (case hr => first | (go_simp; done) | (go_simp; rfl)); (case hp => exact (Reps.none _ _)); intro v150 w38 ho39 hb hg_ hnew_; clear hg_ hnew_; (first | rw [← Ny149.out] at ho39 | (simp only [Int.reduceToNat] at ho39; rw [← Ny149.out] at ho39)); have n0_ := Aside0.mk (Kd.R_lower ho39 (below_size (by repeat (first | (with_reducible first | exact HB.out | apply below_alloc | apply pw_below_drewN | apply below_drew1) | exact HB.out)))); have n1_ := Aside0.mk (below_step (by repeat (first | (with_reducible first | exact HB.out | apply below_alloc | apply pw_below_drewN | apply below_drew1) | exact HB.out)) hb); clear HB; have HO151 := n0_; have HB := n1_; clear n0_ n1_; clear hb ho39) | ((with_reducible refine gate_builtin (b := .append) (xs := #[.tmp 26, .tmp 27]) rfl ?_); at_builtin; refine Kd.R_append_rows (Kd.int .u8) (w0 := w) w.heap.size rfl (.tmp 26) (.tmp 27) 22 5 (.int .u8 0) 1 rfl Tryd.underlying22 info5 rfl (by decide) (by omega) v150 y149 l0 _ _ _ (fun _ => True) (fun _ => False) rfl rfl ?aO ?aR (fun _ _ h => h) (fun _ h => h.elim) ?aF ?aB ?aS ?aL ?_; (case aR => repeat (first | exact (Kd.C_below HR0.out HB.out) | (with_reducible refine Kd.C_alloc ?_ _) | (with_reducible refine Kd.C_drewN ?_ _) | (with_reducible refine Kd.C_drew ?_))); (case aB => exact (by repeat (first | (with_reducible first | exact HB.out | apply below_alloc | apply pw_below_drewN | apply below_drew1) | exact HB.out))); (case aF => exact (fun _ _ => trivial)); (case aO => exact (by (with_reducible repeat (first | apply Kd.R_alloc | apply Kd.R_drewN | apply Kd.R_drew)); exact HO151.out)); (case aS => exact (below_size (by repeat (first | (with_reducible first | exact HB.out | apply below_alloc | apply pw_below_drewN | apply below_drew1) | exact HB.out)))); (case aL => have := LMc7.out; omega); intro v153 w40 ho hb hg hat; rw [← Ny152.out] at ho; have n0_ := Aside0.mk (hb); have n1_ := Aside0.mk (ho); clear HB; clear HO151; have HB := n0_; have HO154 := n1_; clear n0_ n1_; clear ho hb hg hat; obtain ⟨Ao41, co41, eo41⟩ := Kd.R_slice HO154.out; subst eo41) | ((with_reducible refine gate_callee (f := 14) rfl ?_); refine goesL_ (some 29) rfl rfl Tryd.func14 (by kernel_rfl) rfl #[.slice Ao41 y152.length co41] rfl (by (try simp only [List.map_toArray, List.map_cons, List.map_nil]); first | done | rfl | (simp only [List.length_drop, List.length_take]; rfl)) ?_; (with_reducible refine (impl_ProtoTag.calls _ _ y152 t155 t156 t157 t158 _ ?side1 ?side2 (by first | exact HG.out | exact GlE.below HG.out HB.out | exact (by repeat (first | exact HG.out | exact GlE.below HG.out HB.out | apply GlE.drewN | apply GlE.drew | apply GlE.alloc))) A8.out).mono ?_); (case side1 => repeat (first | exact (Kd.R_reads' HO154.out).2.2 | (with_reducible refine Kd.C_alloc ?_ _) | (with_reducible refine Kd.C_drewN ?_ _) | (with_reducible refine Kd.C_drew ?_))); (case side2 => exact (Kd.R_reads' HO154.out).2.1); rintro e w' ⟨rfl, ⟨nd, rfl⟩⟩; refine ⟨_, rfl, ?_⟩))
          go_ret
          exact ⟨by first | rfl | (simp [errW_none, errW_some] <;> rfl) | (simp [*, errW_none, errW_some] <;> rfl), by repeat (first | (with_reducible first | exact HB.out | apply below_alloc | apply pw_below_drewN | apply below_drew1) | exact HB.out)⟩
      · rw [if_neg c7] at H
        exact absurd H (by simp)

/-- THE ONE PURE STATEMENT of laws_FnProtoTag: yours. -/
def laws_FnProtoTag.Pure : Prop := ∀ (l0 : List Int), l0.length ≤ maxLen → l0.length * 1 ≤ 140737488351232 → (∀ x ∈ l0, (Lit.int .u8 x).wf = true) → ∃ k, laws_FnProtoTag.f k l0 = some true
theorem laws_FnProtoTag.walk (P : laws_FnProtoTag.Pure) (a0 : Option Addr) (len0 cap0 : Nat) (z0 : List Int) (w : World) (hG : GlE E w) (w0 : (a0 = none ∧ len0 = 0 ∧ cap0 = 0 ∧ z0 = []) ∨ ∃ x, a0 = some x ∧ len0 ≤ cap0 ∧ cap0 ≤ maxLen ∧ z0.length = cap0 ∧ (∀ i, i < z0.length → w.cell? (x.add i) = some (.int .u8 (z0.getD i 0))) ∧ ∀ n ∈ z0, (Lit.int .u8 n).wf = true) (y0 : len0 * 1 ≤ 140737488351232) :
    Calls Tryd.prog 5 #[.slice a0 len0 cap0] w fun e w' => e = .returned (.bool true) ∧ Below w.heap.size w w' := by
  obtain ⟨l0, rfl, hr0, hm0, hw0, hc0⟩ := ReadsInt.ofRowC w0
  obtain ⟨k, h⟩ := P l0 hm0 y0 hw0
  refine (laws_FnProtoTag.calls k _ _ l0 true w (Kd.C_of_reads (d := (0 : Int)) (h1 := fun _ => rfl) hr0) hc0 hG h).mono ?_
  rintro e w' ⟨rfl, hd⟩
  exact ⟨rfl, hd⟩

end Go.Proofs.YtnkioieocjgekaaDoor.GFnProtoTag
