/- A walk of Go functions (plain functions of theirs, and that the machine's calls do what these say), written by a program of this session's. -/
import Derived.Test.YtnkioieocjgekaaDoorGFnProtoFieldx0
import Derived.Test.YtnkioieocjgekaaDoorGFnProtoFieldx1
import Derived.Test.YtnkioieocjgekaaDoorGFnProtoFieldx2
namespace Go.Proofs.YtnkioieocjgekaaDoor.GFnProtoField
open Go.RowKit Go.Proofs.YtnkioieocjgekaaDoorW.PrintWords Go.Proofs.YtnkioieocjgekaaDoorW.PrintLast Go.Proofs.YtnkioieocjgekaaDoorW.PrintMore
attribute [local go_sem] max2_int min2_int max_two min_two max_three min_three max_four min_four   -- for this text's walks alone
set_option linter.unusedVariables false
set_option linter.unusedSimpArgs false

variable {E : Int → TypeId × Value}
/-! ### server_protoScanBytes: function 36 -/
def server_protoScanBytes.f (l0 : List Int) : Option (Int × Option Int) := (server_protoScanVarint.f l0).bind fun bt142 => (if bt142.2.2.isNone = true then (if 0 ≤ bt142.2.1 then (if bt142.2.1 ≤ (l0.length : Int) then (if bt142.1 > (IntKind.u64.wrap (((l0.drop (bt142.2.1 : Int).toNat).length : Int))) then (some (0, some 2)) else (some (wrap64 (bt142.2.1 + (wrap64 (bt142.1))), none))) else (none)) else (none)) else (some (0, some (bt142.2.2.getD 0))))
set_option maxHeartbeats 8000000 in
set_option maxRecDepth 100000 in
theorem server_protoScanBytes.calls (A0 : Option Addr) (c0 : Nat) (l0 : List Int) (r1 : Int) (r2 : Option Int) (w : World) (hr0 : Kd.C (Kd.int .u8) w A0 l0.length l0) (hc0 : l0.length ≤ c0) (hG : GlE E w) (h : server_protoScanBytes.f l0 = some (r1, r2)) :
    Calls Tryd.prog 36 #[.slice A0 l0.length c0] w fun e w' => e = .returned (.tuple #[.int .i64 r1, errW E r2]) ∧ Drawn0 w w' := by
  have HG := Aside0.mk hG
  clear hG
  have hu45 := Tryd.underlying45
  have HR0 := Aside0.mk hr0
  have HC0 := Aside0.mk hc0
  clear hr0 hc0
  have H : ((server_protoScanVarint.f l0).bind fun bt142 => (if bt142.2.2.isNone = true then (if 0 ≤ bt142.2.1 then (if bt142.2.1 ≤ (l0.length : Int) then (if bt142.1 > (IntKind.u64.wrap (((l0.drop (bt142.2.1 : Int).toNat).length : Int))) then (some (0, some 2)) else (some (wrap64 (bt142.2.1 + (wrap64 (bt142.1))), none))) else (none)) else (none)) else (some (0, some (bt142.2.2.getD 0))))) = some (r1, r2) := h
  clear h
  replace H := Option.bind_eq_some_iff.mp H
  obtain ⟨⟨t142, t143, t144⟩, A20, H⟩ := H
  replace H : (if t144.isNone = true then (if 0 ≤ t143 then (if t143 ≤ (l0.length : Int) then (if t142 > (IntKind.u64.wrap (((l0.drop (t143 : Int).toNat).length : Int))) then (some (0, some 2)) else (some (wrap64 (t143 + (wrap64 (t142))), none))) else (none)) else (none)) else (some (0, some (t144.getD 0)))) = some (r1, r2) := H
  have A2 := Aside0.mk A20
  clear A20
  rcases t144 with _ | q145
  · have H1 : (if 0 ≤ t143 then (if t143 ≤ (l0.length : Int) then (if t142 > (IntKind.u64.wrap (((l0.drop (t143 : Int).toNat).length : Int))) then (some (0, some 2)) else (some (wrap64 (t143 + (wrap64 (t142))), none))) else (none)) else (none)) = some (r1, r2) := by rw [if_pos (show (none : Option Int).isNone = true by rfl)] at H; exact H
    clear H
    have H := H1
    clear H1
    try simp only [errW_none, errW_some]
    by_cases c3 : 0 ≤ t143
    · rw [if_pos c3] at H
      have c3b0 := eq_true c3
      have c3b1 : decide (0 ≤ t143) = true := decide_eq_true c3
      clear c3
      by_cases c4 : t143 ≤ (l0.length : Int)
      · rw [if_pos c4] at H
        have c4b0 := eq_true c4
        have c4b1 : decide (t143 ≤ (l0.length : Int)) = true := decide_eq_true c4
        clear c4
        by_cases c5 : t142 > (IntKind.u64.wrap (((l0.drop (t143 : Int).toNat).length : Int)))
        · rw [if_pos c5] at H
          have c5b0 : decide ((IntKind.u64.wrap (((l0.drop (t143 : Int).toNat).length : Int))) < t142) = true := decide_eq_true c5
          have c5b0d := c5b0
          (try rw [List.length_drop] at c5b0d)
          clear c5
          simp only [Option.some.injEq, Prod.mk.injEq] at H
          obtain ⟨rfl, rfl⟩ := H
          go_enter Tryd.func36, Tryd.ntmps36
          go_wp2_with (first | (go_at_call 28; (with_reducible refine (server_protoScanVarint.calls _ _ l0 t142 t143 none _ ?side1 ?side2 (by first | exact HG.out | exact GlE.below HG.out HB.out | exact (by repeat (first | exact HG.out | exact GlE.below HG.out HB.out | apply GlE.drewN | apply GlE.drew | apply GlE.alloc))) A2.out).mono ?_); (case side1 => repeat (first | exact HR0.out | (with_reducible refine Kd.C_alloc ?_ _) | (with_reducible refine Kd.C_drewN ?_ _) | (with_reducible refine Kd.C_drew ?_))); (case side2 => exact HC0.out); rintro e w' ⟨rfl, ⟨nd, rfl⟩⟩; (try simp only [errW_none, errW_some]); (try first | exact ⟨rfl, _, World.drewN_drewN _ _ _⟩ | exact ⟨rfl, _, Eq.trans (World.drewN_drewN _ _ _) (congrArg (World.drewN _) (Nat.add_assoc _ _ _))⟩); obtain ⟨i06, hi06, _, hsz6, _⟩ := info_parts info5; obtain ⟨A6, hcut6, hA6, hC6⟩ := print_drop_of (P := Tryd.prog) (Value.int .u8) 0 22 5 .i64 Tryd.underlying22 hi06 hsz6 A0 c0 l0 t143 (of_decide_eq_true (by first | (with_reducible assumption) | assumption)) (of_decide_eq_true (by first | (with_reducible assumption) | assumption)) HC0.out; have HR146 := Aside0.mk (Kd.C_of_reads (h1 := fun _ => rfl) (hA6 _ (Kd.reads_of_C HR0.out))); have HC146 := Aside0.mk hC6; clear hA6 hC6 hi06 hsz6; have hgl7 : w.cell? ⟨2, 0, none⟩ = some (.iface (E 2).1 (E 2).2) := (by first | exact GlE.g2 HG.out | exact (HB.out.cell (World.block_lt_of_cell? w _ (GlE.g2 HG.out))).trans (GlE.g2 HG.out) | exact GlE.g2 (by repeat (first | exact HG.out | apply GlE.drewN | apply GlE.drew | apply GlE.alloc)))))
          repeat (go_quiet (first | (go_at_call 28; (with_reducible refine (server_protoScanVarint.calls _ _ l0 t142 t143 none _ ?side1 ?side2 (by first | exact HG.out | exact GlE.below HG.out HB.out | exact (by repeat (first | exact HG.out | exact GlE.below HG.out HB.out | apply GlE.drewN | apply GlE.drew | apply GlE.alloc))) A2.out).mono ?_); (case side1 => repeat (first | exact HR0.out | (with_reducible refine Kd.C_alloc ?_ _) | (with_reducible refine Kd.C_drewN ?_ _) | (with_reducible refine Kd.C_drew ?_))); (case side2 => exact HC0.out); rintro e w' ⟨rfl, ⟨nd, rfl⟩⟩; (try simp only [errW_none, errW_some]); (try first | exact ⟨rfl, _, World.drewN_drewN _ _ _⟩ | exact ⟨rfl, _, Eq.trans (World.drewN_drewN _ _ _) (congrArg (World.drewN _) (Nat.add_assoc _ _ _))⟩); obtain ⟨i06, hi06, _, hsz6, _⟩ := info_parts info5; obtain ⟨A6, hcut6, hA6, hC6⟩ := print_drop_of (P := Tryd.prog) (Value.int .u8) 0 22 5 .i64 Tryd.underlying22 hi06 hsz6 A0 c0 l0 t143 (of_decide_eq_true (by first | (with_reducible assumption) | assumption)) (of_decide_eq_true (by first | (with_reducible assumption) | assumption)) HC0.out; have HR146 := Aside0.mk (Kd.C_of_reads (h1 := fun _ => rfl) (hA6 _ (Kd.reads_of_C HR0.out))); have HC146 := Aside0.mk hC6; clear hA6 hC6 hi06 hsz6; have hgl7 : w.cell? ⟨2, 0, none⟩ = some (.iface (E 2).1 (E 2).2) := (by first | exact GlE.g2 HG.out | exact (HB.out.cell (World.block_lt_of_cell? w _ (GlE.g2 HG.out))).trans (GlE.g2 HG.out) | exact GlE.g2 (by repeat (first | exact HG.out | apply GlE.drewN | apply GlE.drew | apply GlE.alloc))))); try go_wp2_with (first | (go_at_call 28; (with_reducible refine (server_protoScanVarint.calls _ _ l0 t142 t143 none _ ?side1 ?side2 (by first | exact HG.out | exact GlE.below HG.out HB.out | exact (by repeat (first | exact HG.out | exact GlE.below HG.out HB.out | apply GlE.drewN | apply GlE.drew | apply GlE.alloc))) A2.out).mono ?_); (case side1 => repeat (first | exact HR0.out | (with_reducible refine Kd.C_alloc ?_ _) | (with_reducible refine Kd.C_drewN ?_ _) | (with_reducible refine Kd.C_drew ?_))); (case side2 => exact HC0.out); rintro e w' ⟨rfl, ⟨nd, rfl⟩⟩; (try simp only [errW_none, errW_some]); (try first | exact ⟨rfl, _, World.drewN_drewN _ _ _⟩ | exact ⟨rfl, _, Eq.trans (World.drewN_drewN _ _ _) (congrArg (World.drewN _) (Nat.add_assoc _ _ _))⟩); obtain ⟨i06, hi06, _, hsz6, _⟩ := info_parts info5; obtain ⟨A6, hcut6, hA6, hC6⟩ := print_drop_of (P := Tryd.prog) (Value.int .u8) 0 22 5 .i64 Tryd.underlying22 hi06 hsz6 A0 c0 l0 t143 (of_decide_eq_true (by first | (with_reducible assumption) | assumption)) (of_decide_eq_true (by first | (with_reducible assumption) | assumption)) HC0.out; have HR146 := Aside0.mk (Kd.C_of_reads (h1 := fun _ => rfl) (hA6 _ (Kd.reads_of_C HR0.out))); have HC146 := Aside0.mk hC6; clear hA6 hC6 hi06 hsz6; have hgl7 : w.cell? ⟨2, 0, none⟩ = some (.iface (E 2).1 (E 2).2) := (by first | exact GlE.g2 HG.out | exact (HB.out.cell (World.block_lt_of_cell? w _ (GlE.g2 HG.out))).trans (GlE.g2 HG.out) | exact GlE.g2 (by repeat (first | exact HG.out | apply GlE.drewN | apply GlE.drew | apply GlE.alloc))))))
          go_ret2
          exact ⟨by first | rfl | (simp; done) | (simp [*]; done), by repeat (first | exact Drawn0.refl _ | apply Drawn0.step)⟩
        · rw [if_neg c5] at H
          have c5b0 : decide ((IntKind.u64.wrap (((l0.drop (t143 : Int).toNat).length : Int))) < t142) = false := decide_eq_false c5
          have c5b0d := c5b0
          (try rw [List.length_drop] at c5b0d)
          clear c5
          simp only [Option.some.injEq, Prod.mk.injEq] at H
          obtain ⟨rfl, rfl⟩ := H
          go_enter Tryd.func36, Tryd.ntmps36
          go_wp2_with (first | (go_at_call 28; (with_reducible refine (server_protoScanVarint.calls _ _ l0 t142 t143 none _ ?side1 ?side2 (by first | exact HG.out | exact GlE.below HG.out HB.out | exact (by repeat (first | exact HG.out | exact GlE.below HG.out HB.out | apply GlE.drewN | apply GlE.drew | apply GlE.alloc))) A2.out).mono ?_); (case side1 => repeat (first | exact HR0.out | (with_reducible refine Kd.C_alloc ?_ _) | (with_reducible refine Kd.C_drewN ?_ _) | (with_reducible refine Kd.C_drew ?_))); (case side2 => exact HC0.out); rintro e w' ⟨rfl, ⟨nd, rfl⟩⟩; (try simp only [errW_none, errW_some]); (try first | exact ⟨rfl, _, World.drewN_drewN _ _ _⟩ | exact ⟨rfl, _, Eq.trans (World.drewN_drewN _ _ _) (congrArg (World.drewN _) (Nat.add_assoc _ _ _))⟩); obtain ⟨i08, hi08, _, hsz8, _⟩ := info_parts info5; obtain ⟨A8, hcut8, hA8, hC8⟩ := print_drop_of (P := Tryd.prog) (Value.int .u8) 0 22 5 .i64 Tryd.underlying22 hi08 hsz8 A0 c0 l0 t143 (of_decide_eq_true (by first | (with_reducible assumption) | assumption)) (of_decide_eq_true (by first | (with_reducible assumption) | assumption)) HC0.out; have HR146 := Aside0.mk (Kd.C_of_reads (h1 := fun _ => rfl) (hA8 _ (Kd.reads_of_C HR0.out))); have HC146 := Aside0.mk hC8; clear hA8 hC8 hi08 hsz8))
          repeat (go_quiet (first | (go_at_call 28; (with_reducible refine (server_protoScanVarint.calls _ _ l0 t142 t143 none _ ?side1 ?side2 (by first | exact HG.out | exact GlE.below HG.out HB.out | exact (by repeat (first | exact HG.out | exact GlE.below HG.out HB.out | apply GlE.drewN | apply GlE.drew | apply GlE.alloc))) A2.out).mono ?_); (case side1 => repeat (first | exact HR0.out | (with_reducible refine Kd.C_alloc ?_ _) | (with_reducible refine Kd.C_drewN ?_ _) | (with_reducible refine Kd.C_drew ?_))); (case side2 => exact HC0.out); rintro e w' ⟨rfl, ⟨nd, rfl⟩⟩; (try simp only [errW_none, errW_some]); (try first | exact ⟨rfl, _, World.drewN_drewN _ _ _⟩ | exact ⟨rfl, _, Eq.trans (World.drewN_drewN _ _ _) (congrArg (World.drewN _) (Nat.add_assoc _ _ _))⟩); obtain ⟨i08, hi08, _, hsz8, _⟩ := info_parts info5; obtain ⟨A8, hcut8, hA8, hC8⟩ := print_drop_of (P := Tryd.prog) (Value.int .u8) 0 22 5 .i64 Tryd.underlying22 hi08 hsz8 A0 c0 l0 t143 (of_decide_eq_true (by first | (with_reducible assumption) | assumption)) (of_decide_eq_true (by first | (with_reducible assumption) | assumption)) HC0.out; have HR146 := Aside0.mk (Kd.C_of_reads (h1 := fun _ => rfl) (hA8 _ (Kd.reads_of_C HR0.out))); have HC146 := Aside0.mk hC8; clear hA8 hC8 hi08 hsz8)); try go_wp2_with (first | (go_at_call 28; (with_reducible refine (server_protoScanVarint.calls _ _ l0 t142 t143 none _ ?side1 ?side2 (by first | exact HG.out | exact GlE.below HG.out HB.out | exact (by repeat (first | exact HG.out | exact GlE.below HG.out HB.out | apply GlE.drewN | apply GlE.drew | apply GlE.alloc))) A2.out).mono ?_); (case side1 => repeat (first | exact HR0.out | (with_reducible refine Kd.C_alloc ?_ _) | (with_reducible refine Kd.C_drewN ?_ _) | (with_reducible refine Kd.C_drew ?_))); (case side2 => exact HC0.out); rintro e w' ⟨rfl, ⟨nd, rfl⟩⟩; (try simp only [errW_none, errW_some]); (try first | exact ⟨rfl, _, World.drewN_drewN _ _ _⟩ | exact ⟨rfl, _, Eq.trans (World.drewN_drewN _ _ _) (congrArg (World.drewN _) (Nat.add_assoc _ _ _))⟩); obtain ⟨i08, hi08, _, hsz8, _⟩ := info_parts info5; obtain ⟨A8, hcut8, hA8, hC8⟩ := print_drop_of (P := Tryd.prog) (Value.int .u8) 0 22 5 .i64 Tryd.underlying22 hi08 hsz8 A0 c0 l0 t143 (of_decide_eq_true (by first | (with_reducible assumption) | assumption)) (of_decide_eq_true (by first | (with_reducible assumption) | assumption)) HC0.out; have HR146 := Aside0.mk (Kd.C_of_reads (h1 := fun _ => rfl) (hA8 _ (Kd.reads_of_C HR0.out))); have HC146 := Aside0.mk hC8; clear hA8 hC8 hi08 hsz8)))
          go_ret2
          exact ⟨by first | rfl | (simp; done) | (simp [*]; done), by repeat (first | exact Drawn0.refl _ | apply Drawn0.step)⟩
      · rw [if_neg c4] at H
        exact absurd H (by simp)
    · rw [if_neg c3] at H
      exact absurd H (by simp)
  · have H1 : (some (0, some q145)) = some (r1, r2) := by rw [if_neg (show ¬ (some q145).isNone = true by simp)] at H; exact H
    clear H
    have H := H1
    clear H1
    try simp only [errW_none, errW_some]
    simp only [Option.some.injEq, Prod.mk.injEq] at H
    obtain ⟨rfl, rfl⟩ := H
    go_enter Tryd.func36, Tryd.ntmps36
    go_wp2_with (first | (go_at_call 28; (with_reducible refine (server_protoScanVarint.calls _ _ l0 t142 t143 (some q145) _ ?side1 ?side2 (by first | exact HG.out | exact GlE.below HG.out HB.out | exact (by repeat (first | exact HG.out | exact GlE.below HG.out HB.out | apply GlE.drewN | apply GlE.drew | apply GlE.alloc))) A2.out).mono ?_); (case side1 => repeat (first | exact HR0.out | (with_reducible refine Kd.C_alloc ?_ _) | (with_reducible refine Kd.C_drewN ?_ _) | (with_reducible refine Kd.C_drew ?_))); (case side2 => exact HC0.out); rintro e w' ⟨rfl, ⟨nd, rfl⟩⟩; (try simp only [errW_none, errW_some]); (try first | exact ⟨rfl, _, World.drewN_drewN _ _ _⟩ | exact ⟨rfl, _, Eq.trans (World.drewN_drewN _ _ _) (congrArg (World.drewN _) (Nat.add_assoc _ _ _))⟩)))
    repeat (go_quiet (first | (go_at_call 28; (with_reducible refine (server_protoScanVarint.calls _ _ l0 t142 t143 (some q145) _ ?side1 ?side2 (by first | exact HG.out | exact GlE.below HG.out HB.out | exact (by repeat (first | exact HG.out | exact GlE.below HG.out HB.out | apply GlE.drewN | apply GlE.drew | apply GlE.alloc))) A2.out).mono ?_); (case side1 => repeat (first | exact HR0.out | (with_reducible refine Kd.C_alloc ?_ _) | (with_reducible refine Kd.C_drewN ?_ _) | (with_reducible refine Kd.C_drew ?_))); (case side2 => exact HC0.out); rintro e w' ⟨rfl, ⟨nd, rfl⟩⟩; (try simp only [errW_none, errW_some]); (try first | exact ⟨rfl, _, World.drewN_drewN _ _ _⟩ | exact ⟨rfl, _, Eq.trans (World.drewN_drewN _ _ _) (congrArg (World.drewN _) (Nat.add_assoc _ _ _))⟩))); try go_wp2_with (first | (go_at_call 28; (with_reducible refine (server_protoScanVarint.calls _ _ l0 t142 t143 (some q145) _ ?side1 ?side2 (by first | exact HG.out | exact GlE.below HG.out HB.out | exact (by repeat (first | exact HG.out | exact GlE.below HG.out HB.out | apply GlE.drewN | apply GlE.drew | apply GlE.alloc))) A2.out).mono ?_); (case side1 => repeat (first | exact HR0.out | (with_reducible refine Kd.C_alloc ?_ _) | (with_reducible refine Kd.C_drewN ?_ _) | (with_reducible refine Kd.C_drew ?_))); (case side2 => exact HC0.out); rintro e w' ⟨rfl, ⟨nd, rfl⟩⟩; (try simp only [errW_none, errW_some]); (try first | exact ⟨rfl, _, World.drewN_drewN _ _ _⟩ | exact ⟨rfl, _, Eq.trans (World.drewN_drewN _ _ _) (congrArg (World.drewN _) (Nat.add_assoc _ _ _))⟩))))
    go_ret2
    exact ⟨by first | rfl | (simp; done) | (simp [*]; done), by repeat (first | exact Drawn0.refl _ | apply Drawn0.step)⟩

/-! ### server_protoScanFieldValue: function 35 (by hand) -/
def server_protoScanFieldValue.f (typ : Int) (l : List Int) : Option (Int × Bool) :=
  if typ = 0 then (server_protoScanVarint.f l).map fun q => (q.2.1, q.2.2.isNone)
  else if typ = 5 then (if (l.length : Int) < 4 then some (0, false) else some (4, true))
  else if typ = 1 then (if (l.length : Int) < 8 then some (0, false) else some (8, true))
  else if typ = 2 then (server_protoScanBytes.f l).map fun q => (q.1, q.2.isNone)
  else some (0, false)
/-- An error that is nil just if all is well. -/
def errOf (ok : Bool) (ev : Value) : Prop := (ok = true → ev = .nilIface) ∧ (ok = false → ∃ t u, ev = .iface t u)
theorem errOf_errW (c : Option Int) : errOf c.isNone (errW E c) := by
  cases c with
  | none => exact ⟨fun _ => rfl, fun h => (by cases h)⟩
  | some c => exact ⟨fun h => (by cases h), fun _ => ⟨_, _, rfl⟩⟩
set_option maxHeartbeats 4000000 in
set_option maxRecDepth 100000 in
theorem server_protoScanFieldValue.calls (a0 : Int) (A1 : Option Addr) (c1 : Nat) (l1 : List Int) (r1 : Int) (r2 : Bool) (w : World) (hr1 : Kd.C (Kd.int .u8) w A1 l1.length l1) (hc1 : l1.length ≤ c1) (hG : GlE E w) (h : server_protoScanFieldValue.f a0 l1 = some (r1, r2)) :
    Calls Tryd.prog 35 #[.int .i64 a0, .slice A1 l1.length c1] w fun e w' => (∃ ev, e = .returned (.tuple #[.int .i64 r1, ev]) ∧ errOf r2 ev) ∧ Below w.heap.size w w' := by
  have HG := Aside0.mk hG
  have HR := Aside0.mk hr1
  have HC := Aside0.mk hc1
  have hg2 := GlE.g2 hG
  clear hG hr1 hc1
  unfold server_protoScanFieldValue.f at h
  by_cases c0 : a0 = 0
  · subst c0
    rw [if_pos rfl] at h
    obtain ⟨⟨q1, q2, q3⟩, hq, e⟩ := Option.map_eq_some_iff.mp h
    simp only [Prod.mk.injEq] at e
    obtain ⟨rfl, rfl⟩ := e
    have HQ := Aside0.mk hq
    clear hq h
    go_enter Tryd.func35, Tryd.ntmps35
    go_wp2_with fail
    refine (server_protoScanVarint.calls A1 c1 l1 q1 q2 q3 w HR.out HC.out HG.out HQ.out).mono ?_
    rintro e w' ⟨rfl, ⟨nd, rfl⟩⟩
    go_wp2
    refine bodyPost_ret (results_list (rs := [.tmp 4, .tmp 5]) rfl (by simp) (.tmp (.tmp .nil))) rfl ?_
    exact ⟨⟨_, rfl, errOf_errW _⟩, pw_below_drewN (Below.refl _ _) nd⟩
  rw [if_neg c0] at h
  have n0 : (a0 == 0) = false := beq_eq_false_iff_ne.mpr c0
  by_cases c5 : a0 = 5
  · subst c5
    rw [if_pos rfl] at h
    by_cases d : (l1.length : Int) < 4
    · rw [if_pos d] at h
      simp only [Option.some.injEq, Prod.mk.injEq] at h
      obtain ⟨rfl, rfl⟩ := h
      have d1 : decide ((l1.length : Int) < 4) = true := decide_eq_true d
      have d2 : decide (l1.length < 4) = true := decide_eq_true (by omega)
      clear d
      go_enter Tryd.func35, Tryd.ntmps35
      go_wp2
      refine start_ (n := 3) (S := fun w' => w'.cell? ⟨2, 0, none⟩ = some (.iface (E 2).1 (E 2).2)) (ds := []) #[false, false, false] (by kernel_rfl) rfl rfl (hg2) (fun hHeld => ?_)
      refine pure_ (i := 1) (N := some 4) (v := ?_) (a' := ?_) #[false, true, false] rfl rfl (by kernel_rfl) (fun _ _ _ h => h) (Or.inl ⟨by rfl, ?_⟩) ?_ ?_
      rotate_left
      · intro w'
        go_simp
        with_reducible rfl
      rotate_left
      · simp only [Act.put, List.setIfInBounds_toArray, List.set_cons_zero, List.set_cons_succ, i64_w, i32_w]
        rfl
      refine take_ (i := 0) (N := some 21) (v := ?_) (a' := ?_) #[true, true, false] rfl rfl (by kernel_rfl) (fun _ _ _ h => h) (Or.inl ⟨by rfl, ?_⟩) hHeld ?_ ?_
      rotate_left
      · intro w' s0
        go_simp
        with_reducible rfl
      rotate_left
      · simp only [Act.put, List.setIfInBounds_toArray, List.set_cons_zero, List.set_cons_succ, i64_w, i32_w]
        rfl
      refine pure_ (i := 2) (N := some 5) (v := ?_) (a' := ?_) #[true, true, true] rfl rfl (by kernel_rfl) (fun _ _ _ h => h) (Or.inl ⟨by rfl, ?_⟩) ?_ ?_
      rotate_left
      · intro w'
        go_simp
        with_reducible rfl
      rotate_left
      · simp only [Act.put, List.setIfInBounds_toArray, List.set_cons_zero, List.set_cons_succ, i64_w, i32_w]
        rfl
      refine done_ (by kernel_rfl) ?_
      go_wp2
      refine bodyPost_ret (results_list (rs := [.tmp 4, .tmp 5]) rfl (by simp) (.tmp (.tmp .nil))) rfl ?_
      exact ⟨⟨_, rfl, errOf_errW (some 2)⟩, by repeat (first | exact Below.refl _ _ | apply below_drew)⟩
    · rw [if_neg d] at h
      simp only [Option.some.injEq, Prod.mk.injEq] at h
      obtain ⟨rfl, rfl⟩ := h
      have d1 : decide ((l1.length : Int) < 4) = false := decide_eq_false d
      have d2 : decide (l1.length < 4) = false := decide_eq_false (by omega)
      clear d
      go_enter Tryd.func35, Tryd.ntmps35
      go_wp2
      refine bodyPost_ret (results_list (rs := [.tmp 4, .tmp 5]) rfl (by simp) (.tmp (.tmp .nil))) rfl ?_
      exact ⟨⟨_, rfl, errOf_errW (E := E) none⟩, by repeat (first | exact Below.refl _ _ | apply below_drew)⟩
  rw [if_neg c5] at h
  have n5 : (a0 == 5) = false := beq_eq_false_iff_ne.mpr c5
  by_cases c1_ : a0 = 1
  · subst c1_
    rw [if_pos rfl] at h
    by_cases d : (l1.length : Int) < 8
    · rw [if_pos d] at h
      simp only [Option.some.injEq, Prod.mk.injEq] at h
      obtain ⟨rfl, rfl⟩ := h
      have d1 : decide ((l1.length : Int) < 8) = true := decide_eq_true d
      have d2 : decide (l1.length < 8) = true := decide_eq_true (by omega)
      clear d
      go_enter Tryd.func35, Tryd.ntmps35
      go_wp2
      refine start_ (n := 3) (S := fun w' => w'.cell? ⟨2, 0, none⟩ = some (.iface (E 2).1 (E 2).2)) (ds := []) #[false, false, false] (by kernel_rfl) rfl rfl (hg2) (fun hHeld => ?_)
      refine pure_ (i := 1) (N := some 4) (v := ?_) (a' := ?_) #[false, true, false] rfl rfl (by kernel_rfl) (fun _ _ _ h => h) (Or.inl ⟨by rfl, ?_⟩) ?_ ?_
      rotate_left
      · intro w'
        go_simp
        with_reducible rfl
      rotate_left
      · simp only [Act.put, List.setIfInBounds_toArray, List.set_cons_zero, List.set_cons_succ, i64_w, i32_w]
        rfl
      refine take_ (i := 0) (N := some 27) (v := ?_) (a' := ?_) #[true, true, false] rfl rfl (by kernel_rfl) (fun _ _ _ h => h) (Or.inl ⟨by rfl, ?_⟩) hHeld ?_ ?_
      rotate_left
      · intro w' s0
        go_simp
        with_reducible rfl
      rotate_left
      · simp only [Act.put, List.setIfInBounds_toArray, List.set_cons_zero, List.set_cons_succ, i64_w, i32_w]
        rfl
      refine pure_ (i := 2) (N := some 5) (v := ?_) (a' := ?_) #[true, true, true] rfl rfl (by kernel_rfl) (fun _ _ _ h => h) (Or.inl ⟨by rfl, ?_⟩) ?_ ?_
      rotate_left
      · intro w'
        go_simp
        with_reducible rfl
      rotate_left
      · simp only [Act.put, List.setIfInBounds_toArray, List.set_cons_zero, List.set_cons_succ, i64_w, i32_w]
        rfl
      refine done_ (by kernel_rfl) ?_
      go_wp2
      refine bodyPost_ret (results_list (rs := [.tmp 4, .tmp 5]) rfl (by simp) (.tmp (.tmp .nil))) rfl ?_
      exact ⟨⟨_, rfl, errOf_errW (some 2)⟩, by repeat (first | exact Below.refl _ _ | apply below_drew)⟩
    · rw [if_neg d] at h
      simp only [Option.some.injEq, Prod.mk.injEq] at h
      obtain ⟨rfl, rfl⟩ := h
      have d1 : decide ((l1.length : Int) < 8) = false := decide_eq_false d
      have d2 : decide (l1.length < 8) = false := decide_eq_false (by omega)
      clear d
      go_enter Tryd.func35, Tryd.ntmps35
      go_wp2
      refine bodyPost_ret (results_list (rs := [.tmp 4, .tmp 5]) rfl (by simp) (.tmp (.tmp .nil))) rfl ?_
      exact ⟨⟨_, rfl, errOf_errW (E := E) none⟩, by repeat (first | exact Below.refl _ _ | apply below_drew)⟩
  rw [if_neg c1_] at h
  have n1 : (a0 == 1) = false := beq_eq_false_iff_ne.mpr c1_
  by_cases c2 : a0 = 2
  · subst c2
    rw [if_pos rfl] at h
    obtain ⟨⟨q1, q2⟩, hq, e⟩ := Option.map_eq_some_iff.mp h
    simp only [Prod.mk.injEq] at e
    obtain ⟨rfl, rfl⟩ := e
    have HQ := Aside0.mk hq
    clear hq h
    go_enter Tryd.func35, Tryd.ntmps35
    go_wp2_with fail
    refine (server_protoScanBytes.calls A1 c1 l1 q1 q2 w HR.out HC.out HG.out HQ.out).mono ?_
    rintro e w' ⟨rfl, ⟨nd, rfl⟩⟩
    go_wp2
    refine bodyPost_ret (results_list (rs := [.tmp 4, .tmp 5]) rfl (by simp) (.tmp (.tmp .nil))) rfl ?_
    exact ⟨⟨_, rfl, errOf_errW _⟩, pw_below_drewN (Below.refl _ _) nd⟩
  rw [if_neg c2] at h
  have n2 : (a0 == 2) = false := beq_eq_false_iff_ne.mpr c2
  simp only [Option.some.injEq, Prod.mk.injEq] at h
  obtain ⟨rfl, rfl⟩ := h
  clear c0 c5 c1_ c2
  go_enter Tryd.func35, Tryd.ntmps35
  go_wp2_with fail
  refine (errors_New.calls _ _).mono ?_
  rintro e w' ⟨⟨t, u, rfl⟩, hb⟩
  have HB := Aside0.mk hb
  clear hb
  go_wp2
  refine bodyPost_ret (results_list (rs := [.tmp 4, .tmp 5]) rfl (by simp) (.tmp (.tmp .nil))) rfl ?_
  exact ⟨⟨_, rfl, fun h => (by cases h), fun _ => ⟨_, _, rfl⟩⟩, HB.out⟩

/-! ### server_protoScanField: function 31 (by hand) -/
def server_protoScanField.f (l : List Int) : Option (Int × Int × Int × Bool) :=
  (server_protoScanTag.f l).bind fun q => if q.2.2.2.isNone = true then (if 0 ≤ q.2.2.1 ∧ q.2.2.1 ≤ (l.length : Int) then
    (server_protoScanFieldValue.f q.2.1 (l.drop q.2.2.1.toNat)).bind fun v => if v.2 = true then some (q.1, q.2.1, wrap64 (q.2.2.1 + v.1), true) else some (0, 0, 0, false) else none) else some (0, 0, 0, false)
set_option maxHeartbeats 4000000 in
set_option maxRecDepth 100000 in
theorem server_protoScanField.calls (A0 : Option Addr) (c0 : Nat) (l0 : List Int) (r1 r2 r3 : Int) (r4 : Bool) (w : World) (hr0 : Kd.C (Kd.int .u8) w A0 l0.length l0) (hc0 : l0.length ≤ c0) (hG : GlE E w) (h : server_protoScanField.f l0 = some (r1, r2, r3, r4)) :
    Calls Tryd.prog 31 #[.slice A0 l0.length c0] w fun e w' => (∃ ev, e = .returned (.tuple #[.int .i64 r1, .int .i64 r2, .int .i64 r3, ev]) ∧ errOf r4 ev) ∧ Below w.heap.size w w' := by
  have HG := Aside0.mk hG
  have HR := Aside0.mk hr0
  have HC := Aside0.mk hc0
  clear hG hr0 hc0
  obtain ⟨⟨q1, q2, q3, q4⟩, hq, h⟩ := Option.bind_eq_some_iff.mp h
  have HQ := Aside0.mk hq
  clear hq
  cases q4 with
  | some c =>
    have h' : (some (0, 0, 0, false) : Option (Int × Int × Int × Bool)) = some (r1, r2, r3, r4) := h
    simp only [Option.some.injEq, Prod.mk.injEq] at h'
    obtain ⟨rfl, rfl, rfl, rfl⟩ := h'
    clear h
    go_enter Tryd.func31, Tryd.ntmps31
    go_wp2_with fail
    refine (server_protoScanTag.calls A0 c0 l0 q1 q2 q3 (some c) w HR.out HC.out HG.out HQ.out).mono ?_
    rintro e w' ⟨rfl, ⟨nd, rfl⟩⟩
    simp only [errW_some]
    go_wp2
    refine bodyPost_ret (results_list (rs := [.tmp 2, .tmp 3, .tmp 4, .tmp 5]) rfl (by simp) (.tmp (.tmp (.tmp (.tmp .nil))))) rfl ?_
    exact ⟨⟨_, rfl, fun h => (by cases h), fun _ => ⟨_, _, rfl⟩⟩, pw_below_drewN (Below.refl _ _) nd⟩
  | none =>
    have h' : (if 0 ≤ q3 ∧ q3 ≤ (l0.length : Int) then (server_protoScanFieldValue.f q2 (l0.drop q3.toNat)).bind fun v => if v.2 = true then some (q1, q2, wrap64 (q3 + v.1), true) else some (0, 0, 0, false) else none) = some (r1, r2, r3, r4) := h
    clear h
    by_cases d : 0 ≤ q3 ∧ q3 ≤ (l0.length : Int)
    rotate_left
    · rw [if_neg d] at h'; cases h'
    rw [if_pos d] at h'
    obtain ⟨⟨v1, v2⟩, hv, h'⟩ := Option.bind_eq_some_iff.mp h'
    have HV := Aside0.mk hv
    have D := Aside0.mk d
    clear hv d
    have H' := Aside0.mk h'
    clear h'
    go_enter Tryd.func31, Tryd.ntmps31
    go_wp2_with fail
    refine (server_protoScanTag.calls A0 c0 l0 q1 q2 q3 none w HR.out HC.out HG.out HQ.out).mono ?_
    rintro e w' ⟨rfl, ⟨nd, rfl⟩⟩
    simp only [errW_none]
    obtain ⟨i08, hi08, _, hsz8, _⟩ := info_parts info5
    obtain ⟨A8, hcut8, hA8, hC8⟩ := print_drop_of (P := Tryd.prog) (Value.int .u8) 0 22 5 .i64 Tryd.underlying22 hi08 hsz8 A0 c0 l0 q3 D.out.1 D.out.2 HC.out
    have HR8 := Aside0.mk (Kd.C_of_reads (h1 := fun _ => rfl) (hA8 _ (Kd.reads_of_C HR.out)))
    have HC8 := Aside0.mk hC8
    clear hA8 hC8 hi08 hsz8
    go_wp2_with fail
    have hfv := server_protoScanFieldValue.calls q2 A8 (c0 - q3.toNat) (l0.drop q3.toNat) v1 v2 (w.drewN nd) (Kd.C_drewN HR8.out nd) HC8.out (GlE.drewN HG.out nd) HV.out
    rw [List.length_drop] at hfv
    refine hfv.mono ?_
    rintro e w' ⟨⟨ev, rfl, hev⟩, hb⟩
    have HB := Aside0.mk (below_step (pw_below_drewN (Below.refl w.heap.size w) nd) hb)
    clear hb
    have h' := H'.out
    clear H'
    cases v2 with
    | true =>
      obtain rfl := hev.1 rfl
      have h2 : (some (q1, q2, wrap64 (q3 + v1), true) : Option (Int × Int × Int × Bool)) = some (r1, r2, r3, r4) := h'
      simp only [Option.some.injEq, Prod.mk.injEq] at h2
      obtain ⟨rfl, rfl, rfl, rfl⟩ := h2
      clear hev h'
      go_wp2
      refine bodyPost_ret (results_list (rs := [.tmp 2, .tmp 3, .tmp 4, .tmp 5]) rfl (by simp) (.tmp (.tmp (.tmp (.tmp .nil))))) rfl ?_
      exact ⟨⟨_, rfl, fun _ => rfl, fun h => (by cases h)⟩, HB.out⟩
    | false =>
      obtain ⟨t, u, rfl⟩ := hev.2 rfl
      have h2 : (some (0, 0, 0, false) : Option (Int × Int × Int × Bool)) = some (r1, r2, r3, r4) := h'
      simp only [Option.some.injEq, Prod.mk.injEq] at h2
      obtain ⟨rfl, rfl, rfl, rfl⟩ := h2
      clear hev h'
      go_wp2
      refine bodyPost_ret (results_list (rs := [.tmp 2, .tmp 3, .tmp 4, .tmp 5]) rfl (by simp) (.tmp (.tmp (.tmp (.tmp .nil))))) rfl ?_
      exact ⟨⟨_, rfl, fun h => (by cases h), fun _ => ⟨_, _, rfl⟩⟩, HB.out⟩

/-! ### server_ScanField: function 26 (by hand) -/
def server_ScanField.f (l : List Int) : Option (Int × Int × Int × Bool) := server_protoScanField.f l
theorem server_ScanField.calls (A0 : Option Addr) (c0 : Nat) (l0 : List Int) (r1 r2 r3 : Int) (r4 : Bool) (w : World) (hr0 : Kd.C (Kd.int .u8) w A0 l0.length l0) (hc0 : l0.length ≤ c0) (hG : GlE E w) (h : server_ScanField.f l0 = some (r1, r2, r3, r4)) :
    Calls Tryd.prog 26 #[.slice A0 l0.length c0] w fun e w' => (∃ ev, e = .returned (.tuple #[.int .i64 r1, .int .i64 r2, .int .i64 r3, ev]) ∧ errOf r4 ev) ∧ Below w.heap.size w w' := by
  have C := server_protoScanField.calls A0 c0 l0 r1 r2 r3 r4 w hr0 hc0 hG h
  have HCC := Aside0.mk C
  clear C hr0 hc0 hG h
  go_enter Tryd.func26, Tryd.ntmps26
  go_wp2_with fail
  refine HCC.out.mono ?_
  rintro e w' ⟨⟨ev, rfl, hev⟩, hb⟩
  have HB := Aside0.mk hb
  have HE := Aside0.mk hev
  clear hb hev
  go_wp2
  refine bodyPost_ret (results_list (rs := [.tmp 2, .tmp 3, .tmp 4, .tmp 5]) rfl (by simp) (.tmp (.tmp (.tmp (.tmp .nil))))) rfl ?_
  exact ⟨⟨_, rfl, HE.out⟩, HB.out⟩

/-! ### impl_ProtoField: function 16 (by hand) -/
def impl_ProtoField.f (l : List Int) : Option (Int × Int × Int × Int) := (server_ScanField.f l).map fun q => (q.1, q.2.1, q.2.2.1, if q.2.2.2 = true then 0 else 1)
/-- The errors told otherwise at one number that no variable has. -/
theorem GlE.other {E : Int → TypeId × Value} {w : World} (h : GlE E w) (q : TypeId × Value) : GlE (fun c => if c = 1000 then q else E c) w := h
set_option maxRecDepth 100000 in
theorem impl_ProtoField.calls (A0 : Option Addr) (c0 : Nat) (l0 : List Int) (r1 r2 r3 r4 : Int) (w : World) (hr0 : Kd.C (Kd.int .u8) w A0 l0.length l0) (hc0 : l0.length ≤ c0) (hG : GlE E w) (h : impl_ProtoField.f l0 = some (r1, r2, r3, r4)) :
    Calls Tryd.prog 16 #[.slice A0 l0.length c0] w fun e w' => e = .returned (.tuple #[.int .i64 r1, .int .i64 r2, .int .i64 r3, .int .i64 r4]) ∧ Below w.heap.size w w' := by
  obtain ⟨⟨q1, q2, q3, q4⟩, hq, h⟩ := Option.map_eq_some_iff.mp h
  simp only [Prod.mk.injEq] at h
  obtain ⟨rfl, rfl, rfl, rfl⟩ := h
  have HCC := Aside0.mk (server_ScanField.calls A0 c0 l0 q1 q2 q3 q4 w hr0 hc0 hG hq)
  have HG := Aside0.mk hG
  clear hr0 hc0 hG hq
  go_enter Tryd.func16, Tryd.ntmps16
  go_wp2_with fail
  refine HCC.out.mono ?_
  rintro e w' ⟨⟨ev, rfl, hev⟩, hb⟩
  have HB := Aside0.mk hb
  clear hb HCC
  cases q4 with
  | true =>
    obtain rfl := hev.1 rfl
    have h1 := impl_one.calls (E := E) none 0 w' (GlE.below HG.out HB.out) rfl
    simp only [errW_none] at h1
    have H1 := Aside0.mk h1
    clear h1 hev
    go_wp2_with fail
    refine H1.out.mono ?_
    rintro e w2 ⟨rfl, ⟨nd, rfl⟩⟩
    go_wp2
    refine bodyPost_ret (results_list (rs := [.tmp 2, .tmp 3, .tmp 4, .tmp 5]) rfl (by simp) (.tmp (.tmp (.tmp (.tmp .nil))))) rfl ?_
    exact ⟨rfl, pw_below_drewN HB.out nd⟩
  | false =>
    obtain ⟨t, u, rfl⟩ := hev.2 rfl
    have h1 := impl_one.calls (E := fun c => if c = 1000 then (t, u) else E c) (some 1000) 1 w' (GlE.other (GlE.below HG.out HB.out) _) rfl
    simp only [errW_some, if_true] at h1
    have H1 := Aside0.mk h1
    clear h1 hev
    go_wp2_with fail
    refine H1.out.mono ?_
    rintro e w2 ⟨rfl, ⟨nd, rfl⟩⟩
    go_wp2
    refine bodyPost_ret (results_list (rs := [.tmp 2, .tmp 3, .tmp 4, .tmp 5]) rfl (by simp) (.tmp (.tmp (.tmp (.tmp .nil))))) rfl ?_
    exact ⟨rfl, pw_below_drewN HB.out nd⟩

/-! ### laws_FnProtoField: function 6 -/
def laws_FnProtoField.f (k : Nat) (l0 : List Int) : Option (Bool) := if (l0.length : Int) > 2147483647 then (some true) else (if (l0.length : Int) > 400 then ((laws_awakeProto.f).bind fun t147 => (some t147)) else ((spec_ScanField.f k l0).bind fun bt148 => ((some (([] : List Int) : List Int)).bind fun y152 => (if y152.length + l0.length < 140737488355328 then ((impl_ProtoField.f (y152 ++ l0)).bind fun bt158 => (if ((bt158.2.2.2 == 0) == bt148.2.2.2) = true then (if bt148.2.2.2 = true then (if bt158.1 = bt148.1 then (if bt158.2.1 = bt148.2.1 then (if bt158.2.2.1 = bt148.2.2.1 then ((laws_awakeProto.f).bind fun t162 => (some t162)) else (some false)) else (some false)) else (some false)) else ((laws_awakeProto.f).bind fun t163 => (some t163))) else (some false))) else (none)))))
theorem laws_FnProtoField.mono : ∀ a0 k, LeO (laws_FnProtoField.f k a0) (laws_FnProtoField.f (k + 1) a0) := by
  intro a0 k
  unfold laws_FnProtoField.f
  repeat' first
      | (with_reducible exact spec_ScanField.mono _ _)
      | (with_reducible exact LeO.refl _)
      | (with_reducible exact LeO.none _)
      | (with_reducible refine LeO.ite ?_ ?_)
      | (with_reducible refine LeO.bind ?_ (fun _ => ?_))
      | exact spec_ScanField.mono _ _
      | exact LeO.none _
      | refine LeO.ite ?_ ?_
      | refine LeO.bind ?_ (fun _ => ?_)
set_option maxHeartbeats 8000000 in
set_option maxRecDepth 100000 in
theorem laws_FnProtoField.calls (k : Nat) (A0 : Option Addr) (c0 : Nat) (l0 : List Int) (r : Bool) (w : World) (hr0 : Kd.C (Kd.int .u8) w A0 l0.length l0) (hc0 : l0.length ≤ c0) (hG : GlE E w) (h : laws_FnProtoField.f k l0 = some r) :
    Calls Tryd.prog 6 #[.slice A0 l0.length c0] w fun e w' => e = .returned (.bool r) ∧ Below w.heap.size w w' := by
  have HG := Aside0.mk hG
  clear hG
  have HR0 := Aside0.mk hr0
  have HC0 := Aside0.mk hc0
  clear hr0 hc0
  have HB := Aside0.mk (Below.refl w.heap.size w)
  have H : (if (l0.length : Int) > 2147483647 then (some true) else (if (l0.length : Int) > 400 then ((laws_awakeProto.f).bind fun t147 => (some t147)) else ((spec_ScanField.f k l0).bind fun bt148 => ((some (([] : List Int) : List Int)).bind fun y152 => (if y152.length + l0.length < 140737488355328 then ((impl_ProtoField.f (y152 ++ l0)).bind fun bt158 => (if ((bt158.2.2.2 == 0) == bt148.2.2.2) = true then (if bt148.2.2.2 = true then (if bt158.1 = bt148.1 then (if bt158.2.1 = bt148.2.1 then (if bt158.2.2.1 = bt148.2.2.1 then ((laws_awakeProto.f).bind fun t162 => (some t162)) else (some false)) else (some false)) else (some false)) else ((laws_awakeProto.f).bind fun t163 => (some t163))) else (some false))) else (none)))))) = some r := h
  clear h
  by_cases c2 : (l0.length : Int) > 2147483647
  · rw [if_pos c2] at H
    have c2b0 : decide (2147483647 < (l0.length : Int)) = true := decide_eq_true c2
    have c2b1 : decide (2147483647 < l0.length) = true := decide_eq_true (by omega)
    clear c2
    obtain rfl := Option.some.inj H
    go_enter Tryd.func6, Tryd.ntmps6
    go_wp2
    go_ret
    exact ⟨by first | rfl | (simp [errW_none, errW_some] <;> rfl) | (simp [*, errW_none, errW_some] <;> rfl), by repeat (first | (with_reducible first | exact HB.out | apply below_alloc | apply pw_below_drewN | apply below_drew1) | exact HB.out)⟩
  · rw [if_neg c2] at H
    have c2b0 : decide (2147483647 < (l0.length : Int)) = false := decide_eq_false c2
    have c2b1 : decide (2147483647 < l0.length) = false := decide_eq_false (by omega)
    clear c2
    by_cases c3 : (l0.length : Int) > 400
    · rw [if_pos c3] at H
      have c3b0 : decide (400 < (l0.length : Int)) = true := decide_eq_true c3
      have c3b1 : decide (400 < l0.length) = true := decide_eq_true (by omega)
      clear c3
      replace H := Option.bind_eq_some_iff.mp H
      obtain ⟨t147, A40, H⟩ := H
      replace H : (some t147) = some r := H
      have A4 := Aside0.mk A40
      clear A40
      obtain rfl := Option.some.inj H
      go_enter Tryd.func6, Tryd.ntmps6
      go_wp2_with (first | ((with_reducible refine gate_callee (f := 10) rfl ?_); refine goesL_ (some 17) rfl rfl Tryd.func10 (by kernel_rfl) rfl #[] rfl (by (try simp only [List.map_toArray, List.map_cons, List.map_nil]); first | done | rfl | (simp only [List.length_drop, List.length_take]; rfl)) ?_; (with_reducible refine (laws_awakeProto.calls  t147 _ (by first | exact HG.out | exact GlE.below HG.out HB.out | exact (by repeat (first | exact HG.out | exact GlE.below HG.out HB.out | apply GlE.drewN | apply GlE.drew | apply GlE.alloc))) A4.out).mono ?_); rintro e w5 ⟨rfl, hb⟩; refine ⟨_, rfl, ?_⟩; have n0_ := Aside0.mk (below_step (by repeat (first | (with_reducible first | exact HB.out | apply below_alloc | apply pw_below_drewN | apply below_drew1) | exact HB.out)) hb); clear HB; have HB := n0_; clear n0_; (try clear hb); (try clear hb2); (try clear hk); (try clear hi)))
      go_ret
      exact ⟨by first | rfl | (simp [errW_none, errW_some] <;> rfl) | (simp [*, errW_none, errW_some] <;> rfl), by repeat (first | (with_reducible first | exact HB.out | apply below_alloc | apply pw_below_drewN | apply below_drew1) | exact HB.out)⟩
    · rw [if_neg c3] at H
      have c3b0 : decide (400 < (l0.length : Int)) = false := decide_eq_false c3
      have c3b1 : decide (400 < l0.length) = false := decide_eq_false (by omega)
      clear c3
      replace H := Option.bind_eq_some_iff.mp H
      obtain ⟨⟨t148, t149, t150, t151⟩, A60, H⟩ := H
      replace H : ((some (([] : List Int) : List Int)).bind fun y152 => (if y152.length + l0.length < 140737488355328 then ((impl_ProtoField.f (y152 ++ l0)).bind fun bt158 => (if ((bt158.2.2.2 == 0) == t151) = true then (if t151 = true then (if bt158.1 = t148 then (if bt158.2.1 = t149 then (if bt158.2.2.1 = t150 then ((laws_awakeProto.f).bind fun t162 => (some t162)) else (some false)) else (some false)) else (some false)) else ((laws_awakeProto.f).bind fun t163 => (some t163))) else (some false))) else (none))) = some r := H
      have A6 := Aside0.mk A60
      clear A60
      obtain ⟨y152, hy152⟩ : ∃ y_ : List Int, y_ = (([] : List Int)) := ⟨_, rfl⟩
      replace H : (if y152.length + l0.length < 140737488355328 then ((impl_ProtoField.f (y152 ++ l0)).bind fun bt158 => (if ((bt158.2.2.2 == 0) == t151) = true then (if t151 = true then (if bt158.1 = t148 then (if bt158.2.1 = t149 then (if bt158.2.2.1 = t150 then ((laws_awakeProto.f).bind fun t162 => (some t162)) else (some false)) else (some false)) else (some false)) else ((laws_awakeProto.f).bind fun t163 => (some t163))) else (some false))) else (none)) = some r := by first | (rw [hy152]; with_reducible exact H) | (have H2_ := (Option.bind_some _ _).symm.trans H; rw [hy152]; with_reducible exact H2_) | (have H2_ := (Option.bind_some _ _).symm.trans H; with_reducible exact H2_) | with_reducible exact H | (rw [hy152]; exact H) | exact H
      have Ny152 := Aside0.mk hy152
      clear hy152
      by_cases c7 : y152.length + l0.length < 140737488355328
      · rw [if_pos c7] at H
        have LMc7 := Aside0.mk c7
        clear c7
        obtain ⟨y155, hy155⟩ : ∃ y_ : List Int, y_ = (y152 ++ l0) := ⟨_, rfl⟩
        replace H : ((impl_ProtoField.f y155).bind fun bt158 => (if ((bt158.2.2.2 == 0) == t151) = true then (if t151 = true then (if bt158.1 = t148 then (if bt158.2.1 = t149 then (if bt158.2.2.1 = t150 then ((laws_awakeProto.f).bind fun t162 => (some t162)) else (some false)) else (some false)) else (some false)) else ((laws_awakeProto.f).bind fun t163 => (some t163))) else (some false))) = some r := by first | (rw [hy155]; with_reducible exact H) | (have H2_ := (Option.bind_some _ _).symm.trans H; rw [hy155]; with_reducible exact H2_) | (have H2_ := (Option.bind_some _ _).symm.trans H; with_reducible exact H2_) | with_reducible exact H | (rw [hy155]; exact H) | exact H
        have Ny155 := Aside0.mk hy155
        clear hy155
        replace H := Option.bind_eq_some_iff.mp H
        obtain ⟨⟨t158, t159, t160, t161⟩, A80, H⟩ := H
        replace H : (if ((t161 == 0) == t151) = true then (if t151 = true then (if t158 = t148 then (if t159 = t149 then (if t160 = t150 then ((laws_awakeProto.f).bind fun t162 => (some t162)) else (some false)) else (some false)) else (some false)) else ((laws_awakeProto.f).bind fun t163 => (some t163))) else (some false)) = some r := H
        have A8 := Aside0.mk A80
        clear A80
        by_cases c9 : ((t161 == 0) == t151) = true
        · rw [if_pos c9] at H
          have c9b0 : ((t161 == 0) == t151) = true := c9
          (try (have c9b1 : decide ((t161 == 0) = t151) = true := by simpa using c9))
          (try (have c9b2 : ((t161 == 0) == t151) = true := by simpa using c9))
          clear c9
          by_cases c10 : t151 = true
          · subst c10
            have H1 : (if t158 = t148 then (if t159 = t149 then (if t160 = t150 then ((laws_awakeProto.f).bind fun t162 => (some t162)) else (some false)) else (some false)) else (some false)) = some r := by rw [if_pos rfl] at H; exact H
            clear H
            have H := H1
            clear H1
            by_cases c11 : t158 = t148
            · rw [if_pos c11] at H
              have c11b0 : (t158 == t148) = true := beq_iff_eq.mpr c11
              have c11b1 : (t158 != t148) = false := bne_eq_false_iff_eq.mpr c11
              clear c11
              by_cases c12 : t159 = t149
              · rw [if_pos c12] at H
                have c12b0 : (t159 == t149) = true := beq_iff_eq.mpr c12
                have c12b1 : (t159 != t149) = false := bne_eq_false_iff_eq.mpr c12
                clear c12
                by_cases c13 : t160 = t150
                · rw [if_pos c13] at H
                  have c13b0 : (t160 == t150) = true := beq_iff_eq.mpr c13
                  have c13b1 : (t160 != t150) = false := bne_eq_false_iff_eq.mpr c13
                  clear c13
                  replace H := Option.bind_eq_some_iff.mp H
                  obtain ⟨t162, A140, H⟩ := H
                  replace H : (some t162) = some r := H
                  have A14 := Aside0.mk A140
                  clear A140
                  obtain rfl := Option.some.inj H
                  go_enter Tryd.func6, Tryd.ntmps6
                  go_wp2_with (first | ((with_reducible refine gate_callee (f := 15) rfl ?_); refine goesL_ (some 20) rfl rfl Tryd.func15 (by kernel_rfl) rfl #[.slice A0 l0.length c0] rfl (by (try simp only [List.map_toArray, List.map_cons, List.map_nil]); first | done | rfl | (simp only [List.length_drop, List.length_take]; rfl)) ?_; (with_reducible refine (spec_ScanField.calls k _ _ l0 t148 t149 t150 true _ ?side1 ?side2 (by first | exact HG.out | exact GlE.below HG.out HB.out | exact (by repeat (first | exact HG.out | exact GlE.below HG.out HB.out | apply GlE.drewN | apply GlE.drew | apply GlE.alloc))) A6.out).mono ?_); (case side1 => repeat (first | exact HR0.out | (with_reducible refine Kd.C_alloc ?_ _) | (with_reducible refine Kd.C_drewN ?_ _) | (with_reducible refine Kd.C_drew ?_))); (case side2 => exact HC0.out); rintro e w' ⟨rfl, ⟨nd, rfl⟩⟩; refine ⟨_, rfl, ?_⟩) | ((with_reducible refine gate_dst (N := 26) rfl ?_); refine Kd.R_lit (Kd.int .u8) _ 5 ?hg (N := 26) ?hd (xs := ([] : List Int)) (inner := []) (ok := fun _ => True) (okp := fun _ => True) ?hr ?hp (fun _ hk => hk) trivial (Below.refl _ _) (Nat.le_refl _) (by simp) ?_; (case hd => rfl); (case hg => rfl); (case hr => first | (go_simp; done) | (go_simp; rfl)); (case hp => exact (Reps.none _ _)); intro v153 w15 ho16 hb hg_ hnew_; clear hg_ hnew_; (first | rw [← Ny152.out] at ho16 | (simp only [Int.reduceToNat] at ho16; rw [← Ny152.out] at ho16)); have n0_ := Aside0.mk (Kd.R_lower ho16 (below_size (by repeat (first | (with_reducible first | exact HB.out | apply below_alloc | apply pw_below_drewN | apply below_drew1) | exact HB.out)))); have n1_ := Aside0.mk (below_step (by repeat (first | (with_reducible first | exact HB.out | apply below_alloc | apply pw_below_drewN | apply below_drew1) | exact HB.out)) hb); clear HB; have HO154 := n0_; have HB := n1_; clear n0_ n1_; clear hb ho16) | ((with_reducible refine gate_builtin (b := .append) (xs := #[.tmp 26, .tmp 27]) rfl ?_); at_builtin; refine Kd.R_append_rows (Kd.int .u8) (w0 := w) w.heap.size rfl (.tmp 26) (.tmp 27) 22 5 (.int .u8 0) 1 rfl Tryd.underlying22 info5 rfl (by decide) (by omega) v153 y152 l0 _ _ _ (fun _ => True) (fun _ => False) rfl rfl ?aO ?aR (fun _ _ h => h) (fun _ h => h.elim) ?aF ?aB ?aS ?aL ?_; (case aR => repeat (first | exact (Kd.C_below HR0.out HB.out) | (with_reducible refine Kd.C_alloc ?_ _) | (with_reducible refine Kd.C_drewN ?_ _) | (with_reducible refine Kd.C_drew ?_))); (case aB => exact (by repeat (first | (with_reducible first | exact HB.out | apply below_alloc | apply pw_below_drewN | apply below_drew1) | exact HB.out))); (case aF => exact (fun _ _ => trivial)); (case aO => exact (by (with_reducible repeat (first | apply Kd.R_alloc | apply Kd.R_drewN | apply Kd.R_drew)); exact HO154.out)); (case aS => exact (below_size (by repeat (first | (with_reducible first | exact HB.out | apply below_alloc | apply pw_below_drewN | apply below_drew1) | exact HB.out)))); (case aL => have := LMc7.out; omega); intro v156 w17 ho hb hg hat; rw [← Ny155.out] at ho; have n0_ := Aside0.mk (hb); have n1_ := Aside0.mk (ho); clear HB; clear HO154; have HB := n0_; have HO157 := n1_; clear n0_ n1_; clear ho hb hg hat; obtain ⟨Ao18, co18, eo18⟩ := Kd.R_slice HO157.out; subst eo18) | ((with_reducible refine gate_callee (f := 16) rfl ?_); refine goesL_ (some 29) rfl rfl Tryd.func16 (by kernel_rfl) rfl #[.slice Ao18 y155.length co18] rfl (by (try simp only [List.map_toArray, List.map_cons, List.map_nil]); first | done | rfl | (simp only [List.length_drop, List.length_take]; rfl)) ?_; (with_reducible refine (impl_ProtoField.calls _ _ y155 t158 t159 t160 t161 _ ?side1 ?side2 (by first | exact HG.out | exact GlE.below HG.out HB.out | exact (by repeat (first | exact HG.out | exact GlE.below HG.out HB.out | apply GlE.drewN | apply GlE.drew | apply GlE.alloc))) A8.out).mono ?_); (case side1 => repeat (first | exact (Kd.R_reads' HO157.out).2.2 | (with_reducible refine Kd.C_alloc ?_ _) | (with_reducible refine Kd.C_drewN ?_ _) | (with_reducible refine Kd.C_drew ?_))); (case side2 => exact (Kd.R_reads' HO157.out).2.1); rintro e w19 ⟨rfl, hb⟩; refine ⟨_, rfl, ?_⟩; have n0_ := Aside0.mk (Kd.R_below (by (with_reducible repeat (first | apply Kd.R_alloc | apply Kd.R_drewN | apply Kd.R_drew)); exact HO157.out) hb); have n1_ := Aside0.mk (below_step (by repeat (first | (with_reducible first | exact HB.out | apply below_alloc | apply pw_below_drewN | apply below_drew1) | exact HB.out)) hb); clear HO157; clear HB; have HO157 := n0_; have HB := n1_; clear n0_ n1_; (try clear hb); (try clear hb2); (try clear hk); (try clear hi)) | (go_at_call 10; (with_reducible refine (laws_awakeProto.calls  t162 _ (by first | exact HG.out | exact GlE.below HG.out HB.out | exact (by repeat (first | exact HG.out | exact GlE.below HG.out HB.out | apply GlE.drewN | apply GlE.drew | apply GlE.alloc))) A14.out).mono ?_); rintro e w20 ⟨rfl, hb⟩; have n0_ := Aside0.mk (Kd.R_below (by (with_reducible repeat (first | apply Kd.R_alloc | apply Kd.R_drewN | apply Kd.R_drew)); exact HO157.out) hb); have n1_ := Aside0.mk (below_step (by repeat (first | (with_reducible first | exact HB.out | apply below_alloc | apply pw_below_drewN | apply below_drew1) | exact HB.out)) hb); clear HO157; clear HB; have HO157 := n0_; have HB := n1_; clear n0_ n1_; (try clear hb); (try clear hb2); (try clear hk); (try clear hi)))
                  go_ret
                  exact ⟨by first | rfl | (simp [errW_none, errW_some] <;> rfl) | (simp [*, errW_none, errW_some] <;> rfl), by repeat (first | (with_reducible first | exact HB.out | apply below_alloc | apply pw_below_drewN | apply below_drew1) | exact HB.out)⟩
                · rw [if_neg c13] at H
                  have c13b0 : (t160 == t150) = false := beq_eq_false_iff_ne.mpr c13
                  have c13b1 : (t160 != t150) = true := bne_iff_ne.mpr c13
                  obtain rfl := Option.some.inj H
                  go_enter Tryd.func6, Tryd.ntmps6
                  go_wp2_with (first | ((with_reducible refine gate_callee (f := 15) rfl ?_); refine goesL_ (some 20) rfl rfl Tryd.func15 (by kernel_rfl) rfl #[.slice A0 l0.length c0] rfl (by (try simp only [List.map_toArray, List.map_cons, List.map_nil]); first | done | rfl | (simp only [List.length_drop, List.length_take]; rfl)) ?_; (with_reducible refine (spec_ScanField.calls k _ _ l0 t148 t149 t150 true _ ?side1 ?side2 (by first | exact HG.out | exact GlE.below HG.out HB.out | exact (by repeat (first | exact HG.out | exact GlE.below HG.out HB.out | apply GlE.drewN | apply GlE.drew | apply GlE.alloc))) A6.out).mono ?_); (case side1 => repeat (first | exact HR0.out | (with_reducible refine Kd.C_alloc ?_ _) | (with_reducible refine Kd.C_drewN ?_ _) | (with_reducible refine Kd.C_drew ?_))); (case side2 => exact HC0.out); rintro e w' ⟨rfl, ⟨nd, rfl⟩⟩; refine ⟨_, rfl, ?_⟩) | ((with_reducible refine gate_dst (N := 26) rfl ?_); refine Kd.R_lit (Kd.int .u8) _ 5 ?hg (N := 26) ?hd (xs := ([] : List Int)) (inner := []) (ok := fun _ => True) (okp := fun _ => True) ?hr ?hp (fun _ hk => hk) trivial (Below.refl _ _) (Nat.le_refl _) (by simp) ?_; (case hd => rfl); (case hg => rfl); (case hr => first | (go_simp; done) | (go_simp; rfl)); (case hp => exact (Reps.none _ _)); intro v153 w21 ho22 hb hg_ hnew_; clear hg_ hnew_; (first | rw [← Ny152.out] at ho22 | (simp only [Int.reduceToNat] at ho22; rw [← Ny152.out] at ho22)); have n0_ := Aside0.mk (Kd.R_lower ho22 (below_size (by repeat (first | (with_reducible first | exact HB.out | apply below_alloc | apply pw_below_drewN | apply below_drew1) | exact HB.out)))); have n1_ := Aside0.mk (below_step (by repeat (first | (with_reducible first | exact HB.out | apply below_alloc | apply pw_below_drewN | apply below_drew1) | exact HB.out)) hb); clear HB; have HO154 := n0_; have HB := n1_; clear n0_ n1_; clear hb ho22) | ((with_reducible refine gate_builtin (b := .append) (xs := #[.tmp 26, .tmp 27]) rfl ?_); at_builtin; refine Kd.R_append_rows (Kd.int .u8) (w0 := w) w.heap.size rfl (.tmp 26) (.tmp 27) 22 5 (.int .u8 0) 1 rfl Tryd.underlying22 info5 rfl (by decide) (by omega) v153 y152 l0 _ _ _ (fun _ => True) (fun _ => False) rfl rfl ?aO ?aR (fun _ _ h => h) (fun _ h => h.elim) ?aF ?aB ?aS ?aL ?_; (case aR => repeat (first | exact (Kd.C_below HR0.out HB.out) | (with_reducible refine Kd.C_alloc ?_ _) | (with_reducible refine Kd.C_drewN ?_ _) | (with_reducible refine Kd.C_drew ?_))); (case aB => exact (by repeat (first | (with_reducible first | exact HB.out | apply below_alloc | apply pw_below_drewN | apply below_drew1) | exact HB.out))); (case aF => exact (fun _ _ => trivial)); (case aO => exact (by (with_reducible repeat (first | apply Kd.R_alloc | apply Kd.R_drewN | apply Kd.R_drew)); exact HO154.out)); (case aS => exact (below_size (by repeat (first | (with_reducible first | exact HB.out | apply below_alloc | apply pw_below_drewN | apply below_drew1) | exact HB.out)))); (case aL => have := LMc7.out; omega); intro v156 w23 ho hb hg hat; rw [← Ny155.out] at ho; have n0_ := Aside0.mk (hb); have n1_ := Aside0.mk (ho); clear HB; clear HO154; have HB := n0_; have HO157 := n1_; clear n0_ n1_; clear ho hb hg hat; obtain ⟨Ao24, co24, eo24⟩ := Kd.R_slice HO157.out; subst eo24) | ((with_reducible refine gate_callee (f := 16) rfl ?_); refine goesL_ (some 29) rfl rfl Tryd.func16 (by kernel_rfl) rfl #[.slice Ao24 y155.length co24] rfl (by (try simp only [List.map_toArray, List.map_cons, List.map_nil]); first | done | rfl | (simp only [List.length_drop, List.length_take]; rfl)) ?_; (with_reducible refine (impl_ProtoField.calls _ _ y155 t158 t159 t160 t161 _ ?side1 ?side2 (by first | exact HG.out | exact GlE.below HG.out HB.out | exact (by repeat (first | exact HG.out | exact GlE.below HG.out HB.out | apply GlE.drewN | apply GlE.drew | apply GlE.alloc))) A8.out).mono ?_); (case side1 => repeat (first | exact (Kd.R_reads' HO157.out).2.2 | (with_reducible refine Kd.C_alloc ?_ _) | (with_reducible refine Kd.C_drewN ?_ _) | (with_reducible refine Kd.C_drew ?_))); (case side2 => exact (Kd.R_reads' HO157.out).2.1); rintro e w25 ⟨rfl, hb⟩; refine ⟨_, rfl, ?_⟩; have n0_ := Aside0.mk (Kd.R_below (by (with_reducible repeat (first | apply Kd.R_alloc | apply Kd.R_drewN | apply Kd.R_drew)); exact HO157.out) hb); have n1_ := Aside0.mk (below_step (by repeat (first | (with_reducible first | exact HB.out | apply below_alloc | apply pw_below_drewN | apply below_drew1) | exact HB.out)) hb); clear HO157; clear HB; have HO157 := n0_; have HB := n1_; clear n0_ n1_; (try clear hb); (try clear hb2); (try clear hk); (try clear hi)))
                  go_ret
                  exact ⟨by first | rfl | (simp [errW_none, errW_some] <;> rfl) | (simp [*, errW_none, errW_some] <;> rfl), by repeat (first | (with_reducible first | exact HB.out | apply below_alloc | apply pw_below_drewN | apply below_drew1) | exact HB.out)⟩
              · rw [if_neg c12] at H
                have c12b0 : (t159 == t149) = false := beq_eq_false_iff_ne.mpr c12
                have c12b1 : (t159 != t149) = true := bne_iff_ne.mpr c12
                obtain rfl := Option.some.inj H
                go_enter Tryd.func6, Tryd.ntmps6
                go_wp2_with (first | ((with_reducible refine gate_callee (f := 15) rfl ?_); refine goesL_ (some 20) rfl rfl Tryd.func15 (by kernel_rfl) rfl #[.slice A0 l0.length c0] rfl (by (try simp only [List.map_toArray, List.map_cons, List.map_nil]); first | done | rfl | (simp only [List.length_drop, List.length_take]; rfl)) ?_; (with_reducible refine (spec_ScanField.calls k _ _ l0 t148 t149 t150 true _ ?side1 ?side2 (by first | exact HG.out | exact GlE.below HG.out HB.out | exact (by repeat (first | exact HG.out | exact GlE.below HG.out HB.out | apply GlE.drewN | apply GlE.drew | apply GlE.alloc))) A6.out).mono ?_); (case side1 => repeat (first | exact HR0.out | (with_reducible refine Kd.C_alloc ?_ _) | (with_reducible refine Kd.C_drewN ?_ _) | (with_reducible refine Kd.C_drew ?_))); (case side2 => exact HC0.out); rintro e w' ⟨rfl, ⟨nd, rfl⟩⟩; refine ⟨_, rfl, ?_⟩) | ((with_reducible refine gate_dst (N := 26) rfl ?_); refine Kd.R_lit (Kd.int .u8) _ 5 ?hg (N := 26) ?hd (xs := ([] : List Int)) (inner := []) (ok := fun _ => True) (okp := fun _ => True) ?hr ?hp (fun _ hk => hk) trivial (Below.refl _ _) (Nat.le_refl _) (by simp) ?_; (case hd => rfl); (case hg => rfl); (case hr => first | (go_simp; done) | (go_simp; rfl)); (case hp => exact (Reps.none _ _)); intro v153 w26 ho27 hb hg_ hnew_; clear hg_ hnew_; (first | rw [← Ny152.out] at ho27 | (simp only [Int.reduceToNat] at ho27; rw [← Ny152.out] at ho27)); have n0_ := Aside0.mk (Kd.R_lower ho27 (below_size (by repeat (first | (with_reducible first | exact HB.out | apply below_alloc | apply pw_below_drewN | apply below_drew1) | exact HB.out)))); have n1_ := Aside0.mk (below_step (by repeat (first | (with_reducible first | exact HB.out | apply below_alloc | apply pw_below_drewN | apply below_drew1) | exact HB.out)) hb); clear HB; have HO154 := n0_; have HB := n1_; clear n0_ n1_; clear hb ho27) | ((with_reducible refine gate_builtin (b := .append) (xs := #[.tmp 26, .tmp 27]) rfl ?_); at_builtin; refine Kd.R_append_rows (Kd.int .u8) (w0 := w) w.heap.size rfl (.tmp 26) (.tmp 27) 22 5 (.int .u8 0) 1 rfl Tryd.underlying22 info5 rfl (by decide) (by omega) v153 y152 l0 _ _ _ (fun _ => True) (fun _ => False) rfl rfl ?aO ?aR (fun _ _ h => h) (fun _ h => h.elim) ?aF ?aB ?aS ?aL ?_; (case aR => repeat (first | exact (Kd.C_below HR0.out HB.out) | (with_reducible refine Kd.C_alloc ?_ _) | (with_reducible refine Kd.C_drewN ?_ _) | (with_reducible refine Kd.C_drew ?_))); (case aB => exact (by repeat (first | (with_reducible first | exact HB.out | apply below_alloc | apply pw_below_drewN | apply below_drew1) | exact HB.out))); (case aF => exact (fun _ _ => trivial)); (case aO => exact (by (with_reducible repeat (first | apply Kd.R_alloc | apply Kd.R_drewN | apply Kd.R_drew)); exact HO154.out)); (case aS => exact (below_size (by repeat (first | (with_reducible first | exact HB.out | apply below_alloc | apply pw_below_drewN | apply below_drew1) | exact HB.out)))); (case aL => have := LMc7.out; omega); intro v156 w28 ho hb hg hat; rw [← Ny155.out] at ho; have n0_ := Aside0.mk (hb); have n1_ := Aside0.mk (ho); clear HB; clear HO154; have HB := n0_; have HO157 := n1_; clear n0_ n1_; clear ho hb hg hat; obtain ⟨Ao29, co29, eo29⟩ := Kd.R_slice HO157.out; subst eo29) | ((with_reducible refine gate_callee (f := 16) rfl ?_); refine goesL_ (some 29) rfl rfl Tryd.func16 (by kernel_rfl) rfl #[.slice Ao29 y155.length co29] rfl (by (try simp only [List.map_toArray, List.map_cons, List.map_nil]); first | done | rfl | (simp only [List.length_drop, List.length_take]; rfl)) ?_; (with_reducible refine (impl_ProtoField.calls _ _ y155 t158 t159 t160 t161 _ ?side1 ?side2 (by first | exact HG.out | exact GlE.below HG.out HB.out | exact (by repeat (first | exact HG.out | exact GlE.below HG.out HB.out | apply GlE.drewN | apply GlE.drew | apply GlE.alloc))) A8.out).mono ?_); (case side1 => repeat (first | exact (Kd.R_reads' HO157.out).2.2 | (with_reducible refine Kd.C_alloc ?_ _) | (with_reducible refine Kd.C_drewN ?_ _) | (with_reducible refine Kd.C_drew ?_))); (case side2 => exact (Kd.R_reads' HO157.out).2.1); rintro e w30 ⟨rfl, hb⟩; refine ⟨_, rfl, ?_⟩; have n0_ := Aside0.mk (Kd.R_below (by (with_reducible repeat (first | apply Kd.R_alloc | apply Kd.R_drewN | apply Kd.R_drew)); exact HO157.out) hb); have n1_ := Aside0.mk (below_step (by repeat (first | (with_reducible first | exact HB.out | apply below_alloc | apply pw_below_drewN | apply below_drew1) | exact HB.out)) hb); clear HO157; clear HB; have HO157 := n0_; have HB := n1_; clear n0_ n1_; (try clear hb); (try clear hb2); (try clear hk); (try clear hi)))
                go_ret
                exact ⟨by first | rfl | (simp [errW_none, errW_some] <;> rfl) | (simp [*, errW_none, errW_some] <;> rfl), by repeat (first | (with_reducible first | exact HB.out | apply below_alloc | apply pw_below_drewN | apply below_drew1) | exact HB.out)⟩
            · rw [if_neg c11] at H
              have c11b0 : (t158 == t148) = false := beq_eq_false_iff_ne.mpr c11
              have c11b1 : (t158 != t148) = true := bne_iff_ne.mpr c11
              obtain rfl := Option.some.inj H
              go_enter Tryd.func6, Tryd.ntmps6
              go_wp2_with (first | ((with_reducible refine gate_callee (f := 15) rfl ?_); refine goesL_ (some 20) rfl rfl Tryd.func15 (by kernel_rfl) rfl #[.slice A0 l0.length c0] rfl (by (try simp only [List.map_toArray, List.map_cons, List.map_nil]); first | done | rfl | (simp only [List.length_drop, List.length_take]; rfl)) ?_; (with_reducible refine (spec_ScanField.calls k _ _ l0 t148 t149 t150 true _ ?side1 ?side2 (by first | exact HG.out | exact GlE.below HG.out HB.out | exact (by repeat (first | exact HG.out | exact GlE.below HG.out HB.out | apply GlE.drewN | apply GlE.drew | apply GlE.alloc))) A6.out).mono ?_); (case side1 => repeat (first | exact HR0.out | (with_reducible refine Kd.C_alloc ?_ _) | (with_reducible refine Kd.C_drewN ?_ _) | (with_reducible refine Kd.C_drew ?_))); (case side2 => exact HC0.out); rintro e w' ⟨rfl, ⟨nd, rfl⟩⟩; refine ⟨_, rfl, ?_⟩) | ((with_reducible refine gate_dst (N := 26) rfl ?_); refine Kd.R_lit (Kd.int .u8) _ 5 ?hg (N := 26) ?hd (xs := ([] : List Int)) (inner := []) (ok := fun _ => True) (okp := fun _ => True) ?hr ?hp (fun _ hk => hk) trivial (Below.refl _ _) (Nat.le_refl _) (by simp) ?_; (case hd => rfl); (case hg => rfl); (case hr => first | (go_simp; done) | (go_simp; rfl)); (case hp => exact (Reps.none _ _)); intro v153 w31 ho32 hb hg_ hnew_; clear hg_ hnew_; (first | rw [← Ny152.out] at ho32 | (simp only [Int.reduceToNat] at ho32; rw [← Ny152.out] at ho32)); have n0_ := Aside0.mk (Kd.R_lower ho32 (below_size (by repeat (first | (with_reducible first | exact HB.out | apply below_alloc | apply pw_below_drewN | apply below_drew1) | exact HB.out)))); have n1_ := Aside0.mk (below_step (by repeat (first | (with_reducible first | exact HB.out | apply below_alloc | apply pw_below_drewN | apply below_drew1) | exact HB.out)) hb); clear HB; have HO154 := n0_; have HB := n1_; clear n0_ n1_; clear hb ho32) | ((with_reducible refine gate_builtin (b := .append) (xs := #[.tmp 26, .tmp 27]) rfl ?_); at_builtin; refine Kd.R_append_rows (Kd.int .u8) (w0 := w) w.heap.size rfl (.tmp 26) (.tmp 27) 22 5 (.int .u8 0) 1 rfl Tryd.underlying22 info5 rfl (by decide) (by omega) v153 y152 l0 _ _ _ (fun _ => True) (fun _ => False) rfl rfl ?aO ?aR (fun _ _ h => h) (fun _ h => h.elim) ?aF ?aB ?aS ?aL ?_; (case aR => repeat (first | exact (Kd.C_below HR0.out HB.out) | (with_reducible refine Kd.C_alloc ?_ _) | (with_reducible refine Kd.C_drewN ?_ _) | (with_reducible refine Kd.C_drew ?_))); (case aB => exact (by repeat (first | (with_reducible first | exact HB.out | apply below_alloc | apply pw_below_drewN | apply below_drew1) | exact HB.out))); (case aF => exact (fun _ _ => trivial)); (case aO => exact (by (with_reducible repeat (first | apply Kd.R_alloc | apply Kd.R_drewN | apply Kd.R_drew)); exact HO154.out)); (case aS => exact (below_size (by repeat (first | (with_reducible first | exact HB.out | apply below_alloc | apply pw_below_drewN | apply below_drew1) | exact HB.out)))); (case aL => have := LMc7.out; omega); intro v156 w33 ho hb hg hat; rw [← Ny155.out] at ho; have n0_ := Aside0.mk (hb); have n1_ := Aside0.mk (ho); clear HB; clear HO154; have HB := n0_; have HO157 := n1_; clear n0_ n1_; clear ho hb hg hat; obtain ⟨Ao34, co34, eo34⟩ := Kd.R_slice HO157.out; subst eo34) | ((with_reducible refine gate_callee (f := 16) rfl ?_); refine goesL_ (some 29) rfl rfl Tryd.func16 (by kernel_rfl) rfl #[.slice Ao34 y155.length co34] rfl (by (try simp only [List.map_toArray, List.map_cons, List.map_nil]); first | done | rfl | (simp only [List.length_drop, List.length_take]; rfl)) ?_; (with_reducible refine (impl_ProtoField.calls _ _ y155 t158 t159 t160 t161 _ ?side1 ?side2 (by first | exact HG.out | exact GlE.below HG.out HB.out | exact (by repeat (first | exact HG.out | exact GlE.below HG.out HB.out | apply GlE.drewN | apply GlE.drew | apply GlE.alloc))) A8.out).mono ?_); (case side1 => repeat (first | exact (Kd.R_reads' HO157.out).2.2 | (with_reducible refine Kd.C_alloc ?_ _) | (with_reducible refine Kd.C_drewN ?_ _) | (with_reducible refine Kd.C_drew ?_))); (case side2 => exact (Kd.R_reads' HO157.out).2.1); rintro e w35 ⟨rfl, hb⟩; refine ⟨_, rfl, ?_⟩; have n0_ := Aside0.mk (Kd.R_below (by (with_reducible repeat (first | apply Kd.R_alloc | apply Kd.R_drewN | apply Kd.R_drew)); exact HO157.out) hb); have n1_ := Aside0.mk (below_step (by repeat (first | (with_reducible first | exact HB.out | apply below_alloc | apply pw_below_drewN | apply below_drew1) | exact HB.out)) hb); clear HO157; clear HB; have HO157 := n0_; have HB := n1_; clear n0_ n1_; (try clear hb); (try clear hb2); (try clear hk); (try clear hi)))
              go_ret
              exact ⟨by first | rfl | (simp [errW_none, errW_some] <;> rfl) | (simp [*, errW_none, errW_some] <;> rfl), by repeat (first | (with_reducible first | exact HB.out | apply below_alloc | apply pw_below_drewN | apply below_drew1) | exact HB.out)⟩
          · replace c10 := Bool.eq_false_iff.mpr c10
            subst c10
            have H1 : ((laws_awakeProto.f).bind fun t163 => (some t163)) = some r := by rw [if_neg (show ¬ (false = true) by decide)] at H; exact H
            clear H
            have H := H1
            clear H1
            replace H := Option.bind_eq_some_iff.mp H
            obtain ⟨t163, A360, H⟩ := H
            replace H : (some t163) = some r := H
            have A36 := Aside0.mk A360
            clear A360
            obtain rfl := Option.some.inj H
            go_enter Tryd.func6, Tryd.ntmps6
            go_wp2_with (first | ((with_reducible refine gate_callee (f := 15) rfl ?_); refine goesL_ (some 20) rfl rfl Tryd.func15 (by kernel_rfl) rfl #[.slice A0 l0.length c0] rfl (by (try simp only [List.map_toArray, List.map_cons, List.map_nil]); first | done | rfl | (simp only [List.length_drop, List.length_take]; rfl)) ?_; (with_reducible refine (spec_ScanField.calls k _ _ l0 t148 t149 t150 false _ ?side1 ?side2 (by first | exact HG.out | exact GlE.below HG.out HB.out | exact (by repeat (first | exact HG.out | exact GlE.below HG.out HB.out | apply GlE.drewN | apply GlE.drew | apply GlE.alloc))) A6.out).mono ?_); (case side1 => repeat (first | exact HR0.out | (with_reducible refine Kd.C_alloc ?_ _) | (with_reducible refine Kd.C_drewN ?_ _) | (with_reducible refine Kd.C_drew ?_))); (case side2 => exact HC0.out); rintro e w' ⟨rfl, ⟨nd, rfl⟩⟩; refine ⟨_, rfl, ?_⟩) | ((with_reducible refine gate_dst (N := 26) rfl ?_); refine Kd.R_lit (Kd.int .u8) _ 5 ?hg (N := 26) ?hd (xs := ([] : List Int)) (inner := []) (ok := fun _ => True) (okp := fun _ => True) ?hr ?hp (fun _ hk => hk) trivial (Below.refl _ _) (Nat.le_refl _) (by simp) ?_; (case hd => rfl); (case hg => rfl); (case hr => first | (go_simp; done) | (go_simp; rfl)); (case hp => exact (Reps.none _ _)); intro v153 w37 ho38 hb hg_ hnew_; clear hg_ hnew_; (first | rw [← Ny152.out] at ho38 | (simp only [Int.reduceToNat] at ho38; rw [← Ny152.out] at ho38)); have n0_ := Aside0.mk (Kd.R_lower ho38 (below_size (by repeat (first | (with_reducible first | exact HB.out | apply below_alloc | apply pw_below_drewN | apply below_drew1) | exact HB.out)))); have n1_ := Aside0.mk (below_step (by repeat (first | (with_reducible first | exact HB.out | apply below_alloc | apply pw_below_drewN | apply below_drew1) | exact HB.out)) hb); clear HB; have HO154 := n0_; have HB := n1_; clear n0_ n1_; clear hb ho38) | ((with_reducible refine gate_builtin (b := .append) (xs := #[.tmp 26, .tmp 27]) rfl ?_); at_builtin; refine Kd.R_append_rows (Kd.int .u8) (w0 := w) w.heap.size rfl (.tmp 26) (.tmp 27) 22 5 (.int .u8 0) 1 rfl Tryd.underlying22 info5 rfl (by decide) (by omega) v153 y152 l0 _ _ _ (fun _ => True) (fun _ => False) rfl rfl ?aO ?aR (fun _ _ h => h) (fun _ h => h.elim) ?aF ?aB ?aS ?aL ?_; (case aR => repeat (first | exact (Kd.C_below HR0.out HB.out) | (with_reducible refine Kd.C_alloc ?_ _) | (with_reducible refine Kd.C_drewN ?_ _) | (with_reducible refine Kd.C_drew ?_))); (case aB => exact (by repeat (first | (with_reducible first | exact HB.out | apply below_alloc | apply pw_below_drewN | apply below_drew1) | exact HB.out))); (case aF => exact (fun _ _ => trivial)); (case aO => exact (by (with_reducible repeat (first | apply Kd.R_alloc | apply Kd.R_drewN | apply Kd.R_drew)); exact HO154.out)); (case aS => exact (below_size (by repeat (first | (with_reducible first | exact HB.out | apply below_alloc | apply pw_below_drewN | apply below_drew1) | exact HB.out)))); (case aL => have := LMc7.out; omega); intro v156 w39 ho hb hg hat; rw [← Ny155.out] at ho; have n0_ := Aside0.mk (hb); have n1_ := Aside0.mk (ho); clear HB; clear HO154; have HB := n0_; have HO157 := n1_; clear n0_ n1_; clear ho hb hg hat; obtain ⟨Ao40, co40, eo40⟩ := Kd.R_slice HO157.out; subst eo40) | ((with_reducible refine gate_callee (f := 16) rfl ?_); refine goesL_ (some 29) rfl rfl Tryd.func16 (by kernel_rfl) rfl #[.slice Ao40 y155.length co40] rfl (by (try simp only [List.map_toArray, List.map_cons, List.map_nil]); first | done | rfl | (simp only [List.length_drop, List.length_take]; rfl)) ?_; (with_reducible refine (impl_ProtoField.calls _ _ y155 t158 t159 t160 t161 _ ?side1 ?side2 (by first | exact HG.out | exact GlE.below HG.out HB.out | exact (by repeat (first | exact HG.out | exact GlE.below HG.out HB.out | apply GlE.drewN | apply GlE.drew | apply GlE.alloc))) A8.out).mono ?_); (case side1 => repeat (first | exact (Kd.R_reads' HO157.out).2.2 | (with_reducible refine Kd.C_alloc ?_ _) | (with_reducible refine Kd.C_drewN ?_ _) | (with_reducible refine Kd.C_drew ?_))); (case side2 => exact (Kd.R_reads' HO157.out).2.1); rintro e w41 ⟨rfl, hb⟩; refine ⟨_, rfl, ?_⟩; have n0_ := Aside0.mk (Kd.R_below (by (with_reducible repeat (first | apply Kd.R_alloc | apply Kd.R_drewN | apply Kd.R_drew)); exact HO157.out) hb); have n1_ := Aside0.mk (below_step (by repeat (first | (with_reducible first | exact HB.out | apply below_alloc | apply pw_below_drewN | apply below_drew1) | exact HB.out)) hb); clear HO157; clear HB; have HO157 := n0_; have HB := n1_; clear n0_ n1_; (try clear hb); (try clear hb2); (try clear hk); (try clear hi)) | (go_at_call 10; (with_reducible refine (laws_awakeProto.calls  t163 _ (by first | exact HG.out | exact GlE.below HG.out HB.out | exact (by repeat (first | exact HG.out | exact GlE.below HG.out HB.out | apply GlE.drewN | apply GlE.drew | apply GlE.alloc))) A36.out).mono ?_); rintro e w42 ⟨rfl, hb⟩; have n0_ := Aside0.mk (Kd.R_below (by (with_reducible repeat (first | apply Kd.R_alloc | apply Kd.R_drewN | apply Kd.R_drew)); exact HO157.out) hb); have n1_ := Aside0.mk (below_step (by repeat (first | (with_reducible first | exact HB.out | apply below_alloc | apply pw_below_drewN | apply below_drew1) | exact HB.out)) hb); clear HO157; clear HB; have HO157 := n0_; have HB := n1_; clear n0_ n1_; (try clear hb); (try clear hb2); (try clear hk); (try clear hi)))
            go_ret
            exact ⟨by first | rfl | (simp [errW_none, errW_some] <;> rfl) | (simp [*, errW_none, errW_some] <;> rfl), by repeat (first | (with_reducible first | exact HB.out | apply below_alloc | apply pw_below_drewN | apply below_drew1) | exact HB.out)⟩
        · rw [if_neg c9] at H
          have c9b0 : ((t161 == 0) == t151) = false := by simpa using c9
          (try (have c9b1 : decide ((t161 == 0) = t151) = false := by simpa using c9))
          (try (have c9b2 : ((t161 == 0) == t151) = false := by simpa using c9))
          (try (have c9b3 : ¬ ((t161 == 0) = t151) := by simpa using c9))
          clear c9
          obtain rfl := Option.some.inj H
          go_enter Tryd.func6, Tryd.ntmps6
          go_wp2_with (first | ((with_reducible refine gate_callee (f := 15) rfl ?_); refine goesL_ (some 20) rfl rfl Tryd.func15 (by kernel_rfl) rfl #[.slice A0 l0.length c0] rfl (by (try simp only [List.map_toArray, List.map_cons, List.map_nil]); first | done | rfl | (simp only [List.length_drop, List.length_take]; rfl)) ?_; (with_reducible refine (spec_ScanField.calls k _ _ l0 t148 t149 t150 t151 _ ?side1 ?side2 (by first | exact HG.out | exact GlE.below HG.out HB.out | exact (by repeat (first | exact HG.out | exact GlE.below HG.out HB.out | apply GlE.drewN | apply GlE.drew | apply GlE.alloc))) A6.out).mono ?_); (case side1 => repeat (first | exact HR0.out | (with_reducible refine Kd.C_alloc ?_ _) | (with_reducible refine Kd.C_drewN ?_ _) | (with_reducible refine Kd.C_drew ?_))); (case side2 => exact HC0.out); rintro e w' ⟨rfl, ⟨nd, rfl⟩⟩; refine ⟨_, rfl, ?_⟩) | ((with_reducible refine gate_dst (N := 26) rfl ?_); refine Kd.R_lit (Kd.int .u8) _ 5 ?hg (N := 26) ?hd (xs := ([] : List Int)) (inner := []) (ok := fun _ => True) (okp := fun _ => True) ?hr ?hp (fun _ hk => hk) trivial (Below.refl _ _) (Nat.le_refl _) (by simp) ?_; (case hd => rfl); (case hg => rfl); (case hr => first | (go_simp; done) | (go_simp; rfl)); (case hp => exact (Reps.none _ _)); intro v153 w43 ho44 hb hg_ hnew_; clear hg_ hnew_; (first | rw [← Ny152.out] at ho44 | (simp only [Int.reduceToNat] at ho44; rw [← Ny152.out] at ho44)); have n0_ := Aside0.mk (Kd.R_lower ho44 (below_size (by repeat (first | (with_reducible first | exact HB.out | apply below_alloc | apply pw_below_drewN | apply below_drew1) | exact HB.out)))); have n1_ := Aside0.mk (below_step (by repeat (first | (with_reducible first | exact HB.out | apply below_alloc | apply pw_below_drewN | apply below_drew1) | exact HB.out)) hb); clear HB; have HO154 := n0_; have HB := n1_; clear n0_ n1_; clear hb ho44) | ((with_reducible refine gate_builtin (b := .append) (xs := #[.tmp 26, .tmp 27]) rfl ?_); at_builtin; refine Kd.R_append_rows (Kd.int .u8) (w0 := w) w.heap.size rfl (.tmp 26) (.tmp 27) 22 5 (.int .u8 0) 1 rfl Tryd.underlying22 info5 rfl (by decide) (by omega) v153 y152 l0 _ _ _ (fun _ => True) (fun _ => False) rfl rfl ?aO ?aR (fun _ _ h => h) (fun _ h => h.elim) ?aF ?aB ?aS ?aL ?_; (case aR => repeat (first | exact (Kd.C_below HR0.out HB.out) | (with_reducible refine Kd.C_alloc ?_ _) | (with_reducible refine Kd.C_drewN ?_ _) | (with_reducible refine Kd.C_drew ?_))); (case aB => exact (by repeat (first | (with_reducible first | exact HB.out | apply below_alloc | apply pw_below_drewN | apply below_drew1) | exact HB.out))); (case aF => exact (fun _ _ => trivial)); (case aO => exact (by (with_reducible repeat (first | apply Kd.R_alloc | apply Kd.R_drewN | apply Kd.R_drew)); exact HO154.out)); (case aS => exact (below_size (by repeat (first | (with_reducible first | exact HB.out | apply below_alloc | apply pw_below_drewN | apply below_drew1) | exact HB.out)))); (case aL => have := LMc7.out; omega); intro v156 w45 ho hb hg hat; rw [← Ny155.out] at ho; have n0_ := Aside0.mk (hb); have n1_ := Aside0.mk (ho); clear HB; clear HO154; have HB := n0_; have HO157 := n1_; clear n0_ n1_; clear ho hb hg hat; obtain ⟨Ao46, co46, eo46⟩ := Kd.R_slice HO157.out; subst eo46) | ((with_reducible refine gate_callee (f := 16) rfl ?_); refine goesL_ (some 29) rfl rfl Tryd.func16 (by kernel_rfl) rfl #[.slice Ao46 y155.length co46] rfl (by (try simp only [List.map_toArray, List.map_cons, List.map_nil]); first | done | rfl | (simp only [List.length_drop, List.length_take]; rfl)) ?_; (with_reducible refine (impl_ProtoField.calls _ _ y155 t158 t159 t160 t161 _ ?side1 ?side2 (by first | exact HG.out | exact GlE.below HG.out HB.out | exact (by repeat (first | exact HG.out | exact GlE.below HG.out HB.out | apply GlE.drewN | apply GlE.drew | apply GlE.alloc))) A8.out).mono ?_); (case side1 => repeat (first | exact (Kd.R_reads' HO157.out).2.2 | (with_reducible refine Kd.C_alloc ?_ _) | (with_reducible refine Kd.C_drewN ?_ _) | (with_reducible refine Kd.C_drew ?_))); (case side2 => exact (Kd.R_reads' HO157.out).2.1); rintro e w47 ⟨rfl, hb⟩; refine ⟨_, rfl, ?_⟩; have n0_ := Aside0.mk (Kd.R_below (by (with_reducible repeat (first | apply Kd.R_alloc | apply Kd.R_drewN | apply Kd.R_drew)); exact HO157.out) hb); have n1_ := Aside0.mk (below_step (by repeat (first | (with_reducible first | exact HB.out | apply below_alloc | apply pw_below_drewN | apply below_drew1) | exact HB.out)) hb); clear HO157; clear HB; have HO157 := n0_; have HB := n1_; clear n0_ n1_; (try clear hb); (try clear hb2); (try clear hk); (try clear hi)))
          go_ret
          exact ⟨by first | rfl | (simp [errW_none, errW_some] <;> rfl) | (simp [*, errW_none, errW_some] <;> rfl), by repeat (first | (with_reducible first | exact HB.out | apply below_alloc | apply pw_below_drewN | apply below_drew1) | exact HB.out)⟩
      · rw [if_neg c7] at H
        exact absurd H (by simp)

/-- THE ONE PURE STATEMENT of laws_FnProtoField: yours. -/
def laws_FnProtoField.Pure : Prop := ∀ (l0 : List Int), l0.length ≤ maxLen → l0.length * 1 ≤ 140737488351232 → (∀ x ∈ l0, (Lit.int .u8 x).wf = true) → ∃ k, laws_FnProtoField.f k l0 = some true
theorem laws_FnProtoField.walk (P : laws_FnProtoField.Pure) (a0 : Option Addr) (len0 cap0 : Nat) (z0 : List Int) (w : World) (hG : GlE E w) (w0 : (a0 = none ∧ len0 = 0 ∧ cap0 = 0 ∧ z0 = []) ∨ ∃ x, a0 = some x ∧ len0 ≤ cap0 ∧ cap0 ≤ maxLen ∧ z0.length = cap0 ∧ (∀ i, i < z0.length → w.cell? (x.add i) = some (.int .u8 (z0.getD i 0))) ∧ ∀ n ∈ z0, (Lit.int .u8 n).wf = true) (y0 : len0 * 1 ≤ 140737488351232) :
    Calls Tryd.prog 6 #[.slice a0 len0 cap0] w fun e w' => e = .returned (.bool true) ∧ Below w.heap.size w w' := by
  obtain ⟨l0, rfl, hr0, hm0, hw0, hc0⟩ := ReadsInt.ofRowC w0
  obtain ⟨k, h⟩ := P l0 hm0 y0 hw0
  refine (laws_FnProtoField.calls k _ _ l0 true w (Kd.C_of_reads (d := (0 : Int)) (h1 := fun _ => rfl) hr0) hc0 hG h).mono ?_
  rintro e w' ⟨rfl, hd⟩
  exact ⟨rfl, hd⟩

end Go.Proofs.YtnkioieocjgekaaDoor.GFnProtoField
