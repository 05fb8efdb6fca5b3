/- A walk of Go functions (plain functions of theirs, and that the machine's calls do what these say), written by a program of this session's. -/
import Derived.Test.YtoopmpjgmgffoaaDoorTpB
namespace Go.Proofs.YtoopmpjgmgffoaaDoor.GFnTransformBack
open Go.RowKit Go.Proofs.YtoopmpjgmgffoaaDoorW.PrintWords Go.Proofs.YtoopmpjgmgffoaaDoorW.PrintLast Go.Proofs.YtoopmpjgmgffoaaDoorW.PrintMore
set_option linter.unusedVariables false
set_option linter.unusedSimpArgs false
def server_tokenizeSubjectIntoSlice.l0 : Nat → List ByteArray → ByteArray → Int → Int → Option (List ByteArray)
 | 0, _, _, _, _ => none
 | k + 1, x0, x1, x5, x6 => if x6 < (x1.size : Int) then (if 0 ≤ x6 then (if (bt x1 x6) = 46 then (if 0 ≤ x5 then (if x5 ≤ x6 then (if x6 ≤ (x1.size : Int) then (if x0.length < 8796093022208 then (server_tokenizeSubjectIntoSlice.l0 k (x0 ++ [x1.extract (x5 : Int).toNat (x6 : Int).toNat]) x1 (wrap64 (x6 + 1)) (wrap64 (x6 + 1))) else (none)) else (none)) else (none)) else (none)) else (server_tokenizeSubjectIntoSlice.l0 k x0 x1 x5 (wrap64 (x6 + 1)))) else (none)) else (if 0 ≤ x5 then (if x5 ≤ (x1.size : Int) then (if x0.length < 8796093022208 then (some (x0 ++ [x1.extract (x5 : Int).toNat x1.size])) else (none)) else (none)) else (none))
def server_tokenizeSubjectIntoSlice.f (k : Nat) (l0 : List ByteArray) (a1 : ByteArray) : Option (List ByteArray) := server_tokenizeSubjectIntoSlice.l0 k l0 a1 0 0
def strings_Compare.f (a0 a1 : ByteArray) : Option Int := some (Lib.compareBytes a0.data.toList a1.data.toList)
theorem strings_Compare.calls (a0 a1 : ByteArray) (r : Int) (w : World) (h : strings_Compare.f a0 a1 = some r) :
  Calls Tryd.prog 71 #[.string a0, .string a1] w fun e w' => e = .returned (.int .i64 r) ∧ Drawn0 w w' := by
 obtain rfl := Option.some.inj h
 refine (Tryd.strings_Compare a0 a1 w).mono ?_
 rintro e w' ⟨rfl, rfl⟩
 exact ⟨rfl, Drawn0.refl _⟩
mutual
def server_isSubsetMatchTokenized.l0 : Nat → List ByteArray → List ByteArray → List ByteArray → Int → Int → Option (Bool)
 | 0, _, _, _, _, _ => none
 | k + 1, x0, x1, x10, x11, x12 => if x12 < x11 then (if 0 ≤ x12 then (if x12 < (x10.length : Int) then (if x12 ≥ (x0.length : Int) then (some false) else (if ((rdOf ByteArray.empty x10 x12).size : Int) = 0 then (some false) else (if 0 < ((rdOf ByteArray.empty x10 x12).size : Int) then (if (bt (rdOf ByteArray.empty x10 x12) 0) = 62 then (server_isSubsetMatchTokenized.j1 k x0 x1 x12 (rdOf ByteArray.empty x10 x12) x10 x11 x12 (((rdOf ByteArray.empty x10 x12).size : Int) == 1)) else (server_isSubsetMatchTokenized.j1 k x0 x1 x12 (rdOf ByteArray.empty x10 x12) x10 x11 x12 false)) else (none)))) else (none)) else (none)) else (some ((x0.length : Int) == (x1.length : Int)))
def server_isSubsetMatchTokenized.j1 : Nat → List ByteArray → List ByteArray → Int → ByteArray → List ByteArray → Int → Int → Bool → Option (Bool)
 | 0, _, _, _, _, _, _, _, _ => none
 | k + 1, x0, x1, x5, x6, x10, x11, x12, x31 => if x31 = true then (some true) else (if 0 ≤ x5 then (if x5 < (x0.length : Int) then (if ((rdOf ByteArray.empty x0 x5).size : Int) = 0 then (server_isSubsetMatchTokenized.j2 k x0 x1 x5 x6 (rdOf ByteArray.empty x0 x5) x10 x11 x12 true) else (if 0 < ((rdOf ByteArray.empty x0 x5).size : Int) then (if (bt (rdOf ByteArray.empty x0 x5) 0) = 62 then (server_isSubsetMatchTokenized.j2 k x0 x1 x5 x6 (rdOf ByteArray.empty x0 x5) x10 x11 x12 (((rdOf ByteArray.empty x0 x5).size : Int) == 1)) else (server_isSubsetMatchTokenized.j2 k x0 x1 x5 x6 (rdOf ByteArray.empty x0 x5) x10 x11 x12 false)) else (none))) else (none)) else (none))
def server_isSubsetMatchTokenized.j2 : Nat → List ByteArray → List ByteArray → Int → ByteArray → ByteArray → List ByteArray → Int → Int → Bool → Option (Bool)
 | 0, _, _, _, _, _, _, _, _, _ => none
 | k + 1, x0, x1, x5, x6, x8, x10, x11, x12, x48 => if x48 = true then (some false) else (if 0 < (x8.size : Int) then (if (bt x8 0) = 42 then (server_isSubsetMatchTokenized.j3 k x0 x1 x5 x6 x8 x10 x11 x12 ((x8.size : Int) == 1)) else (server_isSubsetMatchTokenized.j3 k x0 x1 x5 x6 x8 x10 x11 x12 false)) else (none))
def server_isSubsetMatchTokenized.j3 : Nat → List ByteArray → List ByteArray → Int → ByteArray → ByteArray → List ByteArray → Int → Int → Bool → Option (Bool)
 | 0, _, _, _, _, _, _, _, _, _ => none
 | k + 1, x0, x1, x5, x6, x8, x10, x11, x12, x56 => if x56 = true then (if 0 < (x6.size : Int) then (if (bt x6 0) = 42 then (server_isSubsetMatchTokenized.j4 k x0 x1 x5 ((x6.size : Int) == 1) x10 x11 x12) else (server_isSubsetMatchTokenized.j4 k x0 x1 x5 false x10 x11 x12)) else (none)) else (if 0 < (x6.size : Int) then (if (bt x6 0) = 42 then (server_isSubsetMatchTokenized.l0 k x0 x1 x10 x11 (wrap64 (x12 + 1))) else ((strings_Compare.f x8 x6).bind fun t218 => (if t218 = 0 then (server_isSubsetMatchTokenized.l0 k x0 x1 x10 x11 (wrap64 (x12 + 1))) else (some false)))) else (none))
def server_isSubsetMatchTokenized.j4 : Nat → List ByteArray → List ByteArray → Int → Bool → List ByteArray → Int → Int → Option (Bool)
 | 0, _, _, _, _, _, _, _ => none
 | k + 1, x0, x1, x5, x9, x10, x11, x12 => if x9 = true then (if x5 ≥ (x1.length : Int) then (some true) else (server_isSubsetMatchTokenized.l0 k x0 x1 x10 x11 (wrap64 (x12 + 1)))) else (some false)
end
def server_isSubsetMatchTokenized.f (k : Nat) (l0 : List ByteArray) (l1 : List ByteArray) : Option (Bool) := server_isSubsetMatchTokenized.l0 k l0 l1 l1 (l1.length : Int) 0
set_option maxHeartbeats 8000000 in
set_option maxRecDepth 100000 in
theorem server_isSubsetMatchTokenized.calls (k : Nat) (A0 : Option Addr) (c0 : Nat) (l0 : List ByteArray) (A1 : Option Addr) (c1 : Nat) (l1 : List ByteArray) (r : Bool) (w : World) (hr0 : Kd.C Kd.string w A0 l0.length l0) (hc0 : l0.length ≤ c0) (hr1 : Kd.C Kd.string w A1 l1.length l1) (hc1 : l1.length ≤ c1) (h : server_isSubsetMatchTokenized.f k l0 l1 = some r) :
  Calls Tryd.prog 61 #[.slice A0 l0.length c0, .slice A1 l1.length c1] w fun e w' => e = .returned (.bool r) ∧ Drawn0 w w' := by
 have HR0 := Aside0.mk hr0
 have HC0 := Aside0.mk hc0
 clear hr0 hc0
 have HR1 := Aside0.mk hr1
 have HC1 := Aside0.mk hc1
 clear hr1 hc1
 have H : (server_isSubsetMatchTokenized.l0 k l0 l1 l1 (l1.length : Int) 0) = some r := h
 clear h
 have H' := Aside0.mk H
 clear H
 go_enter Tryd.func61, Tryd.ntmps61
 go_wp2
 go_loopg [12] k (fun kq v12 w' => ∃ (x12_1 : Int), v12 = .int .i64 x12_1 ∧ Aside0 (server_isSubsetMatchTokenized.l0 kq l0 l1 l1 (l1.length : Int) x12_1 = some r) ∧ Aside0 (kq ≤ k) ∧ Drawn0 w w')
 case atStart => exact ⟨(0), (by first | rfl | (simp; done) | (simp [*]; done)), H', ⟨Nat.le_refl _⟩, by repeat (first | exact Drawn0.refl _ | apply Drawn0.step)⟩
 case round =>
  clear H'
  try clear c1
  try clear p2
  obtain ⟨x12_1, rfl, HA, HK1, ⟨m1, rfl⟩⟩ := hrel
  cases gk with
  | zero => exact absurd HA.out (by simp [server_isSubsetMatchTokenized.l0])
  | succ k1 =>
   have H := HA.out
   clear HA
   simp only [server_isSubsetMatchTokenized.l0] at H
   by_cases c3 : x12_1 < (l1.length : Int)
   ·
    rw [if_pos c3] at H
    have c3b0 : decide (x12_1 < (l1.length : Int)) = true := decide_eq_true c3
    clear c3
    by_cases c4 : 0 ≤ x12_1
    ·
     rw [if_pos c4] at H
     have c4b0 : decide (0 ≤ x12_1) = true := decide_eq_true c4
     clear c4
     by_cases c5 : x12_1 < (l1.length : Int)
     ·
      rw [if_pos c5] at H
      have c5b0 : decide (x12_1 < (l1.length : Int)) = true := decide_eq_true c5
      clear c5
      by_cases c6 : x12_1 ≥ (l0.length : Int)
      ·
       rw [if_pos c6] at H
       have c6b0 : decide ((l0.length : Int) ≤ x12_1) = true := decide_eq_true c6
       clear c6
       obtain rfl := Option.some.inj H
       have p216 : 0 ≤ (x12_1 : Int) := of_decide_eq_true (by first | (with_reducible assumption) | assumption)
       have q216 : x12_1 < (l1.length : Int) := of_decide_eq_true (by first | (with_reducible assumption) | assumption)
       obtain ⟨ad216, e216, hx216_0⟩ := Kd.at_string HR1.out x12_1 p216 q216
       cases e216
       replace p216 := eq_true p216
       replace q216 := eq_true q216
       go_wp2
       go_ret
       exact ⟨by first | rfl | (simp; done) | (simp [*]; done), by repeat (first | exact Drawn0.refl _ | apply Drawn0.step)⟩
      rw [if_neg c6] at H
      have c6b0 : decide ((l0.length : Int) ≤ x12_1) = false := decide_eq_false c6
      clear c6
      by_cases c7 : ((rdOf ByteArray.empty l1 x12_1).size : Int) = 0
      ·
       rw [if_pos c7] at H
       have c7b0 : (((rdOf ByteArray.empty l1 x12_1).size : Int) == 0) = true := beq_iff_eq.mpr c7
       have c7b1 : (((rdOf ByteArray.empty l1 x12_1).size : Int) != 0) = false := bne_eq_false_iff_eq.mpr c7
       clear c7
       obtain rfl := Option.some.inj H
       have p216 : 0 ≤ (x12_1 : Int) := of_decide_eq_true (by first | (with_reducible assumption) | assumption)
       have q216 : x12_1 < (l1.length : Int) := of_decide_eq_true (by first | (with_reducible assumption) | assumption)
       obtain ⟨ad216, e216, hx216_0⟩ := Kd.at_string HR1.out x12_1 p216 q216
       cases e216
       replace p216 := eq_true p216
       replace q216 := eq_true q216
       go_wp2
       go_ret
       exact ⟨by first | rfl | (simp; done) | (simp [*]; done), by repeat (first | exact Drawn0.refl _ | apply Drawn0.step)⟩
      rw [if_neg c7] at H
      have c7b0 : (((rdOf ByteArray.empty l1 x12_1).size : Int) == 0) = false := beq_eq_false_iff_ne.mpr c7
      have c7b1 : (((rdOf ByteArray.empty l1 x12_1).size : Int) != 0) = true := bne_iff_ne.mpr c7
      have HC8 := Aside0.mk H
      clear H
      have p216 : 0 ≤ (x12_1 : Int) := of_decide_eq_true (by first | (with_reducible assumption) | assumption)
      have q216 : x12_1 < (l1.length : Int) := of_decide_eq_true (by first | (with_reducible assumption) | assumption)
      obtain ⟨ad216, e216, hx216_0⟩ := Kd.at_string HR1.out x12_1 p216 q216
      cases e216
      replace p216 := eq_true p216
      replace q216 := eq_true q216
      go_upto_region 9 with (fail)
      go_cut [31] (fun v31 wc => ∃ (kq : Nat) (x31_7 : Bool), v31 = .bool x31_7 ∧ Aside0 (server_isSubsetMatchTokenized.j1 kq l0 l1 x12_1 (rdOf ByteArray.empty l1 x12_1) l1 (l1.length : Int) x12_1 x31_7 = some r) ∧ Aside0 (kq ≤ k1) ∧ Drawn0 w wc)
      case first =>
       have H := HC8.out
       clear HC8
       by_cases c9 : 0 < ((rdOf ByteArray.empty l1 x12_1).size : Int)
       ·
        rw [if_pos c9] at H
        have c9b0 : decide (0 < ((rdOf ByteArray.empty l1 x12_1).size : Int)) = true := decide_eq_true c9
        have c9b1 : decide (0 < (rdOf ByteArray.empty l1 x12_1).size) = true := decide_eq_true (by omega)
        clear c9
        (first | rw [c9b0] | (simp only [i64_w, i32_w]; rw [c9b0]) | skip)
        by_cases c11 : (bt (rdOf ByteArray.empty l1 x12_1) 0) = 62
        ·
         rw [if_pos c11] at H
         have c11b0 : ((bt (rdOf ByteArray.empty l1 x12_1) 0) == 62) = true := beq_iff_eq.mpr c11
         have c11b1 : ((bt (rdOf ByteArray.empty l1 x12_1) 0) != 62) = false := bne_eq_false_iff_eq.mpr c11
         clear c11
         have H' := Aside0.mk H
         clear H
         have p10 : 0 ≤ (0 : Int) := (by omega)
         have q10 : 0 < (rdOf ByteArray.empty l1 x12_1).size := (by have : (0 : Int) < ((rdOf ByteArray.empty l1 x12_1).size : Int) := of_decide_eq_true (by first | (with_reducible assumption) | assumption); omega)
         have hx10 : ∀ h : 0 < (rdOf ByteArray.empty l1 x12_1).size, (((rdOf ByteArray.empty l1 x12_1)[0]'h).toNat : Int) = bt (rdOf ByteArray.empty l1 x12_1) 0 := bt_at (rdOf ByteArray.empty l1 x12_1) 0
         clear p10
         have qi10 : (0 < ((rdOf ByteArray.empty l1 x12_1).size : Int)) = True := eq_true (of_decide_eq_true (by first | (with_reducible assumption) | assumption))
         replace q10 := eq_true q10
         go_wp2
         go_meet
         case rel => exact ⟨_, ((((rdOf ByteArray.empty l1 x12_1).size : Int) == 1)), (by first | rfl | (simp; done) | (simp [*]; done)), H', ⟨by have := HK1.out; first | omega | exact Nat.le_refl _⟩, by repeat (first | exact Drawn0.refl _ | apply Drawn0.step)⟩
        rw [if_neg c11] at H
        have c11b0 : ((bt (rdOf ByteArray.empty l1 x12_1) 0) == 62) = false := beq_eq_false_iff_ne.mpr c11
        have c11b1 : ((bt (rdOf ByteArray.empty l1 x12_1) 0) != 62) = true := bne_iff_ne.mpr c11
        have H' := Aside0.mk H
        clear H
        have p10 : 0 ≤ (0 : Int) := (by omega)
        have q10 : 0 < (rdOf ByteArray.empty l1 x12_1).size := (by have : (0 : Int) < ((rdOf ByteArray.empty l1 x12_1).size : Int) := of_decide_eq_true (by first | (with_reducible assumption) | assumption); omega)
        have hx10 : ∀ h : 0 < (rdOf ByteArray.empty l1 x12_1).size, (((rdOf ByteArray.empty l1 x12_1)[0]'h).toNat : Int) = bt (rdOf ByteArray.empty l1 x12_1) 0 := bt_at (rdOf ByteArray.empty l1 x12_1) 0
        clear p10
        have qi10 : (0 < ((rdOf ByteArray.empty l1 x12_1).size : Int)) = True := eq_true (of_decide_eq_true (by first | (with_reducible assumption) | assumption))
        replace q10 := eq_true q10
        go_wp2
        go_meet
        case rel => exact ⟨_, (false), (by first | rfl | (simp; done) | (simp [*]; done)), H', ⟨by have := HK1.out; first | omega | exact Nat.le_refl _⟩, by repeat (first | exact Drawn0.refl _ | apply Drawn0.step)⟩
       rw [if_neg c9] at H
       exact absurd H (by simp)
      case rest =>
       clear HC8
       try clear c1
       try clear p1
       try clear q1
       try clear hx1
       try clear qi1
       try clear p2
       try clear q2
       try clear hx2
       try clear c3
       try clear c3b0
       try clear c4
       try clear c4b0
       try clear c5
       try clear c5b0
       try clear c6
       try clear c6b0
       try clear c7
       try clear c7b0
       try clear c7b1
       try clear c9
       try clear c9b0
       try clear c9b1
       try clear p10
       try clear q10
       try clear hx10
       try clear qi10
       try clear c11
       try clear c11b0
       try clear c11b1
       try clear hx216_0
       try clear p10
       try clear p2
       try clear p216
       try clear q10
       try clear q216
       obtain ⟨kq, x31_7, rfl, HA, HJ7, ⟨mc7, rfl⟩⟩ := hcut
       cases kq with
       | zero => exact absurd HA.out (by simp [server_isSubsetMatchTokenized.j1])
       | succ kj7 =>
        have H := HA.out
        clear HA
        simp only [server_isSubsetMatchTokenized.j1] at H
        by_cases c12 : x31_7 = true
        ·
         subst c12
         have H1 : (some true) = some r := by rw [if_pos rfl] at H; exact H
         clear H
         have H := H1
         clear H1
         obtain rfl := Option.some.inj H
         go_wp2
         go_ret
         exact ⟨by first | rfl | (simp; done) | (simp [*]; done), by repeat (first | exact Drawn0.refl _ | apply Drawn0.step)⟩
        replace c12 := Bool.eq_false_iff.mpr c12
        subst c12
        have H1 : (if 0 ≤ x12_1 then (if x12_1 < (l0.length : Int) then (if ((rdOf ByteArray.empty l0 x12_1).size : Int) = 0 then (server_isSubsetMatchTokenized.j2 kj7 l0 l1 x12_1 (rdOf ByteArray.empty l1 x12_1) (rdOf ByteArray.empty l0 x12_1) l1 (l1.length : Int) x12_1 true) else (if 0 < ((rdOf ByteArray.empty l0 x12_1).size : Int) then (if (bt (rdOf ByteArray.empty l0 x12_1) 0) = 62 then (server_isSubsetMatchTokenized.j2 kj7 l0 l1 x12_1 (rdOf ByteArray.empty l1 x12_1) (rdOf ByteArray.empty l0 x12_1) l1 (l1.length : Int) x12_1 (((rdOf ByteArray.empty l0 x12_1).size : Int) == 1)) else (server_isSubsetMatchTokenized.j2 kj7 l0 l1 x12_1 (rdOf ByteArray.empty l1 x12_1) (rdOf ByteArray.empty l0 x12_1) l1 (l1.length : Int) x12_1 false)) else (none))) else (none)) else (none)) = some r := by rw [if_neg (show ¬ (false = true) by decide)] at H; exact H
        clear H
        have H := H1
        clear H1
        by_cases c13 : 0 ≤ x12_1
        ·
         rw [if_pos c13] at H
         have c13b0 : decide (0 ≤ x12_1) = true := decide_eq_true c13
         clear c13
         by_cases c14 : x12_1 < (l0.length : Int)
         ·
          rw [if_pos c14] at H
          have c14b0 : decide (x12_1 < (l0.length : Int)) = true := decide_eq_true c14
          clear c14
          have HC15 := Aside0.mk H
          clear H
          have p217 : 0 ≤ (x12_1 : Int) := of_decide_eq_true (by first | (with_reducible assumption) | assumption)
          have q217 : x12_1 < (l0.length : Int) := of_decide_eq_true (by first | (with_reducible assumption) | assumption)
          obtain ⟨ad217, e217, hx217_0⟩ := Kd.at_string HR0.out x12_1 p217 q217
          cases e217
          replace p217 := eq_true p217
          replace q217 := eq_true q217
          go_upto_region 13 with (fail)
          go_cut [48] (fun v48 wc => ∃ (kq : Nat) (x48_14 : Bool), v48 = .bool x48_14 ∧ Aside0 (server_isSubsetMatchTokenized.j2 kq l0 l1 x12_1 (rdOf ByteArray.empty l1 x12_1) (rdOf ByteArray.empty l0 x12_1) l1 (l1.length : Int) x12_1 x48_14 = some r) ∧ Aside0 (kq ≤ kj7) ∧ Drawn0 w wc)
          case first =>
           have H := HC15.out
           clear HC15
           by_cases c16 : ((rdOf ByteArray.empty l0 x12_1).size : Int) = 0
           ·
            rw [if_pos c16] at H
            have c16b0 : (((rdOf ByteArray.empty l0 x12_1).size : Int) == 0) = true := beq_iff_eq.mpr c16
            have c16b1 : (((rdOf ByteArray.empty l0 x12_1).size : Int) != 0) = false := bne_eq_false_iff_eq.mpr c16
            clear c16
            (first | rw [c16b0] | (simp only [i64_w, i32_w]; rw [c16b0]) | skip)
            have H' := Aside0.mk H
            clear H
            go_wp2
            go_meet
            case rel => exact ⟨_, (true), (by first | rfl | (simp; done) | (simp [*]; done)), H', ⟨by have := HK1.out; have := HJ7.out; first | omega | exact Nat.le_refl _⟩, by repeat (first | exact Drawn0.refl _ | apply Drawn0.step)⟩
           rw [if_neg c16] at H
           have c16b0 : (((rdOf ByteArray.empty l0 x12_1).size : Int) == 0) = false := beq_eq_false_iff_ne.mpr c16
           have c16b1 : (((rdOf ByteArray.empty l0 x12_1).size : Int) != 0) = true := bne_iff_ne.mpr c16
           (first | rw [c16b0] | (simp only [i64_w, i32_w]; rw [c16b0]) | skip)
           by_cases c17 : 0 < ((rdOf ByteArray.empty l0 x12_1).size : Int)
           ·
            rw [if_pos c17] at H
            have c17b0 : decide (0 < ((rdOf ByteArray.empty l0 x12_1).size : Int)) = true := decide_eq_true c17
            have c17b1 : decide (0 < (rdOf ByteArray.empty l0 x12_1).size) = true := decide_eq_true (by omega)
            clear c17
            by_cases c19 : (bt (rdOf ByteArray.empty l0 x12_1) 0) = 62
            ·
             rw [if_pos c19] at H
             have c19b0 : ((bt (rdOf ByteArray.empty l0 x12_1) 0) == 62) = true := beq_iff_eq.mpr c19
             have c19b1 : ((bt (rdOf ByteArray.empty l0 x12_1) 0) != 62) = false := bne_eq_false_iff_eq.mpr c19
             clear c19
             have H' := Aside0.mk H
             clear H
             have p18 : 0 ≤ (0 : Int) := (by omega)
             have q18 : 0 < (rdOf ByteArray.empty l0 x12_1).size := (by have : (0 : Int) < ((rdOf ByteArray.empty l0 x12_1).size : Int) := of_decide_eq_true (by first | (with_reducible assumption) | assumption); omega)
             have hx18 : ∀ h : 0 < (rdOf ByteArray.empty l0 x12_1).size, (((rdOf ByteArray.empty l0 x12_1)[0]'h).toNat : Int) = bt (rdOf ByteArray.empty l0 x12_1) 0 := bt_at (rdOf ByteArray.empty l0 x12_1) 0
             clear p18
             have qi18 : (0 < ((rdOf ByteArray.empty l0 x12_1).size : Int)) = True := eq_true (of_decide_eq_true (by first | (with_reducible assumption) | assumption))
             replace q18 := eq_true q18
             go_wp2
             go_meet
             case rel => exact ⟨_, ((((rdOf ByteArray.empty l0 x12_1).size : Int) == 1)), (by first | rfl | (simp; done) | (simp [*]; done)), H', ⟨by have := HK1.out; have := HJ7.out; first | omega | exact Nat.le_refl _⟩, by repeat (first | exact Drawn0.refl _ | apply Drawn0.step)⟩
            rw [if_neg c19] at H
            have c19b0 : ((bt (rdOf ByteArray.empty l0 x12_1) 0) == 62) = false := beq_eq_false_iff_ne.mpr c19
            have c19b1 : ((bt (rdOf ByteArray.empty l0 x12_1) 0) != 62) = true := bne_iff_ne.mpr c19
            have H' := Aside0.mk H
            clear H
            have p18 : 0 ≤ (0 : Int) := (by omega)
            have q18 : 0 < (rdOf ByteArray.empty l0 x12_1).size := (by have : (0 : Int) < ((rdOf ByteArray.empty l0 x12_1).size : Int) := of_decide_eq_true (by first | (with_reducible assumption) | assumption); omega)
            have hx18 : ∀ h : 0 < (rdOf ByteArray.empty l0 x12_1).size, (((rdOf ByteArray.empty l0 x12_1)[0]'h).toNat : Int) = bt (rdOf ByteArray.empty l0 x12_1) 0 := bt_at (rdOf ByteArray.empty l0 x12_1) 0
            clear p18
            have qi18 : (0 < ((rdOf ByteArray.empty l0 x12_1).size : Int)) = True := eq_true (of_decide_eq_true (by first | (with_reducible assumption) | assumption))
            replace q18 := eq_true q18
            go_wp2
            go_meet
            case rel => exact ⟨_, (false), (by first | rfl | (simp; done) | (simp [*]; done)), H', ⟨by have := HK1.out; have := HJ7.out; first | omega | exact Nat.le_refl _⟩, by repeat (first | exact Drawn0.refl _ | apply Drawn0.step)⟩
           rw [if_neg c17] at H
           exact absurd H (by simp)
          case rest =>
           clear HC15
           try clear c1
           try clear p1
           try clear q1
           try clear hx1
           try clear qi1
           try clear p2
           try clear q2
           try clear hx2
           try clear c3
           try clear c3b0
           try clear c4
           try clear c4b0
           try clear c5
           try clear c5b0
           try clear c6
           try clear c6b0
           try clear c7
           try clear c7b0
           try clear c7b1
           try clear c9
           try clear c9b0
           try clear c9b1
           try clear p10
           try clear q10
           try clear hx10
           try clear qi10
           try clear c11
           try clear c11b0
           try clear c11b1
           try clear c12
           try clear c13
           try clear c13b0
           try clear c14
           try clear c14b0
           try clear c16
           try clear c16b0
           try clear c16b1
           try clear c17
           try clear c17b0
           try clear c17b1
           try clear p18
           try clear q18
           try clear hx18
           try clear qi18
           try clear c19
           try clear c19b0
           try clear c19b1
           try clear hx216_0
           try clear hx217_0
           try clear p1
           try clear p10
           try clear p18
           try clear p2
           try clear p216
           try clear p217
           try clear q1
           try clear q10
           try clear q18
           try clear q2
           try clear q216
           try clear q217
           obtain ⟨kq, x48_14, rfl, HA, HJ14, ⟨mc14, rfl⟩⟩ := hcut
           cases kq with
           | zero => exact absurd HA.out (by simp [server_isSubsetMatchTokenized.j2])
           | succ kj14 =>
            have H := HA.out
            clear HA
            simp only [server_isSubsetMatchTokenized.j2] at H
            by_cases c20 : x48_14 = true
            ·
             subst c20
             have H1 : (some false) = some r := by rw [if_pos rfl] at H; exact H
             clear H
             have H := H1
             clear H1
             obtain rfl := Option.some.inj H
             go_wp2
             go_ret
             exact ⟨by first | rfl | (simp; done) | (simp [*]; done), by repeat (first | exact Drawn0.refl _ | apply Drawn0.step)⟩
            replace c20 := Bool.eq_false_iff.mpr c20
            subst c20
            have H1 : (if 0 < ((rdOf ByteArray.empty l0 x12_1).size : Int) then (if (bt (rdOf ByteArray.empty l0 x12_1) 0) = 42 then (server_isSubsetMatchTokenized.j3 kj14 l0 l1 x12_1 (rdOf ByteArray.empty l1 x12_1) (rdOf ByteArray.empty l0 x12_1) l1 (l1.length : Int) x12_1 (((rdOf ByteArray.empty l0 x12_1).size : Int) == 1)) else (server_isSubsetMatchTokenized.j3 kj14 l0 l1 x12_1 (rdOf ByteArray.empty l1 x12_1) (rdOf ByteArray.empty l0 x12_1) l1 (l1.length : Int) x12_1 false)) else (none)) = some r := by rw [if_neg (show ¬ (false = true) by decide)] at H; exact H
            clear H
            have H := H1
            clear H1
            have HC21 := Aside0.mk H
            clear H
            go_upto_region 15 with (fail)
            go_cut [56] (fun v56 wc => ∃ (kq : Nat) (x56_20 : Bool), v56 = .bool x56_20 ∧ Aside0 (server_isSubsetMatchTokenized.j3 kq l0 l1 x12_1 (rdOf ByteArray.empty l1 x12_1) (rdOf ByteArray.empty l0 x12_1) l1 (l1.length : Int) x12_1 x56_20 = some r) ∧ Aside0 (kq ≤ kj14) ∧ Drawn0 w wc)
            case first =>
             have H := HC21.out
             clear HC21
             by_cases c22 : 0 < ((rdOf ByteArray.empty l0 x12_1).size : Int)
             ·
              rw [if_pos c22] at H
              have c22b0 : decide (0 < ((rdOf ByteArray.empty l0 x12_1).size : Int)) = true := decide_eq_true c22
              have c22b1 : decide (0 < (rdOf ByteArray.empty l0 x12_1).size) = true := decide_eq_true (by omega)
              clear c22
              (first | rw [c22b0] | (simp only [i64_w, i32_w]; rw [c22b0]) | skip)
              by_cases c24 : (bt (rdOf ByteArray.empty l0 x12_1) 0) = 42
              ·
               rw [if_pos c24] at H
               have c24b0 : ((bt (rdOf ByteArray.empty l0 x12_1) 0) == 42) = true := beq_iff_eq.mpr c24
               have c24b1 : ((bt (rdOf ByteArray.empty l0 x12_1) 0) != 42) = false := bne_eq_false_iff_eq.mpr c24
               clear c24
               have H' := Aside0.mk H
               clear H
               have p23 : 0 ≤ (0 : Int) := (by omega)
               have q23 : 0 < (rdOf ByteArray.empty l0 x12_1).size := (by have : (0 : Int) < ((rdOf ByteArray.empty l0 x12_1).size : Int) := of_decide_eq_true (by first | (with_reducible assumption) | assumption); omega)
               have hx23 : ∀ h : 0 < (rdOf ByteArray.empty l0 x12_1).size, (((rdOf ByteArray.empty l0 x12_1)[0]'h).toNat : Int) = bt (rdOf ByteArray.empty l0 x12_1) 0 := bt_at (rdOf ByteArray.empty l0 x12_1) 0
               clear p23
               have qi23 : (0 < ((rdOf ByteArray.empty l0 x12_1).size : Int)) = True := eq_true (of_decide_eq_true (by first | (with_reducible assumption) | assumption))
               replace q23 := eq_true q23
               go_wp2
               go_meet
               case rel => exact ⟨_, ((((rdOf ByteArray.empty l0 x12_1).size : Int) == 1)), (by first | rfl | (simp; done) | (simp [*]; done)), H', ⟨by have := HK1.out; have := HJ7.out; have := HJ14.out; first | omega | exact Nat.le_refl _⟩, by repeat (first | exact Drawn0.refl _ | apply Drawn0.step)⟩
              rw [if_neg c24] at H
              have c24b0 : ((bt (rdOf ByteArray.empty l0 x12_1) 0) == 42) = false := beq_eq_false_iff_ne.mpr c24
              have c24b1 : ((bt (rdOf ByteArray.empty l0 x12_1) 0) != 42) = true := bne_iff_ne.mpr c24
              have H' := Aside0.mk H
              clear H
              have p23 : 0 ≤ (0 : Int) := (by omega)
              have q23 : 0 < (rdOf ByteArray.empty l0 x12_1).size := (by have : (0 : Int) < ((rdOf ByteArray.empty l0 x12_1).size : Int) := of_decide_eq_true (by first | (with_reducible assumption) | assumption); omega)
              have hx23 : ∀ h : 0 < (rdOf ByteArray.empty l0 x12_1).size, (((rdOf ByteArray.empty l0 x12_1)[0]'h).toNat : Int) = bt (rdOf ByteArray.empty l0 x12_1) 0 := bt_at (rdOf ByteArray.empty l0 x12_1) 0
              clear p23
              have qi23 : (0 < ((rdOf ByteArray.empty l0 x12_1).size : Int)) = True := eq_true (of_decide_eq_true (by first | (with_reducible assumption) | assumption))
              replace q23 := eq_true q23
              go_wp2
              go_meet
              case rel => exact ⟨_, (false), (by first | rfl | (simp; done) | (simp [*]; done)), H', ⟨by have := HK1.out; have := HJ7.out; have := HJ14.out; first | omega | exact Nat.le_refl _⟩, by repeat (first | exact Drawn0.refl _ | apply Drawn0.step)⟩
             rw [if_neg c22] at H
             exact absurd H (by simp)
            case rest =>
             clear HC21
             try clear c1
             try clear p1
             try clear q1
             try clear hx1
             try clear qi1
             try clear c2
             try clear p2
             try clear q2
             try clear hx2
             try clear qi2
             try clear c3
             try clear c3b0
             try clear c4
             try clear c4b0
             try clear c5
             try clear c5b0
             try clear c6
             try clear c6b0
             try clear c7
             try clear c7b0
             try clear c7b1
             try clear c9
             try clear c9b0
             try clear c9b1
             try clear p10
             try clear q10
             try clear hx10
             try clear qi10
             try clear c11
             try clear c11b0
             try clear c11b1
             try clear c12
             try clear c13
             try clear c13b0
             try clear c14
             try clear c14b0
             try clear c16
             try clear c16b0
             try clear c16b1
             try clear c17
             try clear c17b0
             try clear c17b1
             try clear p18
             try clear q18
             try clear hx18
             try clear qi18
             try clear c19
             try clear c19b0
             try clear c19b1
             try clear c20
             try clear p21
             try clear q21
             try clear hx21
             try clear c22
             try clear c22b0
             try clear c22b1
             try clear p23
             try clear q23
             try clear hx23
             try clear qi23
             try clear c24
             try clear c24b0
             try clear c24b1
             try clear hx216_0
             try clear hx217_0
             try clear p1
             try clear p10
             try clear p18
             try clear p2
             try clear p216
             try clear p217
             try clear p23
             try clear q1
             try clear q10
             try clear q18
             try clear q2
             try clear q216
             try clear q217
             try clear q23
             obtain ⟨kq, x56_20, rfl, HA, HJ20, ⟨mc20, rfl⟩⟩ := hcut
             cases kq with
             | zero => exact absurd HA.out (by simp [server_isSubsetMatchTokenized.j3])
             | succ kj20 =>
              have H := HA.out
              clear HA
              simp only [server_isSubsetMatchTokenized.j3] at H
              by_cases c25 : x56_20 = true
              ·
               subst c25
               have H1 : (if 0 < ((rdOf ByteArray.empty l1 x12_1).size : Int) then (if (bt (rdOf ByteArray.empty l1 x12_1) 0) = 42 then (server_isSubsetMatchTokenized.j4 kj20 l0 l1 x12_1 (((rdOf ByteArray.empty l1 x12_1).size : Int) == 1) l1 (l1.length : Int) x12_1) else (server_isSubsetMatchTokenized.j4 kj20 l0 l1 x12_1 false l1 (l1.length : Int) x12_1)) else (none)) = some r := by rw [if_pos rfl] at H; exact H
               clear H
               have H := H1
               clear H1
               have HC26 := Aside0.mk H
               clear H
               go_upto_region 16 with (fail)
               go_cut [9] (fun v9 wc => ∃ (kq : Nat) (x9_25 : Bool), v9 = .bool x9_25 ∧ Aside0 (server_isSubsetMatchTokenized.j4 kq l0 l1 x12_1 x9_25 l1 (l1.length : Int) x12_1 = some r) ∧ Aside0 (kq ≤ kj20) ∧ Drawn0 w wc)
               case first =>
                have H := HC26.out
                clear HC26
                by_cases c27 : 0 < ((rdOf ByteArray.empty l1 x12_1).size : Int)
                ·
                 rw [if_pos c27] at H
                 have c27b0 : decide (0 < ((rdOf ByteArray.empty l1 x12_1).size : Int)) = true := decide_eq_true c27
                 have c27b1 : decide (0 < (rdOf ByteArray.empty l1 x12_1).size) = true := decide_eq_true (by omega)
                 clear c27
                 (first | rw [c27b0] | (simp only [i64_w, i32_w]; rw [c27b0]) | skip)
                 by_cases c29 : (bt (rdOf ByteArray.empty l1 x12_1) 0) = 42
                 ·
                  rw [if_pos c29] at H
                  have c29b0 : ((bt (rdOf ByteArray.empty l1 x12_1) 0) == 42) = true := beq_iff_eq.mpr c29
                  have c29b1 : ((bt (rdOf ByteArray.empty l1 x12_1) 0) != 42) = false := bne_eq_false_iff_eq.mpr c29
                  clear c29
                  have H' := Aside0.mk H
                  clear H
                  have p28 : 0 ≤ (0 : Int) := (by omega)
                  have q28 : 0 < (rdOf ByteArray.empty l1 x12_1).size := (by have : (0 : Int) < ((rdOf ByteArray.empty l1 x12_1).size : Int) := of_decide_eq_true (by first | (with_reducible assumption) | assumption); omega)
                  have hx28 : ∀ h : 0 < (rdOf ByteArray.empty l1 x12_1).size, (((rdOf ByteArray.empty l1 x12_1)[0]'h).toNat : Int) = bt (rdOf ByteArray.empty l1 x12_1) 0 := bt_at (rdOf ByteArray.empty l1 x12_1) 0
                  clear p28
                  have qi28 : (0 < ((rdOf ByteArray.empty l1 x12_1).size : Int)) = True := eq_true (of_decide_eq_true (by first | (with_reducible assumption) | assumption))
                  replace q28 := eq_true q28
                  go_wp2
                  go_meet
                  case rel => exact ⟨_, ((((rdOf ByteArray.empty l1 x12_1).size : Int) == 1)), (by first | rfl | (simp; done) | (simp [*]; done)), H', ⟨by have := HK1.out; have := HJ7.out; have := HJ14.out; have := HJ20.out; first | omega | exact Nat.le_refl _⟩, by repeat (first | exact Drawn0.refl _ | apply Drawn0.step)⟩
                 rw [if_neg c29] at H
                 have c29b0 : ((bt (rdOf ByteArray.empty l1 x12_1) 0) == 42) = false := beq_eq_false_iff_ne.mpr c29
                 have c29b1 : ((bt (rdOf ByteArray.empty l1 x12_1) 0) != 42) = true := bne_iff_ne.mpr c29
                 have H' := Aside0.mk H
                 clear H
                 have p28 : 0 ≤ (0 : Int) := (by omega)
                 have q28 : 0 < (rdOf ByteArray.empty l1 x12_1).size := (by have : (0 : Int) < ((rdOf ByteArray.empty l1 x12_1).size : Int) := of_decide_eq_true (by first | (with_reducible assumption) | assumption); omega)
                 have hx28 : ∀ h : 0 < (rdOf ByteArray.empty l1 x12_1).size, (((rdOf ByteArray.empty l1 x12_1)[0]'h).toNat : Int) = bt (rdOf ByteArray.empty l1 x12_1) 0 := bt_at (rdOf ByteArray.empty l1 x12_1) 0
                 clear p28
                 have qi28 : (0 < ((rdOf ByteArray.empty l1 x12_1).size : Int)) = True := eq_true (of_decide_eq_true (by first | (with_reducible assumption) | assumption))
                 replace q28 := eq_true q28
                 go_wp2
                 go_meet
                 case rel => exact ⟨_, (false), (by first | rfl | (simp; done) | (simp [*]; done)), H', ⟨by have := HK1.out; have := HJ7.out; have := HJ14.out; have := HJ20.out; first | omega | exact Nat.le_refl _⟩, by repeat (first | exact Drawn0.refl _ | apply Drawn0.step)⟩
                rw [if_neg c27] at H
                exact absurd H (by simp)
               case rest =>
                clear HC26
                try clear c1
                try clear p1
                try clear q1
                try clear hx1
                try clear qi1
                try clear c2
                try clear p2
                try clear q2
                try clear hx2
                try clear qi2
                try clear c3
                try clear c3b0
                try clear c4
                try clear c4b0
                try clear c5
                try clear c5b0
                try clear c6
                try clear c6b0
                try clear c7
                try clear c7b0
                try clear c7b1
                try clear c9
                try clear c9b0
                try clear c9b1
                try clear p10
                try clear q10
                try clear hx10
                try clear qi10
                try clear c11
                try clear c11b0
                try clear c11b1
                try clear c12
                try clear c13
                try clear c13b0
                try clear c14
                try clear c14b0
                try clear c16
                try clear c16b0
                try clear c16b1
                try clear c17
                try clear c17b0
                try clear c17b1
                try clear p18
                try clear q18
                try clear hx18
                try clear qi18
                try clear c19
                try clear c19b0
                try clear c19b1
                try clear c20
                try clear p21
                try clear q21
                try clear hx21
                try clear c22
                try clear c22b0
                try clear c22b1
                try clear p23
                try clear q23
                try clear hx23
                try clear qi23
                try clear c24
                try clear c24b0
                try clear c24b1
                try clear c25
                try clear c27
                try clear c27b0
                try clear c27b1
                try clear p28
                try clear q28
                try clear hx28
                try clear qi28
                try clear c29
                try clear c29b0
                try clear c29b1
                try clear hx216_0
                try clear hx217_0
                try clear p1
                try clear p10
                try clear p18
                try clear p2
                try clear p21
                try clear p216
                try clear p217
                try clear p23
                try clear p28
                try clear q1
                try clear q10
                try clear q18
                try clear q2
                try clear q21
                try clear q216
                try clear q217
                try clear q23
                try clear q28
                obtain ⟨kq, x9_25, rfl, HA, HJ25, ⟨mc25, rfl⟩⟩ := hcut
                cases kq with
                | zero => exact absurd HA.out (by simp [server_isSubsetMatchTokenized.j4])
                | succ kj25 =>
                 have H := HA.out
                 clear HA
                 simp only [server_isSubsetMatchTokenized.j4] at H
                 by_cases c30 : x9_25 = true
                 ·
                  subst c30
                  have H1 : (if x12_1 ≥ (l1.length : Int) then (some true) else (server_isSubsetMatchTokenized.l0 kj25 l0 l1 l1 (l1.length : Int) (wrap64 (x12_1 + 1)))) = some r := by rw [if_pos rfl] at H; exact H
                  clear H
                  have H := H1
                  clear H1
                  by_cases c31 : x12_1 ≥ (l1.length : Int)
                  ·
                   rw [if_pos c31] at H
                   have c31b0 : decide ((l1.length : Int) ≤ x12_1) = true := decide_eq_true c31
                   clear c31
                   obtain rfl := Option.some.inj H
                   go_wp2
                   go_ret
                   exact ⟨by first | rfl | (simp; done) | (simp [*]; done), by repeat (first | exact Drawn0.refl _ | apply Drawn0.step)⟩
                  rw [if_neg c31] at H
                  have c31b0 : decide ((l1.length : Int) ≤ x12_1) = false := decide_eq_false c31
                  clear c31
                  have H' := Aside0.mk H
                  clear H
                  go_wp2
                  go_roundg kj25
                  case measure => have := HK1.out; have := HJ7.out; have := HJ14.out; have := HJ20.out; have := HJ25.out; omega
                  case rel => exact ⟨(wrap64 (x12_1 + 1)), (by first | rfl | (simp; done) | (simp [*]; done)), H', ⟨by have := HK1.out; have := HJ7.out; have := HJ14.out; have := HJ20.out; have := HJ25.out; omega⟩, by repeat (first | exact Drawn0.refl _ | apply Drawn0.step)⟩
                 replace c30 := Bool.eq_false_iff.mpr c30
                 subst c30
                 have H1 : (some false) = some r := by rw [if_neg (show ¬ (false = true) by decide)] at H; exact H
                 clear H
                 have H := H1
                 clear H1
                 obtain rfl := Option.some.inj H
                 go_wp2
                 go_ret
                 exact ⟨by first | rfl | (simp; done) | (simp [*]; done), by repeat (first | exact Drawn0.refl _ | apply Drawn0.step)⟩
              replace c25 := Bool.eq_false_iff.mpr c25
              subst c25
              have H1 : (if 0 < ((rdOf ByteArray.empty l1 x12_1).size : Int) then (if (bt (rdOf ByteArray.empty l1 x12_1) 0) = 42 then (server_isSubsetMatchTokenized.l0 kj20 l0 l1 l1 (l1.length : Int) (wrap64 (x12_1 + 1))) else ((strings_Compare.f (rdOf ByteArray.empty l0 x12_1) (rdOf ByteArray.empty l1 x12_1)).bind fun t218 => (if t218 = 0 then (server_isSubsetMatchTokenized.l0 kj20 l0 l1 l1 (l1.length : Int) (wrap64 (x12_1 + 1))) else (some false)))) else (none)) = some r := by rw [if_neg (show ¬ (false = true) by decide)] at H; exact H
              clear H
              have H := H1
              clear H1
              by_cases c32 : 0 < ((rdOf ByteArray.empty l1 x12_1).size : Int)
              ·
               rw [if_pos c32] at H
               have c32b0 : decide (0 < ((rdOf ByteArray.empty l1 x12_1).size : Int)) = true := decide_eq_true c32
               have c32b1 : decide (0 < (rdOf ByteArray.empty l1 x12_1).size) = true := decide_eq_true (by omega)
               clear c32
               by_cases c34 : (bt (rdOf ByteArray.empty l1 x12_1) 0) = 42
               ·
                rw [if_pos c34] at H
                have c34b0 : ((bt (rdOf ByteArray.empty l1 x12_1) 0) == 42) = true := beq_iff_eq.mpr c34
                have c34b1 : ((bt (rdOf ByteArray.empty l1 x12_1) 0) != 42) = false := bne_eq_false_iff_eq.mpr c34
                clear c34
                have H' := Aside0.mk H
                clear H
                have p33 : 0 ≤ (0 : Int) := (by omega)
                have q33 : 0 < (rdOf ByteArray.empty l1 x12_1).size := (by have : (0 : Int) < ((rdOf ByteArray.empty l1 x12_1).size : Int) := of_decide_eq_true (by first | (with_reducible assumption) | assumption); omega)
                have hx33 : ∀ h : 0 < (rdOf ByteArray.empty l1 x12_1).size, (((rdOf ByteArray.empty l1 x12_1)[0]'h).toNat : Int) = bt (rdOf ByteArray.empty l1 x12_1) 0 := bt_at (rdOf ByteArray.empty l1 x12_1) 0
                clear p33
                have qi33 : (0 < ((rdOf ByteArray.empty l1 x12_1).size : Int)) = True := eq_true (of_decide_eq_true (by first | (with_reducible assumption) | assumption))
                replace q33 := eq_true q33
                go_wp2
                go_roundg kj20
                case measure => have := HK1.out; have := HJ7.out; have := HJ14.out; have := HJ20.out; omega
                case rel => exact ⟨(wrap64 (x12_1 + 1)), (by first | rfl | (simp; done) | (simp [*]; done)), H', ⟨by have := HK1.out; have := HJ7.out; have := HJ14.out; have := HJ20.out; omega⟩, by repeat (first | exact Drawn0.refl _ | apply Drawn0.step)⟩
               rw [if_neg c34] at H
               have c34b0 : ((bt (rdOf ByteArray.empty l1 x12_1) 0) == 42) = false := beq_eq_false_iff_ne.mpr c34
               have c34b1 : ((bt (rdOf ByteArray.empty l1 x12_1) 0) != 42) = true := bne_iff_ne.mpr c34
               replace H := Option.bind_eq_some_iff.mp H
               obtain ⟨t218, A350, H⟩ := H
               replace H : (if t218 = 0 then (server_isSubsetMatchTokenized.l0 kj20 l0 l1 l1 (l1.length : Int) (wrap64 (x12_1 + 1))) else (some false)) = some r := H
               have A35 := Aside0.mk A350
               clear A350
               by_cases c36 : t218 = 0
               ·
                rw [if_pos c36] at H
                have c36b0 : (t218 == 0) = true := beq_iff_eq.mpr c36
                have c36b1 : (t218 != 0) = false := bne_eq_false_iff_eq.mpr c36
                clear c36
                have H' := Aside0.mk H
                clear H
                have p33 : 0 ≤ (0 : Int) := (by omega)
                have q33 : 0 < (rdOf ByteArray.empty l1 x12_1).size := (by have : (0 : Int) < ((rdOf ByteArray.empty l1 x12_1).size : Int) := of_decide_eq_true (by first | (with_reducible assumption) | assumption); omega)
                have hx33 : ∀ h : 0 < (rdOf ByteArray.empty l1 x12_1).size, (((rdOf ByteArray.empty l1 x12_1)[0]'h).toNat : Int) = bt (rdOf ByteArray.empty l1 x12_1) 0 := bt_at (rdOf ByteArray.empty l1 x12_1) 0
                clear p33
                have qi33 : (0 < ((rdOf ByteArray.empty l1 x12_1).size : Int)) = True := eq_true (of_decide_eq_true (by first | (with_reducible assumption) | assumption))
                replace q33 := eq_true q33
                go_wp2_with (first | (go_at_call 71; (with_reducible refine (strings_Compare.calls (rdOf ByteArray.empty l0 x12_1) (rdOf ByteArray.empty l1 x12_1) t218 _ A35.out).mono ?_); rintro e w' ⟨rfl, ⟨nd, rfl⟩⟩))
                go_roundg kj20
                case measure => have := HK1.out; have := HJ7.out; have := HJ14.out; have := HJ20.out; omega
                case rel => exact ⟨(wrap64 (x12_1 + 1)), (by first | rfl | (simp; done) | (simp [*]; done)), H', ⟨by have := HK1.out; have := HJ7.out; have := HJ14.out; have := HJ20.out; omega⟩, by repeat (first | exact Drawn0.refl _ | apply Drawn0.step)⟩
               rw [if_neg c36] at H
               have c36b0 : (t218 == 0) = false := beq_eq_false_iff_ne.mpr c36
               have c36b1 : (t218 != 0) = true := bne_iff_ne.mpr c36
               obtain rfl := Option.some.inj H
               have p33 : 0 ≤ (0 : Int) := (by omega)
               have q33 : 0 < (rdOf ByteArray.empty l1 x12_1).size := (by have : (0 : Int) < ((rdOf ByteArray.empty l1 x12_1).size : Int) := of_decide_eq_true (by first | (with_reducible assumption) | assumption); omega)
               have hx33 : ∀ h : 0 < (rdOf ByteArray.empty l1 x12_1).size, (((rdOf ByteArray.empty l1 x12_1)[0]'h).toNat : Int) = bt (rdOf ByteArray.empty l1 x12_1) 0 := bt_at (rdOf ByteArray.empty l1 x12_1) 0
               clear p33
               have qi33 : (0 < ((rdOf ByteArray.empty l1 x12_1).size : Int)) = True := eq_true (of_decide_eq_true (by first | (with_reducible assumption) | assumption))
               replace q33 := eq_true q33
               go_wp2_with (first | (go_at_call 71; (with_reducible refine (strings_Compare.calls (rdOf ByteArray.empty l0 x12_1) (rdOf ByteArray.empty l1 x12_1) t218 _ A35.out).mono ?_); rintro e w' ⟨rfl, ⟨nd, rfl⟩⟩))
               go_ret
               exact ⟨by first | rfl | (simp; done) | (simp [*]; done), by repeat (first | exact Drawn0.refl _ | apply Drawn0.step)⟩
              rw [if_neg c32] at H
              exact absurd H (by simp)
         rw [if_neg c14] at H
         exact absurd H (by simp)
        rw [if_neg c13] at H
        exact absurd H (by simp)
     rw [if_neg c5] at H
     exact absurd H (by simp)
    rw [if_neg c4] at H
    exact absurd H (by simp)
   rw [if_neg c3] at H
   have c3b0 : decide (x12_1 < (l1.length : Int)) = false := decide_eq_false c3
   clear c3
   obtain rfl := Option.some.inj H
   go_wp2
   go_ret
   exact ⟨by first | rfl | (simp; done) | (simp [*]; done), by repeat (first | exact Drawn0.refl _ | apply Drawn0.step)⟩
set_option maxHeartbeats 8000000 in
set_option maxRecDepth 100000 in
theorem server_tokenizeSubjectIntoSlice.onto (k : Nat) (l0 : List ByteArray) (a1 : ByteArray) (r : List ByteArray) (w0 w : World) (v : Value) (hB : Below w0.heap.size w0 w) (ho : Wk.AR w w0.heap.size v (l0.map Value.string)) (h : server_tokenizeSubjectIntoSlice.f k l0 a1 = some r) :
  Calls Tryd.prog 60 #[v, .string a1] w fun e w' => ∃ v' : Value, e = .returned v' ∧ Wk.AR w' w0.heap.size v' (r.map Value.string) ∧ Below w0.heap.size w0 w' ∧ Wk.Fr w v w' ∧ (v'.ownBlock = v.ownBlock ∨ ∃ k, v'.ownBlock = some k ∧ w.heap.size ≤ k) := by
 have H' := Aside0.mk (show server_tokenizeSubjectIntoSlice.l0 k l0 a1 0 0 = some r from h)
 clear h
 have HO := Aside0.mk ho
 have HB := Aside0.mk hB
 have HF := Aside0.mk (Wk.Fr.refl w v)
 clear ho hB
 go_enter Tryd.func60, Tryd.ntmps60
 go_wp2
 go_loopg [0, 5, 6] k (fun kq v0 v5 v6 w' => ∃ (x0_1 : List ByteArray) (x5_1 : Int) (x6_1 : Int), v5 = .int .i64 x5_1 ∧ v6 = .int .i64 x6_1 ∧ Aside0 (server_tokenizeSubjectIntoSlice.l0 kq x0_1 a1 x5_1 x6_1 = some r) ∧ Aside0 (kq ≤ k) ∧ Aside0 (Wk.AR w' w0.heap.size v0 (x0_1.map Value.string)) ∧ Aside0 (Below w0.heap.size w0 w') ∧ Aside0 (Wk.Fr w v w') ∧ Aside0 (v0.ownBlock = v.ownBlock ∨ ∃ k, v0.ownBlock = some k ∧ w.heap.size ≤ k))
 case atStart => exact ⟨l0, (0), (0), rfl, rfl, H', ⟨Nat.le_refl _⟩, ⟨by repeat (first | exact HO.out | apply Wk.AR.alloc | apply Wk.AR.drew)⟩, ⟨by repeat (first | exact HB.out | apply Below.drew)⟩, HF, ⟨.inl rfl⟩⟩
 case round =>
  clear H'
  obtain ⟨x0_1, x5_1, x6_1, rfl, rfl, HA, HK1, HO_0, HB, HF, HV⟩ := hrel
  clear HO
  cases gk with
  | zero => exact absurd HA.out (by simp [server_tokenizeSubjectIntoSlice.l0])
  | succ k1 =>
   have H := HA.out
   clear HA
   simp only [server_tokenizeSubjectIntoSlice.l0] at H
   by_cases c3 : x6_1 < (a1.size : Int)
   ·
    rw [if_pos c3] at H
    have c3b0 : decide (x6_1 < (a1.size : Int)) = true := decide_eq_true c3
    clear c3
    by_cases c4 : 0 ≤ x6_1
    ·
     rw [if_pos c4] at H
     have c4b0 : decide (0 ≤ x6_1) = true := decide_eq_true c4
     clear c4
     by_cases c6 : (bt a1 x6_1) = 46
     ·
      rw [if_pos c6] at H
      have c6b0 : ((bt a1 x6_1) == 46) = true := beq_iff_eq.mpr c6
      have c6b1 : ((bt a1 x6_1) != 46) = false := bne_eq_false_iff_eq.mpr c6
      clear c6
      by_cases c7 : 0 ≤ x5_1
      ·
       rw [if_pos c7] at H
       have c7b0 := eq_true c7
       have c7b1 : decide (0 ≤ x5_1) = true := decide_eq_true c7
       clear c7
       by_cases c8 : x5_1 ≤ x6_1
       ·
        rw [if_pos c8] at H
        have c8b0 := eq_true c8
        have c8b1 : decide (x5_1 ≤ x6_1) = true := decide_eq_true c8
        clear c8
        by_cases c9 : x6_1 ≤ (a1.size : Int)
        ·
         rw [if_pos c9] at H
         have c9b0 := eq_true c9
         have c9b1 : decide (x6_1 ≤ (a1.size : Int)) = true := decide_eq_true c9
         clear c9
         by_cases c10 : x0_1.length < 8796093022208
         ·
          rw [if_pos c10] at H
          have LMc10 := Aside0.mk c10
          clear c10
          have H' := Aside0.mk H
          clear H
          have p5 : 0 ≤ (x6_1 : Int) := of_decide_eq_true (by first | (with_reducible assumption) | assumption)
          have q5 : x6_1 < (a1.size : Int) := of_decide_eq_true (by first | (with_reducible assumption) | assumption)
          have hx5 := bt_at a1 x6_1
          replace p5 := eq_true p5
          replace q5 := eq_true q5
          go_wp2_with (first | ((with_reducible refine gate_builtin (b := .append) (xs := #[.tmp 17, .tmp 22]) rfl ?_); at_builtin; refine Wk.AR.append (N := w0.heap.size) (w0 := w0) rfl (.tmp 17) (.tmp 22) 30 9 (.string ⟨#[]⟩) 16 rfl Tryd.underlying30 info9 rfl rfl (by repeat (first | exact HO_0.out | apply Wk.AR.alloc | apply Wk.AR.drew)) (Nat.le_refl _) ?cW ?cB _ _ (.string (a1.extract (x5_1 : Int).toNat (x6_1 : Int).toNat)) rfl ?cU rfl ?cL ?c6 ?_; (case cW => have := HB.out.size; simp; omega); (case cB => repeat (first | exact HB.out | apply below_alloc | apply Below.drew)); (case cU => simp); (case cL => have := LMc10.out; rw [List.length_map]; omega); (case c6 => have := LMc10.out; rw [List.length_map]; simp only [maxLen]; omega); intro v126 w11 q1 q2 q3 q4 q5; have n1 := Aside0.mk q1; have n2 := Aside0.mk q2; have n3 := Aside0.mk (Wk.frame_step HF.out HV.out (Wk.alloc_frame _ _) q3 q4); have n4 := Aside0.mk (Wk.own_step HF.out HV.out (by simp) q5); clear q1 q2 q3 q4 q5 HO_0 HB HF HV; have HO127 := n1; have HB := n2; have HF := n3; have HV := n4; clear n1 n2 n3 n4))
          go_roundg k1
          case measure => have := HK1.out; omega
          case rel => exact ⟨_, (wrap64 (x6_1 + 1)), (wrap64 (x6_1 + 1)), (by first | rfl | (simp; done) | (simp [*]; done)), (by first | rfl | (simp; done) | (simp [*]; done)), H', ⟨by have := HK1.out; omega⟩, ⟨by have := HO127.out; first | exact this | (rw [List.map_append]; exact this)⟩, HB, HF, HV⟩
         rw [if_neg c10] at H
         exact absurd H (by simp)
        rw [if_neg c9] at H
        exact absurd H (by simp)
       rw [if_neg c8] at H
       exact absurd H (by simp)
      rw [if_neg c7] at H
      exact absurd H (by simp)
     rw [if_neg c6] at H
     have c6b0 : ((bt a1 x6_1) == 46) = false := beq_eq_false_iff_ne.mpr c6
     have c6b1 : ((bt a1 x6_1) != 46) = true := bne_iff_ne.mpr c6
     have H' := Aside0.mk H
     clear H
     have p5 : 0 ≤ (x6_1 : Int) := of_decide_eq_true (by first | (with_reducible assumption) | assumption)
     have q5 : x6_1 < (a1.size : Int) := of_decide_eq_true (by first | (with_reducible assumption) | assumption)
     have hx5 := bt_at a1 x6_1
     replace p5 := eq_true p5
     replace q5 := eq_true q5
     go_wp2
     go_roundg k1
     case measure => have := HK1.out; omega
     case rel => exact ⟨(x0_1), (x5_1), (wrap64 (x6_1 + 1)), (by first | rfl | (simp; done) | (simp [*]; done)), (by first | rfl | (simp; done) | (simp [*]; done)), H', ⟨by have := HK1.out; omega⟩, ⟨by repeat (first | exact HO_0.out | apply Wk.AR.alloc | apply Wk.AR.drew)⟩, HB, HF, HV⟩
    rw [if_neg c4] at H
    exact absurd H (by simp)
   rw [if_neg c3] at H
   have c3b0 : decide (x6_1 < (a1.size : Int)) = false := decide_eq_false c3
   clear c3
   by_cases c12 : 0 ≤ x5_1
   ·
    rw [if_pos c12] at H
    have c12b0 := eq_true c12
    have c12b1 : decide (0 ≤ x5_1) = true := decide_eq_true c12
    clear c12
    by_cases c13 : x5_1 ≤ (a1.size : Int)
    ·
     rw [if_pos c13] at H
     have c13b0 := eq_true c13
     have c13b1 : decide (x5_1 ≤ (a1.size : Int)) = true := decide_eq_true c13
     clear c13
     by_cases c14 : x0_1.length < 8796093022208
     ·
      rw [if_pos c14] at H
      have LMc14 := Aside0.mk c14
      clear c14
      obtain rfl := Option.some.inj H
      go_wp2_with (first | ((with_reducible refine gate_builtin (b := .append) (xs := #[.tmp 26, .tmp 30]) rfl ?_); at_builtin; refine Wk.AR.append (N := w0.heap.size) (w0 := w0) rfl (.tmp 26) (.tmp 30) 30 9 (.string ⟨#[]⟩) 16 rfl Tryd.underlying30 info9 rfl rfl (by repeat (first | exact HO_0.out | apply Wk.AR.alloc | apply Wk.AR.drew)) (Nat.le_refl _) ?cW ?cB _ _ (.string (a1.extract (x5_1 : Int).toNat a1.size)) rfl ?cU rfl ?cL ?c6 ?_; (case cW => have := HB.out.size; simp; omega); (case cB => repeat (first | exact HB.out | apply below_alloc | apply Below.drew)); (case cU => simp); (case cL => have := LMc14.out; rw [List.length_map]; omega); (case c6 => have := LMc14.out; rw [List.length_map]; simp only [maxLen]; omega); intro v126 w11 q1 q2 q3 q4 q5; have n1 := Aside0.mk q1; have n2 := Aside0.mk q2; have n3 := Aside0.mk (Wk.frame_step HF.out HV.out (Wk.alloc_frame _ _) q3 q4); have n4 := Aside0.mk (Wk.own_step HF.out HV.out (by simp) q5); clear q1 q2 q3 q4 q5 HO_0 HB HF HV; have HO127 := n1; have HB := n2; have HF := n3; have HV := n4; clear n1 n2 n3 n4))
      go_ret
      exact ⟨v126, rfl, by have := HO127.out; first | exact this | (rw [List.map_append]; exact this), HB.out, HF.out, HV.out⟩
     rw [if_neg c14] at H
     exact absurd H (by simp)
    rw [if_neg c13] at H
    exact absurd H (by simp)
   rw [if_neg c12] at H
   exact absurd H (by simp)
def server_isSubsetMatch.f (k : Nat) (l0 : List ByteArray) (a1 : ByteArray) : Option Bool := (server_tokenizeSubjectIntoSlice.f k [] a1).bind fun t => server_isSubsetMatchTokenized.f k l0 t
set_option maxHeartbeats 8000000 in
set_option maxRecDepth 100000 in
theorem server_isSubsetMatch.calls (k : Nat) (A0 : Option Addr) (c0 : Nat) (l0 : List ByteArray) (a1 : ByteArray) (r : Bool) (w : World) (hr0 : Kd.C Kd.string w A0 l0.length l0) (hc0 : l0.length ≤ c0) (h : server_isSubsetMatch.f k l0 a1 = some r) :
  Calls Tryd.prog 49 #[.slice A0 l0.length c0, .string a1] w fun e w' => e = .returned (.bool r) ∧ Below w.heap.size w w' := by
 obtain ⟨t, ht, h2⟩ := Option.bind_eq_some_iff.mp h
 have HT := Aside0.mk ht
 have H2 := Aside0.mk h2
 clear h ht h2
 have HR0 := Aside0.mk hr0
 have HC0 := Aside0.mk hc0
 clear hr0 hc0
 go_enter Tryd.func49, Tryd.ntmps49
 go_upto_region 1 with (fail)
 refine wp_region_lit ?_
 refine Wk.arrL_ (Array.replicate 32 (.string ⟨#[]⟩)) (T := 81) (N1 := 7) (N2 := 5) rfl rfl rfl rfl rfl rfl (fun _ _ => by kernel_rfl) (fun _ _ => by kernel_rfl) rfl (by kernel_rfl) (by simp [Value.oneCell']) rfl rfl ?_
 intro w2 cur hB hblk hcur hsz
 simp only [Act.put, List.setIfInBounds_toArray, List.set_cons_zero, List.set_cons_succ]
 generalize Value.agg (Array.replicate 32 (.string ⟨#[]⟩)) = v7
 have HO := Aside0.mk (Wk.AR.made (base := w.heap.size) (n := 32) hblk (Nat.le_refl _) (by rw [← Array.length_toList, hcur]; simp) (by simp only [maxLen]; omega))
 have hshape : w2.shape? w.heap.size = some (81, 32) := Wk.shape_of hblk (by rw [← Array.length_toList, hcur]; simp)
 have HB := Aside0.mk hB
 clear hB hcur hsz hblk
 clear hshape
 go_wp2_with fail
 refine (server_tokenizeSubjectIntoSlice.onto k [] a1 t w w2 _ HB.out HO.out HT.out).mono ?_
 rintro e w3 ⟨v3, rfl, q1, q2, -⟩
 obtain ⟨A1, c1, rfl, hc1, hC1⟩ := q1.strings
 clear q1
 have HB3 := Aside0.mk q2
 have HC1 := Aside0.mk hC1
 have HL1 := Aside0.mk hc1
 clear q2 hC1 hc1
 go_wp2_with fail
 refine (server_isSubsetMatchTokenized.calls k A0 c0 l0 A1 c1 t r w3 (Kd.C_below HR0.out HB3.out) HC0.out HC1.out HL1.out H2.out).mono ?_
 rintro e w' ⟨rfl, ⟨nd, rfl⟩⟩
 go_wp2
 go_ret
 exact ⟨rfl, pw_below_drewN HB3.out nd⟩
def server_zzIndex.l0 : Nat → ByteArray → ByteArray → Int → Option (Int)
 | 0, _, _, _ => none
 | k + 1, x0, x1, x5 => if (wrap64 (x5 + (x1.size : Int))) ≤ (x0.size : Int) then (if 0 ≤ x5 then (if x5 ≤ (wrap64 (x5 + (x1.size : Int))) then (if (x0.extract (x5 : Int).toNat ((wrap64 (x5 + (x1.size : Int))) : Int).toNat).toList = x1.toList then (some x5) else (server_zzIndex.l0 k x0 x1 (wrap64 (x5 + 1)))) else (none)) else (none)) else (some (-1))
def server_zzIndex.f (k : Nat) (a0 : ByteArray) (a1 : ByteArray) : Option (Int) := server_zzIndex.l0 k a0 a1 0
set_option maxHeartbeats 8000000 in
set_option maxRecDepth 100000 in
theorem server_zzIndex.calls (k : Nat) (a0 : ByteArray) (a1 : ByteArray) (r : Int) (w : World) (h : server_zzIndex.f k a0 a1 = some r) :
  Calls Tryd.prog 76 #[.string a0, .string a1] w fun e w' => e = .returned (.int .i64 r) ∧ Drawn0 w w' := by
 have H : (server_zzIndex.l0 k a0 a1 0) = some r := h
 clear h
 have H' := Aside0.mk H
 clear H
 go_enter Tryd.func76, Tryd.ntmps76
 go_wp2
 go_loopg [5] k (fun kq v5 w' => ∃ (x5_1 : Int), v5 = .int .i64 x5_1 ∧ Aside0 (server_zzIndex.l0 kq a0 a1 x5_1 = some r) ∧ Aside0 (kq ≤ k) ∧ Drawn0 w w')
 case atStart => exact ⟨(0), (by first | rfl | (simp; done) | (simp [*]; done)), H', ⟨Nat.le_refl _⟩, by repeat (first | exact Drawn0.refl _ | apply Drawn0.step)⟩
 case round =>
  clear H'
  try clear p2
  obtain ⟨x5_1, rfl, HA, HK1, ⟨m1, rfl⟩⟩ := hrel
  cases gk with
  | zero => exact absurd HA.out (by simp [server_zzIndex.l0])
  | succ k1 =>
   have H := HA.out
   clear HA
   simp only [server_zzIndex.l0] at H
   by_cases c3 : (wrap64 (x5_1 + (a1.size : Int))) ≤ (a0.size : Int)
   ·
    rw [if_pos c3] at H
    have c3b0 : decide ((wrap64 (x5_1 + (a1.size : Int))) ≤ (a0.size : Int)) = true := decide_eq_true c3
    clear c3
    by_cases c4 : 0 ≤ x5_1
    ·
     rw [if_pos c4] at H
     have c4b0 := eq_true c4
     have c4b1 : decide (0 ≤ x5_1) = true := decide_eq_true c4
     clear c4
     by_cases c5 : x5_1 ≤ (wrap64 (x5_1 + (a1.size : Int)))
     ·
      rw [if_pos c5] at H
      have c5b0 := eq_true c5
      have c5b1 : decide (x5_1 ≤ (wrap64 (x5_1 + (a1.size : Int)))) = true := decide_eq_true c5
      have c6b0 := eq_true (of_decide_eq_true (by first | (with_reducible assumption) | assumption) : (wrap64 (x5_1 + (a1.size : Int))) ≤ (a0.size : Int))
      by_cases c7 : (a0.extract (x5_1 : Int).toNat ((wrap64 (x5_1 + (a1.size : Int))) : Int).toNat).toList = a1.toList
      ·
       rw [if_pos c7] at H
       have c7b0 : ((a0.extract (x5_1 : Int).toNat ((wrap64 (x5_1 + (a1.size : Int))) : Int).toNat).toList == a1.toList) = true := beq_iff_eq.mpr c7
       have c7b1 : ((a0.extract (x5_1 : Int).toNat ((wrap64 (x5_1 + (a1.size : Int))) : Int).toNat).toList != a1.toList) = false := bne_eq_false_iff_eq.mpr c7
       clear c7
       obtain rfl := Option.some.inj H
       go_wp2
       go_ret
       exact ⟨by first | rfl | (simp; done) | (simp [*]; done), by repeat (first | exact Drawn0.refl _ | apply Drawn0.step)⟩
      rw [if_neg c7] at H
      have c7b0 : ((a0.extract (x5_1 : Int).toNat ((wrap64 (x5_1 + (a1.size : Int))) : Int).toNat).toList == a1.toList) = false := beq_eq_false_iff_ne.mpr c7
      have c7b1 : ((a0.extract (x5_1 : Int).toNat ((wrap64 (x5_1 + (a1.size : Int))) : Int).toNat).toList != a1.toList) = true := bne_iff_ne.mpr c7
      have H' := Aside0.mk H
      clear H
      go_wp2
      go_roundg k1
      case measure => have := HK1.out; omega
      case rel => exact ⟨(wrap64 (x5_1 + 1)), (by first | rfl | (simp; done) | (simp [*]; done)), H', ⟨by have := HK1.out; omega⟩, by repeat (first | exact Drawn0.refl _ | apply Drawn0.step)⟩
     rw [if_neg c5] at H
     exact absurd H (by simp)
    rw [if_neg c4] at H
    exact absurd H (by simp)
   rw [if_neg c3] at H
   have c3b0 : decide ((wrap64 (x5_1 + (a1.size : Int))) ≤ (a0.size : Int)) = false := decide_eq_false c3
   clear c3
   obtain rfl := Option.some.inj H
   go_wp2
   go_ret
   exact ⟨by first | rfl | (simp; done) | (simp [*]; done), by repeat (first | exact Drawn0.refl _ | apply Drawn0.step)⟩
def server_zzSplit.l1 : Nat → ByteArray → ByteArray → List ByteArray → Option (List ByteArray)
 | 0, _, _, _ => none
 | k + 1, x0, x1, x5 => (server_zzIndex.f k x0 x1).bind fun t240 => (if t240 < 0 then (if x5.length < 8796093022208 then (some (x5 ++ [x0])) else (none)) else (if 0 ≤ t240 then (if t240 ≤ (x0.size : Int) then (if x5.length < 8796093022208 then (if 0 ≤ (wrap64 (t240 + (x1.size : Int))) then (if (wrap64 (t240 + (x1.size : Int))) ≤ (x0.size : Int) then (server_zzSplit.l1 k (x0.extract ((wrap64 (t240 + (x1.size : Int))) : Int).toNat x0.size) x1 (x5 ++ [x0.extract 0 (t240 : Int).toNat])) else (none)) else (none)) else (none)) else (none)) else (none)))
def server_zzSplit.f (k : Nat) (a0 : ByteArray) (a1 : ByteArray) : Option (List ByteArray) := if (a1.size : Int) = 0 then (none) else (server_zzSplit.l1 k a0 a1 ([] : List ByteArray))
set_option maxHeartbeats 8000000 in
set_option maxRecDepth 100000 in
theorem server_zzSplit.calls (k : Nat) (a0 : ByteArray) (a1 : ByteArray) (r : List ByteArray) (w : World) (h : server_zzSplit.f k a0 a1 = some r) :
  Calls Tryd.prog 65 #[.string a0, .string a1] w fun e w' => ∃ v0_ : Value, e = .returned (v0_) ∧ Kd.R Kd.string 9 w' w.heap.size (fun _ => True) v0_ r ∧ Below w.heap.size w w' := by
 have HB := Aside0.mk (Below.refl w.heap.size w)
 have H : (if (a1.size : Int) = 0 then (none) else (server_zzSplit.l1 k a0 a1 ([] : List ByteArray))) = some r := h
 clear h
 by_cases c3 : (a1.size : Int) = 0
 ·
  rw [if_pos c3] at H
  exact absurd H (by simp)
 rw [if_neg c3] at H
 have c3b0 : ((a1.size : Int) == 0) = false := beq_eq_false_iff_ne.mpr c3
 have c3b1 : ((a1.size : Int) != 0) = true := bne_iff_ne.mpr c3
 have H' := Aside0.mk H
 clear H
 go_enter Tryd.func65, Tryd.ntmps65
 go_wp2
 go_loopg [0, 5] k (fun kq v0 v5 w' => ∃ (x0_1 : ByteArray) (x5_1 : List ByteArray), v0 = .string x0_1 ∧ Aside0 (server_zzSplit.l1 kq x0_1 a1 x5_1 = some r) ∧ Aside0 (kq ≤ k) ∧ Aside0 (Kd.R Kd.string 9 w' w.heap.size (fun _ => True) v5 x5_1) ∧ Aside0 (Below w.heap.size w w'))
 case atStart => exact ⟨(a0), (([] : List ByteArray)), (by first | rfl | (simp; done) | (simp [*]; done)), H', ⟨Nat.le_refl _⟩, ⟨by first | exact Kd.R_nil _ _ _ _ _ | exact Kd.N_nil _ _ _ _ _ | exact Kd.V_nil _ _ _ _ _ | exact Kd.Q_nil _ _ _ _ _ | exact Kd.S_nil _ _ _ _ _⟩, ⟨by repeat (first | (with_reducible first | exact HB.out | apply below_alloc | apply pw_below_drewN | apply below_drew1) | exact HB.out)⟩⟩
 case round =>
  clear H'
  try clear p2
  try clear c3
  try clear c3b0
  try clear c3b1
  obtain ⟨x0_1, x5_1, rfl, HA, HK1, HO_5, HB⟩ := hrel
  cases gk with
  | zero => exact absurd HA.out (by simp [server_zzSplit.l1])
  | succ k1 =>
   have H := HA.out
   clear HA
   simp only [server_zzSplit.l1] at H
   replace H := Option.bind_eq_some_iff.mp H
   obtain ⟨t240, A40, H⟩ := H
   replace H : (if t240 < 0 then (if x5_1.length < 8796093022208 then (some (x5_1 ++ [x0_1])) else (none)) else (if 0 ≤ t240 then (if t240 ≤ (x0_1.size : Int) then (if x5_1.length < 8796093022208 then (if 0 ≤ (wrap64 (t240 + (a1.size : Int))) then (if (wrap64 (t240 + (a1.size : Int))) ≤ (x0_1.size : Int) then (server_zzSplit.l1 k1 (x0_1.extract ((wrap64 (t240 + (a1.size : Int))) : Int).toNat x0_1.size) a1 (x5_1 ++ [x0_1.extract 0 (t240 : Int).toNat])) else (none)) else (none)) else (none)) else (none)) else (none))) = some r := H
   have A4 := Aside0.mk A40
   clear A40
   by_cases c5 : t240 < 0
   ·
    rw [if_pos c5] at H
    have c5b0 : decide (t240 < 0) = true := decide_eq_true c5
    clear c5
    by_cases c6 : x5_1.length < 8796093022208
    ·
     rw [if_pos c6] at H
     have LMc6 := Aside0.mk c6
     clear c6
     obtain ⟨y241, hy241⟩ : ∃ y_ : List ByteArray, y_ = (x5_1 ++ [x0_1]) := ⟨_, rfl⟩
     replace H : (some y241) = some r := by first | (rw [hy241]; with_reducible exact H) | (have H2_ := (Option.bind_some _ _).symm.trans H; rw [hy241]; with_reducible exact H2_) | (have H2_ := (Option.bind_some _ _).symm.trans H; with_reducible exact H2_) | with_reducible exact H | (rw [hy241]; exact H) | exact H
     have Ny241 := Aside0.mk hy241
     clear hy241
     obtain rfl := Option.some.inj H
     go_wp2_with (first | ((with_reducible refine gate_callee (f := 76) rfl ?_); refine goesL_ (some 39) rfl rfl Tryd.func76 (by kernel_rfl) rfl #[.string x0_1, .string a1] rfl (by (try simp only [List.map_toArray, List.map_cons, List.map_nil]); first | done | rfl | (simp only [List.length_drop, List.length_take]; rfl)) ?_; (with_reducible refine (server_zzIndex.calls k1 x0_1 a1 t240 _ A4.out).mono ?_); rintro e w' ⟨rfl, ⟨nd, rfl⟩⟩; refine ⟨_, rfl, ?_⟩) | ((with_reducible refine gate_builtin (b := .append) (xs := #[.tmp 42, .tmp 44]) rfl ?_); at_builtin; refine Kd.R_append Kd.string (w0 := w) w.heap.size rfl (.tmp 42) (.tmp 44) 30 9 (.string ⟨#[]⟩) 16 rfl Tryd.underlying30 info9 rfl (by decide) (by omega) u5 x5_1 x0_1 [.string x0_1] (fun _ => True) (fun _ => False) rfl rfl ?aP (fun _ hk => hk.elim) ?aF ?aO ?aB ?aS ?aL ?_; (case aP => exact rfl); (case aB => exact (by repeat (first | (with_reducible first | exact HB.out | apply below_alloc | apply pw_below_drewN | apply below_drew1) | exact HB.out))); (case aF => exact (fun _ _ => trivial)); (case aO => exact (by (with_reducible repeat (first | apply Kd.R_alloc | apply Kd.R_drewN | apply Kd.R_drew)); exact HO_5.out)); (case aS => exact (below_size (by repeat (first | (with_reducible first | exact HB.out | apply below_alloc | apply pw_below_drewN | apply below_drew1) | exact HB.out)))); (case aL => have := LMc6.out; omega); intro v242 w7 ho hb hg hat; rw [← Ny241.out] at ho; have n0_ := Aside0.mk (hb); have n1_ := Aside0.mk (ho); clear HB; clear HO_5; have HB := n0_; have HO243 := n1_; clear n0_ n1_; clear ho hb hg hat))
     go_ret
     exact ⟨_, by first | rfl | (simp [errW_none, errW_some] <;> rfl) | (simp [*, errW_none, errW_some] <;> rfl), by (with_reducible repeat (first | apply Kd.R_alloc | apply Kd.R_drewN | apply Kd.R_drew)); exact HO243.out, by repeat (first | (with_reducible first | exact HB.out | apply below_alloc | apply pw_below_drewN | apply below_drew1) | exact HB.out)⟩
    rw [if_neg c6] at H
    exact absurd H (by simp)
   rw [if_neg c5] at H
   have c5b0 : decide (t240 < 0) = false := decide_eq_false c5
   clear c5
   by_cases c8 : 0 ≤ t240
   ·
    rw [if_pos c8] at H
    have c8b0 := eq_true c8
    have c8b1 : decide (0 ≤ t240) = true := decide_eq_true c8
    clear c8
    by_cases c9 : t240 ≤ (x0_1.size : Int)
    ·
     rw [if_pos c9] at H
     have c9b0 := eq_true c9
     have c9b1 : decide (t240 ≤ (x0_1.size : Int)) = true := decide_eq_true c9
     clear c9
     by_cases c10 : x5_1.length < 8796093022208
     ·
      rw [if_pos c10] at H
      have LMc10 := Aside0.mk c10
      clear c10
      obtain ⟨y244, hy244⟩ : ∃ y_ : List ByteArray, y_ = (x5_1 ++ [x0_1.extract 0 (t240 : Int).toNat]) := ⟨_, rfl⟩
      replace H : (if 0 ≤ (wrap64 (t240 + (a1.size : Int))) then (if (wrap64 (t240 + (a1.size : Int))) ≤ (x0_1.size : Int) then (server_zzSplit.l1 k1 (x0_1.extract ((wrap64 (t240 + (a1.size : Int))) : Int).toNat x0_1.size) a1 y244) else (none)) else (none)) = some r := by first | (rw [hy244]; with_reducible exact H) | (have H2_ := (Option.bind_some _ _).symm.trans H; rw [hy244]; with_reducible exact H2_) | (have H2_ := (Option.bind_some _ _).symm.trans H; with_reducible exact H2_) | with_reducible exact H | (rw [hy244]; exact H) | exact H
      have Ny244 := Aside0.mk hy244
      clear hy244
      obtain ⟨ji11, hji11⟩ : ∃ j_ : Int, (wrap64 (t240 + (a1.size : Int))) = j_ := ⟨_, rfl⟩
      replace H : (if 0 ≤ (ji11) then (if (ji11) ≤ (x0_1.size : Int) then (server_zzSplit.l1 k1 (x0_1.extract ((ji11) : Int).toNat x0_1.size) a1 y244) else (none)) else (none)) = some r := by first | (rw [hji11] at H; exact H) | (simp only [hji11] at H ⊢; exact H)
      (try rw [hji11] at A4)
      have hji11w : (IntKind.i64.wrap (t240 + (a1.size : Int))) = ji11 := (i64_w _).trans hji11
      by_cases c12 : 0 ≤ (ji11)
      ·
       rw [if_pos c12] at H
       have c12b0 := eq_true c12
       have c12b1 : decide (0 ≤ (ji11)) = true := decide_eq_true c12
       clear c12
       by_cases c13 : (ji11) ≤ (x0_1.size : Int)
       ·
        rw [if_pos c13] at H
        have c13b0 := eq_true c13
        have c13b1 : decide ((ji11) ≤ (x0_1.size : Int)) = true := decide_eq_true c13
        clear c13
        have H' := Aside0.mk H
        clear H
        go_wp2_with (first | ((with_reducible refine gate_callee (f := 76) rfl ?_); refine goesL_ (some 39) rfl rfl Tryd.func76 (by kernel_rfl) rfl #[.string x0_1, .string a1] rfl (by (try simp only [List.map_toArray, List.map_cons, List.map_nil]); first | done | rfl | (simp only [List.length_drop, List.length_take]; rfl)) ?_; (with_reducible refine (server_zzIndex.calls k1 x0_1 a1 t240 _ A4.out).mono ?_); rintro e w' ⟨rfl, ⟨nd, rfl⟩⟩; refine ⟨_, rfl, ?_⟩) | ((with_reducible refine gate_builtin (b := .append) (xs := #[.tmp 46, .tmp 50]) rfl ?_); at_builtin; refine Kd.R_append Kd.string (w0 := w) w.heap.size rfl (.tmp 46) (.tmp 50) 30 9 (.string ⟨#[]⟩) 16 rfl Tryd.underlying30 info9 rfl (by decide) (by omega) u5 x5_1 (x0_1.extract 0 (t240 : Int).toNat) [.string (x0_1.extract 0 (t240 : Int).toNat)] (fun _ => True) (fun _ => False) rfl rfl ?aP (fun _ hk => hk.elim) ?aF ?aO ?aB ?aS ?aL ?_; (case aP => exact rfl); (case aB => exact (by repeat (first | (with_reducible first | exact HB.out | apply below_alloc | apply pw_below_drewN | apply below_drew1) | exact HB.out))); (case aF => exact (fun _ _ => trivial)); (case aO => exact (by (with_reducible repeat (first | apply Kd.R_alloc | apply Kd.R_drewN | apply Kd.R_drew)); exact HO_5.out)); (case aS => exact (below_size (by repeat (first | (with_reducible first | exact HB.out | apply below_alloc | apply pw_below_drewN | apply below_drew1) | exact HB.out)))); (case aL => have := LMc10.out; omega); intro v245 w14 ho hb hg hat; rw [← Ny244.out] at ho; have n0_ := Aside0.mk (hb); have n1_ := Aside0.mk (ho); clear HB; clear HO_5; have HB := n0_; have HO246 := n1_; clear n0_ n1_; clear ho hb hg hat))
        go_roundg k1
        case measure => have := HK1.out; omega
        case rel => exact ⟨(x0_1.extract ((ji11) : Int).toNat x0_1.size), (y244), (by first | rfl | (simp; done) | (simp only [← hji11] <;> (first | rfl | simp)) | (simp [*]; done)), H', ⟨by have := HK1.out; omega⟩, ⟨by (with_reducible repeat (first | apply Kd.R_alloc | apply Kd.R_drewN | apply Kd.R_drew)); exact HO246.out⟩, ⟨by repeat (first | (with_reducible first | exact HB.out | apply below_alloc | apply pw_below_drewN | apply below_drew1) | exact HB.out)⟩⟩
       rw [if_neg c13] at H
       exact absurd H (by simp)
      rw [if_neg c12] at H
      exact absurd H (by simp)
     rw [if_neg c10] at H
     exact absurd H (by simp)
    rw [if_neg c9] at H
    exact absurd H (by simp)
   rw [if_neg c8] at H
   exact absurd H (by simp)
def spec_Places.l0 : Nat → List Int → List ByteArray → Int → Option (List Int)
 | 0, _, _, _ => none
 | k + 1, x3, x4, x5 => if x5 < (x4.length : Int) then (if 0 ≤ x5 then (if (rdOf ByteArray.empty x4 x5).toList = ([42] : List UInt8) then (if x3.length < 17592186044416 then (spec_Places.l0 k (x3 ++ [x5]) x4 (wrap64 (x5 + 1))) else (none)) else (spec_Places.l0 k x3 x4 (wrap64 (x5 + 1)))) else (none)) else (some x3)
def spec_Places.f (k : Nat) (a0 : ByteArray) : Option (List Int) := (spec_Tokens.f k a0).bind fun t249 => (spec_Places.l0 k ([] : List Int) t249 0)
set_option maxHeartbeats 8000000 in
set_option maxRecDepth 100000 in
theorem spec_Places.calls (k : Nat) (a0 : ByteArray) (r : List Int) (w : World) (h : spec_Places.f k a0 = some r) :
  Calls Tryd.prog 29 #[.string a0] w fun e w' => ∃ v0_ : Value, e = .returned (v0_) ∧ Kd.R (Kd.int .i64) 3 w' w.heap.size (fun _ => True) v0_ r ∧ Below w.heap.size w w' := by
 have HB := Aside0.mk (Below.refl w.heap.size w)
 have H : ((spec_Tokens.f k a0).bind fun t249 => (spec_Places.l0 k ([] : List Int) t249 0)) = some r := h
 clear h
 replace H := Option.bind_eq_some_iff.mp H
 obtain ⟨t249, A20, H⟩ := H
 replace H : (spec_Places.l0 k ([] : List Int) t249 0) = some r := H
 have A2 := Aside0.mk A20
 clear A20
 have H' := Aside0.mk H
 clear H
 go_enter Tryd.func29, Tryd.ntmps29
 go_wp2_with (first | ((with_reducible refine gate_callee (f := 25) rfl ?_); refine goesL_ (some 7) rfl rfl Tryd.func25 (by kernel_rfl) rfl #[.string a0] rfl (by (try simp only [List.map_toArray, List.map_cons, List.map_nil]); first | done | rfl | (simp only [List.length_drop, List.length_take]; rfl)) ?_; (with_reducible refine (spec_Tokens.calls k a0 t249 _ A2.out).mono ?_); rintro e w3 ⟨v250, rfl, ho0, hb⟩; refine ⟨_, rfl, ?_⟩; have n0_ := Aside0.mk (Kd.R_lower ho0 (below_size (by repeat (first | (with_reducible first | exact HB.out | apply below_alloc | apply pw_below_drewN | apply below_drew1) | exact HB.out)))); have n1_ := Aside0.mk (below_step (by repeat (first | (with_reducible first | exact HB.out | apply below_alloc | apply pw_below_drewN | apply below_drew1) | exact HB.out)) hb); clear HB; have HO251 := n0_; have HB := n1_; clear n0_ n1_; (try clear hb); (try clear hb2); (try clear hk); (try clear hi); (try clear ho0)))
 go_loopg [3, 5] k (fun kq v3 v5 w' => ∃ (x3_1 : List Int) (x5_1 : Int), v5 = .int .i64 x5_1 ∧ Aside0 (spec_Places.l0 kq x3_1 t249 x5_1 = some r) ∧ Aside0 (kq ≤ k) ∧ Aside0 (Kd.R (Kd.int .i64) 3 w' w.heap.size (fun _ => True) v3 x3_1) ∧ Aside0 (Kd.R Kd.string 9 w' w.heap.size (fun _ => True) v250 t249) ∧ Aside0 (Below w.heap.size w w'))
 case atStart => exact ⟨(([] : List Int)), (0), (by first | rfl | (simp; done) | (simp [*]; done)), H', ⟨Nat.le_refl _⟩, ⟨by first | exact Kd.R_nil _ _ _ _ _ | exact Kd.N_nil _ _ _ _ _ | exact Kd.V_nil _ _ _ _ _ | exact Kd.Q_nil _ _ _ _ _ | exact Kd.S_nil _ _ _ _ _⟩, ⟨by (with_reducible repeat (first | apply Kd.R_alloc | apply Kd.R_drewN | apply Kd.R_drew)); exact HO251.out⟩, ⟨by repeat (first | (with_reducible first | exact HB.out | apply below_alloc | apply pw_below_drewN | apply below_drew1) | exact HB.out)⟩⟩
 case round =>
  clear H'
  try clear c2
  try clear p2
  obtain ⟨x3_1, x5_1, rfl, HA, HK1, HO_3, HO_4, HB⟩ := hrel
  cases gk with
  | zero => exact absurd HA.out (by simp [spec_Places.l0])
  | succ k1 =>
   have H := HA.out
   clear HA
   simp only [spec_Places.l0] at H
   by_cases c4 : x5_1 < (t249.length : Int)
   ·
    rw [if_pos c4] at H
    have c4b0 : decide (x5_1 < (t249.length : Int)) = true := decide_eq_true c4
    clear c4
    by_cases c5 : 0 ≤ x5_1
    ·
     rw [if_pos c5] at H
     have c5b0 : decide (0 ≤ x5_1) = true := decide_eq_true c5
     clear c5
     by_cases c6 : (rdOf ByteArray.empty t249 x5_1).toList = ([42] : List UInt8)
     ·
      rw [if_pos c6] at H
      have c6b0 : ((rdOf ByteArray.empty t249 x5_1).toList == ([42] : List UInt8)) = true := beq_iff_eq.mpr c6
      have c6b1 : ((rdOf ByteArray.empty t249 x5_1).toList != ([42] : List UInt8)) = false := bne_eq_false_iff_eq.mpr c6
      clear c6
      by_cases c7 : x3_1.length < 17592186044416
      ·
       rw [if_pos c7] at H
       have LMc7 := Aside0.mk c7
       clear c7
       obtain ⟨y253, hy253⟩ : ∃ y_ : List Int, y_ = (x3_1 ++ [x5_1]) := ⟨_, rfl⟩
       replace H : (spec_Places.l0 k1 y253 t249 (wrap64 (x5_1 + 1))) = some r := by first | (rw [hy253]; with_reducible exact H) | (have H2_ := (Option.bind_some _ _).symm.trans H; rw [hy253]; with_reducible exact H2_) | (have H2_ := (Option.bind_some _ _).symm.trans H; with_reducible exact H2_) | with_reducible exact H | (rw [hy253]; exact H) | exact H
       have Ny253 := Aside0.mk hy253
       clear hy253
       have H' := Aside0.mk H
       clear H
       obtain ⟨Ao8, co8, eo8⟩ := Kd.R_slice HO_4.out
       subst eo8
       have p252 : 0 ≤ (x5_1 : Int) := of_decide_eq_true (by first | (with_reducible assumption) | assumption)
       have q252 : x5_1 < (t249.length : Int) := of_decide_eq_true (by first | (with_reducible assumption) | assumption)
       obtain ⟨ad252, e252, hx252_0⟩ := Kd.at_string (Kd.R_reads' HO_4.out).2.2 x5_1 p252 q252
       cases e252
       replace p252 := eq_true p252
       replace q252 := eq_true q252
       go_wp2_with (first | ((with_reducible refine gate_builtin (b := .append) (xs := #[.tmp 19, .tmp 21]) rfl ?_); at_builtin; refine Kd.R_append (Kd.int .i64) (w0 := w) w.heap.size rfl (.tmp 19) (.tmp 21) 31 3 (.int .i64 0) 8 rfl Tryd.underlying31 info3 rfl (by decide) (by omega) u3 x3_1 x5_1 [.int .i64 x5_1] (fun _ => True) (fun _ => False) rfl rfl ?aP (fun _ hk => hk.elim) ?aF ?aO ?aB ?aS ?aL ?_; (case aP => exact rfl); (case aB => exact (by repeat (first | (with_reducible first | exact HB.out | apply below_alloc | apply pw_below_drewN | apply below_drew1) | exact HB.out))); (case aF => exact (fun _ _ => trivial)); (case aO => exact (by (with_reducible repeat (first | apply Kd.R_alloc | apply Kd.R_drewN | apply Kd.R_drew)); exact HO_3.out)); (case aS => exact (below_size (by repeat (first | (with_reducible first | exact HB.out | apply below_alloc | apply pw_below_drewN | apply below_drew1) | exact HB.out)))); (case aL => have := LMc7.out; omega); intro v254 w9 ho hb hg hat; rw [← Ny253.out] at ho; have n0_ := Aside0.mk (Kd.R_over' (by (with_reducible repeat (first | apply Kd.R_alloc | apply Kd.R_drewN | apply Kd.R_drew)); exact HO_4.out) (Kd.R_typed (by (with_reducible repeat (first | apply Kd.R_alloc | apply Kd.R_drewN | apply Kd.R_drew)); exact HO_3.out)) (by decide) hg); have n1_ := Aside0.mk (hb); have n2_ := Aside0.mk (ho); clear HO_4; clear HB; clear HO_3; have HO_4 := n0_; have HB := n1_; have HO255 := n2_; clear n0_ n1_ n2_; clear ho hb hg hat))
       go_roundg k1
       case measure => have := HK1.out; omega
       case rel => exact ⟨(y253), (wrap64 (x5_1 + 1)), (by first | rfl | (simp; done) | (simp [*]; done)), H', ⟨by have := HK1.out; omega⟩, ⟨by (with_reducible repeat (first | apply Kd.R_alloc | apply Kd.R_drewN | apply Kd.R_drew)); exact HO255.out⟩, ⟨by (with_reducible repeat (first | apply Kd.R_alloc | apply Kd.R_drewN | apply Kd.R_drew)); exact HO_4.out⟩, ⟨by repeat (first | (with_reducible first | exact HB.out | apply below_alloc | apply pw_below_drewN | apply below_drew1) | exact HB.out)⟩⟩
      rw [if_neg c7] at H
      exact absurd H (by simp)
     rw [if_neg c6] at H
     have c6b0 : ((rdOf ByteArray.empty t249 x5_1).toList == ([42] : List UInt8)) = false := beq_eq_false_iff_ne.mpr c6
     have c6b1 : ((rdOf ByteArray.empty t249 x5_1).toList != ([42] : List UInt8)) = true := bne_iff_ne.mpr c6
     have H' := Aside0.mk H
     clear H
     obtain ⟨Ao10, co10, eo10⟩ := Kd.R_slice HO_4.out
     subst eo10
     have p252 : 0 ≤ (x5_1 : Int) := of_decide_eq_true (by first | (with_reducible assumption) | assumption)
     have q252 : x5_1 < (t249.length : Int) := of_decide_eq_true (by first | (with_reducible assumption) | assumption)
     obtain ⟨ad252, e252, hx252_0⟩ := Kd.at_string (Kd.R_reads' HO_4.out).2.2 x5_1 p252 q252
     cases e252
     replace p252 := eq_true p252
     replace q252 := eq_true q252
     go_wp2
     go_roundg k1
     case measure => have := HK1.out; omega
     case rel => exact ⟨(x3_1), (wrap64 (x5_1 + 1)), (by first | rfl | (simp; done) | (simp [*]; done)), H', ⟨by have := HK1.out; omega⟩, ⟨by (with_reducible repeat (first | apply Kd.R_alloc | apply Kd.R_drewN | apply Kd.R_drew)); exact HO_3.out⟩, ⟨by (with_reducible repeat (first | apply Kd.R_alloc | apply Kd.R_drewN | apply Kd.R_drew)); exact HO_4.out⟩, ⟨by repeat (first | (with_reducible first | exact HB.out | apply below_alloc | apply pw_below_drewN | apply below_drew1) | exact HB.out)⟩⟩
    rw [if_neg c5] at H
    exact absurd H (by simp)
   rw [if_neg c4] at H
   have c4b0 : decide (x5_1 < (t249.length : Int)) = false := decide_eq_false c4
   clear c4
   obtain rfl := Option.some.inj H
   obtain ⟨Ao11, co11, eo11⟩ := Kd.R_slice HO_4.out
   subst eo11
   go_wp2
   go_ret
   exact ⟨_, by first | rfl | (simp [errW_none, errW_some] <;> rfl) | (simp [*, errW_none, errW_some] <;> rfl), by (with_reducible repeat (first | apply Kd.R_alloc | apply Kd.R_drewN | apply Kd.R_drew)); exact HO_3.out, by repeat (first | (with_reducible first | exact HB.out | apply below_alloc | apply pw_below_drewN | apply below_drew1) | exact HB.out)⟩
def spec_Join.l0 : Nat → List ByteArray → ByteArray → Int → Option (ByteArray)
 | 0, _, _, _ => none
 | k + 1, x0, x3, x4 => if x4 < (x0.length : Int) then (if x4 > 0 then (if x3.size + 1 ≤ 9223372036854775807 then (if 0 ≤ x4 then (if (x3 ++ (⟨#[46]⟩ : ByteArray)).size + (rdOf ByteArray.empty x0 x4).size ≤ 9223372036854775807 then (spec_Join.l0 k x0 ((x3 ++ (⟨#[46]⟩ : ByteArray)) ++ (rdOf ByteArray.empty x0 x4)) (wrap64 (x4 + 1))) else (none)) else (none)) else (none)) else (if 0 ≤ x4 then (if x3.size + (rdOf ByteArray.empty x0 x4).size ≤ 9223372036854775807 then (spec_Join.l0 k x0 (x3 ++ (rdOf ByteArray.empty x0 x4)) (wrap64 (x4 + 1))) else (none)) else (none))) else (some x3)
def spec_Join.f (k : Nat) (l0 : List ByteArray) : Option (ByteArray) := spec_Join.l0 k l0 (⟨#[]⟩ : ByteArray) 0
set_option maxHeartbeats 8000000 in
set_option maxRecDepth 100000 in
theorem spec_Join.calls (k : Nat) (A0 : Option Addr) (c0 : Nat) (l0 : List ByteArray) (r : ByteArray) (w : World) (hr0 : Kd.C Kd.string w A0 l0.length l0) (hc0 : l0.length ≤ c0) (h : spec_Join.f k l0 = some r) :
  Calls Tryd.prog 37 #[.slice A0 l0.length c0] w fun e w' => e = .returned (.string r) ∧ Drawn0 w w' := by
 have HR0 := Aside0.mk hr0
 have HC0 := Aside0.mk hc0
 clear hr0 hc0
 have H : (spec_Join.l0 k l0 (⟨#[]⟩ : ByteArray) 0) = some r := h
 clear h
 have H' := Aside0.mk H
 clear H
 go_enter Tryd.func37, Tryd.ntmps37
 go_wp2
 go_loopg [3, 4] k (fun kq v3 v4 w' => ∃ (x3_1 : ByteArray) (x4_1 : Int), v3 = .string x3_1 ∧ v4 = .int .i64 x4_1 ∧ Aside0 (spec_Join.l0 kq l0 x3_1 x4_1 = some r) ∧ Aside0 (kq ≤ k) ∧ Drawn0 w w')
 case atStart => exact ⟨((⟨#[]⟩ : ByteArray)), (0), (by first | rfl | (simp; done) | (simp [*]; done)), (by first | rfl | (simp; done) | (simp [*]; done)), H', ⟨Nat.le_refl _⟩, by repeat (first | exact Drawn0.refl _ | apply Drawn0.step)⟩
 case round =>
  clear H'
  obtain ⟨x3_1, x4_1, rfl, rfl, HA, HK1, ⟨m1, rfl⟩⟩ := hrel
  cases gk with
  | zero => exact absurd HA.out (by simp [spec_Join.l0])
  | succ k1 =>
   have H := HA.out
   clear HA
   simp only [spec_Join.l0] at H
   by_cases c2 : x4_1 < (l0.length : Int)
   ·
    rw [if_pos c2] at H
    have c2b0 : decide (x4_1 < (l0.length : Int)) = true := decide_eq_true c2
    clear c2
    by_cases c3 : x4_1 > 0
    ·
     rw [if_pos c3] at H
     have c3b0 : decide (0 < x4_1) = true := decide_eq_true c3
     clear c3
     by_cases c4 : x3_1.size + 1 ≤ 9223372036854775807
     ·
      rw [if_pos c4] at H
      have c4b0 := eq_true c4
      have c4b1 : decide (x3_1.size + 1 ≤ 9223372036854775807) = true := decide_eq_true c4
      try have c4b2 : (9223372036854775807 < x3_1.size + 1) = False := eq_false (Nat.not_lt.2 c4)
      by_cases c5 : 0 ≤ x4_1
      ·
       rw [if_pos c5] at H
       have c5b0 : decide (0 ≤ x4_1) = true := decide_eq_true c5
       clear c5
       by_cases c6 : (x3_1 ++ (⟨#[46]⟩ : ByteArray)).size + (rdOf ByteArray.empty l0 x4_1).size ≤ 9223372036854775807
       ·
        rw [if_pos c6] at H
        have c6b0 := eq_true c6
        have c6b1 : decide ((x3_1 ++ (⟨#[46]⟩ : ByteArray)).size + (rdOf ByteArray.empty l0 x4_1).size ≤ 9223372036854775807) = true := decide_eq_true c6
        try have c6b2 : (9223372036854775807 < (x3_1 ++ (⟨#[46]⟩ : ByteArray)).size + (rdOf ByteArray.empty l0 x4_1).size) = False := eq_false (Nat.not_lt.2 c6)
        have c6z : (9223372036854775807 < (x3_1).size + 1 + (rdOf ByteArray.empty l0 x4_1).size) = False := eq_false (Nat.not_lt.2 (by have h_ := c6; simp only [ByteArray.size_append] at h_; exact h_))
        have H' := Aside0.mk H
        clear H
        have p256 : 0 ≤ (x4_1 : Int) := of_decide_eq_true (by first | (with_reducible assumption) | assumption)
        have q256 : x4_1 < (l0.length : Int) := of_decide_eq_true (by first | (with_reducible assumption) | assumption)
        obtain ⟨ad256, e256, hx256_0⟩ := Kd.at_string HR0.out x4_1 p256 q256
        cases e256
        replace p256 := eq_true p256
        replace q256 := eq_true q256
        go_wp2
        go_roundg k1
        case measure => have := HK1.out; omega
        case rel => exact ⟨((x3_1 ++ (⟨#[46]⟩ : ByteArray)) ++ (rdOf ByteArray.empty l0 x4_1)), (wrap64 (x4_1 + 1)), (by first | rfl | (simp; done) | (simp [*]; done)), (by first | rfl | (simp; done) | (simp [*]; done)), H', ⟨by have := HK1.out; omega⟩, by repeat (first | exact Drawn0.refl _ | apply Drawn0.step)⟩
       rw [if_neg c6] at H
       exact absurd H (by simp)
      rw [if_neg c5] at H
      exact absurd H (by simp)
     rw [if_neg c4] at H
     exact absurd H (by simp)
    rw [if_neg c3] at H
    have c3b0 : decide (0 < x4_1) = false := decide_eq_false c3
    clear c3
    by_cases c7 : 0 ≤ x4_1
    ·
     rw [if_pos c7] at H
     have c7b0 : decide (0 ≤ x4_1) = true := decide_eq_true c7
     clear c7
     by_cases c8 : x3_1.size + (rdOf ByteArray.empty l0 x4_1).size ≤ 9223372036854775807
     ·
      rw [if_pos c8] at H
      have c8b0 := eq_true c8
      have c8b1 : decide (x3_1.size + (rdOf ByteArray.empty l0 x4_1).size ≤ 9223372036854775807) = true := decide_eq_true c8
      try have c8b2 : (9223372036854775807 < x3_1.size + (rdOf ByteArray.empty l0 x4_1).size) = False := eq_false (Nat.not_lt.2 c8)
      have H' := Aside0.mk H
      clear H
      have p257 : 0 ≤ (x4_1 : Int) := of_decide_eq_true (by first | (with_reducible assumption) | assumption)
      have q257 : x4_1 < (l0.length : Int) := of_decide_eq_true (by first | (with_reducible assumption) | assumption)
      obtain ⟨ad257, e257, hx257_0⟩ := Kd.at_string HR0.out x4_1 p257 q257
      cases e257
      replace p257 := eq_true p257
      replace q257 := eq_true q257
      go_wp2
      go_roundg k1
      case measure => have := HK1.out; omega
      case rel => exact ⟨(x3_1 ++ (rdOf ByteArray.empty l0 x4_1)), (wrap64 (x4_1 + 1)), (by first | rfl | (simp; done) | (simp [*]; done)), (by first | rfl | (simp; done) | (simp [*]; done)), H', ⟨by have := HK1.out; omega⟩, by repeat (first | exact Drawn0.refl _ | apply Drawn0.step)⟩
     rw [if_neg c8] at H
     exact absurd H (by simp)
    rw [if_neg c7] at H
    exact absurd H (by simp)
   rw [if_neg c2] at H
   have c2b0 : decide (x4_1 < (l0.length : Int)) = false := decide_eq_false c2
   clear c2
   obtain rfl := Option.some.inj H
   go_wp2
   go_ret
   exact ⟨by first | rfl | (simp; done) | (simp [*]; done) | (simp; cases a0.toList <;> rfl) , by repeat (first | exact Drawn0.refl _ | apply Drawn0.step)⟩
def spec_matches.l0 : Nat → List ByteArray → List ByteArray → Int → Option (Bool)
 | 0, _, _, _ => none
 | k + 1, x0, x1, x5 => if x5 < (x1.length : Int) then (if x5 ≥ (x0.length : Int) then (some false) else (if 0 ≤ x5 then (if (rdOf ByteArray.empty x1 x5).toList = ([62] : List UInt8) then (some true) else (if (rdOf ByteArray.empty x1 x5).toList = ([42] : List UInt8) then (spec_matches.l0 k x0 x1 (wrap64 (x5 + 1))) else (if x5 < (x0.length : Int) then (if (rdOf ByteArray.empty x1 x5).toList = (rdOf ByteArray.empty x0 x5).toList then (spec_matches.l0 k x0 x1 (wrap64 (x5 + 1))) else (some false)) else (none)))) else (none))) else (some ((x0.length : Int) == (x1.length : Int)))
def spec_matches.f (k : Nat) (l0 : List ByteArray) (l1 : List ByteArray) : Option (Bool) := spec_matches.l0 k l0 l1 0
set_option maxHeartbeats 8000000 in
set_option maxRecDepth 100000 in
theorem spec_matches.calls (k : Nat) (A0 : Option Addr) (c0 : Nat) (l0 : List ByteArray) (A1 : Option Addr) (c1 : Nat) (l1 : List ByteArray) (r : Bool) (w : World) (hr0 : Kd.C Kd.string w A0 l0.length l0) (hc0 : l0.length ≤ c0) (hr1 : Kd.C Kd.string w A1 l1.length l1) (hc1 : l1.length ≤ c1) (h : spec_matches.f k l0 l1 = some r) :
  Calls Tryd.prog 32 #[.slice A0 l0.length c0, .slice A1 l1.length c1] w fun e w' => e = .returned (.bool r) ∧ Drawn0 w w' := by
 have HR0 := Aside0.mk hr0
 have HC0 := Aside0.mk hc0
 clear hr0 hc0
 have HR1 := Aside0.mk hr1
 have HC1 := Aside0.mk hc1
 clear hr1 hc1
 have H : (spec_matches.l0 k l0 l1 0) = some r := h
 clear h
 have H' := Aside0.mk H
 clear H
 go_enter Tryd.func32, Tryd.ntmps32
 go_wp2
 repeat (go_quiet (fail); try go_wp2)
 go_loopg [5] k (fun kq v5 w' => ∃ (x5_1 : Int), v5 = .int .i64 x5_1 ∧ Aside0 (spec_matches.l0 kq l0 l1 x5_1 = some r) ∧ Aside0 (kq ≤ k) ∧ Drawn0 w w')
 case atStart => exact ⟨(0), (by first | rfl | (simp; done) | (simp [*]; done)), H', ⟨Nat.le_refl _⟩, by repeat (first | exact Drawn0.refl _ | apply Drawn0.step)⟩
 case round =>
  clear H'
  try clear c1
  try clear p2
  obtain ⟨x5_1, rfl, HA, HK1, ⟨m1, rfl⟩⟩ := hrel
  cases gk with
  | zero => exact absurd HA.out (by simp [spec_matches.l0])
  | succ k1 =>
   have H := HA.out
   clear HA
   simp only [spec_matches.l0] at H
   by_cases c3 : x5_1 < (l1.length : Int)
   ·
    rw [if_pos c3] at H
    have c3b0 : decide (x5_1 < (l1.length : Int)) = true := decide_eq_true c3
    clear c3
    by_cases c4 : x5_1 ≥ (l0.length : Int)
    ·
     rw [if_pos c4] at H
     have c4b0 : decide ((l0.length : Int) ≤ x5_1) = true := decide_eq_true c4
     clear c4
     obtain rfl := Option.some.inj H
     go_wp2
     repeat (go_quiet (fail); try go_wp2)
     go_ret
     exact ⟨by first | rfl | (simp; done) | (simp [*]; done), by repeat (first | exact Drawn0.refl _ | apply Drawn0.step)⟩
    rw [if_neg c4] at H
    have c4b0 : decide ((l0.length : Int) ≤ x5_1) = false := decide_eq_false c4
    clear c4
    by_cases c5 : 0 ≤ x5_1
    ·
     rw [if_pos c5] at H
     have c5b0 : decide (0 ≤ x5_1) = true := decide_eq_true c5
     clear c5
     by_cases c6 : (rdOf ByteArray.empty l1 x5_1).toList = ([62] : List UInt8)
     ·
      rw [if_pos c6] at H
      have c6b0 : ((rdOf ByteArray.empty l1 x5_1).toList == ([62] : List UInt8)) = true := beq_iff_eq.mpr c6
      have c6b1 : ((rdOf ByteArray.empty l1 x5_1).toList != ([62] : List UInt8)) = false := bne_eq_false_iff_eq.mpr c6
      clear c6
      obtain rfl := Option.some.inj H
      have p385 : 0 ≤ (x5_1 : Int) := of_decide_eq_true (by first | (with_reducible assumption) | assumption)
      have q385 : x5_1 < (l1.length : Int) := of_decide_eq_true (by first | (with_reducible assumption) | assumption)
      obtain ⟨ad385, e385, hx385_0⟩ := Kd.at_string HR1.out x5_1 p385 q385
      cases e385
      replace p385 := eq_true p385
      replace q385 := eq_true q385
      go_wp2
      repeat (go_quiet (fail); try go_wp2)
      go_ret
      exact ⟨by first | rfl | (simp; done) | (simp [*]; done), by repeat (first | exact Drawn0.refl _ | apply Drawn0.step)⟩
     rw [if_neg c6] at H
     have c6b0 : ((rdOf ByteArray.empty l1 x5_1).toList == ([62] : List UInt8)) = false := beq_eq_false_iff_ne.mpr c6
     have c6b1 : ((rdOf ByteArray.empty l1 x5_1).toList != ([62] : List UInt8)) = true := bne_iff_ne.mpr c6
     by_cases c7 : (rdOf ByteArray.empty l1 x5_1).toList = ([42] : List UInt8)
     ·
      rw [if_pos c7] at H
      have c7b0 : ((rdOf ByteArray.empty l1 x5_1).toList == ([42] : List UInt8)) = true := beq_iff_eq.mpr c7
      have c7b1 : ((rdOf ByteArray.empty l1 x5_1).toList != ([42] : List UInt8)) = false := bne_eq_false_iff_eq.mpr c7
      clear c7
      have H' := Aside0.mk H
      clear H
      have p385 : 0 ≤ (x5_1 : Int) := of_decide_eq_true (by first | (with_reducible assumption) | assumption)
      have q385 : x5_1 < (l1.length : Int) := of_decide_eq_true (by first | (with_reducible assumption) | assumption)
      obtain ⟨ad385, e385, hx385_0⟩ := Kd.at_string HR1.out x5_1 p385 q385
      cases e385
      replace p385 := eq_true p385
      replace q385 := eq_true q385
      have p386 : 0 ≤ (x5_1 : Int) := of_decide_eq_true (by first | (with_reducible assumption) | assumption)
      have q386 : x5_1 < (l1.length : Int) := of_decide_eq_true (by first | (with_reducible assumption) | assumption)
      obtain ⟨ad386, e386, hx386_0⟩ := Kd.at_string HR1.out x5_1 p386 q386
      obtain rfl : ad385 = ad386 := (by injection e386)
      replace p386 := eq_true p386
      replace q386 := eq_true q386
      go_wp2
      repeat (go_quiet (fail); try go_wp2)
      go_roundg k1
      case measure => have := HK1.out; omega
      case rel => exact ⟨(wrap64 (x5_1 + 1)), (by first | rfl | (simp; done) | (simp [*]; done)), H', ⟨by have := HK1.out; omega⟩, by repeat (first | exact Drawn0.refl _ | apply Drawn0.step)⟩
     rw [if_neg c7] at H
     have c7b0 : ((rdOf ByteArray.empty l1 x5_1).toList == ([42] : List UInt8)) = false := beq_eq_false_iff_ne.mpr c7
     have c7b1 : ((rdOf ByteArray.empty l1 x5_1).toList != ([42] : List UInt8)) = true := bne_iff_ne.mpr c7
     by_cases c8 : x5_1 < (l0.length : Int)
     ·
      rw [if_pos c8] at H
      have c8b0 : decide (x5_1 < (l0.length : Int)) = true := decide_eq_true c8
      clear c8
      by_cases c9 : (rdOf ByteArray.empty l1 x5_1).toList = (rdOf ByteArray.empty l0 x5_1).toList
      ·
       rw [if_pos c9] at H
       have c9b0 : ((rdOf ByteArray.empty l1 x5_1).toList == (rdOf ByteArray.empty l0 x5_1).toList) = true := beq_iff_eq.mpr c9
       have c9b1 : ((rdOf ByteArray.empty l1 x5_1).toList != (rdOf ByteArray.empty l0 x5_1).toList) = false := bne_eq_false_iff_eq.mpr c9
       clear c9
       have H' := Aside0.mk H
       clear H
       have p385 : 0 ≤ (x5_1 : Int) := of_decide_eq_true (by first | (with_reducible assumption) | assumption)
       have q385 : x5_1 < (l1.length : Int) := of_decide_eq_true (by first | (with_reducible assumption) | assumption)
       obtain ⟨ad385, e385, hx385_0⟩ := Kd.at_string HR1.out x5_1 p385 q385
       cases e385
       replace p385 := eq_true p385
       replace q385 := eq_true q385
       have p386 : 0 ≤ (x5_1 : Int) := of_decide_eq_true (by first | (with_reducible assumption) | assumption)
       have q386 : x5_1 < (l1.length : Int) := of_decide_eq_true (by first | (with_reducible assumption) | assumption)
       obtain ⟨ad386, e386, hx386_0⟩ := Kd.at_string HR1.out x5_1 p386 q386
       obtain rfl : ad385 = ad386 := (by injection e386)
       replace p386 := eq_true p386
       replace q386 := eq_true q386
       have p387 : 0 ≤ (x5_1 : Int) := of_decide_eq_true (by first | (with_reducible assumption) | assumption)
       have q387 : x5_1 < (l1.length : Int) := of_decide_eq_true (by first | (with_reducible assumption) | assumption)
       obtain ⟨ad387, e387, hx387_0⟩ := Kd.at_string HR1.out x5_1 p387 q387
       obtain rfl : ad385 = ad387 := (by injection e387)
       replace p387 := eq_true p387
       replace q387 := eq_true q387
       have p388 : 0 ≤ (x5_1 : Int) := of_decide_eq_true (by first | (with_reducible assumption) | assumption)
       have q388 : x5_1 < (l0.length : Int) := of_decide_eq_true (by first | (with_reducible assumption) | assumption)
       obtain ⟨ad388, e388, hx388_0⟩ := Kd.at_string HR0.out x5_1 p388 q388
       cases e388
       replace p388 := eq_true p388
       replace q388 := eq_true q388
       go_wp2
       repeat (go_quiet (fail); try go_wp2)
       go_roundg k1
       case measure => have := HK1.out; omega
       case rel => exact ⟨(wrap64 (x5_1 + 1)), (by first | rfl | (simp; done) | (simp [*]; done)), H', ⟨by have := HK1.out; omega⟩, by repeat (first | exact Drawn0.refl _ | apply Drawn0.step)⟩
      rw [if_neg c9] at H
      have c9b0 : ((rdOf ByteArray.empty l1 x5_1).toList == (rdOf ByteArray.empty l0 x5_1).toList) = false := beq_eq_false_iff_ne.mpr c9
      have c9b1 : ((rdOf ByteArray.empty l1 x5_1).toList != (rdOf ByteArray.empty l0 x5_1).toList) = true := bne_iff_ne.mpr c9
      obtain rfl := Option.some.inj H
      have p385 : 0 ≤ (x5_1 : Int) := of_decide_eq_true (by first | (with_reducible assumption) | assumption)
      have q385 : x5_1 < (l1.length : Int) := of_decide_eq_true (by first | (with_reducible assumption) | assumption)
      obtain ⟨ad385, e385, hx385_0⟩ := Kd.at_string HR1.out x5_1 p385 q385
      cases e385
      replace p385 := eq_true p385
      replace q385 := eq_true q385
      have p386 : 0 ≤ (x5_1 : Int) := of_decide_eq_true (by first | (with_reducible assumption) | assumption)
      have q386 : x5_1 < (l1.length : Int) := of_decide_eq_true (by first | (with_reducible assumption) | assumption)
      obtain ⟨ad386, e386, hx386_0⟩ := Kd.at_string HR1.out x5_1 p386 q386
      obtain rfl : ad385 = ad386 := (by injection e386)
      replace p386 := eq_true p386
      replace q386 := eq_true q386
      have p387 : 0 ≤ (x5_1 : Int) := of_decide_eq_true (by first | (with_reducible assumption) | assumption)
      have q387 : x5_1 < (l1.length : Int) := of_decide_eq_true (by first | (with_reducible assumption) | assumption)
      obtain ⟨ad387, e387, hx387_0⟩ := Kd.at_string HR1.out x5_1 p387 q387
      obtain rfl : ad385 = ad387 := (by injection e387)
      replace p387 := eq_true p387
      replace q387 := eq_true q387
      have p388 : 0 ≤ (x5_1 : Int) := of_decide_eq_true (by first | (with_reducible assumption) | assumption)
      have q388 : x5_1 < (l0.length : Int) := of_decide_eq_true (by first | (with_reducible assumption) | assumption)
      obtain ⟨ad388, e388, hx388_0⟩ := Kd.at_string HR0.out x5_1 p388 q388
      cases e388
      replace p388 := eq_true p388
      replace q388 := eq_true q388
      go_wp2
      repeat (go_quiet (fail); try go_wp2)
      go_ret
      exact ⟨by first | rfl | (simp; done) | (simp [*]; done), by repeat (first | exact Drawn0.refl _ | apply Drawn0.step)⟩
     rw [if_neg c8] at H
     exact absurd H (by simp)
    rw [if_neg c5] at H
    exact absurd H (by simp)
   rw [if_neg c3] at H
   have c3b0 : decide (x5_1 < (l1.length : Int)) = false := decide_eq_false c3
   clear c3
   obtain rfl := Option.some.inj H
   go_wp2
   repeat (go_quiet (fail); try go_wp2)
   go_ret
   exact ⟨by first | rfl | (simp; done) | (simp [*]; done), by repeat (first | exact Drawn0.refl _ | apply Drawn0.step)⟩
def spec_Match.f (k : Nat) (a0 : ByteArray) (a1 : ByteArray) : Option (Bool) := (spec_Tokens.f k a0).bind fun t389 => ((spec_Tokens.f k a1).bind fun t392 => ((spec_matches.f k t389 t392).bind fun t395 => (some t395)))
set_option maxHeartbeats 8000000 in
set_option maxRecDepth 100000 in
theorem spec_Match.calls (k : Nat) (a0 : ByteArray) (a1 : ByteArray) (r : Bool) (w : World) (h : spec_Match.f k a0 a1 = some r) :
  Calls Tryd.prog 12 #[.string a0, .string a1] w fun e w' => e = .returned (.bool r) ∧ Below w.heap.size w w' := by
 have HB := Aside0.mk (Below.refl w.heap.size w)
 have H : ((spec_Tokens.f k a0).bind fun t389 => ((spec_Tokens.f k a1).bind fun t392 => ((spec_matches.f k t389 t392).bind fun t395 => (some t395)))) = some r := h
 clear h
 replace H := Option.bind_eq_some_iff.mp H
 obtain ⟨t389, A30, H⟩ := H
 replace H : ((spec_Tokens.f k a1).bind fun t392 => ((spec_matches.f k t389 t392).bind fun t395 => (some t395))) = some r := H
 have A3 := Aside0.mk A30
 clear A30
 replace H := Option.bind_eq_some_iff.mp H
 obtain ⟨t392, A40, H⟩ := H
 replace H : ((spec_matches.f k t389 t392).bind fun t395 => (some t395)) = some r := H
 have A4 := Aside0.mk A40
 clear A40
 replace H := Option.bind_eq_some_iff.mp H
 obtain ⟨t395, A50, H⟩ := H
 replace H : (some t395) = some r := H
 have A5 := Aside0.mk A50
 clear A50
 obtain rfl := Option.some.inj H
 go_enter Tryd.func12, Tryd.ntmps12
 go_wp2_with (first | ((with_reducible refine gate_callee (f := 25) rfl ?_); refine goesL_ (some 6) rfl rfl Tryd.func25 (by kernel_rfl) rfl #[.string a0] rfl (by (try simp only [List.map_toArray, List.map_cons, List.map_nil]); first | done | rfl | (simp only [List.length_drop, List.length_take]; rfl)) ?_; (with_reducible refine (spec_Tokens.calls k a0 t389 _ A3.out).mono ?_); rintro e w6 ⟨v390, rfl, ho0, hb⟩; refine ⟨_, rfl, ?_⟩; have n0_ := Aside0.mk (Kd.R_lower ho0 (below_size (by repeat (first | (with_reducible first | exact HB.out | apply below_alloc | apply pw_below_drewN | apply below_drew1) | exact HB.out)))); have n1_ := Aside0.mk (below_step (by repeat (first | (with_reducible first | exact HB.out | apply below_alloc | apply pw_below_drewN | apply below_drew1) | exact HB.out)) hb); clear HB; have HO391 := n0_; have HB := n1_; clear n0_ n1_; (try clear hb); (try clear hb2); (try clear hk); (try clear hi); (try clear ho0)) | ((with_reducible refine gate_callee (f := 25) rfl ?_); refine goesL_ (some 8) rfl rfl Tryd.func25 (by kernel_rfl) rfl #[.string a1] rfl (by (try simp only [List.map_toArray, List.map_cons, List.map_nil]); first | done | rfl | (simp only [List.length_drop, List.length_take]; rfl)) ?_; (with_reducible refine (spec_Tokens.calls k a1 t392 _ A4.out).mono ?_); rintro e w7 ⟨v393, rfl, ho0, hb⟩; refine ⟨_, rfl, ?_⟩; have n0_ := Aside0.mk (Kd.R_elder' (by (with_reducible repeat (first | apply Kd.R_alloc | apply Kd.R_drewN | apply Kd.R_drew)); exact HO391.out) (Kd.R_base ho0) hb); have n1_ := Aside0.mk (Kd.R_lower (Kd.R_new' ho0 (Kd.R_lt (by (with_reducible repeat (first | apply Kd.R_alloc | apply Kd.R_drewN | apply Kd.R_drew)); exact HO391.out))) (below_size (by repeat (first | (with_reducible first | exact HB.out | apply below_alloc | apply pw_below_drewN | apply below_drew1) | exact HB.out)))); have n2_ := Aside0.mk (below_step (by repeat (first | (with_reducible first | exact HB.out | apply below_alloc | apply pw_below_drewN | apply below_drew1) | exact HB.out)) hb); clear HO391; clear HB; have HO391 := n0_; have HO394 := n1_; have HB := n2_; clear n0_ n1_ n2_; (try clear hb); (try clear hb2); (try clear hk); (try clear hi); (try clear ho0); obtain ⟨Ao8, co8, eo8⟩ := Kd.R_slice HO391.out; subst eo8; obtain ⟨Ao9, co9, eo9⟩ := Kd.R_slice HO394.out; subst eo9) | ((with_reducible refine gate_callee (f := 32) rfl ?_); refine goesL_ (some 9) rfl rfl Tryd.func32 (by kernel_rfl) rfl #[.slice Ao8 t389.length co8, .slice Ao9 t392.length co9] rfl (by (try simp only [List.map_toArray, List.map_cons, List.map_nil]); first | done | rfl | (simp only [List.length_drop, List.length_take]; rfl)) ?_; (with_reducible refine (spec_matches.calls k _ _ t389 _ _ t392 t395 _ ?side1 ?side2 ?side3 ?side4 A5.out).mono ?_); (case side1 => repeat (first | exact (Kd.R_reads' HO391.out).2.2 | (with_reducible refine Kd.C_alloc ?_ _) | (with_reducible refine Kd.C_drewN ?_ _) | (with_reducible refine Kd.C_drew ?_))); (case side2 => exact (Kd.R_reads' HO391.out).2.1); (case side3 => repeat (first | exact (Kd.R_reads' HO394.out).2.2 | (with_reducible refine Kd.C_alloc ?_ _) | (with_reducible refine Kd.C_drewN ?_ _) | (with_reducible refine Kd.C_drew ?_))); (case side4 => exact (Kd.R_reads' HO394.out).2.1); rintro e w' ⟨rfl, ⟨nd, rfl⟩⟩; refine ⟨_, rfl, ?_⟩))
 go_ret
 exact ⟨by first | rfl | (simp [errW_none, errW_some] <;> rfl) | (simp [*, errW_none, errW_some] <;> rfl), by repeat (first | (with_reducible first | exact HB.out | apply below_alloc | apply pw_below_drewN | apply below_drew1) | exact HB.out)⟩
end Go.Proofs.YtoopmpjgmgffoaaDoor.GFnTransformBack
