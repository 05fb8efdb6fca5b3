/- A walk of Go functions (plain functions of theirs, and that the machine's calls do what these say), written by a program of this session's. -/
import Derived.Test.YtgbdjinanflhaaaGFnSubsetMeansx0
import Derived.Test.YtgbdjinanflhaaaGFnSubsetMeansx5
namespace Go.Proofs.Ytgbdjinanflhaaa.GFnSubsetMeans
open Go.RowKit Go.Proofs.YtgbdjinanflhaaaW.PrintWords Go.Proofs.YtgbdjinanflhaaaW.PrintLast Go.Proofs.YtgbdjinanflhaaaW.PrintMore
attribute [local go_sem] max2_int min2_int max_two min_two max_three min_three max_four min_four   -- for this text's walks alone
set_option linter.unusedVariables false
set_option linter.unusedSimpArgs false

/-! ### server_MatchLiteral: function 28 -/
def server_MatchLiteral.f (k : Nat) (a0 : ByteArray) (a1 : ByteArray) : Option (Bool) := (server_matchLiteral.f k a0 a1).bind fun t136 => (some t136)
theorem server_MatchLiteral.mono : ∀ a0 a1 k, LeO (server_MatchLiteral.f k a0 a1) (server_MatchLiteral.f (k + 1) a0 a1) := by
  intro a0 a1 k
  unfold server_MatchLiteral.f
  repeat' first
      | (with_reducible exact server_matchLiteral.mono _ _ _)
      | (with_reducible exact LeO.refl _)
      | (with_reducible exact LeO.none _)
      | (with_reducible refine LeO.ite ?_ ?_)
      | (with_reducible refine LeO.bind ?_ (fun _ => ?_))
      | exact server_matchLiteral.mono _ _ _
      | exact LeO.none _
      | refine LeO.ite ?_ ?_
      | refine LeO.bind ?_ (fun _ => ?_)
set_option maxHeartbeats 8000000 in
set_option maxRecDepth 100000 in
theorem server_MatchLiteral.calls (k : Nat) (a0 : ByteArray) (a1 : ByteArray) (r : Bool) (w : World) (h : server_MatchLiteral.f k a0 a1 = some r) :
    Calls Try.prog 28 #[.string a0, .string a1] w fun e w' => e = .returned (.bool r) ∧ Drawn0 w w' := by
  have H : ((server_matchLiteral.f k a0 a1).bind fun t136 => (some t136)) = some r := h
  clear h
  replace H := Option.bind_eq_some_iff.mp H
  obtain ⟨t136, A30, H⟩ := H
  replace H : (some t136) = some r := H
  have A3 := Aside0.mk A30
  clear A30
  obtain rfl := Option.some.inj H
  go_enter Try.func28, Try.ntmps28
  go_wp2_with (first | ((with_reducible refine gate_callee (f := 37) rfl ?_); refine goesL_ (some 7) rfl rfl Try.func37 (by kernel_rfl) rfl #[.string a0, .string a1] rfl (by (try simp only [List.map_toArray, List.map_cons, List.map_nil]); first | done | rfl | (simp only [List.length_drop, List.length_take]; rfl)) ?_; (with_reducible refine (server_matchLiteral.calls k a0 a1 t136 _ A3.out).mono ?_); rintro e w' ⟨rfl, ⟨nd, rfl⟩⟩; refine ⟨_, rfl, ?_⟩))
  go_ret
  exact ⟨by first | rfl | (simp; done) | (simp [*]; done), by repeat (first | exact Drawn0.refl _ | apply Drawn0.step)⟩

/-! ### impl_MatchLiteral: function 11 -/
def impl_MatchLiteral.f (k : Nat) (a0 : ByteArray) (a1 : ByteArray) : Option (Bool) := (server_MatchLiteral.f k a0 a1).bind fun t137 => (some t137)
theorem impl_MatchLiteral.mono : ∀ a0 a1 k, LeO (impl_MatchLiteral.f k a0 a1) (impl_MatchLiteral.f (k + 1) a0 a1) := by
  intro a0 a1 k
  unfold impl_MatchLiteral.f
  repeat' first
      | (with_reducible exact server_MatchLiteral.mono _ _ _)
      | (with_reducible exact LeO.refl _)
      | (with_reducible exact LeO.none _)
      | (with_reducible refine LeO.ite ?_ ?_)
      | (with_reducible refine LeO.bind ?_ (fun _ => ?_))
      | exact server_MatchLiteral.mono _ _ _
      | exact LeO.none _
      | refine LeO.ite ?_ ?_
      | refine LeO.bind ?_ (fun _ => ?_)
set_option maxHeartbeats 8000000 in
set_option maxRecDepth 100000 in
theorem impl_MatchLiteral.calls (k : Nat) (a0 : ByteArray) (a1 : ByteArray) (r : Bool) (w : World) (h : impl_MatchLiteral.f k a0 a1 = some r) :
    Calls Try.prog 11 #[.string a0, .string a1] w fun e w' => e = .returned (.bool r) ∧ Drawn0 w w' := by
  have H : ((server_MatchLiteral.f k a0 a1).bind fun t137 => (some t137)) = some r := h
  clear h
  replace H := Option.bind_eq_some_iff.mp H
  obtain ⟨t137, A30, H⟩ := H
  replace H : (some t137) = some r := H
  have A3 := Aside0.mk A30
  clear A30
  obtain rfl := Option.some.inj H
  go_enter Try.func11, Try.ntmps11
  go_wp2_with (first | ((with_reducible refine gate_callee (f := 28) rfl ?_); refine goesL_ (some 7) rfl rfl Try.func28 (by kernel_rfl) rfl #[.string a0, .string a1] rfl (by (try simp only [List.map_toArray, List.map_cons, List.map_nil]); first | done | rfl | (simp only [List.length_drop, List.length_take]; rfl)) ?_; (with_reducible refine (server_MatchLiteral.calls k a0 a1 t137 _ A3.out).mono ?_); rintro e w' ⟨rfl, ⟨nd, rfl⟩⟩; refine ⟨_, rfl, ?_⟩))
  go_ret
  exact ⟨by first | rfl | (simp; done) | (simp [*]; done), by repeat (first | exact Drawn0.refl _ | apply Drawn0.step)⟩

/-! ### server_analyzeTokens: function 39 -/
mutual
def server_analyzeTokens.l0 : Nat → Bool → Bool → List ByteArray → Int → Int → Option (Bool × Bool)
  | 0, _, _, _, _, _ => none
  | k + 1, x2, x3, x7, x8, x9 => if x9 < x8 then (if 0 ≤ x9 then (if x9 < (x7.length : Int) then (if ((rdOf ByteArray.empty x7 x9).size : Int) = 0 then (server_analyzeTokens.j1 k x2 x3 (rdOf ByteArray.empty x7 x9) x7 x8 x9 true) else (server_analyzeTokens.j1 k x2 x3 (rdOf ByteArray.empty x7 x9) x7 x8 x9 (decide (((rdOf ByteArray.empty x7 x9).size : Int) > 1)))) else (none)) else (none)) else (some (x2, x3))
def server_analyzeTokens.j1 : Nat → Bool → Bool → ByteArray → List ByteArray → Int → Int → Bool → Option (Bool × Bool)
  | 0, _, _, _, _, _, _, _ => none
  | k + 1, x2, x3, x5, x7, x8, x9, x20 => if x20 = true then (server_analyzeTokens.l0 k x2 x3 x7 x8 (wrap64 (x9 + 1))) else (if 0 < (x5.size : Int) then (if (bt x5 0) = 42 then (server_analyzeTokens.l0 k true x3 x7 x8 (wrap64 (x9 + 1))) else (if (bt x5 0) = 62 then (server_analyzeTokens.l0 k x2 true x7 x8 (wrap64 (x9 + 1))) else (server_analyzeTokens.l0 k x2 x3 x7 x8 (wrap64 (x9 + 1))))) else (none))
end
def server_analyzeTokens.f (k : Nat) (l0 : List ByteArray) : Option (Bool × Bool) := server_analyzeTokens.l0 k false false l0 (l0.length : Int) 0
theorem server_analyzeTokens.mono_l : ∀ k, (∀ y0 y1 y2 y3 y4, LeO (server_analyzeTokens.l0 k y0 y1 y2 y3 y4) (server_analyzeTokens.l0 (k + 1) y0 y1 y2 y3 y4)) ∧ (∀ y0 y1 y2 y3 y4 y5 y6, LeO (server_analyzeTokens.j1 k y0 y1 y2 y3 y4 y5 y6) (server_analyzeTokens.j1 (k + 1) y0 y1 y2 y3 y4 y5 y6))
  | 0 => ⟨fun _ _ _ _ _ r h => by simp [server_analyzeTokens.l0] at h, fun _ _ _ _ _ _ _ r h => by simp [server_analyzeTokens.j1] at h⟩
  | k + 1 => by
    obtain ⟨ih0, ih1⟩ := server_analyzeTokens.mono_l k
    refine ⟨?_, ?_⟩
    · intro y0 y1 y2 y3 y4
      unfold server_analyzeTokens.l0
      repeat' first
      | (with_reducible exact ih0 _ _ _ _ _)
      | (with_reducible exact ih1 _ _ _ _ _ _ _)
      | (with_reducible exact LeO.refl _)
      | (with_reducible exact LeO.none _)
      | (with_reducible refine LeO.ite ?_ ?_)
      | (with_reducible refine LeO.bind ?_ (fun _ => ?_))
      | exact ih0 _ _ _ _ _
      | exact ih1 _ _ _ _ _ _ _
      | exact LeO.none _
      | refine LeO.ite ?_ ?_
      | refine LeO.bind ?_ (fun _ => ?_)
    · intro y0 y1 y2 y3 y4 y5 y6
      unfold server_analyzeTokens.j1
      repeat' first
      | (with_reducible exact ih0 _ _ _ _ _)
      | (with_reducible exact ih1 _ _ _ _ _ _ _)
      | (with_reducible exact LeO.refl _)
      | (with_reducible exact LeO.none _)
      | (with_reducible refine LeO.ite ?_ ?_)
      | (with_reducible refine LeO.bind ?_ (fun _ => ?_))
      | exact ih0 _ _ _ _ _
      | exact ih1 _ _ _ _ _ _ _
      | exact LeO.none _
      | refine LeO.ite ?_ ?_
      | refine LeO.bind ?_ (fun _ => ?_)
theorem server_analyzeTokens.mono : ∀ a0 k, LeO (server_analyzeTokens.f k a0) (server_analyzeTokens.f (k + 1) a0) := by
  intro a0 k
  obtain ⟨ih0, ih1⟩ := server_analyzeTokens.mono_l k
  unfold server_analyzeTokens.f
  repeat' first
      | (with_reducible exact ih0 _ _ _ _ _)
      | (with_reducible exact ih1 _ _ _ _ _ _ _)
      | (with_reducible exact LeO.refl _)
      | (with_reducible exact LeO.none _)
      | (with_reducible refine LeO.ite ?_ ?_)
      | (with_reducible refine LeO.bind ?_ (fun _ => ?_))
      | exact ih0 _ _ _ _ _
      | exact ih1 _ _ _ _ _ _ _
      | exact LeO.none _
      | refine LeO.ite ?_ ?_
      | refine LeO.bind ?_ (fun _ => ?_)
set_option maxHeartbeats 8000000 in
set_option maxRecDepth 100000 in
theorem server_analyzeTokens.calls (k : Nat) (A0 : Option Addr) (c0 : Nat) (l0 : List ByteArray) (r1 : Bool) (r2 : Bool) (w : World) (hr0 : Kd.C Kd.string w A0 l0.length l0) (hc0 : l0.length ≤ c0) (h : server_analyzeTokens.f k l0 = some (r1, r2)) :
    Calls Try.prog 39 #[.slice A0 l0.length c0] w fun e w' => e = .returned (.tuple #[.bool r1, .bool r2]) ∧ Drawn0 w w' := by
  have HR0 := Aside0.mk hr0
  have HC0 := Aside0.mk hc0
  clear hr0 hc0
  have H : (server_analyzeTokens.l0 k false false l0 (l0.length : Int) 0) = some (r1, r2) := h
  clear h
  have H' := Aside0.mk H
  clear H
  go_enter Try.func39, Try.ntmps39
  go_wp2
  go_loopg [2, 3, 9] k (fun kq v2 v3 v9 w' => ∃ (x2_1 : Bool) (x3_1 : Bool) (x9_1 : Int), v2 = .bool x2_1 ∧ v3 = .bool x3_1 ∧ v9 = .int .i64 x9_1 ∧ Aside0 (server_analyzeTokens.l0 kq x2_1 x3_1 l0 (l0.length : Int) x9_1 = some (r1, r2)) ∧ Aside0 (kq ≤ k) ∧ Drawn0 w w')
  case atStart => exact ⟨(false), (false), (0), (by first | rfl | (simp; done) | (simp [*]; done)), (by first | rfl | (simp; done) | (simp [*]; done)), (by first | rfl | (simp; done) | (simp [*]; done)), H', ⟨Nat.le_refl _⟩, by repeat (first | exact Drawn0.refl _ | apply Drawn0.step)⟩
  case round =>
    clear H'
    obtain ⟨x2_1, x3_1, x9_1, rfl, rfl, rfl, HA, HK1, ⟨m1, rfl⟩⟩ := hrel
    cases gk with
    | zero => exact absurd HA.out (by simp [server_analyzeTokens.l0])
    | succ k1 =>
      have H := HA.out
      clear HA
      simp only [server_analyzeTokens.l0] at H
      by_cases c2 : x9_1 < (l0.length : Int)
      · rw [if_pos c2] at H
        have c2b0 : decide (x9_1 < (l0.length : Int)) = true := decide_eq_true c2
        clear c2
        by_cases c3 : 0 ≤ x9_1
        · rw [if_pos c3] at H
          have c3b0 : decide (0 ≤ x9_1) = true := decide_eq_true c3
          clear c3
          by_cases c4 : x9_1 < (l0.length : Int)
          · rw [if_pos c4] at H
            have c4b0 : decide (x9_1 < (l0.length : Int)) = true := decide_eq_true c4
            clear c4
            have HC5 := Aside0.mk H
            clear H
            have p138 : 0 ≤ (x9_1 : Int) := of_decide_eq_true (by first | (with_reducible assumption) | assumption)
            have q138 : x9_1 < (l0.length : Int) := of_decide_eq_true (by first | (with_reducible assumption) | assumption)
            obtain ⟨ad138, e138, hx138_0⟩ := Kd.at_string HR0.out x9_1 p138 q138
            cases e138
            replace p138 := eq_true p138
            replace q138 := eq_true q138
            go_upto_region 5 with (fail)
            go_cut [20] (fun v20 wc => ∃ (kq : Nat) (x20_4 : Bool), v20 = .bool x20_4 ∧ Aside0 (server_analyzeTokens.j1 kq x2_1 x3_1 (rdOf ByteArray.empty l0 x9_1) l0 (l0.length : Int) x9_1 x20_4 = some (r1, r2)) ∧ Aside0 (kq ≤ k1) ∧ Drawn0 w wc)
            case first =>
              have H := HC5.out
              clear HC5
              by_cases c6 : ((rdOf ByteArray.empty l0 x9_1).size : Int) = 0
              · rw [if_pos c6] at H
                have c6b0 : (((rdOf ByteArray.empty l0 x9_1).size : Int) == 0) = true := beq_iff_eq.mpr c6
                have c6b1 : (((rdOf ByteArray.empty l0 x9_1).size : Int) != 0) = false := bne_eq_false_iff_eq.mpr c6
                clear c6
                (first | rw [c6b0] | (simp only [i64_w, i32_w]; rw [c6b0]) | skip)
                have H' := Aside0.mk H
                clear H
                go_wp2
                go_meet
                case rel => exact ⟨_, (true), (by first | rfl | (simp; done) | (simp [*]; done)), H', ⟨by have := HK1.out; first | omega | exact Nat.le_refl _⟩, by repeat (first | exact Drawn0.refl _ | apply Drawn0.step)⟩
              · rw [if_neg c6] at H
                have c6b0 : (((rdOf ByteArray.empty l0 x9_1).size : Int) == 0) = false := beq_eq_false_iff_ne.mpr c6
                have c6b1 : (((rdOf ByteArray.empty l0 x9_1).size : Int) != 0) = true := bne_iff_ne.mpr c6
                (first | rw [c6b0] | (simp only [i64_w, i32_w]; rw [c6b0]) | skip)
                have H' := Aside0.mk H
                clear H
                go_wp2
                go_meet
                case rel => exact ⟨_, (decide (((rdOf ByteArray.empty l0 x9_1).size : Int) > 1)), (by first | rfl | (simp; done) | (simp [*]; done)), H', ⟨by have := HK1.out; first | omega | exact Nat.le_refl _⟩, by repeat (first | exact Drawn0.refl _ | apply Drawn0.step)⟩
            case rest =>
              clear HC5
              try clear p1
              try clear q1
              try clear hx1
              try clear c2
              try clear c2b0
              try clear p2
              try clear c3
              try clear c3b0
              try clear c4
              try clear c4b0
              try clear c6
              try clear c6b0
              try clear c6b1
              try clear hx138_0
              try clear p138
              try clear q138
              obtain ⟨kq, x20_4, rfl, HA, HJ4, ⟨mc4, rfl⟩⟩ := hcut
              cases kq with
              | zero => exact absurd HA.out (by simp [server_analyzeTokens.j1])
              | succ kj4 =>
                have H := HA.out
                clear HA
                simp only [server_analyzeTokens.j1] at H
                by_cases c7 : x20_4 = true
                · subst c7
                  have H1 : (server_analyzeTokens.l0 kj4 x2_1 x3_1 l0 (l0.length : Int) (wrap64 (x9_1 + 1))) = some (r1, r2) := by rw [if_pos rfl] at H; exact H
                  clear H
                  have H := H1
                  clear H1
                  have H' := Aside0.mk H
                  clear H
                  go_wp2
                  go_roundg kj4
                  case measure => have := HK1.out; have := HJ4.out; omega
                  case rel => exact ⟨(x2_1), (x3_1), (wrap64 (x9_1 + 1)), (by first | rfl | (simp; done) | (simp [*]; done)), (by first | rfl | (simp; done) | (simp [*]; done)), (by first | rfl | (simp; done) | (simp [*]; done)), H', ⟨by have := HK1.out; have := HJ4.out; omega⟩, by repeat (first | exact Drawn0.refl _ | apply Drawn0.step)⟩
                · replace c7 := Bool.eq_false_iff.mpr c7
                  subst c7
                  have H1 : (if 0 < ((rdOf ByteArray.empty l0 x9_1).size : Int) then (if (bt (rdOf ByteArray.empty l0 x9_1) 0) = 42 then (server_analyzeTokens.l0 kj4 true x3_1 l0 (l0.length : Int) (wrap64 (x9_1 + 1))) else (if (bt (rdOf ByteArray.empty l0 x9_1) 0) = 62 then (server_analyzeTokens.l0 kj4 x2_1 true l0 (l0.length : Int) (wrap64 (x9_1 + 1))) else (server_analyzeTokens.l0 kj4 x2_1 x3_1 l0 (l0.length : Int) (wrap64 (x9_1 + 1))))) else (none)) = some (r1, r2) := by rw [if_neg (show ¬ (false = true) by decide)] at H; exact H
                  clear H
                  have H := H1
                  clear H1
                  by_cases c8 : 0 < ((rdOf ByteArray.empty l0 x9_1).size : Int)
                  · rw [if_pos c8] at H
                    have c8b0 : decide (0 < ((rdOf ByteArray.empty l0 x9_1).size : Int)) = true := decide_eq_true c8
                    have c8b1 : decide (0 < (rdOf ByteArray.empty l0 x9_1).size) = true := decide_eq_true (by omega)
                    clear c8
                    by_cases c10 : (bt (rdOf ByteArray.empty l0 x9_1) 0) = 42
                    · rw [if_pos c10] at H
                      have c10b0 : ((bt (rdOf ByteArray.empty l0 x9_1) 0) == 42) = true := beq_iff_eq.mpr c10
                      have c10b1 : ((bt (rdOf ByteArray.empty l0 x9_1) 0) != 42) = false := bne_eq_false_iff_eq.mpr c10
                      clear c10
                      have H' := Aside0.mk H
                      clear H
                      have p9 : 0 ≤ (0 : Int) := (by omega)
                      have q9 : 0 < (rdOf ByteArray.empty l0 x9_1).size := (by have : (0 : Int) < ((rdOf ByteArray.empty l0 x9_1).size : Int) := of_decide_eq_true (by first | (with_reducible assumption) | assumption); omega)
                      have hx9 : ∀ h : 0 < (rdOf ByteArray.empty l0 x9_1).size, (((rdOf ByteArray.empty l0 x9_1)[0]'h).toNat : Int) = bt (rdOf ByteArray.empty l0 x9_1) 0 := bt_at (rdOf ByteArray.empty l0 x9_1) 0
                      clear p9
                      have qi9 : (0 < ((rdOf ByteArray.empty l0 x9_1).size : Int)) = True := eq_true (of_decide_eq_true (by first | (with_reducible assumption) | assumption))
                      replace q9 := eq_true q9
                      go_wp2
                      go_roundg kj4
                      case measure => have := HK1.out; have := HJ4.out; omega
                      case rel => exact ⟨(true), (x3_1), (wrap64 (x9_1 + 1)), (by first | rfl | (simp; done) | (simp [*]; done)), (by first | rfl | (simp; done) | (simp [*]; done)), (by first | rfl | (simp; done) | (simp [*]; done)), H', ⟨by have := HK1.out; have := HJ4.out; omega⟩, by repeat (first | exact Drawn0.refl _ | apply Drawn0.step)⟩
                    · rw [if_neg c10] at H
                      have c10b0 : ((bt (rdOf ByteArray.empty l0 x9_1) 0) == 42) = false := beq_eq_false_iff_ne.mpr c10
                      have c10b1 : ((bt (rdOf ByteArray.empty l0 x9_1) 0) != 42) = true := bne_iff_ne.mpr c10
                      by_cases c11 : (bt (rdOf ByteArray.empty l0 x9_1) 0) = 62
                      · rw [if_pos c11] at H
                        have c11b0 : ((bt (rdOf ByteArray.empty l0 x9_1) 0) == 62) = true := beq_iff_eq.mpr c11
                        have c11b1 : ((bt (rdOf ByteArray.empty l0 x9_1) 0) != 62) = false := bne_eq_false_iff_eq.mpr c11
                        clear c11
                        have H' := Aside0.mk H
                        clear H
                        have p9 : 0 ≤ (0 : Int) := (by omega)
                        have q9 : 0 < (rdOf ByteArray.empty l0 x9_1).size := (by have : (0 : Int) < ((rdOf ByteArray.empty l0 x9_1).size : Int) := of_decide_eq_true (by first | (with_reducible assumption) | assumption); omega)
                        have hx9 : ∀ h : 0 < (rdOf ByteArray.empty l0 x9_1).size, (((rdOf ByteArray.empty l0 x9_1)[0]'h).toNat : Int) = bt (rdOf ByteArray.empty l0 x9_1) 0 := bt_at (rdOf ByteArray.empty l0 x9_1) 0
                        clear p9
                        have qi9 : (0 < ((rdOf ByteArray.empty l0 x9_1).size : Int)) = True := eq_true (of_decide_eq_true (by first | (with_reducible assumption) | assumption))
                        replace q9 := eq_true q9
                        go_wp2
                        go_roundg kj4
                        case measure => have := HK1.out; have := HJ4.out; omega
                        case rel => exact ⟨(x2_1), (true), (wrap64 (x9_1 + 1)), (by first | rfl | (simp; done) | (simp [*]; done)), (by first | rfl | (simp; done) | (simp [*]; done)), (by first | rfl | (simp; done) | (simp [*]; done)), H', ⟨by have := HK1.out; have := HJ4.out; omega⟩, by repeat (first | exact Drawn0.refl _ | apply Drawn0.step)⟩
                      · rw [if_neg c11] at H
                        have c11b0 : ((bt (rdOf ByteArray.empty l0 x9_1) 0) == 62) = false := beq_eq_false_iff_ne.mpr c11
                        have c11b1 : ((bt (rdOf ByteArray.empty l0 x9_1) 0) != 62) = true := bne_iff_ne.mpr c11
                        have H' := Aside0.mk H
                        clear H
                        have p9 : 0 ≤ (0 : Int) := (by omega)
                        have q9 : 0 < (rdOf ByteArray.empty l0 x9_1).size := (by have : (0 : Int) < ((rdOf ByteArray.empty l0 x9_1).size : Int) := of_decide_eq_true (by first | (with_reducible assumption) | assumption); omega)
                        have hx9 : ∀ h : 0 < (rdOf ByteArray.empty l0 x9_1).size, (((rdOf ByteArray.empty l0 x9_1)[0]'h).toNat : Int) = bt (rdOf ByteArray.empty l0 x9_1) 0 := bt_at (rdOf ByteArray.empty l0 x9_1) 0
                        clear p9
                        have qi9 : (0 < ((rdOf ByteArray.empty l0 x9_1).size : Int)) = True := eq_true (of_decide_eq_true (by first | (with_reducible assumption) | assumption))
                        replace q9 := eq_true q9
                        go_wp2
                        go_roundg kj4
                        case measure => have := HK1.out; have := HJ4.out; omega
                        case rel => exact ⟨(x2_1), (x3_1), (wrap64 (x9_1 + 1)), (by first | rfl | (simp; done) | (simp [*]; done)), (by first | rfl | (simp; done) | (simp [*]; done)), (by first | rfl | (simp; done) | (simp [*]; done)), H', ⟨by have := HK1.out; have := HJ4.out; omega⟩, by repeat (first | exact Drawn0.refl _ | apply Drawn0.step)⟩
                  · rw [if_neg c8] at H
                    exact absurd H (by simp)
          · rw [if_neg c4] at H
            exact absurd H (by simp)
        · rw [if_neg c3] at H
          exact absurd H (by simp)
      · rw [if_neg c2] at H
        have c2b0 : decide (x9_1 < (l0.length : Int)) = false := decide_eq_false c2
        clear c2
        simp only [Option.some.injEq, Prod.mk.injEq] at H
        obtain ⟨rfl, rfl⟩ := H
        go_wp2
        go_ret2
        exact ⟨by first | rfl | (simp; done) | (simp [*]; done), by repeat (first | exact Drawn0.refl _ | apply Drawn0.step)⟩

/-! ### server_tokensCanMatch: function 41 -/
def server_tokensCanMatch.j0 : Nat → ByteArray → ByteArray → Bool → Option (Bool)
  | 0, _, _, _ => none
  | k + 1, x0, x1, x14 => if x14 = true then (some false) else (if 0 < (x0.size : Int) then (if 0 < (x1.size : Int) then (if (bt x0 0) = 42 then (some true) else (if (bt x1 0) = 42 then (some true) else (if (bt x0 0) = 62 then (some true) else (if (bt x1 0) = 62 then (some true) else (some (x0.toList == x1.toList)))))) else (none)) else (none))
def server_tokensCanMatch.f (k : Nat) (a0 : ByteArray) (a1 : ByteArray) : Option (Bool) := if (a0.size : Int) = 0 then (server_tokensCanMatch.j0 k a0 a1 true) else (server_tokensCanMatch.j0 k a0 a1 ((a1.size : Int) == 0))
theorem server_tokensCanMatch.mono_l : ∀ k, (∀ y0 y1 y2, LeO (server_tokensCanMatch.j0 k y0 y1 y2) (server_tokensCanMatch.j0 (k + 1) y0 y1 y2))
  | 0 => fun _ _ _ r h => by simp [server_tokensCanMatch.j0] at h
  | k + 1 => by
    have ih0 := server_tokensCanMatch.mono_l k
    · intro y0 y1 y2
      unfold server_tokensCanMatch.j0
      repeat' first
      | (with_reducible exact ih0 _ _ _)
      | (with_reducible exact LeO.refl _)
      | (with_reducible exact LeO.none _)
      | (with_reducible refine LeO.ite ?_ ?_)
      | (with_reducible refine LeO.bind ?_ (fun _ => ?_))
      | exact ih0 _ _ _
      | exact LeO.none _
      | refine LeO.ite ?_ ?_
      | refine LeO.bind ?_ (fun _ => ?_)
theorem server_tokensCanMatch.mono : ∀ a0 a1 k, LeO (server_tokensCanMatch.f k a0 a1) (server_tokensCanMatch.f (k + 1) a0 a1) := by
  intro a0 a1 k
  have ih0 := server_tokensCanMatch.mono_l k
  unfold server_tokensCanMatch.f
  repeat' first
      | (with_reducible exact ih0 _ _ _)
      | (with_reducible exact LeO.refl _)
      | (with_reducible exact LeO.none _)
      | (with_reducible refine LeO.ite ?_ ?_)
      | (with_reducible refine LeO.bind ?_ (fun _ => ?_))
      | exact ih0 _ _ _
      | exact LeO.none _
      | refine LeO.ite ?_ ?_
      | refine LeO.bind ?_ (fun _ => ?_)
set_option maxHeartbeats 8000000 in
set_option maxRecDepth 100000 in
theorem server_tokensCanMatch.calls (k : Nat) (a0 : ByteArray) (a1 : ByteArray) (r : Bool) (w : World) (h : server_tokensCanMatch.f k a0 a1 = some r) :
    Calls Try.prog 41 #[.string a0, .string a1] w fun e w' => e = .returned (.bool r) ∧ Drawn0 w w' := by
  have H : (if (a0.size : Int) = 0 then (server_tokensCanMatch.j0 k a0 a1 true) else (server_tokensCanMatch.j0 k a0 a1 ((a1.size : Int) == 0))) = some r := h
  clear h
  have HC3 := Aside0.mk H
  clear H
  go_enter Try.func41, Try.ntmps41
  go_upto_region 1 with (fail)
  repeat (go_quiet (fail); go_upto_region 1 with (fail))
  go_cut [14] (fun v14 wc => ∃ (kq : Nat) (x14_2 : Bool), v14 = .bool x14_2 ∧ Aside0 (server_tokensCanMatch.j0 kq a0 a1 x14_2 = some r) ∧ Aside0 (kq ≤ k) ∧ Drawn0 w wc)
  case first =>
    have H := HC3.out
    clear HC3
    by_cases c4 : (a0.size : Int) = 0
    · rw [if_pos c4] at H
      have c4b0 : ((a0.size : Int) == 0) = true := beq_iff_eq.mpr c4
      have c4b1 : ((a0.size : Int) != 0) = false := bne_eq_false_iff_eq.mpr c4
      clear c4
      (first | rw [c4b0] | (simp only [i64_w, i32_w]; rw [c4b0]) | skip)
      have H' := Aside0.mk H
      clear H
      go_wp2
      repeat (go_quiet (fail); try go_wp2)
      go_meet
      case rel => exact ⟨_, (true), (by first | rfl | (simp; done) | (simp [*]; done)), H', ⟨by first | omega | exact Nat.le_refl _⟩, by repeat (first | exact Drawn0.refl _ | apply Drawn0.step)⟩
    · rw [if_neg c4] at H
      have c4b0 : ((a0.size : Int) == 0) = false := beq_eq_false_iff_ne.mpr c4
      have c4b1 : ((a0.size : Int) != 0) = true := bne_iff_ne.mpr c4
      (first | rw [c4b0] | (simp only [i64_w, i32_w]; rw [c4b0]) | skip)
      have H' := Aside0.mk H
      clear H
      go_wp2
      repeat (go_quiet (fail); try go_wp2)
      go_meet
      case rel => exact ⟨_, (((a1.size : Int) == 0)), (by first | rfl | (simp; done) | (simp [*]; done)), H', ⟨by first | omega | exact Nat.le_refl _⟩, by repeat (first | exact Drawn0.refl _ | apply Drawn0.step)⟩
  case rest =>
    clear HC3
    try clear p2
    try clear c4
    try clear c4b0
    try clear c4b1
    obtain ⟨kq, x14_2, rfl, HA, HJ2, ⟨mc2, rfl⟩⟩ := hcut
    cases kq with
    | zero => exact absurd HA.out (by simp [server_tokensCanMatch.j0])
    | succ kj2 =>
      have H := HA.out
      clear HA
      simp only [server_tokensCanMatch.j0] at H
      by_cases c5 : x14_2 = true
      · subst c5
        have H1 : (some false) = some r := by rw [if_pos rfl] at H; exact H
        clear H
        have H := H1
        clear H1
        obtain rfl := Option.some.inj H
        go_wp2
        repeat (go_quiet (fail); try go_wp2)
        go_ret
        exact ⟨by first | rfl | (simp; done) | (simp [*]; done), by repeat (first | exact Drawn0.refl _ | apply Drawn0.step)⟩
      · replace c5 := Bool.eq_false_iff.mpr c5
        subst c5
        have H1 : (if 0 < (a0.size : Int) then (if 0 < (a1.size : Int) then (if (bt a0 0) = 42 then (some true) else (if (bt a1 0) = 42 then (some true) else (if (bt a0 0) = 62 then (some true) else (if (bt a1 0) = 62 then (some true) else (some (a0.toList == a1.toList)))))) else (none)) else (none)) = some r := by rw [if_neg (show ¬ (false = true) by decide)] at H; exact H
        clear H
        have H := H1
        clear H1
        by_cases c6 : 0 < (a0.size : Int)
        · rw [if_pos c6] at H
          have c6b0 : decide (0 < (a0.size : Int)) = true := decide_eq_true c6
          have c6b1 : decide (0 < a0.size) = true := decide_eq_true (by omega)
          clear c6
          by_cases c8 : 0 < (a1.size : Int)
          · rw [if_pos c8] at H
            have c8b0 : decide (0 < (a1.size : Int)) = true := decide_eq_true c8
            have c8b1 : decide (0 < a1.size) = true := decide_eq_true (by omega)
            clear c8
            by_cases c10 : (bt a0 0) = 42
            · rw [if_pos c10] at H
              have c10b0 : ((bt a0 0) == 42) = true := beq_iff_eq.mpr c10
              have c10b1 : ((bt a0 0) != 42) = false := bne_eq_false_iff_eq.mpr c10
              clear c10
              obtain rfl := Option.some.inj H
              have p7 : 0 ≤ (0 : Int) := (by omega)
              have q7 : 0 < a0.size := (by have : (0 : Int) < (a0.size : Int) := of_decide_eq_true (by first | (with_reducible assumption) | assumption); omega)
              have hx7 : ∀ h : 0 < a0.size, ((a0[0]'h).toNat : Int) = bt a0 0 := bt_at a0 0
              clear p7
              have qi7 : (0 < (a0.size : Int)) = True := eq_true (of_decide_eq_true (by first | (with_reducible assumption) | assumption))
              replace q7 := eq_true q7
              have p9 : 0 ≤ (0 : Int) := (by omega)
              have q9 : 0 < a1.size := (by have : (0 : Int) < (a1.size : Int) := of_decide_eq_true (by first | (with_reducible assumption) | assumption); omega)
              have hx9 : ∀ h : 0 < a1.size, ((a1[0]'h).toNat : Int) = bt a1 0 := bt_at a1 0
              clear p9
              have qi9 : (0 < (a1.size : Int)) = True := eq_true (of_decide_eq_true (by first | (with_reducible assumption) | assumption))
              replace q9 := eq_true q9
              go_wp2
              repeat (go_quiet (fail); try go_wp2)
              go_ret
              exact ⟨by first | rfl | (simp; done) | (simp [*]; done), by repeat (first | exact Drawn0.refl _ | apply Drawn0.step)⟩
            · rw [if_neg c10] at H
              have c10b0 : ((bt a0 0) == 42) = false := beq_eq_false_iff_ne.mpr c10
              have c10b1 : ((bt a0 0) != 42) = true := bne_iff_ne.mpr c10
              by_cases c11 : (bt a1 0) = 42
              · rw [if_pos c11] at H
                have c11b0 : ((bt a1 0) == 42) = true := beq_iff_eq.mpr c11
                have c11b1 : ((bt a1 0) != 42) = false := bne_eq_false_iff_eq.mpr c11
                clear c11
                obtain rfl := Option.some.inj H
                have p7 : 0 ≤ (0 : Int) := (by omega)
                have q7 : 0 < a0.size := (by have : (0 : Int) < (a0.size : Int) := of_decide_eq_true (by first | (with_reducible assumption) | assumption); omega)
                have hx7 : ∀ h : 0 < a0.size, ((a0[0]'h).toNat : Int) = bt a0 0 := bt_at a0 0
                clear p7
                have qi7 : (0 < (a0.size : Int)) = True := eq_true (of_decide_eq_true (by first | (with_reducible assumption) | assumption))
                replace q7 := eq_true q7
                have p9 : 0 ≤ (0 : Int) := (by omega)
                have q9 : 0 < a1.size := (by have : (0 : Int) < (a1.size : Int) := of_decide_eq_true (by first | (with_reducible assumption) | assumption); omega)
                have hx9 : ∀ h : 0 < a1.size, ((a1[0]'h).toNat : Int) = bt a1 0 := bt_at a1 0
                clear p9
                have qi9 : (0 < (a1.size : Int)) = True := eq_true (of_decide_eq_true (by first | (with_reducible assumption) | assumption))
                replace q9 := eq_true q9
                go_wp2
                repeat (go_quiet (fail); try go_wp2)
                go_ret
                exact ⟨by first | rfl | (simp; done) | (simp [*]; done), by repeat (first | exact Drawn0.refl _ | apply Drawn0.step)⟩
              · rw [if_neg c11] at H
                have c11b0 : ((bt a1 0) == 42) = false := beq_eq_false_iff_ne.mpr c11
                have c11b1 : ((bt a1 0) != 42) = true := bne_iff_ne.mpr c11
                by_cases c12 : (bt a0 0) = 62
                · rw [if_pos c12] at H
                  have c12b0 : ((bt a0 0) == 62) = true := beq_iff_eq.mpr c12
                  have c12b1 : ((bt a0 0) != 62) = false := bne_eq_false_iff_eq.mpr c12
                  clear c12
                  obtain rfl := Option.some.inj H
                  have p7 : 0 ≤ (0 : Int) := (by omega)
                  have q7 : 0 < a0.size := (by have : (0 : Int) < (a0.size : Int) := of_decide_eq_true (by first | (with_reducible assumption) | assumption); omega)
                  have hx7 : ∀ h : 0 < a0.size, ((a0[0]'h).toNat : Int) = bt a0 0 := bt_at a0 0
                  clear p7
                  have qi7 : (0 < (a0.size : Int)) = True := eq_true (of_decide_eq_true (by first | (with_reducible assumption) | assumption))
                  replace q7 := eq_true q7
                  have p9 : 0 ≤ (0 : Int) := (by omega)
                  have q9 : 0 < a1.size := (by have : (0 : Int) < (a1.size : Int) := of_decide_eq_true (by first | (with_reducible assumption) | assumption); omega)
                  have hx9 : ∀ h : 0 < a1.size, ((a1[0]'h).toNat : Int) = bt a1 0 := bt_at a1 0
                  clear p9
                  have qi9 : (0 < (a1.size : Int)) = True := eq_true (of_decide_eq_true (by first | (with_reducible assumption) | assumption))
                  replace q9 := eq_true q9
                  go_wp2
                  repeat (go_quiet (fail); try go_wp2)
                  go_ret
                  exact ⟨by first | rfl | (simp; done) | (simp [*]; done), by repeat (first | exact Drawn0.refl _ | apply Drawn0.step)⟩
                · rw [if_neg c12] at H
                  have c12b0 : ((bt a0 0) == 62) = false := beq_eq_false_iff_ne.mpr c12
                  have c12b1 : ((bt a0 0) != 62) = true := bne_iff_ne.mpr c12
                  by_cases c13 : (bt a1 0) = 62
                  · rw [if_pos c13] at H
                    have c13b0 : ((bt a1 0) == 62) = true := beq_iff_eq.mpr c13
                    have c13b1 : ((bt a1 0) != 62) = false := bne_eq_false_iff_eq.mpr c13
                    clear c13
                    obtain rfl := Option.some.inj H
                    have p7 : 0 ≤ (0 : Int) := (by omega)
                    have q7 : 0 < a0.size := (by have : (0 : Int) < (a0.size : Int) := of_decide_eq_true (by first | (with_reducible assumption) | assumption); omega)
                    have hx7 : ∀ h : 0 < a0.size, ((a0[0]'h).toNat : Int) = bt a0 0 := bt_at a0 0
                    clear p7
                    have qi7 : (0 < (a0.size : Int)) = True := eq_true (of_decide_eq_true (by first | (with_reducible assumption) | assumption))
                    replace q7 := eq_true q7
                    have p9 : 0 ≤ (0 : Int) := (by omega)
                    have q9 : 0 < a1.size := (by have : (0 : Int) < (a1.size : Int) := of_decide_eq_true (by first | (with_reducible assumption) | assumption); omega)
                    have hx9 : ∀ h : 0 < a1.size, ((a1[0]'h).toNat : Int) = bt a1 0 := bt_at a1 0
                    clear p9
                    have qi9 : (0 < (a1.size : Int)) = True := eq_true (of_decide_eq_true (by first | (with_reducible assumption) | assumption))
                    replace q9 := eq_true q9
                    go_wp2
                    repeat (go_quiet (fail); try go_wp2)
                    go_ret
                    exact ⟨by first | rfl | (simp; done) | (simp [*]; done), by repeat (first | exact Drawn0.refl _ | apply Drawn0.step)⟩
                  · rw [if_neg c13] at H
                    have c13b0 : ((bt a1 0) == 62) = false := beq_eq_false_iff_ne.mpr c13
                    have c13b1 : ((bt a1 0) != 62) = true := bne_iff_ne.mpr c13
                    obtain rfl := Option.some.inj H
                    have p7 : 0 ≤ (0 : Int) := (by omega)
                    have q7 : 0 < a0.size := (by have : (0 : Int) < (a0.size : Int) := of_decide_eq_true (by first | (with_reducible assumption) | assumption); omega)
                    have hx7 : ∀ h : 0 < a0.size, ((a0[0]'h).toNat : Int) = bt a0 0 := bt_at a0 0
                    clear p7
                    have qi7 : (0 < (a0.size : Int)) = True := eq_true (of_decide_eq_true (by first | (with_reducible assumption) | assumption))
                    replace q7 := eq_true q7
                    have p9 : 0 ≤ (0 : Int) := (by omega)
                    have q9 : 0 < a1.size := (by have : (0 : Int) < (a1.size : Int) := of_decide_eq_true (by first | (with_reducible assumption) | assumption); omega)
                    have hx9 : ∀ h : 0 < a1.size, ((a1[0]'h).toNat : Int) = bt a1 0 := bt_at a1 0
                    clear p9
                    have qi9 : (0 < (a1.size : Int)) = True := eq_true (of_decide_eq_true (by first | (with_reducible assumption) | assumption))
                    replace q9 := eq_true q9
                    go_wp2
                    repeat (go_quiet (fail); try go_wp2)
                    go_ret
                    exact ⟨by first | rfl | (simp; done) | (simp [*]; done), by repeat (first | exact Drawn0.refl _ | apply Drawn0.step)⟩
          · rw [if_neg c8] at H
            exact absurd H (by simp)
        · rw [if_neg c6] at H
          exact absurd H (by simp)

end Go.Proofs.Ytgbdjinanflhaaa.GFnSubsetMeans
