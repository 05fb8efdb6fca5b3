/- A walk of Go functions (plain functions of theirs, and that the machine's calls do what these say), written by a program of this session's. -/
import Derived.Test.YtgbdjinanflhaaaGFnSubsetMeansx0
import Derived.Test.YtgbdjinanflhaaaGFnSubsetMeansx7
namespace Go.Proofs.Ytgbdjinanflhaaa.GFnSubsetMeans
open Go.RowKit Go.Proofs.YtgbdjinanflhaaaW.PrintWords Go.Proofs.YtgbdjinanflhaaaW.PrintLast Go.Proofs.YtgbdjinanflhaaaW.PrintMore
attribute [local go_sem] max2_int min2_int max_two min_two max_three min_three max_four min_four   -- for this text's walks alone
set_option linter.unusedVariables false
set_option linter.unusedSimpArgs false

/-! ### impl_Collide: function 14 -/
def impl_Collide.f (k : Nat) (a0 : ByteArray) (a1 : ByteArray) : Option (Bool) := (server_SubjectsCollide.f k a0 a1).bind fun t139 => (some t139)
theorem impl_Collide.mono : ∀ a0 a1 k, LeO (impl_Collide.f k a0 a1) (impl_Collide.f (k + 1) a0 a1) := by
  intro a0 a1 k
  unfold impl_Collide.f
  repeat' first
      | (with_reducible exact server_SubjectsCollide.mono _ _ _)
      | (with_reducible exact LeO.refl _)
      | (with_reducible exact LeO.none _)
      | (with_reducible refine LeO.ite ?_ ?_)
      | (with_reducible refine LeO.bind ?_ (fun _ => ?_))
      | exact server_SubjectsCollide.mono _ _ _
      | exact LeO.none _
      | refine LeO.ite ?_ ?_
      | refine LeO.bind ?_ (fun _ => ?_)
set_option maxHeartbeats 8000000 in
set_option maxRecDepth 100000 in
theorem impl_Collide.calls (k : Nat) (a0 : ByteArray) (a1 : ByteArray) (r : Bool) (w : World) (h : impl_Collide.f k a0 a1 = some r) :
    Calls Try.prog 14 #[.string a0, .string a1] w fun e w' => e = .returned (.bool r) ∧ Below w.heap.size w w' := by
  have HB := Aside0.mk (Below.refl w.heap.size w)
  have H : ((server_SubjectsCollide.f k a0 a1).bind fun t139 => (some t139)) = some r := h
  clear h
  replace H := Option.bind_eq_some_iff.mp H
  obtain ⟨t139, A30, H⟩ := H
  replace H : (some t139) = some r := H
  have A3 := Aside0.mk A30
  clear A30
  obtain rfl := Option.some.inj H
  go_enter Try.func14, Try.ntmps14
  go_wp2_with (first | ((with_reducible refine gate_callee (f := 30) rfl ?_); refine goesL_ (some 7) rfl rfl Try.func30 (by kernel_rfl) rfl #[.string a0, .string a1] rfl (by (try simp only [List.map_toArray, List.map_cons, List.map_nil]); first | done | rfl | (simp only [List.length_drop, List.length_take]; rfl)) ?_; (with_reducible refine (server_SubjectsCollide.calls k a0 a1 t139 _ A3.out).mono ?_); rintro e w4 ⟨rfl, hb⟩; refine ⟨_, rfl, ?_⟩; have n0_ := Aside0.mk (below_step (by repeat (first | (with_reducible first | exact HB.out | apply below_alloc | apply pw_below_drewN | apply below_drew1) | exact HB.out)) hb); clear HB; have HB := n0_; clear n0_; (try clear hb); (try clear hb2); (try clear hk); (try clear hi)))
  go_ret
  exact ⟨by first | rfl | (simp [errW_none, errW_some] <;> rfl) | (simp [*, errW_none, errW_some] <;> rfl), by repeat (first | (with_reducible first | exact HB.out | apply below_alloc | apply pw_below_drewN | apply below_drew1) | exact HB.out)⟩

-- NOT PRINTED: function 54 (bytealg_IndexByte)

/-! ### bytes_IndexByte: function 49 -/
def bytes_IndexByte.f (l0 : List Int) (a1 : Int) : Option (Int) := none
set_option maxHeartbeats 8000000 in
set_option maxRecDepth 100000 in
theorem bytes_IndexByte.calls (A0 : Option Addr) (c0 : Nat) (l0 : List Int) (a1 : Int) (r : Int) (w : World) (hr0 : Kd.C (Kd.int .u8) w A0 l0.length l0) (hc0 : l0.length ≤ c0) (h : bytes_IndexByte.f l0 a1 = some r) :
    Calls Try.prog 49 #[.slice A0 l0.length c0, .int .u8 a1] w fun e w' => e = .returned (.int .i64 r) ∧ Drawn0 w w' := by
  have HR0 := Aside0.mk hr0
  have HC0 := Aside0.mk hc0
  clear hr0 hc0
  have H : (none) = some r := h
  clear h
  exact absurd H (by simp)

-- NOT PRINTED: function 50 (server_stringToBytes)

/-! ### server_zzIndex: function 55 -/
def server_zzIndex.l0 : Nat → ByteArray → ByteArray → Int → Option (Int)
  | 0, _, _, _ => none
  | k + 1, x0, x1, x5 => if (wrap64 (x5 + (x1.size : Int))) ≤ (x0.size : Int) then (if 0 ≤ x5 then (if x5 ≤ (wrap64 (x5 + (x1.size : Int))) then (if (x0.extract (x5 : Int).toNat ((wrap64 (x5 + (x1.size : Int))) : Int).toNat).toList = x1.toList then (some x5) else (server_zzIndex.l0 k x0 x1 (wrap64 (x5 + 1)))) else (none)) else (none)) else (some (-1))
def server_zzIndex.f (k : Nat) (a0 : ByteArray) (a1 : ByteArray) : Option (Int) := server_zzIndex.l0 k a0 a1 0
theorem server_zzIndex.mono_l : ∀ k, (∀ y0 y1 y2, LeO (server_zzIndex.l0 k y0 y1 y2) (server_zzIndex.l0 (k + 1) y0 y1 y2))
  | 0 => fun _ _ _ r h => by simp [server_zzIndex.l0] at h
  | k + 1 => by
    have ih0 := server_zzIndex.mono_l k
    · intro y0 y1 y2
      unfold server_zzIndex.l0
      repeat' first
      | (with_reducible exact ih0 _ _ _)
      | (with_reducible exact LeO.refl _)
      | (with_reducible exact LeO.none _)
      | (with_reducible refine LeO.ite ?_ ?_)
      | (with_reducible refine LeO.bind ?_ (fun _ => ?_))
      | exact ih0 _ _ _
      | exact LeO.none _
      | refine LeO.ite ?_ ?_
      | refine LeO.bind ?_ (fun _ => ?_)
theorem server_zzIndex.mono : ∀ a0 a1 k, LeO (server_zzIndex.f k a0 a1) (server_zzIndex.f (k + 1) a0 a1) := by
  intro a0 a1 k
  have ih0 := server_zzIndex.mono_l k
  unfold server_zzIndex.f
  repeat' first
      | (with_reducible exact ih0 _ _ _)
      | (with_reducible exact LeO.refl _)
      | (with_reducible exact LeO.none _)
      | (with_reducible refine LeO.ite ?_ ?_)
      | (with_reducible refine LeO.bind ?_ (fun _ => ?_))
      | exact ih0 _ _ _
      | exact LeO.none _
      | refine LeO.ite ?_ ?_
      | refine LeO.bind ?_ (fun _ => ?_)
set_option maxHeartbeats 8000000 in
set_option maxRecDepth 100000 in
theorem server_zzIndex.calls (k : Nat) (a0 : ByteArray) (a1 : ByteArray) (r : Int) (w : World) (h : server_zzIndex.f k a0 a1 = some r) :
    Calls Try.prog 55 #[.string a0, .string a1] w fun e w' => e = .returned (.int .i64 r) ∧ Drawn0 w w' := by
  have H : (server_zzIndex.l0 k a0 a1 0) = some r := h
  clear h
  have H' := Aside0.mk H
  clear H
  go_enter Try.func55, Try.ntmps55
  go_wp2
  go_loopg [5] k (fun kq v5 w' => ∃ (x5_1 : Int), v5 = .int .i64 x5_1 ∧ Aside0 (server_zzIndex.l0 kq a0 a1 x5_1 = some r) ∧ Aside0 (kq ≤ k) ∧ Drawn0 w w')
  case atStart => exact ⟨(0), (by first | rfl | (simp; done) | (simp [*]; done)), H', ⟨Nat.le_refl _⟩, by repeat (first | exact Drawn0.refl _ | apply Drawn0.step)⟩
  case round =>
    clear H'
    try clear p2
    obtain ⟨x5_1, rfl, HA, HK1, ⟨m1, rfl⟩⟩ := hrel
    cases gk with
    | zero => exact absurd HA.out (by simp [server_zzIndex.l0])
    | succ k1 =>
      have H := HA.out
      clear HA
      simp only [server_zzIndex.l0] at H
      by_cases c3 : (wrap64 (x5_1 + (a1.size : Int))) ≤ (a0.size : Int)
      · rw [if_pos c3] at H
        have c3b0 : decide ((wrap64 (x5_1 + (a1.size : Int))) ≤ (a0.size : Int)) = true := decide_eq_true c3
        clear c3
        by_cases c4 : 0 ≤ x5_1
        · rw [if_pos c4] at H
          have c4b0 := eq_true c4
          have c4b1 : decide (0 ≤ x5_1) = true := decide_eq_true c4
          clear c4
          by_cases c5 : x5_1 ≤ (wrap64 (x5_1 + (a1.size : Int)))
          · rw [if_pos c5] at H
            have c5b0 := eq_true c5
            have c5b1 : decide (x5_1 ≤ (wrap64 (x5_1 + (a1.size : Int)))) = true := decide_eq_true c5
            have c6b0 := eq_true (of_decide_eq_true (by first | (with_reducible assumption) | assumption) : (wrap64 (x5_1 + (a1.size : Int))) ≤ (a0.size : Int))
            by_cases c7 : (a0.extract (x5_1 : Int).toNat ((wrap64 (x5_1 + (a1.size : Int))) : Int).toNat).toList = a1.toList
            · rw [if_pos c7] at H
              have c7b0 : ((a0.extract (x5_1 : Int).toNat ((wrap64 (x5_1 + (a1.size : Int))) : Int).toNat).toList == a1.toList) = true := beq_iff_eq.mpr c7
              have c7b1 : ((a0.extract (x5_1 : Int).toNat ((wrap64 (x5_1 + (a1.size : Int))) : Int).toNat).toList != a1.toList) = false := bne_eq_false_iff_eq.mpr c7
              clear c7
              obtain rfl := Option.some.inj H
              go_wp2
              go_ret
              exact ⟨by first | rfl | (simp; done) | (simp [*]; done), by repeat (first | exact Drawn0.refl _ | apply Drawn0.step)⟩
            · rw [if_neg c7] at H
              have c7b0 : ((a0.extract (x5_1 : Int).toNat ((wrap64 (x5_1 + (a1.size : Int))) : Int).toNat).toList == a1.toList) = false := beq_eq_false_iff_ne.mpr c7
              have c7b1 : ((a0.extract (x5_1 : Int).toNat ((wrap64 (x5_1 + (a1.size : Int))) : Int).toNat).toList != a1.toList) = true := bne_iff_ne.mpr c7
              have H' := Aside0.mk H
              clear H
              go_wp2
              go_roundg k1
              case measure => have := HK1.out; omega
              case rel => exact ⟨(wrap64 (x5_1 + 1)), (by first | rfl | (simp; done) | (simp [*]; done)), H', ⟨by have := HK1.out; omega⟩, by repeat (first | exact Drawn0.refl _ | apply Drawn0.step)⟩
          · rw [if_neg c5] at H
            exact absurd H (by simp)
        · rw [if_neg c4] at H
          exact absurd H (by simp)
      · rw [if_neg c3] at H
        have c3b0 : decide ((wrap64 (x5_1 + (a1.size : Int))) ≤ (a0.size : Int)) = false := decide_eq_false c3
        clear c3
        obtain rfl := Option.some.inj H
        go_wp2
        go_ret
        exact ⟨by first | rfl | (simp; done) | (simp [*]; done), by repeat (first | exact Drawn0.refl _ | apply Drawn0.step)⟩

/-! ### server_zzSplit: function 51 -/
def server_zzSplit.l1 : Nat → ByteArray → ByteArray → List ByteArray → Option (List ByteArray)
  | 0, _, _, _ => none
  | k + 1, x0, x1, x5 => (server_zzIndex.f k x0 x1).bind fun t140 => (if t140 < 0 then (if x5.length < 8796093022208 then (some (x5 ++ [x0])) else (none)) else (if 0 ≤ t140 then (if t140 ≤ (x0.size : Int) then (if x5.length < 8796093022208 then (if 0 ≤ (wrap64 (t140 + (x1.size : Int))) then (if (wrap64 (t140 + (x1.size : Int))) ≤ (x0.size : Int) then (server_zzSplit.l1 k (x0.extract ((wrap64 (t140 + (x1.size : Int))) : Int).toNat x0.size) x1 (x5 ++ [x0.extract 0 (t140 : Int).toNat])) else (none)) else (none)) else (none)) else (none)) else (none)))
def server_zzSplit.f (k : Nat) (a0 : ByteArray) (a1 : ByteArray) : Option (List ByteArray) := if (a1.size : Int) = 0 then (none) else (server_zzSplit.l1 k a0 a1 ([] : List ByteArray))
theorem server_zzSplit.mono_l : ∀ k, (∀ y0 y1 y2, LeO (server_zzSplit.l1 k y0 y1 y2) (server_zzSplit.l1 (k + 1) y0 y1 y2))
  | 0 => fun _ _ _ r h => by simp [server_zzSplit.l1] at h
  | k + 1 => by
    have ih0 := server_zzSplit.mono_l k
    · intro y0 y1 y2
      unfold server_zzSplit.l1
      repeat' first
      | (with_reducible exact ih0 _ _ _)
      | (with_reducible exact server_zzIndex.mono _ _ _)
      | (with_reducible exact LeO.refl _)
      | (with_reducible exact LeO.none _)
      | (with_reducible refine LeO.ite ?_ ?_)
      | (with_reducible refine LeO.bind ?_ (fun _ => ?_))
      | exact ih0 _ _ _
      | exact server_zzIndex.mono _ _ _
      | exact LeO.none _
      | refine LeO.ite ?_ ?_
      | refine LeO.bind ?_ (fun _ => ?_)
theorem server_zzSplit.mono : ∀ a0 a1 k, LeO (server_zzSplit.f k a0 a1) (server_zzSplit.f (k + 1) a0 a1) := by
  intro a0 a1 k
  have ih0 := server_zzSplit.mono_l k
  unfold server_zzSplit.f
  repeat' first
      | (with_reducible exact ih0 _ _ _)
      | (with_reducible exact server_zzIndex.mono _ _ _)
      | (with_reducible exact LeO.refl _)
      | (with_reducible exact LeO.none _)
      | (with_reducible refine LeO.ite ?_ ?_)
      | (with_reducible refine LeO.bind ?_ (fun _ => ?_))
      | exact ih0 _ _ _
      | exact server_zzIndex.mono _ _ _
      | exact LeO.none _
      | refine LeO.ite ?_ ?_
      | refine LeO.bind ?_ (fun _ => ?_)
set_option maxHeartbeats 8000000 in
set_option maxRecDepth 100000 in
theorem server_zzSplit.calls (k : Nat) (a0 : ByteArray) (a1 : ByteArray) (r : List ByteArray) (w : World) (h : server_zzSplit.f k a0 a1 = some r) :
    Calls Try.prog 51 #[.string a0, .string a1] w fun e w' => ∃ v0_ : Value, e = .returned (v0_) ∧ Kd.R Kd.string 9 w' w.heap.size (fun _ => True) v0_ r ∧ Below w.heap.size w w' := by
  have HB := Aside0.mk (Below.refl w.heap.size w)
  have H : (if (a1.size : Int) = 0 then (none) else (server_zzSplit.l1 k a0 a1 ([] : List ByteArray))) = some r := h
  clear h
  by_cases c3 : (a1.size : Int) = 0
  · rw [if_pos c3] at H
    exact absurd H (by simp)
  · rw [if_neg c3] at H
    have c3b0 : ((a1.size : Int) == 0) = false := beq_eq_false_iff_ne.mpr c3
    have c3b1 : ((a1.size : Int) != 0) = true := bne_iff_ne.mpr c3
    have H' := Aside0.mk H
    clear H
    go_enter Try.func51, Try.ntmps51
    go_wp2
    go_loopg [0, 5] k (fun kq v0 v5 w' => ∃ (x0_1 : ByteArray) (x5_1 : List ByteArray), v0 = .string x0_1 ∧ Aside0 (server_zzSplit.l1 kq x0_1 a1 x5_1 = some r) ∧ Aside0 (kq ≤ k) ∧ Aside0 (Kd.R Kd.string 9 w' w.heap.size (fun _ => True) v5 x5_1) ∧ Aside0 (Below w.heap.size w w'))
    case atStart => exact ⟨(a0), (([] : List ByteArray)), (by first | rfl | (simp; done) | (simp [*]; done)), H', ⟨Nat.le_refl _⟩, ⟨by first | exact Kd.R_nil _ _ _ _ _ | exact Kd.N_nil _ _ _ _ _ | exact Kd.V_nil _ _ _ _ _ | exact Kd.Q_nil _ _ _ _ _ | exact Kd.S_nil _ _ _ _ _⟩, ⟨by repeat (first | (with_reducible first | exact HB.out | apply below_alloc | apply pw_below_drewN | apply below_drew1) | exact HB.out)⟩⟩
    case round =>
      clear H'
      try clear p2
      try clear c3
      try clear c3b0
      try clear c3b1
      obtain ⟨x0_1, x5_1, rfl, HA, HK1, HO_5, HB⟩ := hrel
      cases gk with
      | zero => exact absurd HA.out (by simp [server_zzSplit.l1])
      | succ k1 =>
        have H := HA.out
        clear HA
        simp only [server_zzSplit.l1] at H
        replace H := Option.bind_eq_some_iff.mp H
        obtain ⟨t140, A40, H⟩ := H
        replace H : (if t140 < 0 then (if x5_1.length < 8796093022208 then (some (x5_1 ++ [x0_1])) else (none)) else (if 0 ≤ t140 then (if t140 ≤ (x0_1.size : Int) then (if x5_1.length < 8796093022208 then (if 0 ≤ (wrap64 (t140 + (a1.size : Int))) then (if (wrap64 (t140 + (a1.size : Int))) ≤ (x0_1.size : Int) then (server_zzSplit.l1 k1 (x0_1.extract ((wrap64 (t140 + (a1.size : Int))) : Int).toNat x0_1.size) a1 (x5_1 ++ [x0_1.extract 0 (t140 : Int).toNat])) else (none)) else (none)) else (none)) else (none)) else (none))) = some r := H
        have A4 := Aside0.mk A40
        clear A40
        by_cases c5 : t140 < 0
        · rw [if_pos c5] at H
          have c5b0 : decide (t140 < 0) = true := decide_eq_true c5
          clear c5
          by_cases c6 : x5_1.length < 8796093022208
          · rw [if_pos c6] at H
            have LMc6 := Aside0.mk c6
            clear c6
            obtain ⟨y141, hy141⟩ : ∃ y_ : List ByteArray, y_ = (x5_1 ++ [x0_1]) := ⟨_, rfl⟩
            replace H : (some y141) = some r := by first | (rw [hy141]; with_reducible exact H) | (have H2_ := (Option.bind_some _ _).symm.trans H; rw [hy141]; with_reducible exact H2_) | (have H2_ := (Option.bind_some _ _).symm.trans H; with_reducible exact H2_) | with_reducible exact H | (rw [hy141]; exact H) | exact H
            have Ny141 := Aside0.mk hy141
            clear hy141
            obtain rfl := Option.some.inj H
            go_wp2_with (first | ((with_reducible refine gate_callee (f := 55) rfl ?_); refine goesL_ (some 39) rfl rfl Try.func55 (by kernel_rfl) rfl #[.string x0_1, .string a1] rfl (by (try simp only [List.map_toArray, List.map_cons, List.map_nil]); first | done | rfl | (simp only [List.length_drop, List.length_take]; rfl)) ?_; (with_reducible refine (server_zzIndex.calls k1 x0_1 a1 t140 _ A4.out).mono ?_); rintro e w' ⟨rfl, ⟨nd, rfl⟩⟩; refine ⟨_, rfl, ?_⟩) | ((with_reducible refine gate_builtin (b := .append) (xs := #[.tmp 42, .tmp 44]) rfl ?_); at_builtin; refine Kd.R_append Kd.string (w0 := w) w.heap.size rfl (.tmp 42) (.tmp 44) 31 9 (.string ⟨#[]⟩) 16 rfl Try.underlying31 info9 rfl (by decide) (by omega) u5 x5_1 x0_1 [.string x0_1] (fun _ => True) (fun _ => False) rfl rfl ?aP (fun _ hk => hk.elim) ?aF ?aO ?aB ?aS ?aL ?_; (case aP => exact rfl); (case aB => exact (by repeat (first | (with_reducible first | exact HB.out | apply below_alloc | apply pw_below_drewN | apply below_drew1) | exact HB.out))); (case aF => exact (fun _ _ => trivial)); (case aO => exact (by (with_reducible repeat (first | apply Kd.R_alloc | apply Kd.R_drewN | apply Kd.R_drew)); exact HO_5.out)); (case aS => exact (below_size (by repeat (first | (with_reducible first | exact HB.out | apply below_alloc | apply pw_below_drewN | apply below_drew1) | exact HB.out)))); (case aL => have := LMc6.out; omega); intro v142 w7 ho hb hg hat; rw [← Ny141.out] at ho; have n0_ := Aside0.mk (hb); have n1_ := Aside0.mk (ho); clear HB; clear HO_5; have HB := n0_; have HO143 := n1_; clear n0_ n1_; clear ho hb hg hat))
            go_ret
            exact ⟨_, by first | rfl | (simp [errW_none, errW_some] <;> rfl) | (simp [*, errW_none, errW_some] <;> rfl), by (with_reducible repeat (first | apply Kd.R_alloc | apply Kd.R_drewN | apply Kd.R_drew)); exact HO143.out, by repeat (first | (with_reducible first | exact HB.out | apply below_alloc | apply pw_below_drewN | apply below_drew1) | exact HB.out)⟩
          · rw [if_neg c6] at H
            exact absurd H (by simp)
        · rw [if_neg c5] at H
          have c5b0 : decide (t140 < 0) = false := decide_eq_false c5
          clear c5
          by_cases c8 : 0 ≤ t140
          · rw [if_pos c8] at H
            have c8b0 := eq_true c8
            have c8b1 : decide (0 ≤ t140) = true := decide_eq_true c8
            clear c8
            by_cases c9 : t140 ≤ (x0_1.size : Int)
            · rw [if_pos c9] at H
              have c9b0 := eq_true c9
              have c9b1 : decide (t140 ≤ (x0_1.size : Int)) = true := decide_eq_true c9
              clear c9
              by_cases c10 : x5_1.length < 8796093022208
              · rw [if_pos c10] at H
                have LMc10 := Aside0.mk c10
                clear c10
                obtain ⟨y144, hy144⟩ : ∃ y_ : List ByteArray, y_ = (x5_1 ++ [x0_1.extract 0 (t140 : Int).toNat]) := ⟨_, rfl⟩
                replace H : (if 0 ≤ (wrap64 (t140 + (a1.size : Int))) then (if (wrap64 (t140 + (a1.size : Int))) ≤ (x0_1.size : Int) then (server_zzSplit.l1 k1 (x0_1.extract ((wrap64 (t140 + (a1.size : Int))) : Int).toNat x0_1.size) a1 y144) else (none)) else (none)) = some r := by first | (rw [hy144]; with_reducible exact H) | (have H2_ := (Option.bind_some _ _).symm.trans H; rw [hy144]; with_reducible exact H2_) | (have H2_ := (Option.bind_some _ _).symm.trans H; with_reducible exact H2_) | with_reducible exact H | (rw [hy144]; exact H) | exact H
                have Ny144 := Aside0.mk hy144
                clear hy144
                obtain ⟨ji11, hji11⟩ : ∃ j_ : Int, (wrap64 (t140 + (a1.size : Int))) = j_ := ⟨_, rfl⟩
                replace H : (if 0 ≤ (ji11) then (if (ji11) ≤ (x0_1.size : Int) then (server_zzSplit.l1 k1 (x0_1.extract ((ji11) : Int).toNat x0_1.size) a1 y144) else (none)) else (none)) = some r := by first | (rw [hji11] at H; exact H) | (simp only [hji11] at H ⊢; exact H)
                (try rw [hji11] at A4)
                have hji11w : (IntKind.i64.wrap (t140 + (a1.size : Int))) = ji11 := (i64_w _).trans hji11
                by_cases c12 : 0 ≤ (ji11)
                · rw [if_pos c12] at H
                  have c12b0 := eq_true c12
                  have c12b1 : decide (0 ≤ (ji11)) = true := decide_eq_true c12
                  clear c12
                  by_cases c13 : (ji11) ≤ (x0_1.size : Int)
                  · rw [if_pos c13] at H
                    have c13b0 := eq_true c13
                    have c13b1 : decide ((ji11) ≤ (x0_1.size : Int)) = true := decide_eq_true c13
                    clear c13
                    have H' := Aside0.mk H
                    clear H
                    go_wp2_with (first | ((with_reducible refine gate_callee (f := 55) rfl ?_); refine goesL_ (some 39) rfl rfl Try.func55 (by kernel_rfl) rfl #[.string x0_1, .string a1] rfl (by (try simp only [List.map_toArray, List.map_cons, List.map_nil]); first | done | rfl | (simp only [List.length_drop, List.length_take]; rfl)) ?_; (with_reducible refine (server_zzIndex.calls k1 x0_1 a1 t140 _ A4.out).mono ?_); rintro e w' ⟨rfl, ⟨nd, rfl⟩⟩; refine ⟨_, rfl, ?_⟩) | ((with_reducible refine gate_builtin (b := .append) (xs := #[.tmp 46, .tmp 50]) rfl ?_); at_builtin; refine Kd.R_append Kd.string (w0 := w) w.heap.size rfl (.tmp 46) (.tmp 50) 31 9 (.string ⟨#[]⟩) 16 rfl Try.underlying31 info9 rfl (by decide) (by omega) u5 x5_1 (x0_1.extract 0 (t140 : Int).toNat) [.string (x0_1.extract 0 (t140 : Int).toNat)] (fun _ => True) (fun _ => False) rfl rfl ?aP (fun _ hk => hk.elim) ?aF ?aO ?aB ?aS ?aL ?_; (case aP => exact rfl); (case aB => exact (by repeat (first | (with_reducible first | exact HB.out | apply below_alloc | apply pw_below_drewN | apply below_drew1) | exact HB.out))); (case aF => exact (fun _ _ => trivial)); (case aO => exact (by (with_reducible repeat (first | apply Kd.R_alloc | apply Kd.R_drewN | apply Kd.R_drew)); exact HO_5.out)); (case aS => exact (below_size (by repeat (first | (with_reducible first | exact HB.out | apply below_alloc | apply pw_below_drewN | apply below_drew1) | exact HB.out)))); (case aL => have := LMc10.out; omega); intro v145 w14 ho hb hg hat; rw [← Ny144.out] at ho; have n0_ := Aside0.mk (hb); have n1_ := Aside0.mk (ho); clear HB; clear HO_5; have HB := n0_; have HO146 := n1_; clear n0_ n1_; clear ho hb hg hat))
                    go_roundg k1
                    case measure => have := HK1.out; omega
                    case rel => exact ⟨(x0_1.extract ((ji11) : Int).toNat x0_1.size), (y144), (by first | rfl | (simp; done) | (simp only [← hji11] <;> (first | rfl | simp)) | (simp [*]; done)), H', ⟨by have := HK1.out; omega⟩, ⟨by (with_reducible repeat (first | apply Kd.R_alloc | apply Kd.R_drewN | apply Kd.R_drew)); exact HO146.out⟩, ⟨by repeat (first | (with_reducible first | exact HB.out | apply below_alloc | apply pw_below_drewN | apply below_drew1) | exact HB.out)⟩⟩
                  · rw [if_neg c13] at H
                    exact absurd H (by simp)
                · rw [if_neg c12] at H
                  exact absurd H (by simp)
              · rw [if_neg c10] at H
                exact absurd H (by simp)
            · rw [if_neg c9] at H
              exact absurd H (by simp)
          · rw [if_neg c8] at H
            exact absurd H (by simp)

/-! ### server_zzIndexAny: function 56 (by hand) -/
/-- One of the characters cs stands at i. -/
def server_zzIndexAny.hit (s cs : ByteArray) (i : Nat) : Bool := (List.range cs.size).any fun j => decide (bt s (i : Int) = bt cs (j : Int))
def server_zzIndexAny.f (a0 a1 : ByteArray) : Option Int := if a0.size ≤ 140737488351232 ∧ a1.size ≤ 140737488351232 ∧ ∀ j, j < a1.size → bt a1 (j : Int) < 128 then some (((List.range a0.size).find? (server_zzIndexAny.hit a0 a1)).elim (-1) fun i => (i : Int)) else none
theorem server_zzIndexAny.found (s cs : ByteArray) (pos : Nat) (h : pos < s.size) (hW : ∀ j, j < pos → server_zzIndexAny.hit s cs j = false) (hh : server_zzIndexAny.hit s cs pos = true) : (List.range s.size).find? (server_zzIndexAny.hit s cs) = some pos := by
  rw [List.find?_range_eq_some]
  exact ⟨hh, List.mem_range.mpr h, fun j hj => by simp [hW j hj]⟩
theorem server_zzIndexAny.lost (s cs : ByteArray) (pos : Nat) (h : ¬ pos < s.size) (hW : ∀ j, j < pos → server_zzIndexAny.hit s cs j = false) : (List.range s.size).find? (server_zzIndexAny.hit s cs) = none := by
  rw [List.find?_eq_none]
  intro j hj
  rw [List.mem_range] at hj
  rw [hW j (by omega)]
  simp
set_option maxHeartbeats 8000000 in
set_option maxRecDepth 100000 in
theorem server_zzIndexAny.calls (a0 a1 : ByteArray) (r : Int) (w : World) (h : server_zzIndexAny.f a0 a1 = some r) :
    Calls Try.prog 56 #[.string a0, .string a1] w fun e w' => e = .returned (.int .i64 r) ∧ Below w.heap.size w w' := by
  unfold server_zzIndexAny.f at h
  have hsz : a0.size ≤ 140737488351232 ∧ a1.size ≤ 140737488351232 ∧ ∀ j, j < a1.size → bt a1 (j : Int) < 128 := by
    apply Classical.byContradiction
    intro hn; rw [if_neg hn] at h; cases h
  rw [if_pos hsz] at h
  have HR := Aside0.mk (Option.some.inj h)
  clear h
  have HS := Aside0.mk hsz
  clear hsz
  go_enter Try.func56, Try.ntmps56
  go_wp2
  go_loopw [] (fun w' => ∃ pos : Nat, w'.heap[w.heap.size]? = some (.stringIter a0 pos) ∧ Aside0 (Below w.heap.size w w' ∧ ∀ j, j < pos → server_zzIndexAny.hit a0 a1 j = false)) (fun w' => a0.size - w'.iterPos w.heap.size)
  case atStart => exact ⟨0, World.iter_heap w a0 0, ⟨below_alloc (Below.refl _ _) _, fun j h => absurd h (Nat.not_lt_zero _)⟩⟩
  case round =>
    obtain ⟨pos, hit, HW⟩ := hrel
    by_cases hp : pos < a0.size
    · obtain ⟨c, n, hd, hn, hc, hcase⟩ := Wk.decode_step a0 pos hp
      have hnx : ∀ ty, (Instr.next (.pointer (some ⟨w.heap.size, 0, none⟩)) true ty).run Try.prog wr = .ok (.tuple #[.bool true, .int .i64 pos, .int .i32 c]) (wr.iterAt w.heap.size a0 (pos + n)) := fun ty => by have h := Lib.run_next_any_at (P := Try.prog) wr w.heap.size a0 pos ty hit hp; rw [hd] at h; exact h
      clear hd
      have hit2 := Lib.iterAt_heap wr w.heap.size a0 pos (pos + n) hit
      have hsz2 : w.heap.size ≤ wr.heap.size := HW.out.1.size
      have hlt : w.heap.size < wr.heap.size := (Array.getElem?_eq_some_iff.1 hit).1
      have hs2 := Lib.iterAt_size wr w.heap.size a0 (pos + n)
      have hB2 := Aside0.mk (Lib.below_iterAt HW.out.1 (Nat.le_refl _) a0 (pos + n))
      generalize wr.iterAt w.heap.size a0 (pos + n) = w2 at hnx hit2 hs2 hB2
      have hit3 : (w2.iter a1 0).heap[w.heap.size]? = some (.stringIter a0 (pos + n)) := by
        unfold World.iter; rw [Below.heap_alloc w2 _ w.heap.size (by omega)]; exact hit2
      have hit4 := World.iter_heap w2 a1 0
      have hB3 := Aside0.mk (below_alloc hB2.out (.stringIter a1 0))
      have hpos : wr.iterPos w.heap.size = pos := by simp only [World.iterPos, hit]
      have hltw : w.heap.size < w2.heap.size := by omega
      clear hs2 hlt hsz2
      go_wp2_with fail
      go_loopw [] (fun w' => ∃ ip : Nat, w'.heap[w.heap.size]? = some (.stringIter a0 (pos + n)) ∧ w'.heap[w2.heap.size]? = some (.stringIter a1 ip) ∧ Aside0 (Below w.heap.size w w' ∧ ∀ j, j < ip → bt a1 (j : Int) ≠ (c : Int))) (fun w' => a1.size - w'.iterPos w2.heap.size)
      case atStart => exact ⟨0, hit3, hit4, hB3.out, fun j h => absurd h (Nat.not_lt_zero _)⟩
      case round =>
        obtain ⟨ip, it1, it2, IW⟩ := hrel
        have hne : w.heap.size ≠ w2.heap.size := by omega
        by_cases hq : ip < a1.size
        · obtain ⟨c2, n2, hd2, hn2, hc2, hcase2⟩ := Wk.decode_step a1 ip hq
          have hs := HS.out.2.2
          obtain ⟨hlt2, rfl, hbt2⟩ : c2 < 128 ∧ n2 = 1 ∧ bt a1 (ip : Int) = (c2 : Int) := by
            rcases hcase2 with h | ⟨h1, h2⟩
            · exact h
            · exfalso
              have h3 := (h2 ip (Nat.le_refl _) (by omega)).2
              have h4 := hs ip hq
              omega
          clear hcase2
          have hnx2 : ∀ ty, (Instr.next (.pointer (some ⟨w2.heap.size, 0, none⟩)) true ty).run Try.prog wr = .ok (.tuple #[.bool true, .int .i64 ip, .int .i32 c2]) (wr.iterAt w2.heap.size a1 (ip + 1)) := fun ty => by have h := Lib.run_next_any_at (P := Try.prog) wr w2.heap.size a1 ip ty it2 hq; rw [hd2] at h; exact h
          clear hd2
          have hpos2 : wr.iterPos w2.heap.size = ip := by simp only [World.iterPos, it2]
          have j1 := (Lib.iterAt_other wr w2.heap.size w.heap.size a1 (ip + 1) hne).trans it1
          have j2 := Lib.iterAt_heap wr w2.heap.size a1 ip (ip + 1) it2
          have JB := Aside0.mk (Lib.below_iterAt IW.out.1 (show w.heap.size ≤ w2.heap.size by omega) a1 (ip + 1))
          generalize wr.iterAt w2.heap.size a1 (ip + 1) = w4 at hnx2 j1 j2 JB
          rcases Nat.decEq c c2 with hcc | hcc
          · have hce : ((c : Int) = (c2 : Int)) = False := eq_false (by omega)
            have hcb : ((c : Int) == (c2 : Int)) = false := beq_eq_false_iff_ne.mpr (by omega)
            go_wp2_with fail
            go_roundw
            case rel =>
              refine ⟨ip + 1, j1, j2, JB.out, fun j hj => ?_⟩
              rcases Nat.lt_or_ge j ip with h | h
              · exact IW.out.2 j h
              · obtain rfl : j = ip := by omega
                rw [hbt2]; omega
            case measure =>
              rw [hpos2]
              simp only [World.iterPos, j2]
              omega
          · subst hcc
            go_wp2_with fail
            go_ret
            obtain ⟨h1, h2, h3⟩ : c < 128 ∧ n = 1 ∧ bt a0 (pos : Int) = (c : Int) := by
              rcases hcase with h | h
              · exact h
              · exfalso; omega
            have hr := HR.out
            rw [server_zzIndexAny.found a0 a1 pos hp HW.out.2 (by
              unfold server_zzIndexAny.hit
              rw [List.any_eq_true]
              exact ⟨ip, List.mem_range.mpr hq, by rw [h3, hbt2]; simp⟩)] at hr
            subst hr
            exact ⟨rfl, JB.out⟩
        · have hnx2 : ∀ ty, (Instr.next (.pointer (some ⟨w2.heap.size, 0, none⟩)) true ty).run Try.prog wr = _ := fun ty => Lib.run_next_end_at wr w2.heap.size a1 ip ty it2 hq
          go_wp2_with fail
          go_roundw
          case rel =>
            refine ⟨pos + n, it1, IW.out.1, fun j hj => ?_⟩
            rcases Nat.lt_or_ge j pos with h | h
            · exact HW.out.2 j h
            · unfold server_zzIndexAny.hit
              rw [List.any_eq_false]
              intro i hi
              rw [List.mem_range] at hi
              have h1 := IW.out.2 i (by omega)
              have h2 := HS.out.2.2 i hi
              have h3 : bt a0 (j : Int) = (c : Int) ∨ 128 ≤ bt a0 (j : Int) := by
                rcases hcase with ⟨g1, g2, g3⟩ | ⟨g1, g2⟩
                · obtain rfl : j = pos := by omega
                  exact .inl g3
                · exact .inr (g2 j h hj).2
              simp only [decide_eq_true_eq]
              omega
          case measure =>
            rw [hpos]
            simp only [World.iterPos, it1]
            omega
    · have hnx : ∀ ty, (Instr.next (.pointer (some ⟨w.heap.size, 0, none⟩)) true ty).run Try.prog wr = _ := fun ty => Lib.run_next_end_at wr w.heap.size a0 pos ty hit hp
      go_wp2
      go_ret
      have hr := HR.out
      rw [server_zzIndexAny.lost a0 a1 pos hp HW.out.2] at hr
      subst hr
      exact ⟨rfl, HW.out.1⟩

/-! ### server_zzContainsAny: function 52 -/
def server_zzContainsAny.f (a0 : ByteArray) (a1 : ByteArray) : Option (Bool) := (server_zzIndexAny.f a0 a1).bind fun t147 => (some (decide (t147 ≥ 0)))
set_option maxHeartbeats 8000000 in
set_option maxRecDepth 100000 in
theorem server_zzContainsAny.calls (a0 : ByteArray) (a1 : ByteArray) (r : Bool) (w : World) (h : server_zzContainsAny.f a0 a1 = some r) :
    Calls Try.prog 52 #[.string a0, .string a1] w fun e w' => e = .returned (.bool r) ∧ Below w.heap.size w w' := by
  have HB := Aside0.mk (Below.refl w.heap.size w)
  have H : ((server_zzIndexAny.f a0 a1).bind fun t147 => (some (decide (t147 ≥ 0)))) = some r := h
  clear h
  replace H := Option.bind_eq_some_iff.mp H
  obtain ⟨t147, A30, H⟩ := H
  replace H : (some (decide (t147 ≥ 0))) = some r := H
  have A3 := Aside0.mk A30
  clear A30
  obtain rfl := Option.some.inj H
  go_enter Try.func52, Try.ntmps52
  go_wp2_with (first | ((with_reducible refine gate_callee (f := 56) rfl ?_); refine goesL_ (some 7) rfl rfl Try.func56 (by kernel_rfl) rfl #[.string a0, .string a1] rfl (by (try simp only [List.map_toArray, List.map_cons, List.map_nil]); first | done | rfl | (simp only [List.length_drop, List.length_take]; rfl)) ?_; (with_reducible refine (server_zzIndexAny.calls a0 a1 t147 _ A3.out).mono ?_); rintro e w4 ⟨rfl, hb⟩; refine ⟨_, rfl, ?_⟩; have n0_ := Aside0.mk (below_step (by repeat (first | (with_reducible first | exact HB.out | apply below_alloc | apply pw_below_drewN | apply below_drew1) | exact HB.out)) hb); clear HB; have HB := n0_; clear n0_; (try clear hb); (try clear hb2); (try clear hk); (try clear hi)))
  go_ret
  exact ⟨by first | rfl | (simp [errW_none, errW_some] <;> rfl) | (simp [*, errW_none, errW_some] <;> rfl), by repeat (first | (with_reducible first | exact HB.out | apply below_alloc | apply pw_below_drewN | apply below_drew1) | exact HB.out)⟩

/-! ### server_isValidSubject: function 47 -/
mutual
def server_isValidSubject.l1 : Nat → Bool → List ByteArray → Int → Int → Option (Bool)
  | 0, _, _, _, _ => none
  | k + 1, x7, x26, x27, x28 => if x28 < x27 then (if 0 ≤ x28 then (if x28 < (x26.length : Int) then (if ((rdOf ByteArray.empty x26 x28).size : Int) = 0 then (server_isValidSubject.j1 k x7 (rdOf ByteArray.empty x26 x28) ((rdOf ByteArray.empty x26 x28).size : Int) x26 x27 x28 true) else (server_isValidSubject.j1 k x7 (rdOf ByteArray.empty x26 x28) ((rdOf ByteArray.empty x26 x28).size : Int) x26 x27 x28 x7)) else (none)) else (none)) else (some true)
def server_isValidSubject.j1 : Nat → Bool → ByteArray → Int → List ByteArray → Int → Int → Bool → Option (Bool)
  | 0, _, _, _, _, _, _, _ => none
  | k + 1, x7, x9, x10, x26, x27, x28, x38 => if x38 = true then (some false) else (if x10 > 1 then ((server_zzContainsAny.f x9 (⟨#[9, 10, 12, 13, 32]⟩ : ByteArray)).bind fun t152 => (if t152 = true then (some false) else (server_isValidSubject.l1 k x7 x26 x27 (wrap64 (x28 + 1))))) else (if 0 < (x9.size : Int) then (if (bt x9 0) = 62 then (server_isValidSubject.l1 k true x26 x27 (wrap64 (x28 + 1))) else (if (bt x9 0) = 32 then (some false) else (if (bt x9 0) = 9 then (some false) else (if (bt x9 0) = 10 then (some false) else (if (bt x9 0) = 13 then (some false) else (if (bt x9 0) = 12 then (some false) else (server_isValidSubject.l1 k x7 x26 x27 (wrap64 (x28 + 1))))))))) else (none)))
end
def server_isValidSubject.f (k : Nat) (a0 : ByteArray) (a1 : Bool) : Option (Bool) := if a0.toList = ([] : List UInt8) then (some false) else (if a1 = true then (none) else ((server_zzSplit.f k a0 (⟨#[46]⟩ : ByteArray)).bind fun t148 => (server_isValidSubject.l1 k false t148 (t148.length : Int) 0)))
theorem server_isValidSubject.mono_l : ∀ k, (∀ y0 y1 y2 y3, LeO (server_isValidSubject.l1 k y0 y1 y2 y3) (server_isValidSubject.l1 (k + 1) y0 y1 y2 y3)) ∧ (∀ y0 y1 y2 y3 y4 y5 y6, LeO (server_isValidSubject.j1 k y0 y1 y2 y3 y4 y5 y6) (server_isValidSubject.j1 (k + 1) y0 y1 y2 y3 y4 y5 y6))
  | 0 => ⟨fun _ _ _ _ r h => by simp [server_isValidSubject.l1] at h, fun _ _ _ _ _ _ _ r h => by simp [server_isValidSubject.j1] at h⟩
  | k + 1 => by
    obtain ⟨ih0, ih1⟩ := server_isValidSubject.mono_l k
    refine ⟨?_, ?_⟩
    · intro y0 y1 y2 y3
      unfold server_isValidSubject.l1
      repeat' first
      | (with_reducible exact ih0 _ _ _ _)
      | (with_reducible exact ih1 _ _ _ _ _ _ _)
      | (with_reducible exact server_zzSplit.mono _ _ _)
      | (with_reducible exact LeO.refl _)
      | (with_reducible exact LeO.none _)
      | (with_reducible refine LeO.ite ?_ ?_)
      | (with_reducible refine LeO.bind ?_ (fun _ => ?_))
      | exact ih0 _ _ _ _
      | exact ih1 _ _ _ _ _ _ _
      | exact server_zzSplit.mono _ _ _
      | exact LeO.none _
      | refine LeO.ite ?_ ?_
      | refine LeO.bind ?_ (fun _ => ?_)
    · intro y0 y1 y2 y3 y4 y5 y6
      unfold server_isValidSubject.j1
      repeat' first
      | (with_reducible exact ih0 _ _ _ _)
      | (with_reducible exact ih1 _ _ _ _ _ _ _)
      | (with_reducible exact server_zzSplit.mono _ _ _)
      | (with_reducible exact LeO.refl _)
      | (with_reducible exact LeO.none _)
      | (with_reducible refine LeO.ite ?_ ?_)
      | (with_reducible refine LeO.bind ?_ (fun _ => ?_))
      | exact ih0 _ _ _ _
      | exact ih1 _ _ _ _ _ _ _
      | exact server_zzSplit.mono _ _ _
      | exact LeO.none _
      | refine LeO.ite ?_ ?_
      | refine LeO.bind ?_ (fun _ => ?_)
theorem server_isValidSubject.mono : ∀ a0 a1 k, LeO (server_isValidSubject.f k a0 a1) (server_isValidSubject.f (k + 1) a0 a1) := by
  intro a0 a1 k
  obtain ⟨ih0, ih1⟩ := server_isValidSubject.mono_l k
  unfold server_isValidSubject.f
  repeat' first
      | (with_reducible exact ih0 _ _ _ _)
      | (with_reducible exact ih1 _ _ _ _ _ _ _)
      | (with_reducible exact server_zzSplit.mono _ _ _)
      | (with_reducible exact LeO.refl _)
      | (with_reducible exact LeO.none _)
      | (with_reducible refine LeO.ite ?_ ?_)
      | (with_reducible refine LeO.bind ?_ (fun _ => ?_))
      | exact ih0 _ _ _ _
      | exact ih1 _ _ _ _ _ _ _
      | exact server_zzSplit.mono _ _ _
      | exact LeO.none _
      | refine LeO.ite ?_ ?_
      | refine LeO.bind ?_ (fun _ => ?_)
set_option maxHeartbeats 8000000 in
set_option maxRecDepth 100000 in
theorem server_isValidSubject.calls (k : Nat) (a0 : ByteArray) (a1 : Bool) (r : Bool) (w : World) (h : server_isValidSubject.f k a0 a1 = some r) :
    Calls Try.prog 47 #[.string a0, .bool a1] w fun e w' => e = .returned (.bool r) ∧ Below w.heap.size w w' := by
  have HB := Aside0.mk (Below.refl w.heap.size w)
  have H : (if a0.toList = ([] : List UInt8) then (some false) else (if a1 = true then (none) else ((server_zzSplit.f k a0 (⟨#[46]⟩ : ByteArray)).bind fun t148 => (server_isValidSubject.l1 k false t148 (t148.length : Int) 0)))) = some r := h
  clear h
  by_cases c3 : a0.toList = ([] : List UInt8)
  · rw [if_pos c3] at H
    have c3b0 : (a0.toList == ([] : List UInt8)) = true := beq_iff_eq.mpr c3
    have c3b1 : (a0.toList != ([] : List UInt8)) = false := bne_eq_false_iff_eq.mpr c3
    clear c3
    obtain rfl := Option.some.inj H
    go_enter Try.func47, Try.ntmps47
    go_wp2
    go_ret
    exact ⟨by first | rfl | (simp [errW_none, errW_some] <;> rfl) | (simp [*, errW_none, errW_some] <;> rfl), by repeat (first | (with_reducible first | exact HB.out | apply below_alloc | apply pw_below_drewN | apply below_drew1) | exact HB.out)⟩
  · rw [if_neg c3] at H
    have c3b0 : (a0.toList == ([] : List UInt8)) = false := beq_eq_false_iff_ne.mpr c3
    have c3b1 : (a0.toList != ([] : List UInt8)) = true := bne_iff_ne.mpr c3
    by_cases c4 : a1 = true
    · subst c4
      have H1 : (none) = some r := by rw [if_pos rfl] at H; exact H
      clear H
      have H := H1
      clear H1
      exact absurd H (by simp)
    · replace c4 := Bool.eq_false_iff.mpr c4
      subst c4
      have H1 : ((server_zzSplit.f k a0 (⟨#[46]⟩ : ByteArray)).bind fun t148 => (server_isValidSubject.l1 k false t148 (t148.length : Int) 0)) = some r := by rw [if_neg (show ¬ (false = true) by decide)] at H; exact H
      clear H
      have H := H1
      clear H1
      replace H := Option.bind_eq_some_iff.mp H
      obtain ⟨t148, A50, H⟩ := H
      replace H : (server_isValidSubject.l1 k false t148 (t148.length : Int) 0) = some r := H
      have A5 := Aside0.mk A50
      clear A50
      have H' := Aside0.mk H
      clear H
      go_enter Try.func47, Try.ntmps47
      go_wp2_with (first | ((with_reducible refine gate_callee (f := 51) rfl ?_); refine goesL_ (some 26) rfl rfl Try.func51 (by kernel_rfl) rfl #[.string a0, .string (⟨#[46]⟩ : ByteArray)] rfl (by (try simp only [List.map_toArray, List.map_cons, List.map_nil]); first | done | rfl | (simp only [List.length_drop, List.length_take]; rfl)) ?_; (with_reducible refine (server_zzSplit.calls k a0 (⟨#[46]⟩ : ByteArray) t148 _ A5.out).mono ?_); rintro e w6 ⟨v149, rfl, ho0, hb⟩; refine ⟨_, rfl, ?_⟩; have n0_ := Aside0.mk (Kd.R_lower ho0 (below_size (by repeat (first | (with_reducible first | exact HB.out | apply below_alloc | apply pw_below_drewN | apply below_drew1) | exact HB.out)))); have n1_ := Aside0.mk (below_step (by repeat (first | (with_reducible first | exact HB.out | apply below_alloc | apply pw_below_drewN | apply below_drew1) | exact HB.out)) hb); clear HB; have HO150 := n0_; have HB := n1_; clear n0_ n1_; (try clear hb); (try clear hb2); (try clear hk); (try clear hi); (try clear ho0); obtain ⟨Ao7, co7, eo7⟩ := Kd.R_slice HO150.out; subst eo7))
      go_loopg [7, 28] k (fun kq v7 v28 w' => ∃ (x7_1 : Bool) (x28_1 : Int), v7 = .bool x7_1 ∧ v28 = .int .i64 x28_1 ∧ Aside0 (server_isValidSubject.l1 kq x7_1 t148 (t148.length : Int) x28_1 = some r) ∧ Aside0 (kq ≤ k) ∧ Aside0 (Kd.R Kd.string 9 w' w.heap.size (fun _ => True) (.slice Ao7 t148.length co7) t148) ∧ Aside0 (Below w.heap.size w w'))
      case atStart => exact ⟨(false), (0), (by first | rfl | (simp; done) | (simp [*]; done)), (by first | rfl | (simp; done) | (simp [*]; done)), H', ⟨Nat.le_refl _⟩, ⟨by (with_reducible repeat (first | apply Kd.R_alloc | apply Kd.R_drewN | apply Kd.R_drew)); exact HO150.out⟩, ⟨by repeat (first | (with_reducible first | exact HB.out | apply below_alloc | apply pw_below_drewN | apply below_drew1) | exact HB.out)⟩⟩
      case round =>
        clear H'
        try clear p2
        try clear c3
        try clear c3b0
        try clear c3b1
        try clear c4
        try clear c5
        obtain ⟨x7_1, x28_1, rfl, rfl, HA, HK1, HO_26, HB⟩ := hrel
        cases gk with
        | zero => exact absurd HA.out (by simp [server_isValidSubject.l1])
        | succ k1 =>
          have H := HA.out
          clear HA
          simp only [server_isValidSubject.l1] at H
          by_cases c8 : x28_1 < (t148.length : Int)
          · rw [if_pos c8] at H
            have c8b0 : decide (x28_1 < (t148.length : Int)) = true := decide_eq_true c8
            clear c8
            by_cases c9 : 0 ≤ x28_1
            · rw [if_pos c9] at H
              have c9b0 : decide (0 ≤ x28_1) = true := decide_eq_true c9
              clear c9
              by_cases c10 : x28_1 < (t148.length : Int)
              · rw [if_pos c10] at H
                have c10b0 : decide (x28_1 < (t148.length : Int)) = true := decide_eq_true c10
                clear c10
                have HC11 := Aside0.mk H
                clear H
                have p151 : 0 ≤ (x28_1 : Int) := of_decide_eq_true (by first | (with_reducible assumption) | assumption)
                have q151 : x28_1 < (t148.length : Int) := of_decide_eq_true (by first | (with_reducible assumption) | assumption)
                obtain ⟨ad151, e151, hx151_0⟩ := Kd.at_string (Kd.R_reads' HO_26.out).2.2 x28_1 p151 q151
                cases e151
                replace p151 := eq_true p151
                replace q151 := eq_true q151
                go_upto_region 16 with (fail)
                go_cut [38] (fun v38 wc => ∃ (kq : Nat) (x38_10 : Bool), v38 = .bool x38_10 ∧ Aside0 (server_isValidSubject.j1 kq x7_1 (rdOf ByteArray.empty t148 x28_1) ((rdOf ByteArray.empty t148 x28_1).size : Int) t148 (t148.length : Int) x28_1 x38_10 = some r) ∧ Aside0 (kq ≤ k1) ∧ Aside0 (Kd.R Kd.string 9 wc w.heap.size (fun _ => True) (.slice (some ad151) t148.length co7) t148) ∧ Aside0 (Below w.heap.size w wc))
                case first =>
                  have H := HC11.out
                  clear HC11
                  by_cases c12 : ((rdOf ByteArray.empty t148 x28_1).size : Int) = 0
                  · rw [if_pos c12] at H
                    have c12b0 : (((rdOf ByteArray.empty t148 x28_1).size : Int) == 0) = true := beq_iff_eq.mpr c12
                    have c12b1 : (((rdOf ByteArray.empty t148 x28_1).size : Int) != 0) = false := bne_eq_false_iff_eq.mpr c12
                    clear c12
                    (first | rw [c12b0] | (simp only [i64_w, i32_w]; rw [c12b0]) | skip)
                    have H' := Aside0.mk H
                    clear H
                    go_wp2
                    go_meet
                    case rel => exact ⟨_, (true), (by first | rfl | (simp; done) | (simp [*]; done)), H', ⟨by have := HK1.out; first | omega | exact Nat.le_refl _⟩, ⟨by (with_reducible repeat (first | apply Kd.R_alloc | apply Kd.R_drewN | apply Kd.R_drew)); exact HO_26.out⟩, ⟨by repeat (first | (with_reducible first | exact HB.out | apply below_alloc | apply pw_below_drewN | apply below_drew1) | exact HB.out)⟩⟩
                  · rw [if_neg c12] at H
                    have c12b0 : (((rdOf ByteArray.empty t148 x28_1).size : Int) == 0) = false := beq_eq_false_iff_ne.mpr c12
                    have c12b1 : (((rdOf ByteArray.empty t148 x28_1).size : Int) != 0) = true := bne_iff_ne.mpr c12
                    (first | rw [c12b0] | (simp only [i64_w, i32_w]; rw [c12b0]) | skip)
                    have H' := Aside0.mk H
                    clear H
                    go_wp2
                    go_meet
                    case rel => exact ⟨_, (x7_1), (by first | rfl | (simp; done) | (simp [*]; done)), H', ⟨by have := HK1.out; first | omega | exact Nat.le_refl _⟩, ⟨by (with_reducible repeat (first | apply Kd.R_alloc | apply Kd.R_drewN | apply Kd.R_drew)); exact HO_26.out⟩, ⟨by repeat (first | (with_reducible first | exact HB.out | apply below_alloc | apply pw_below_drewN | apply below_drew1) | exact HB.out)⟩⟩
                case rest =>
                  clear HC11
                  try clear c1
                  try clear p1
                  try clear q1
                  try clear hx1
                  try clear p2
                  try clear c3
                  try clear c3b0
                  try clear c3b1
                  try clear c4
                  try clear c5
                  try clear c8
                  try clear c8b0
                  try clear c9
                  try clear c9b0
                  try clear c10
                  try clear c10b0
                  try clear c12
                  try clear c12b0
                  try clear c12b1
                  try clear hx151_0
                  try clear p151
                  try clear p2
                  try clear q151
                  obtain ⟨kq, x38_10, rfl, HA, HJ10, HO_26, HB⟩ := hcut
                  cases kq with
                  | zero => exact absurd HA.out (by simp [server_isValidSubject.j1])
                  | succ kj10 =>
                    have H := HA.out
                    clear HA
                    simp only [server_isValidSubject.j1] at H
                    by_cases c13 : x38_10 = true
                    · subst c13
                      have H1 : (some false) = some r := by rw [if_pos rfl] at H; exact H
                      clear H
                      have H := H1
                      clear H1
                      obtain rfl := Option.some.inj H
                      go_wp2
                      go_ret
                      exact ⟨by first | rfl | (simp [errW_none, errW_some] <;> rfl) | (simp [*, errW_none, errW_some] <;> rfl), by repeat (first | (with_reducible first | exact HB.out | apply below_alloc | apply pw_below_drewN | apply below_drew1) | exact HB.out)⟩
                    · replace c13 := Bool.eq_false_iff.mpr c13
                      subst c13
                      have H1 : (if ((rdOf ByteArray.empty t148 x28_1).size : Int) > 1 then ((server_zzContainsAny.f (rdOf ByteArray.empty t148 x28_1) (⟨#[9, 10, 12, 13, 32]⟩ : ByteArray)).bind fun t152 => (if t152 = true then (some false) else (server_isValidSubject.l1 kj10 x7_1 t148 (t148.length : Int) (wrap64 (x28_1 + 1))))) else (if 0 < ((rdOf ByteArray.empty t148 x28_1).size : Int) then (if (bt (rdOf ByteArray.empty t148 x28_1) 0) = 62 then (server_isValidSubject.l1 kj10 true t148 (t148.length : Int) (wrap64 (x28_1 + 1))) else (if (bt (rdOf ByteArray.empty t148 x28_1) 0) = 32 then (some false) else (if (bt (rdOf ByteArray.empty t148 x28_1) 0) = 9 then (some false) else (if (bt (rdOf ByteArray.empty t148 x28_1) 0) = 10 then (some false) else (if (bt (rdOf ByteArray.empty t148 x28_1) 0) = 13 then (some false) else (if (bt (rdOf ByteArray.empty t148 x28_1) 0) = 12 then (some false) else (server_isValidSubject.l1 kj10 x7_1 t148 (t148.length : Int) (wrap64 (x28_1 + 1))))))))) else (none))) = some r := by rw [if_neg (show ¬ (false = true) by decide)] at H; exact H
                      clear H
                      have H := H1
                      clear H1
                      by_cases c14 : ((rdOf ByteArray.empty t148 x28_1).size : Int) > 1
                      · rw [if_pos c14] at H
                        have c14b0 : decide (1 < ((rdOf ByteArray.empty t148 x28_1).size : Int)) = true := decide_eq_true c14
                        have c14b1 : decide (1 < (rdOf ByteArray.empty t148 x28_1).size) = true := decide_eq_true (by omega)
                        clear c14
                        replace H := Option.bind_eq_some_iff.mp H
                        obtain ⟨t152, A150, H⟩ := H
                        replace H : (if t152 = true then (some false) else (server_isValidSubject.l1 kj10 x7_1 t148 (t148.length : Int) (wrap64 (x28_1 + 1)))) = some r := H
                        have A15 := Aside0.mk A150
                        clear A150
                        by_cases c16 : t152 = true
                        · subst c16
                          have H1 : (some false) = some r := by rw [if_pos rfl] at H; exact H
                          clear H
                          have H := H1
                          clear H1
                          obtain rfl := Option.some.inj H
                          go_wp2_with (first | ((with_reducible refine gate_callee (f := 52) rfl ?_); refine goesL_ (some 42) rfl rfl Try.func52 (by kernel_rfl) rfl #[.string (rdOf ByteArray.empty t148 x28_1), .string (⟨#[9, 10, 12, 13, 32]⟩ : ByteArray)] rfl (by (try simp only [List.map_toArray, List.map_cons, List.map_nil]); first | done | rfl | (simp only [List.length_drop, List.length_take]; rfl)) ?_; (with_reducible refine (server_zzContainsAny.calls (rdOf ByteArray.empty t148 x28_1) (⟨#[9, 10, 12, 13, 32]⟩ : ByteArray) true _ A15.out).mono ?_); rintro e w17 ⟨rfl, hb⟩; refine ⟨_, rfl, ?_⟩; have n0_ := Aside0.mk (Kd.R_below (by (with_reducible repeat (first | apply Kd.R_alloc | apply Kd.R_drewN | apply Kd.R_drew)); exact HO_26.out) hb); have n1_ := Aside0.mk (below_step (by repeat (first | (with_reducible first | exact HB.out | apply below_alloc | apply pw_below_drewN | apply below_drew1) | exact HB.out)) hb); clear HO_26; clear HB; have HO_26 := n0_; have HB := n1_; clear n0_ n1_; (try clear hb); (try clear hb2); (try clear hk); (try clear hi)))
                          go_ret
                          exact ⟨by first | rfl | (simp [errW_none, errW_some] <;> rfl) | (simp [*, errW_none, errW_some] <;> rfl), by repeat (first | (with_reducible first | exact HB.out | apply below_alloc | apply pw_below_drewN | apply below_drew1) | exact HB.out)⟩
                        · replace c16 := Bool.eq_false_iff.mpr c16
                          subst c16
                          have H1 : (server_isValidSubject.l1 kj10 x7_1 t148 (t148.length : Int) (wrap64 (x28_1 + 1))) = some r := by rw [if_neg (show ¬ (false = true) by decide)] at H; exact H
                          clear H
                          have H := H1
                          clear H1
                          have H' := Aside0.mk H
                          clear H
                          go_wp2_with (first | ((with_reducible refine gate_callee (f := 52) rfl ?_); refine goesL_ (some 42) rfl rfl Try.func52 (by kernel_rfl) rfl #[.string (rdOf ByteArray.empty t148 x28_1), .string (⟨#[9, 10, 12, 13, 32]⟩ : ByteArray)] rfl (by (try simp only [List.map_toArray, List.map_cons, List.map_nil]); first | done | rfl | (simp only [List.length_drop, List.length_take]; rfl)) ?_; (with_reducible refine (server_zzContainsAny.calls (rdOf ByteArray.empty t148 x28_1) (⟨#[9, 10, 12, 13, 32]⟩ : ByteArray) false _ A15.out).mono ?_); rintro e w18 ⟨rfl, hb⟩; refine ⟨_, rfl, ?_⟩; have n0_ := Aside0.mk (Kd.R_below (by (with_reducible repeat (first | apply Kd.R_alloc | apply Kd.R_drewN | apply Kd.R_drew)); exact HO_26.out) hb); have n1_ := Aside0.mk (below_step (by repeat (first | (with_reducible first | exact HB.out | apply below_alloc | apply pw_below_drewN | apply below_drew1) | exact HB.out)) hb); clear HO_26; clear HB; have HO_26 := n0_; have HB := n1_; clear n0_ n1_; (try clear hb); (try clear hb2); (try clear hk); (try clear hi)))
                          go_roundg kj10
                          case measure => have := HK1.out; have := HJ10.out; omega
                          case rel => exact ⟨(x7_1), (wrap64 (x28_1 + 1)), (by first | rfl | (simp; done) | (simp [*]; done)), (by first | rfl | (simp; done) | (simp [*]; done)), H', ⟨by have := HK1.out; have := HJ10.out; omega⟩, ⟨by (with_reducible repeat (first | apply Kd.R_alloc | apply Kd.R_drewN | apply Kd.R_drew)); exact HO_26.out⟩, ⟨by repeat (first | (with_reducible first | exact HB.out | apply below_alloc | apply pw_below_drewN | apply below_drew1) | exact HB.out)⟩⟩
                      · rw [if_neg c14] at H
                        have c14b0 : decide (1 < ((rdOf ByteArray.empty t148 x28_1).size : Int)) = false := decide_eq_false c14
                        have c14b1 : decide (1 < (rdOf ByteArray.empty t148 x28_1).size) = false := decide_eq_false (by omega)
                        clear c14
                        by_cases c19 : 0 < ((rdOf ByteArray.empty t148 x28_1).size : Int)
                        · rw [if_pos c19] at H
                          have c19b0 : decide (0 < ((rdOf ByteArray.empty t148 x28_1).size : Int)) = true := decide_eq_true c19
                          have c19b1 : decide (0 < (rdOf ByteArray.empty t148 x28_1).size) = true := decide_eq_true (by omega)
                          clear c19
                          by_cases c21 : (bt (rdOf ByteArray.empty t148 x28_1) 0) = 62
                          · rw [if_pos c21] at H
                            have c21b0 : ((bt (rdOf ByteArray.empty t148 x28_1) 0) == 62) = true := beq_iff_eq.mpr c21
                            have c21b1 : ((bt (rdOf ByteArray.empty t148 x28_1) 0) != 62) = false := bne_eq_false_iff_eq.mpr c21
                            clear c21
                            have H' := Aside0.mk H
                            clear H
                            have p20 : 0 ≤ (0 : Int) := (by omega)
                            have q20 : 0 < (rdOf ByteArray.empty t148 x28_1).size := (by have : (0 : Int) < ((rdOf ByteArray.empty t148 x28_1).size : Int) := of_decide_eq_true (by first | (with_reducible assumption) | assumption); omega)
                            have hx20 : ∀ h : 0 < (rdOf ByteArray.empty t148 x28_1).size, (((rdOf ByteArray.empty t148 x28_1)[0]'h).toNat : Int) = bt (rdOf ByteArray.empty t148 x28_1) 0 := bt_at (rdOf ByteArray.empty t148 x28_1) 0
                            clear p20
                            have qi20 : (0 < ((rdOf ByteArray.empty t148 x28_1).size : Int)) = True := eq_true (of_decide_eq_true (by first | (with_reducible assumption) | assumption))
                            replace q20 := eq_true q20
                            go_wp2
                            go_roundg kj10
                            case measure => have := HK1.out; have := HJ10.out; omega
                            case rel => exact ⟨(true), (wrap64 (x28_1 + 1)), (by first | rfl | (simp; done) | (simp [*]; done)), (by first | rfl | (simp; done) | (simp [*]; done)), H', ⟨by have := HK1.out; have := HJ10.out; omega⟩, ⟨by (with_reducible repeat (first | apply Kd.R_alloc | apply Kd.R_drewN | apply Kd.R_drew)); exact HO_26.out⟩, ⟨by repeat (first | (with_reducible first | exact HB.out | apply below_alloc | apply pw_below_drewN | apply below_drew1) | exact HB.out)⟩⟩
                          · rw [if_neg c21] at H
                            have c21b0 : ((bt (rdOf ByteArray.empty t148 x28_1) 0) == 62) = false := beq_eq_false_iff_ne.mpr c21
                            have c21b1 : ((bt (rdOf ByteArray.empty t148 x28_1) 0) != 62) = true := bne_iff_ne.mpr c21
                            by_cases c22 : (bt (rdOf ByteArray.empty t148 x28_1) 0) = 32
                            · rw [if_pos c22] at H
                              have c22b0 : ((bt (rdOf ByteArray.empty t148 x28_1) 0) == 32) = true := beq_iff_eq.mpr c22
                              have c22b1 : ((bt (rdOf ByteArray.empty t148 x28_1) 0) != 32) = false := bne_eq_false_iff_eq.mpr c22
                              clear c22
                              obtain rfl := Option.some.inj H
                              have p20 : 0 ≤ (0 : Int) := (by omega)
                              have q20 : 0 < (rdOf ByteArray.empty t148 x28_1).size := (by have : (0 : Int) < ((rdOf ByteArray.empty t148 x28_1).size : Int) := of_decide_eq_true (by first | (with_reducible assumption) | assumption); omega)
                              have hx20 : ∀ h : 0 < (rdOf ByteArray.empty t148 x28_1).size, (((rdOf ByteArray.empty t148 x28_1)[0]'h).toNat : Int) = bt (rdOf ByteArray.empty t148 x28_1) 0 := bt_at (rdOf ByteArray.empty t148 x28_1) 0
                              clear p20
                              have qi20 : (0 < ((rdOf ByteArray.empty t148 x28_1).size : Int)) = True := eq_true (of_decide_eq_true (by first | (with_reducible assumption) | assumption))
                              replace q20 := eq_true q20
                              go_wp2
                              go_ret
                              exact ⟨by first | rfl | (simp [errW_none, errW_some] <;> rfl) | (simp [*, errW_none, errW_some] <;> rfl), by repeat (first | (with_reducible first | exact HB.out | apply below_alloc | apply pw_below_drewN | apply below_drew1) | exact HB.out)⟩
                            · rw [if_neg c22] at H
                              have c22b0 : ((bt (rdOf ByteArray.empty t148 x28_1) 0) == 32) = false := beq_eq_false_iff_ne.mpr c22
                              have c22b1 : ((bt (rdOf ByteArray.empty t148 x28_1) 0) != 32) = true := bne_iff_ne.mpr c22
                              by_cases c23 : (bt (rdOf ByteArray.empty t148 x28_1) 0) = 9
                              · rw [if_pos c23] at H
                                have c23b0 : ((bt (rdOf ByteArray.empty t148 x28_1) 0) == 9) = true := beq_iff_eq.mpr c23
                                have c23b1 : ((bt (rdOf ByteArray.empty t148 x28_1) 0) != 9) = false := bne_eq_false_iff_eq.mpr c23
                                clear c23
                                obtain rfl := Option.some.inj H
                                have p20 : 0 ≤ (0 : Int) := (by omega)
                                have q20 : 0 < (rdOf ByteArray.empty t148 x28_1).size := (by have : (0 : Int) < ((rdOf ByteArray.empty t148 x28_1).size : Int) := of_decide_eq_true (by first | (with_reducible assumption) | assumption); omega)
                                have hx20 : ∀ h : 0 < (rdOf ByteArray.empty t148 x28_1).size, (((rdOf ByteArray.empty t148 x28_1)[0]'h).toNat : Int) = bt (rdOf ByteArray.empty t148 x28_1) 0 := bt_at (rdOf ByteArray.empty t148 x28_1) 0
                                clear p20
                                have qi20 : (0 < ((rdOf ByteArray.empty t148 x28_1).size : Int)) = True := eq_true (of_decide_eq_true (by first | (with_reducible assumption) | assumption))
                                replace q20 := eq_true q20
                                go_wp2
                                go_ret
                                exact ⟨by first | rfl | (simp [errW_none, errW_some] <;> rfl) | (simp [*, errW_none, errW_some] <;> rfl), by repeat (first | (with_reducible first | exact HB.out | apply below_alloc | apply pw_below_drewN | apply below_drew1) | exact HB.out)⟩
                              · rw [if_neg c23] at H
                                have c23b0 : ((bt (rdOf ByteArray.empty t148 x28_1) 0) == 9) = false := beq_eq_false_iff_ne.mpr c23
                                have c23b1 : ((bt (rdOf ByteArray.empty t148 x28_1) 0) != 9) = true := bne_iff_ne.mpr c23
                                by_cases c24 : (bt (rdOf ByteArray.empty t148 x28_1) 0) = 10
                                · rw [if_pos c24] at H
                                  have c24b0 : ((bt (rdOf ByteArray.empty t148 x28_1) 0) == 10) = true := beq_iff_eq.mpr c24
                                  have c24b1 : ((bt (rdOf ByteArray.empty t148 x28_1) 0) != 10) = false := bne_eq_false_iff_eq.mpr c24
                                  clear c24
                                  obtain rfl := Option.some.inj H
                                  have p20 : 0 ≤ (0 : Int) := (by omega)
                                  have q20 : 0 < (rdOf ByteArray.empty t148 x28_1).size := (by have : (0 : Int) < ((rdOf ByteArray.empty t148 x28_1).size : Int) := of_decide_eq_true (by first | (with_reducible assumption) | assumption); omega)
                                  have hx20 : ∀ h : 0 < (rdOf ByteArray.empty t148 x28_1).size, (((rdOf ByteArray.empty t148 x28_1)[0]'h).toNat : Int) = bt (rdOf ByteArray.empty t148 x28_1) 0 := bt_at (rdOf ByteArray.empty t148 x28_1) 0
                                  clear p20
                                  have qi20 : (0 < ((rdOf ByteArray.empty t148 x28_1).size : Int)) = True := eq_true (of_decide_eq_true (by first | (with_reducible assumption) | assumption))
                                  replace q20 := eq_true q20
                                  go_wp2
                                  go_ret
                                  exact ⟨by first | rfl | (simp [errW_none, errW_some] <;> rfl) | (simp [*, errW_none, errW_some] <;> rfl), by repeat (first | (with_reducible first | exact HB.out | apply below_alloc | apply pw_below_drewN | apply below_drew1) | exact HB.out)⟩
                                · rw [if_neg c24] at H
                                  have c24b0 : ((bt (rdOf ByteArray.empty t148 x28_1) 0) == 10) = false := beq_eq_false_iff_ne.mpr c24
                                  have c24b1 : ((bt (rdOf ByteArray.empty t148 x28_1) 0) != 10) = true := bne_iff_ne.mpr c24
                                  by_cases c25 : (bt (rdOf ByteArray.empty t148 x28_1) 0) = 13
                                  · rw [if_pos c25] at H
                                    have c25b0 : ((bt (rdOf ByteArray.empty t148 x28_1) 0) == 13) = true := beq_iff_eq.mpr c25
                                    have c25b1 : ((bt (rdOf ByteArray.empty t148 x28_1) 0) != 13) = false := bne_eq_false_iff_eq.mpr c25
                                    clear c25
                                    obtain rfl := Option.some.inj H
                                    have p20 : 0 ≤ (0 : Int) := (by omega)
                                    have q20 : 0 < (rdOf ByteArray.empty t148 x28_1).size := (by have : (0 : Int) < ((rdOf ByteArray.empty t148 x28_1).size : Int) := of_decide_eq_true (by first | (with_reducible assumption) | assumption); omega)
                                    have hx20 : ∀ h : 0 < (rdOf ByteArray.empty t148 x28_1).size, (((rdOf ByteArray.empty t148 x28_1)[0]'h).toNat : Int) = bt (rdOf ByteArray.empty t148 x28_1) 0 := bt_at (rdOf ByteArray.empty t148 x28_1) 0
                                    clear p20
                                    have qi20 : (0 < ((rdOf ByteArray.empty t148 x28_1).size : Int)) = True := eq_true (of_decide_eq_true (by first | (with_reducible assumption) | assumption))
                                    replace q20 := eq_true q20
                                    go_wp2
                                    go_ret
                                    exact ⟨by first | rfl | (simp [errW_none, errW_some] <;> rfl) | (simp [*, errW_none, errW_some] <;> rfl), by repeat (first | (with_reducible first | exact HB.out | apply below_alloc | apply pw_below_drewN | apply below_drew1) | exact HB.out)⟩
                                  · rw [if_neg c25] at H
                                    have c25b0 : ((bt (rdOf ByteArray.empty t148 x28_1) 0) == 13) = false := beq_eq_false_iff_ne.mpr c25
                                    have c25b1 : ((bt (rdOf ByteArray.empty t148 x28_1) 0) != 13) = true := bne_iff_ne.mpr c25
                                    by_cases c26 : (bt (rdOf ByteArray.empty t148 x28_1) 0) = 12
                                    · rw [if_pos c26] at H
                                      have c26b0 : ((bt (rdOf ByteArray.empty t148 x28_1) 0) == 12) = true := beq_iff_eq.mpr c26
                                      have c26b1 : ((bt (rdOf ByteArray.empty t148 x28_1) 0) != 12) = false := bne_eq_false_iff_eq.mpr c26
                                      clear c26
                                      obtain rfl := Option.some.inj H
                                      have p20 : 0 ≤ (0 : Int) := (by omega)
                                      have q20 : 0 < (rdOf ByteArray.empty t148 x28_1).size := (by have : (0 : Int) < ((rdOf ByteArray.empty t148 x28_1).size : Int) := of_decide_eq_true (by first | (with_reducible assumption) | assumption); omega)
                                      have hx20 : ∀ h : 0 < (rdOf ByteArray.empty t148 x28_1).size, (((rdOf ByteArray.empty t148 x28_1)[0]'h).toNat : Int) = bt (rdOf ByteArray.empty t148 x28_1) 0 := bt_at (rdOf ByteArray.empty t148 x28_1) 0
                                      clear p20
                                      have qi20 : (0 < ((rdOf ByteArray.empty t148 x28_1).size : Int)) = True := eq_true (of_decide_eq_true (by first | (with_reducible assumption) | assumption))
                                      replace q20 := eq_true q20
                                      go_wp2
                                      go_ret
                                      exact ⟨by first | rfl | (simp [errW_none, errW_some] <;> rfl) | (simp [*, errW_none, errW_some] <;> rfl), by repeat (first | (with_reducible first | exact HB.out | apply below_alloc | apply pw_below_drewN | apply below_drew1) | exact HB.out)⟩
                                    · rw [if_neg c26] at H
                                      have c26b0 : ((bt (rdOf ByteArray.empty t148 x28_1) 0) == 12) = false := beq_eq_false_iff_ne.mpr c26
                                      have c26b1 : ((bt (rdOf ByteArray.empty t148 x28_1) 0) != 12) = true := bne_iff_ne.mpr c26
                                      have H' := Aside0.mk H
                                      clear H
                                      have p20 : 0 ≤ (0 : Int) := (by omega)
                                      have q20 : 0 < (rdOf ByteArray.empty t148 x28_1).size := (by have : (0 : Int) < ((rdOf ByteArray.empty t148 x28_1).size : Int) := of_decide_eq_true (by first | (with_reducible assumption) | assumption); omega)
                                      have hx20 : ∀ h : 0 < (rdOf ByteArray.empty t148 x28_1).size, (((rdOf ByteArray.empty t148 x28_1)[0]'h).toNat : Int) = bt (rdOf ByteArray.empty t148 x28_1) 0 := bt_at (rdOf ByteArray.empty t148 x28_1) 0
                                      clear p20
                                      have qi20 : (0 < ((rdOf ByteArray.empty t148 x28_1).size : Int)) = True := eq_true (of_decide_eq_true (by first | (with_reducible assumption) | assumption))
                                      replace q20 := eq_true q20
                                      go_wp2
                                      go_roundg kj10
                                      case measure => have := HK1.out; have := HJ10.out; omega
                                      case rel => exact ⟨(x7_1), (wrap64 (x28_1 + 1)), (by first | rfl | (simp; done) | (simp [*]; done)), (by first | rfl | (simp; done) | (simp [*]; done)), H', ⟨by have := HK1.out; have := HJ10.out; omega⟩, ⟨by (with_reducible repeat (first | apply Kd.R_alloc | apply Kd.R_drewN | apply Kd.R_drew)); exact HO_26.out⟩, ⟨by repeat (first | (with_reducible first | exact HB.out | apply below_alloc | apply pw_below_drewN | apply below_drew1) | exact HB.out)⟩⟩
                        · rw [if_neg c19] at H
                          exact absurd H (by simp)
              · rw [if_neg c10] at H
                exact absurd H (by simp)
            · rw [if_neg c9] at H
              exact absurd H (by simp)
          · rw [if_neg c8] at H
            have c8b0 : decide (x28_1 < (t148.length : Int)) = false := decide_eq_false c8
            clear c8
            obtain rfl := Option.some.inj H
            go_wp2
            go_ret
            exact ⟨by first | rfl | (simp [errW_none, errW_some] <;> rfl) | (simp [*, errW_none, errW_some] <;> rfl), by repeat (first | (with_reducible first | exact HB.out | apply below_alloc | apply pw_below_drewN | apply below_drew1) | exact HB.out)⟩

/-! ### server_IsValidSubject: function 42 -/
def server_IsValidSubject.f (k : Nat) (a0 : ByteArray) : Option (Bool) := (server_isValidSubject.f k a0 false).bind fun t153 => (some t153)
theorem server_IsValidSubject.mono : ∀ a0 k, LeO (server_IsValidSubject.f k a0) (server_IsValidSubject.f (k + 1) a0) := by
  intro a0 k
  unfold server_IsValidSubject.f
  repeat' first
      | (with_reducible exact server_isValidSubject.mono _ _ _)
      | (with_reducible exact LeO.refl _)
      | (with_reducible exact LeO.none _)
      | (with_reducible refine LeO.ite ?_ ?_)
      | (with_reducible refine LeO.bind ?_ (fun _ => ?_))
      | exact server_isValidSubject.mono _ _ _
      | exact LeO.none _
      | refine LeO.ite ?_ ?_
      | refine LeO.bind ?_ (fun _ => ?_)
set_option maxHeartbeats 8000000 in
set_option maxRecDepth 100000 in
theorem server_IsValidSubject.calls (k : Nat) (a0 : ByteArray) (r : Bool) (w : World) (h : server_IsValidSubject.f k a0 = some r) :
    Calls Try.prog 42 #[.string a0] w fun e w' => e = .returned (.bool r) ∧ Below w.heap.size w w' := by
  have HB := Aside0.mk (Below.refl w.heap.size w)
  have H : ((server_isValidSubject.f k a0 false).bind fun t153 => (some t153)) = some r := h
  clear h
  replace H := Option.bind_eq_some_iff.mp H
  obtain ⟨t153, A20, H⟩ := H
  replace H : (some t153) = some r := H
  have A2 := Aside0.mk A20
  clear A20
  obtain rfl := Option.some.inj H
  go_enter Try.func42, Try.ntmps42
  go_wp2_with (first | ((with_reducible refine gate_callee (f := 47) rfl ?_); refine goesL_ (some 4) rfl rfl Try.func47 (by kernel_rfl) rfl #[.string a0, .bool false] rfl (by (try simp only [List.map_toArray, List.map_cons, List.map_nil]); first | done | rfl | (simp only [List.length_drop, List.length_take]; rfl)) ?_; (with_reducible refine (server_isValidSubject.calls k a0 false t153 _ A2.out).mono ?_); rintro e w3 ⟨rfl, hb⟩; refine ⟨_, rfl, ?_⟩; have n0_ := Aside0.mk (below_step (by repeat (first | (with_reducible first | exact HB.out | apply below_alloc | apply pw_below_drewN | apply below_drew1) | exact HB.out)) hb); clear HB; have HB := n0_; clear n0_; (try clear hb); (try clear hb2); (try clear hk); (try clear hi)))
  go_ret
  exact ⟨by first | rfl | (simp [errW_none, errW_some] <;> rfl) | (simp [*, errW_none, errW_some] <;> rfl), by repeat (first | (with_reducible first | exact HB.out | apply below_alloc | apply pw_below_drewN | apply below_drew1) | exact HB.out)⟩

end Go.Proofs.Ytgbdjinanflhaaa.GFnSubsetMeans
