/- A walk of Go functions (plain functions of theirs, and that the machine's calls do what these say), written by a program of this session's. -/
import Derived.Test.YtgbdjinanflhaaaGFnSubsetMeansx0
import Derived.Test.YtgbdjinanflhaaaGFnSubsetMeansx2
import Derived.Test.YtgbdjinanflhaaaGFnSubsetMeansx4
import Derived.Test.YtgbdjinanflhaaaGFnSubsetMeansx6
import Derived.Test.YtgbdjinanflhaaaGFnSubsetMeansx9
namespace Go.Proofs.Ytgbdjinanflhaaa.GFnSubsetMeans
open Go.RowKit Go.Proofs.YtgbdjinanflhaaaW.PrintWords Go.Proofs.YtgbdjinanflhaaaW.PrintLast Go.Proofs.YtgbdjinanflhaaaW.PrintMore
attribute [local go_sem] max2_int min2_int max_two min_two max_three min_three max_four min_four   -- for this text's walks alone
set_option linter.unusedVariables false
set_option linter.unusedSimpArgs false

/-! ### server_SubjectIsSubset: function 33 -/
def server_SubjectIsSubset.f (k : Nat) (a0 : ByteArray) (a1 : ByteArray) : Option (Bool) := (server_subjectIsSubsetMatch.f k a0 a1).bind fun t181 => (some t181)
theorem server_SubjectIsSubset.mono : ∀ a0 a1 k, LeO (server_SubjectIsSubset.f k a0 a1) (server_SubjectIsSubset.f (k + 1) a0 a1) := by
  intro a0 a1 k
  unfold server_SubjectIsSubset.f
  repeat' first
      | (with_reducible exact server_subjectIsSubsetMatch.mono _ _ _)
      | (with_reducible exact LeO.refl _)
      | (with_reducible exact LeO.none _)
      | (with_reducible refine LeO.ite ?_ ?_)
      | (with_reducible refine LeO.bind ?_ (fun _ => ?_))
      | exact server_subjectIsSubsetMatch.mono _ _ _
      | exact LeO.none _
      | refine LeO.ite ?_ ?_
      | refine LeO.bind ?_ (fun _ => ?_)
set_option maxHeartbeats 8000000 in
set_option maxRecDepth 100000 in
theorem server_SubjectIsSubset.calls (k : Nat) (a0 : ByteArray) (a1 : ByteArray) (r : Bool) (w : World) (h : server_SubjectIsSubset.f k a0 a1 = some r) :
    Calls Try.prog 33 #[.string a0, .string a1] w fun e w' => e = .returned (.bool r) ∧ Below w.heap.size w w' := by
  have HB := Aside0.mk (Below.refl w.heap.size w)
  have H : ((server_subjectIsSubsetMatch.f k a0 a1).bind fun t181 => (some t181)) = some r := h
  clear h
  replace H := Option.bind_eq_some_iff.mp H
  obtain ⟨t181, A30, H⟩ := H
  replace H : (some t181) = some r := H
  have A3 := Aside0.mk A30
  clear A30
  obtain rfl := Option.some.inj H
  go_enter Try.func33, Try.ntmps33
  go_wp2_with (first | ((with_reducible refine gate_callee (f := 36) rfl ?_); refine goesL_ (some 7) rfl rfl Try.func36 (by kernel_rfl) rfl #[.string a0, .string a1] rfl (by (try simp only [List.map_toArray, List.map_cons, List.map_nil]); first | done | rfl | (simp only [List.length_drop, List.length_take]; rfl)) ?_; (with_reducible refine (server_subjectIsSubsetMatch.calls k a0 a1 t181 _ A3.out).mono ?_); rintro e w4 ⟨rfl, hb⟩; refine ⟨_, rfl, ?_⟩; have n0_ := Aside0.mk (below_step (by repeat (first | (with_reducible first | exact HB.out | apply below_alloc | apply pw_below_drewN | apply below_drew1) | exact HB.out)) hb); clear HB; have HB := n0_; clear n0_; (try clear hb); (try clear hb2); (try clear hk); (try clear hi)))
  go_ret
  exact ⟨by first | rfl | (simp [errW_none, errW_some] <;> rfl) | (simp [*, errW_none, errW_some] <;> rfl), by repeat (first | (with_reducible first | exact HB.out | apply below_alloc | apply pw_below_drewN | apply below_drew1) | exact HB.out)⟩

/-! ### impl_Subset: function 20 -/
def impl_Subset.f (k : Nat) (a0 : ByteArray) (a1 : ByteArray) : Option (Bool) := (server_SubjectIsSubset.f k a0 a1).bind fun t182 => (some t182)
theorem impl_Subset.mono : ∀ a0 a1 k, LeO (impl_Subset.f k a0 a1) (impl_Subset.f (k + 1) a0 a1) := by
  intro a0 a1 k
  unfold impl_Subset.f
  repeat' first
      | (with_reducible exact server_SubjectIsSubset.mono _ _ _)
      | (with_reducible exact LeO.refl _)
      | (with_reducible exact LeO.none _)
      | (with_reducible refine LeO.ite ?_ ?_)
      | (with_reducible refine LeO.bind ?_ (fun _ => ?_))
      | exact server_SubjectIsSubset.mono _ _ _
      | exact LeO.none _
      | refine LeO.ite ?_ ?_
      | refine LeO.bind ?_ (fun _ => ?_)
set_option maxHeartbeats 8000000 in
set_option maxRecDepth 100000 in
theorem impl_Subset.calls (k : Nat) (a0 : ByteArray) (a1 : ByteArray) (r : Bool) (w : World) (h : impl_Subset.f k a0 a1 = some r) :
    Calls Try.prog 20 #[.string a0, .string a1] w fun e w' => e = .returned (.bool r) ∧ Below w.heap.size w w' := by
  have HB := Aside0.mk (Below.refl w.heap.size w)
  have H : ((server_SubjectIsSubset.f k a0 a1).bind fun t182 => (some t182)) = some r := h
  clear h
  replace H := Option.bind_eq_some_iff.mp H
  obtain ⟨t182, A30, H⟩ := H
  replace H : (some t182) = some r := H
  have A3 := Aside0.mk A30
  clear A30
  obtain rfl := Option.some.inj H
  go_enter Try.func20, Try.ntmps20
  go_wp2_with (first | ((with_reducible refine gate_callee (f := 33) rfl ?_); refine goesL_ (some 7) rfl rfl Try.func33 (by kernel_rfl) rfl #[.string a0, .string a1] rfl (by (try simp only [List.map_toArray, List.map_cons, List.map_nil]); first | done | rfl | (simp only [List.length_drop, List.length_take]; rfl)) ?_; (with_reducible refine (server_SubjectIsSubset.calls k a0 a1 t182 _ A3.out).mono ?_); rintro e w4 ⟨rfl, hb⟩; refine ⟨_, rfl, ?_⟩; have n0_ := Aside0.mk (below_step (by repeat (first | (with_reducible first | exact HB.out | apply below_alloc | apply pw_below_drewN | apply below_drew1) | exact HB.out)) hb); clear HB; have HB := n0_; clear n0_; (try clear hb); (try clear hb2); (try clear hk); (try clear hi)))
  go_ret
  exact ⟨by first | rfl | (simp [errW_none, errW_some] <;> rfl) | (simp [*, errW_none, errW_some] <;> rfl), by repeat (first | (with_reducible first | exact HB.out | apply below_alloc | apply pw_below_drewN | apply below_drew1) | exact HB.out)⟩

/-! ### laws_FnSubsetMeans: function 6 -/
mutual
def laws_FnSubsetMeans.j0 : Nat → ByteArray → ByteArray → Bool → Option (Bool)
  | 0, _, _, _ => none
  | k + 1, x0, x1, x15 => if x15 = true then (some true) else ((laws_awakeSubject.f k).bind fun t183 => (if t183 = true then ((laws_valid.f k x0).bind fun t184 => (if t184 = true then ((laws_valid.f k x1).bind fun t185 => (if t185 = true then (laws_FnSubsetMeans.j1 k x0 x1 (decide ((x1.size : Int) > 100))) else (laws_FnSubsetMeans.j1 k x0 x1 true))) else (laws_FnSubsetMeans.j1 k x0 x1 true))) else (some false)))
def laws_FnSubsetMeans.j1 : Nat → ByteArray → ByteArray → Bool → Option (Bool)
  | 0, _, _, _ => none
  | k + 1, x0, x1, x30 => if x30 = true then (some true) else ((laws_fresh.f k x1).bind fun t186 => ((laws_filled.f k x0 t186 1).bind fun t187 => ((laws_fresh.f k x1).bind fun t188 => ((spec_NumTokens.f k x1).bind fun t189 => ((laws_filled.f k x0 t188 (wrap64 (1 + t189))).bind fun t190 => ((impl_Publish.f k t187).bind fun t191 => (if t191 = true then ((impl_Publish.f k t190).bind fun t192 => (if t192 = true then ((impl_MatchLiteral.f k t187 x0).bind fun t193 => (if t193 = true then ((impl_MatchLiteral.f k t190 x0).bind fun t194 => (laws_FnSubsetMeans.j2 k x0 x1 t187 t190 (!t194))) else (laws_FnSubsetMeans.j2 k x0 x1 t187 t190 true))) else (laws_FnSubsetMeans.j2 k x0 x1 t187 t190 true))) else (laws_FnSubsetMeans.j2 k x0 x1 t187 t190 true))))))))
def laws_FnSubsetMeans.j2 : Nat → ByteArray → ByteArray → ByteArray → ByteArray → Bool → Option (Bool)
  | 0, _, _, _, _, _ => none
  | k + 1, x0, x1, x5, x6, x61 => if x61 = true then (some false) else ((impl_MatchLiteral.f k x5 x1).bind fun t195 => (if t195 = true then ((impl_MatchLiteral.f k x6 x1).bind fun t196 => ((impl_Matches.f k x0 x1).bind fun t197 => (if (t197 == t196) = true then ((impl_Subset.f k x0 x1).bind fun t198 => (some (t198 == t196))) else (some false)))) else ((impl_Matches.f k x0 x1).bind fun t199 => (if (t199 == false) = true then ((impl_Subset.f k x0 x1).bind fun t200 => (some (t200 == false))) else (some false)))))
end
def laws_FnSubsetMeans.f (k : Nat) (a0 : ByteArray) (a1 : ByteArray) : Option (Bool) := if (a0.size : Int) > 2147483647 then (laws_FnSubsetMeans.j0 k a0 a1 true) else (laws_FnSubsetMeans.j0 k a0 a1 (decide ((a1.size : Int) > 2147483647)))
theorem laws_FnSubsetMeans.mono_l : ∀ k, (∀ y0 y1 y2, LeO (laws_FnSubsetMeans.j0 k y0 y1 y2) (laws_FnSubsetMeans.j0 (k + 1) y0 y1 y2)) ∧ (∀ y0 y1 y2, LeO (laws_FnSubsetMeans.j1 k y0 y1 y2) (laws_FnSubsetMeans.j1 (k + 1) y0 y1 y2)) ∧ (∀ y0 y1 y2 y3 y4, LeO (laws_FnSubsetMeans.j2 k y0 y1 y2 y3 y4) (laws_FnSubsetMeans.j2 (k + 1) y0 y1 y2 y3 y4))
  | 0 => ⟨fun _ _ _ r h => by simp [laws_FnSubsetMeans.j0] at h, fun _ _ _ r h => by simp [laws_FnSubsetMeans.j1] at h, fun _ _ _ _ _ r h => by simp [laws_FnSubsetMeans.j2] at h⟩
  | k + 1 => by
    obtain ⟨ih0, ih1, ih2⟩ := laws_FnSubsetMeans.mono_l k
    refine ⟨?_, ?_, ?_⟩
    · intro y0 y1 y2
      unfold laws_FnSubsetMeans.j0
      repeat' first
      | (with_reducible exact ih0 _ _ _)
      | (with_reducible exact ih1 _ _ _)
      | (with_reducible exact ih2 _ _ _ _ _)
      | (with_reducible exact impl_MatchLiteral.mono _ _ _)
      | (with_reducible exact impl_Matches.mono _ _ _)
      | (with_reducible exact impl_Publish.mono _ _)
      | (with_reducible exact impl_Subset.mono _ _ _)
      | (with_reducible exact laws_awakeSubject.mono _)
      | (with_reducible exact laws_filled.mono _ _ _ _)
      | (with_reducible exact laws_fresh.mono _ _)
      | (with_reducible exact laws_valid.mono _ _)
      | (with_reducible exact spec_NumTokens.mono _ _)
      | (with_reducible exact LeO.refl _)
      | (with_reducible exact LeO.none _)
      | (with_reducible refine LeO.ite ?_ ?_)
      | (with_reducible refine LeO.bind ?_ (fun _ => ?_))
      | exact ih0 _ _ _
      | exact ih1 _ _ _
      | exact ih2 _ _ _ _ _
      | exact impl_MatchLiteral.mono _ _ _
      | exact impl_Matches.mono _ _ _
      | exact impl_Publish.mono _ _
      | exact impl_Subset.mono _ _ _
      | exact laws_awakeSubject.mono _
      | exact laws_filled.mono _ _ _ _
      | exact laws_fresh.mono _ _
      | exact laws_valid.mono _ _
      | exact spec_NumTokens.mono _ _
      | exact LeO.none _
      | refine LeO.ite ?_ ?_
      | refine LeO.bind ?_ (fun _ => ?_)
    · intro y0 y1 y2
      unfold laws_FnSubsetMeans.j1
      repeat' first
      | (with_reducible exact ih0 _ _ _)
      | (with_reducible exact ih1 _ _ _)
      | (with_reducible exact ih2 _ _ _ _ _)
      | (with_reducible exact impl_MatchLiteral.mono _ _ _)
      | (with_reducible exact impl_Matches.mono _ _ _)
      | (with_reducible exact impl_Publish.mono _ _)
      | (with_reducible exact impl_Subset.mono _ _ _)
      | (with_reducible exact laws_awakeSubject.mono _)
      | (with_reducible exact laws_filled.mono _ _ _ _)
      | (with_reducible exact laws_fresh.mono _ _)
      | (with_reducible exact laws_valid.mono _ _)
      | (with_reducible exact spec_NumTokens.mono _ _)
      | (with_reducible exact LeO.refl _)
      | (with_reducible exact LeO.none _)
      | (with_reducible refine LeO.ite ?_ ?_)
      | (with_reducible refine LeO.bind ?_ (fun _ => ?_))
      | exact ih0 _ _ _
      | exact ih1 _ _ _
      | exact ih2 _ _ _ _ _
      | exact impl_MatchLiteral.mono _ _ _
      | exact impl_Matches.mono _ _ _
      | exact impl_Publish.mono _ _
      | exact impl_Subset.mono _ _ _
      | exact laws_awakeSubject.mono _
      | exact laws_filled.mono _ _ _ _
      | exact laws_fresh.mono _ _
      | exact laws_valid.mono _ _
      | exact spec_NumTokens.mono _ _
      | exact LeO.none _
      | refine LeO.ite ?_ ?_
      | refine LeO.bind ?_ (fun _ => ?_)
    · intro y0 y1 y2 y3 y4
      unfold laws_FnSubsetMeans.j2
      repeat' first
      | (with_reducible exact ih0 _ _ _)
      | (with_reducible exact ih1 _ _ _)
      | (with_reducible exact ih2 _ _ _ _ _)
      | (with_reducible exact impl_MatchLiteral.mono _ _ _)
      | (with_reducible exact impl_Matches.mono _ _ _)
      | (with_reducible exact impl_Publish.mono _ _)
      | (with_reducible exact impl_Subset.mono _ _ _)
      | (with_reducible exact laws_awakeSubject.mono _)
      | (with_reducible exact laws_filled.mono _ _ _ _)
      | (with_reducible exact laws_fresh.mono _ _)
      | (with_reducible exact laws_valid.mono _ _)
      | (with_reducible exact spec_NumTokens.mono _ _)
      | (with_reducible exact LeO.refl _)
      | (with_reducible exact LeO.none _)
      | (with_reducible refine LeO.ite ?_ ?_)
      | (with_reducible refine LeO.bind ?_ (fun _ => ?_))
      | exact ih0 _ _ _
      | exact ih1 _ _ _
      | exact ih2 _ _ _ _ _
      | exact impl_MatchLiteral.mono _ _ _
      | exact impl_Matches.mono _ _ _
      | exact impl_Publish.mono _ _
      | exact impl_Subset.mono _ _ _
      | exact laws_awakeSubject.mono _
      | exact laws_filled.mono _ _ _ _
      | exact laws_fresh.mono _ _
      | exact laws_valid.mono _ _
      | exact spec_NumTokens.mono _ _
      | exact LeO.none _
      | refine LeO.ite ?_ ?_
      | refine LeO.bind ?_ (fun _ => ?_)
theorem laws_FnSubsetMeans.mono : ∀ a0 a1 k, LeO (laws_FnSubsetMeans.f k a0 a1) (laws_FnSubsetMeans.f (k + 1) a0 a1) := by
  intro a0 a1 k
  obtain ⟨ih0, ih1, ih2⟩ := laws_FnSubsetMeans.mono_l k
  unfold laws_FnSubsetMeans.f
  repeat' first
      | (with_reducible exact ih0 _ _ _)
      | (with_reducible exact ih1 _ _ _)
      | (with_reducible exact ih2 _ _ _ _ _)
      | (with_reducible exact impl_MatchLiteral.mono _ _ _)
      | (with_reducible exact impl_Matches.mono _ _ _)
      | (with_reducible exact impl_Publish.mono _ _)
      | (with_reducible exact impl_Subset.mono _ _ _)
      | (with_reducible exact laws_awakeSubject.mono _)
      | (with_reducible exact laws_filled.mono _ _ _ _)
      | (with_reducible exact laws_fresh.mono _ _)
      | (with_reducible exact laws_valid.mono _ _)
      | (with_reducible exact spec_NumTokens.mono _ _)
      | (with_reducible exact LeO.refl _)
      | (with_reducible exact LeO.none _)
      | (with_reducible refine LeO.ite ?_ ?_)
      | (with_reducible refine LeO.bind ?_ (fun _ => ?_))
      | exact ih0 _ _ _
      | exact ih1 _ _ _
      | exact ih2 _ _ _ _ _
      | exact impl_MatchLiteral.mono _ _ _
      | exact impl_Matches.mono _ _ _
      | exact impl_Publish.mono _ _
      | exact impl_Subset.mono _ _ _
      | exact laws_awakeSubject.mono _
      | exact laws_filled.mono _ _ _ _
      | exact laws_fresh.mono _ _
      | exact laws_valid.mono _ _
      | exact spec_NumTokens.mono _ _
      | exact LeO.none _
      | refine LeO.ite ?_ ?_
      | refine LeO.bind ?_ (fun _ => ?_)
set_option maxHeartbeats 8000000 in
set_option maxRecDepth 100000 in
theorem laws_FnSubsetMeans.calls (k : Nat) (a0 : ByteArray) (a1 : ByteArray) (r : Bool) (w : World) (h : laws_FnSubsetMeans.f k a0 a1 = some r) :
    Calls Try.prog 6 #[.string a0, .string a1] w fun e w' => e = .returned (.bool r) ∧ Below w.heap.size w w' := by
  have HB := Aside0.mk (Below.refl w.heap.size w)
  have H : (if (a0.size : Int) > 2147483647 then (laws_FnSubsetMeans.j0 k a0 a1 true) else (laws_FnSubsetMeans.j0 k a0 a1 (decide ((a1.size : Int) > 2147483647)))) = some r := h
  clear h
  have HC3 := Aside0.mk H
  clear H
  go_enter Try.func6, Try.ntmps6
  go_upto_region 1 with (fail)
  go_cut [15] (fun v15 wc => ∃ (kq : Nat) (x15_2 : Bool), v15 = .bool x15_2 ∧ Aside0 (laws_FnSubsetMeans.j0 kq a0 a1 x15_2 = some r) ∧ Aside0 (kq ≤ k) ∧ Aside0 (Below w.heap.size w wc))
  case first =>
    have H := HC3.out
    clear HC3
    by_cases c4 : (a0.size : Int) > 2147483647
    · rw [if_pos c4] at H
      have c4b0 : decide (2147483647 < (a0.size : Int)) = true := decide_eq_true c4
      have c4b1 : decide (2147483647 < a0.size) = true := decide_eq_true (by omega)
      clear c4
      (first | rw [c4b0] | (simp only [i64_w, i32_w]; rw [c4b0]) | skip)
      have H' := Aside0.mk H
      clear H
      go_wp2
      go_meet
      case rel => exact ⟨_, (true), (by first | rfl | (simp; done) | (simp [*]; done)), H', ⟨by first | omega | exact Nat.le_refl _⟩, ⟨by repeat (first | (with_reducible first | exact HB.out | apply below_alloc | apply pw_below_drewN | apply below_drew1) | exact HB.out)⟩⟩
    · rw [if_neg c4] at H
      have c4b0 : decide (2147483647 < (a0.size : Int)) = false := decide_eq_false c4
      have c4b1 : decide (2147483647 < a0.size) = false := decide_eq_false (by omega)
      clear c4
      (first | rw [c4b0] | (simp only [i64_w, i32_w]; rw [c4b0]) | skip)
      have H' := Aside0.mk H
      clear H
      go_wp2
      go_meet
      case rel => exact ⟨_, (decide ((a1.size : Int) > 2147483647)), (by first | rfl | (simp; done) | (simp [*]; done)), H', ⟨by first | omega | exact Nat.le_refl _⟩, ⟨by repeat (first | (with_reducible first | exact HB.out | apply below_alloc | apply pw_below_drewN | apply below_drew1) | exact HB.out)⟩⟩
  case rest =>
    clear HC3
    try clear p2
    try clear c4
    try clear c4b0
    try clear c4b1
    obtain ⟨kq, x15_2, rfl, HA, HJ2, HB⟩ := hcut
    cases kq with
    | zero => exact absurd HA.out (by simp [laws_FnSubsetMeans.j0])
    | succ kj2 =>
      have H := HA.out
      clear HA
      simp only [laws_FnSubsetMeans.j0] at H
      by_cases c5 : x15_2 = true
      · subst c5
        have H1 : (some true) = some r := by rw [if_pos rfl] at H; exact H
        clear H
        have H := H1
        clear H1
        obtain rfl := Option.some.inj H
        go_wp2
        go_ret
        exact ⟨by first | rfl | (simp [errW_none, errW_some] <;> rfl) | (simp [*, errW_none, errW_some] <;> rfl), by repeat (first | (with_reducible first | exact HB.out | apply below_alloc | apply pw_below_drewN | apply below_drew1) | exact HB.out)⟩
      · replace c5 := Bool.eq_false_iff.mpr c5
        subst c5
        have H1 : ((laws_awakeSubject.f kj2).bind fun t183 => (if t183 = true then ((laws_valid.f kj2 a0).bind fun t184 => (if t184 = true then ((laws_valid.f kj2 a1).bind fun t185 => (if t185 = true then (laws_FnSubsetMeans.j1 kj2 a0 a1 (decide ((a1.size : Int) > 100))) else (laws_FnSubsetMeans.j1 kj2 a0 a1 true))) else (laws_FnSubsetMeans.j1 kj2 a0 a1 true))) else (some false))) = some r := by rw [if_neg (show ¬ (false = true) by decide)] at H; exact H
        clear H
        have H := H1
        clear H1
        replace H := Option.bind_eq_some_iff.mp H
        obtain ⟨t183, A60, H⟩ := H
        replace H : (if t183 = true then ((laws_valid.f kj2 a0).bind fun t184 => (if t184 = true then ((laws_valid.f kj2 a1).bind fun t185 => (if t185 = true then (laws_FnSubsetMeans.j1 kj2 a0 a1 (decide ((a1.size : Int) > 100))) else (laws_FnSubsetMeans.j1 kj2 a0 a1 true))) else (laws_FnSubsetMeans.j1 kj2 a0 a1 true))) else (some false)) = some r := H
        have A6 := Aside0.mk A60
        clear A60
        by_cases c7 : t183 = true
        · subst c7
          have H1 : ((laws_valid.f kj2 a0).bind fun t184 => (if t184 = true then ((laws_valid.f kj2 a1).bind fun t185 => (if t185 = true then (laws_FnSubsetMeans.j1 kj2 a0 a1 (decide ((a1.size : Int) > 100))) else (laws_FnSubsetMeans.j1 kj2 a0 a1 true))) else (laws_FnSubsetMeans.j1 kj2 a0 a1 true))) = some r := by rw [if_pos rfl] at H; exact H
          clear H
          have H := H1
          clear H1
          have HC8 := Aside0.mk H
          clear H
          go_upto_region 5 with (first | ((with_reducible refine gate_callee (f := 13) rfl ?_); refine goesL_ (some 16) rfl rfl Try.func13 (by kernel_rfl) rfl #[] rfl (by (try simp only [List.map_toArray, List.map_cons, List.map_nil]); first | done | rfl | (simp only [List.length_drop, List.length_take]; rfl)) ?_; (with_reducible refine (laws_awakeSubject.calls kj2  true _ A6.out).mono ?_); rintro e w9 ⟨rfl, hb⟩; refine ⟨_, rfl, ?_⟩; have n0_ := Aside0.mk (below_step (by repeat (first | (with_reducible first | exact HB.out | apply below_alloc | apply pw_below_drewN | apply below_drew1) | exact HB.out)) hb); clear HB; have HB := n0_; clear n0_; (try clear hb); (try clear hb2); (try clear hk); (try clear hi)))
          (try simp only [Act.put, List.setIfInBounds_toArray, List.set_cons_zero, List.set_cons_succ])
          go_cut [30] (fun v30 wc => ∃ (kq : Nat) (x30_7 : Bool), v30 = .bool x30_7 ∧ Aside0 (laws_FnSubsetMeans.j1 kq a0 a1 x30_7 = some r) ∧ Aside0 (kq ≤ kj2) ∧ Aside0 (Below w.heap.size w wc))
          case first =>
            have H := HC8.out
            clear HC8
            replace H := Option.bind_eq_some_iff.mp H
            obtain ⟨t184, A100, H⟩ := H
            replace H : (if t184 = true then ((laws_valid.f kj2 a1).bind fun t185 => (if t185 = true then (laws_FnSubsetMeans.j1 kj2 a0 a1 (decide ((a1.size : Int) > 100))) else (laws_FnSubsetMeans.j1 kj2 a0 a1 true))) else (laws_FnSubsetMeans.j1 kj2 a0 a1 true)) = some r := H
            have A10 := Aside0.mk A100
            clear A100
            by_cases c11 : t184 = true
            · subst c11
              have H1 : ((laws_valid.f kj2 a1).bind fun t185 => (if t185 = true then (laws_FnSubsetMeans.j1 kj2 a0 a1 (decide ((a1.size : Int) > 100))) else (laws_FnSubsetMeans.j1 kj2 a0 a1 true))) = some r := by rw [if_pos rfl] at H; exact H
              clear H
              have H := H1
              clear H1
              replace H := Option.bind_eq_some_iff.mp H
              obtain ⟨t185, A120, H⟩ := H
              replace H : (if t185 = true then (laws_FnSubsetMeans.j1 kj2 a0 a1 (decide ((a1.size : Int) > 100))) else (laws_FnSubsetMeans.j1 kj2 a0 a1 true)) = some r := H
              have A12 := Aside0.mk A120
              clear A120
              by_cases c13 : t185 = true
              · subst c13
                have H1 : (laws_FnSubsetMeans.j1 kj2 a0 a1 (decide ((a1.size : Int) > 100))) = some r := by rw [if_pos rfl] at H; exact H
                clear H
                have H := H1
                clear H1
                have H' := Aside0.mk H
                clear H
                go_wp2_with (first | ((with_reducible refine gate_callee (f := 7) rfl ?_); refine goesL_ (some 19) rfl rfl Try.func7 (by kernel_rfl) rfl #[.string a0] rfl (by (try simp only [List.map_toArray, List.map_cons, List.map_nil]); first | done | rfl | (simp only [List.length_drop, List.length_take]; rfl)) ?_; (with_reducible refine (laws_valid.calls kj2 a0 true _ A10.out).mono ?_); rintro e w14 ⟨rfl, hb⟩; refine ⟨_, rfl, ?_⟩; have n0_ := Aside0.mk (below_step (by repeat (first | (with_reducible first | exact HB.out | apply below_alloc | apply pw_below_drewN | apply below_drew1) | exact HB.out)) hb); clear HB; have HB := n0_; clear n0_; (try clear hb); (try clear hb2); (try clear hk); (try clear hi)) | (go_at_call 7; (with_reducible refine (laws_valid.calls kj2 a1 true _ A12.out).mono ?_); rintro e w15 ⟨rfl, hb⟩; have n0_ := Aside0.mk (below_step (by repeat (first | (with_reducible first | exact HB.out | apply below_alloc | apply pw_below_drewN | apply below_drew1) | exact HB.out)) hb); clear HB; have HB := n0_; clear n0_; (try clear hb); (try clear hb2); (try clear hk); (try clear hi)))
                go_meet
                case rel => exact ⟨_, (decide ((a1.size : Int) > 100)), (by first | rfl | (simp; done) | (simp [*]; done)), H', ⟨by have := HJ2.out; first | omega | exact Nat.le_refl _⟩, ⟨by repeat (first | (with_reducible first | exact HB.out | apply below_alloc | apply pw_below_drewN | apply below_drew1) | exact HB.out)⟩⟩
              · replace c13 := Bool.eq_false_iff.mpr c13
                subst c13
                have H1 : (laws_FnSubsetMeans.j1 kj2 a0 a1 true) = some r := by rw [if_neg (show ¬ (false = true) by decide)] at H; exact H
                clear H
                have H := H1
                clear H1
                have H' := Aside0.mk H
                clear H
                go_wp2_with (first | ((with_reducible refine gate_callee (f := 7) rfl ?_); refine goesL_ (some 19) rfl rfl Try.func7 (by kernel_rfl) rfl #[.string a0] rfl (by (try simp only [List.map_toArray, List.map_cons, List.map_nil]); first | done | rfl | (simp only [List.length_drop, List.length_take]; rfl)) ?_; (with_reducible refine (laws_valid.calls kj2 a0 true _ A10.out).mono ?_); rintro e w16 ⟨rfl, hb⟩; refine ⟨_, rfl, ?_⟩; have n0_ := Aside0.mk (below_step (by repeat (first | (with_reducible first | exact HB.out | apply below_alloc | apply pw_below_drewN | apply below_drew1) | exact HB.out)) hb); clear HB; have HB := n0_; clear n0_; (try clear hb); (try clear hb2); (try clear hk); (try clear hi)) | (go_at_call 7; (with_reducible refine (laws_valid.calls kj2 a1 false _ A12.out).mono ?_); rintro e w17 ⟨rfl, hb⟩; have n0_ := Aside0.mk (below_step (by repeat (first | (with_reducible first | exact HB.out | apply below_alloc | apply pw_below_drewN | apply below_drew1) | exact HB.out)) hb); clear HB; have HB := n0_; clear n0_; (try clear hb); (try clear hb2); (try clear hk); (try clear hi)))
                go_meet
                case rel => exact ⟨_, (true), (by first | rfl | (simp; done) | (simp [*]; done)), H', ⟨by have := HJ2.out; first | omega | exact Nat.le_refl _⟩, ⟨by repeat (first | (with_reducible first | exact HB.out | apply below_alloc | apply pw_below_drewN | apply below_drew1) | exact HB.out)⟩⟩
            · replace c11 := Bool.eq_false_iff.mpr c11
              subst c11
              have H1 : (laws_FnSubsetMeans.j1 kj2 a0 a1 true) = some r := by rw [if_neg (show ¬ (false = true) by decide)] at H; exact H
              clear H
              have H := H1
              clear H1
              have H' := Aside0.mk H
              clear H
              go_wp2_with (first | ((with_reducible refine gate_callee (f := 7) rfl ?_); refine goesL_ (some 19) rfl rfl Try.func7 (by kernel_rfl) rfl #[.string a0] rfl (by (try simp only [List.map_toArray, List.map_cons, List.map_nil]); first | done | rfl | (simp only [List.length_drop, List.length_take]; rfl)) ?_; (with_reducible refine (laws_valid.calls kj2 a0 false _ A10.out).mono ?_); rintro e w18 ⟨rfl, hb⟩; refine ⟨_, rfl, ?_⟩; have n0_ := Aside0.mk (below_step (by repeat (first | (with_reducible first | exact HB.out | apply below_alloc | apply pw_below_drewN | apply below_drew1) | exact HB.out)) hb); clear HB; have HB := n0_; clear n0_; (try clear hb); (try clear hb2); (try clear hk); (try clear hi)))
              go_meet
              case rel => exact ⟨_, (true), (by first | rfl | (simp; done) | (simp [*]; done)), H', ⟨by have := HJ2.out; first | omega | exact Nat.le_refl _⟩, ⟨by repeat (first | (with_reducible first | exact HB.out | apply below_alloc | apply pw_below_drewN | apply below_drew1) | exact HB.out)⟩⟩
          case rest =>
            clear HC8
            try clear c1
            try clear p2
            try clear c4
            try clear c4b0
            try clear c4b1
            try clear c5
            try clear c6
            try clear c7
            try clear c11
            try clear c13
            try clear p2
            obtain ⟨kq, x30_7, rfl, HA, HJ7, HB⟩ := hcut
            cases kq with
            | zero => exact absurd HA.out (by simp [laws_FnSubsetMeans.j1])
            | succ kj7 =>
              have H := HA.out
              clear HA
              simp only [laws_FnSubsetMeans.j1] at H
              by_cases c19 : x30_7 = true
              · subst c19
                have H1 : (some true) = some r := by rw [if_pos rfl] at H; exact H
                clear H
                have H := H1
                clear H1
                obtain rfl := Option.some.inj H
                go_wp2
                go_ret
                exact ⟨by first | rfl | (simp [errW_none, errW_some] <;> rfl) | (simp [*, errW_none, errW_some] <;> rfl), by repeat (first | (with_reducible first | exact HB.out | apply below_alloc | apply pw_below_drewN | apply below_drew1) | exact HB.out)⟩
              · replace c19 := Bool.eq_false_iff.mpr c19
                subst c19
                have H1 : ((laws_fresh.f kj7 a1).bind fun t186 => ((laws_filled.f kj7 a0 t186 1).bind fun t187 => ((laws_fresh.f kj7 a1).bind fun t188 => ((spec_NumTokens.f kj7 a1).bind fun t189 => ((laws_filled.f kj7 a0 t188 (wrap64 (1 + t189))).bind fun t190 => ((impl_Publish.f kj7 t187).bind fun t191 => (if t191 = true then ((impl_Publish.f kj7 t190).bind fun t192 => (if t192 = true then ((impl_MatchLiteral.f kj7 t187 a0).bind fun t193 => (if t193 = true then ((impl_MatchLiteral.f kj7 t190 a0).bind fun t194 => (laws_FnSubsetMeans.j2 kj7 a0 a1 t187 t190 (!t194))) else (laws_FnSubsetMeans.j2 kj7 a0 a1 t187 t190 true))) else (laws_FnSubsetMeans.j2 kj7 a0 a1 t187 t190 true))) else (laws_FnSubsetMeans.j2 kj7 a0 a1 t187 t190 true)))))))) = some r := by rw [if_neg (show ¬ (false = true) by decide)] at H; exact H
                clear H
                have H := H1
                clear H1
                replace H := Option.bind_eq_some_iff.mp H
                obtain ⟨t186, A200, H⟩ := H
                replace H : ((laws_filled.f kj7 a0 t186 1).bind fun t187 => ((laws_fresh.f kj7 a1).bind fun t188 => ((spec_NumTokens.f kj7 a1).bind fun t189 => ((laws_filled.f kj7 a0 t188 (wrap64 (1 + t189))).bind fun t190 => ((impl_Publish.f kj7 t187).bind fun t191 => (if t191 = true then ((impl_Publish.f kj7 t190).bind fun t192 => (if t192 = true then ((impl_MatchLiteral.f kj7 t187 a0).bind fun t193 => (if t193 = true then ((impl_MatchLiteral.f kj7 t190 a0).bind fun t194 => (laws_FnSubsetMeans.j2 kj7 a0 a1 t187 t190 (!t194))) else (laws_FnSubsetMeans.j2 kj7 a0 a1 t187 t190 true))) else (laws_FnSubsetMeans.j2 kj7 a0 a1 t187 t190 true))) else (laws_FnSubsetMeans.j2 kj7 a0 a1 t187 t190 true))))))) = some r := H
                have A20 := Aside0.mk A200
                clear A200
                replace H := Option.bind_eq_some_iff.mp H
                obtain ⟨t187, A210, H⟩ := H
                replace H : ((laws_fresh.f kj7 a1).bind fun t188 => ((spec_NumTokens.f kj7 a1).bind fun t189 => ((laws_filled.f kj7 a0 t188 (wrap64 (1 + t189))).bind fun t190 => ((impl_Publish.f kj7 t187).bind fun t191 => (if t191 = true then ((impl_Publish.f kj7 t190).bind fun t192 => (if t192 = true then ((impl_MatchLiteral.f kj7 t187 a0).bind fun t193 => (if t193 = true then ((impl_MatchLiteral.f kj7 t190 a0).bind fun t194 => (laws_FnSubsetMeans.j2 kj7 a0 a1 t187 t190 (!t194))) else (laws_FnSubsetMeans.j2 kj7 a0 a1 t187 t190 true))) else (laws_FnSubsetMeans.j2 kj7 a0 a1 t187 t190 true))) else (laws_FnSubsetMeans.j2 kj7 a0 a1 t187 t190 true)))))) = some r := H
                have A21 := Aside0.mk A210
                clear A210
                replace H := Option.bind_eq_some_iff.mp H
                obtain ⟨t188, A220, H⟩ := H
                replace H : ((spec_NumTokens.f kj7 a1).bind fun t189 => ((laws_filled.f kj7 a0 t188 (wrap64 (1 + t189))).bind fun t190 => ((impl_Publish.f kj7 t187).bind fun t191 => (if t191 = true then ((impl_Publish.f kj7 t190).bind fun t192 => (if t192 = true then ((impl_MatchLiteral.f kj7 t187 a0).bind fun t193 => (if t193 = true then ((impl_MatchLiteral.f kj7 t190 a0).bind fun t194 => (laws_FnSubsetMeans.j2 kj7 a0 a1 t187 t190 (!t194))) else (laws_FnSubsetMeans.j2 kj7 a0 a1 t187 t190 true))) else (laws_FnSubsetMeans.j2 kj7 a0 a1 t187 t190 true))) else (laws_FnSubsetMeans.j2 kj7 a0 a1 t187 t190 true))))) = some r := H
                have A22 := Aside0.mk A220
                clear A220
                replace H := Option.bind_eq_some_iff.mp H
                obtain ⟨t189, A230, H⟩ := H
                replace H : ((laws_filled.f kj7 a0 t188 (wrap64 (1 + t189))).bind fun t190 => ((impl_Publish.f kj7 t187).bind fun t191 => (if t191 = true then ((impl_Publish.f kj7 t190).bind fun t192 => (if t192 = true then ((impl_MatchLiteral.f kj7 t187 a0).bind fun t193 => (if t193 = true then ((impl_MatchLiteral.f kj7 t190 a0).bind fun t194 => (laws_FnSubsetMeans.j2 kj7 a0 a1 t187 t190 (!t194))) else (laws_FnSubsetMeans.j2 kj7 a0 a1 t187 t190 true))) else (laws_FnSubsetMeans.j2 kj7 a0 a1 t187 t190 true))) else (laws_FnSubsetMeans.j2 kj7 a0 a1 t187 t190 true)))) = some r := H
                have A23 := Aside0.mk A230
                clear A230
                replace H := Option.bind_eq_some_iff.mp H
                obtain ⟨t190, A240, H⟩ := H
                replace H : ((impl_Publish.f kj7 t187).bind fun t191 => (if t191 = true then ((impl_Publish.f kj7 t190).bind fun t192 => (if t192 = true then ((impl_MatchLiteral.f kj7 t187 a0).bind fun t193 => (if t193 = true then ((impl_MatchLiteral.f kj7 t190 a0).bind fun t194 => (laws_FnSubsetMeans.j2 kj7 a0 a1 t187 t190 (!t194))) else (laws_FnSubsetMeans.j2 kj7 a0 a1 t187 t190 true))) else (laws_FnSubsetMeans.j2 kj7 a0 a1 t187 t190 true))) else (laws_FnSubsetMeans.j2 kj7 a0 a1 t187 t190 true))) = some r := H
                have A24 := Aside0.mk A240
                clear A240
                have HC25 := Aside0.mk H
                clear H
                go_upto_region 8 with (first | ((with_reducible refine gate_callee (f := 18) rfl ?_); refine goesL_ (some 33) rfl rfl Try.func18 (by kernel_rfl) rfl #[.string a1] rfl (by (try simp only [List.map_toArray, List.map_cons, List.map_nil]); first | done | rfl | (simp only [List.length_drop, List.length_take]; rfl)) ?_; (with_reducible refine (laws_fresh.calls kj7 a1 t186 _ A20.out).mono ?_); rintro e w' ⟨rfl, ⟨nd, rfl⟩⟩; refine ⟨_, rfl, ?_⟩) | ((with_reducible refine gate_callee (f := 17) rfl ?_); refine goesL_ (some 34) rfl rfl Try.func17 (by kernel_rfl) rfl #[.string a0, .string t186, .int .i64 1] rfl (by (try simp only [List.map_toArray, List.map_cons, List.map_nil]); first | done | rfl | (simp only [List.length_drop, List.length_take]; rfl)) ?_; (with_reducible refine (laws_filled.calls kj7 a0 t186 1 t187 _ A21.out).mono ?_); rintro e w26 ⟨rfl, hb⟩; refine ⟨_, rfl, ?_⟩; have n0_ := Aside0.mk (below_step (by repeat (first | (with_reducible first | exact HB.out | apply below_alloc | apply pw_below_drewN | apply below_drew1) | exact HB.out)) hb); clear HB; have HB := n0_; clear n0_; (try clear hb); (try clear hb2); (try clear hk); (try clear hi)) | ((with_reducible refine gate_callee (f := 18) rfl ?_); refine goesL_ (some 37) rfl rfl Try.func18 (by kernel_rfl) rfl #[.string a1] rfl (by (try simp only [List.map_toArray, List.map_cons, List.map_nil]); first | done | rfl | (simp only [List.length_drop, List.length_take]; rfl)) ?_; (with_reducible refine (laws_fresh.calls kj7 a1 t188 _ A22.out).mono ?_); rintro e w' ⟨rfl, ⟨nd, rfl⟩⟩; refine ⟨_, rfl, ?_⟩) | ((with_reducible refine gate_callee (f := 19) rfl ?_); refine goesL_ (some 39) rfl rfl Try.func19 (by kernel_rfl) rfl #[.string a1] rfl (by (try simp only [List.map_toArray, List.map_cons, List.map_nil]); first | done | rfl | (simp only [List.length_drop, List.length_take]; rfl)) ?_; (with_reducible refine (spec_NumTokens.calls kj7 a1 t189 _ A23.out).mono ?_); rintro e w27 ⟨rfl, hb⟩; refine ⟨_, rfl, ?_⟩; have n0_ := Aside0.mk (below_step (by repeat (first | (with_reducible first | exact HB.out | apply below_alloc | apply pw_below_drewN | apply below_drew1) | exact HB.out)) hb); clear HB; have HB := n0_; clear n0_; (try clear hb); (try clear hb2); (try clear hk); (try clear hi)) | ((with_reducible refine gate_callee (f := 17) rfl ?_); refine goesL_ (some 41) rfl rfl Try.func17 (by kernel_rfl) rfl #[.string a0, .string t188, .int .i64 (wrap64 (1 + t189))] rfl (by (try simp only [List.map_toArray, List.map_cons, List.map_nil]); first | done | rfl | (simp only [List.length_drop, List.length_take]; rfl)) ?_; (with_reducible refine (laws_filled.calls kj7 a0 t188 (wrap64 (1 + t189)) t190 _ A24.out).mono ?_); rintro e w28 ⟨rfl, hb⟩; refine ⟨_, rfl, ?_⟩; have n0_ := Aside0.mk (below_step (by repeat (first | (with_reducible first | exact HB.out | apply below_alloc | apply pw_below_drewN | apply below_drew1) | exact HB.out)) hb); clear HB; have HB := n0_; clear n0_; (try clear hb); (try clear hb2); (try clear hk); (try clear hi)))
                (try simp only [Act.put, List.setIfInBounds_toArray, List.set_cons_zero, List.set_cons_succ])
                go_cut [61] (fun v61 wc => ∃ (kq : Nat) (x61_24 : Bool), v61 = .bool x61_24 ∧ Aside0 (laws_FnSubsetMeans.j2 kq a0 a1 t187 t190 x61_24 = some r) ∧ Aside0 (kq ≤ kj7) ∧ Aside0 (Below w.heap.size w wc))
                case first =>
                  have H := HC25.out
                  clear HC25
                  replace H := Option.bind_eq_some_iff.mp H
                  obtain ⟨t191, A290, H⟩ := H
                  replace H : (if t191 = true then ((impl_Publish.f kj7 t190).bind fun t192 => (if t192 = true then ((impl_MatchLiteral.f kj7 t187 a0).bind fun t193 => (if t193 = true then ((impl_MatchLiteral.f kj7 t190 a0).bind fun t194 => (laws_FnSubsetMeans.j2 kj7 a0 a1 t187 t190 (!t194))) else (laws_FnSubsetMeans.j2 kj7 a0 a1 t187 t190 true))) else (laws_FnSubsetMeans.j2 kj7 a0 a1 t187 t190 true))) else (laws_FnSubsetMeans.j2 kj7 a0 a1 t187 t190 true)) = some r := H
                  have A29 := Aside0.mk A290
                  clear A290
                  by_cases c30 : t191 = true
                  · subst c30
                    have H1 : ((impl_Publish.f kj7 t190).bind fun t192 => (if t192 = true then ((impl_MatchLiteral.f kj7 t187 a0).bind fun t193 => (if t193 = true then ((impl_MatchLiteral.f kj7 t190 a0).bind fun t194 => (laws_FnSubsetMeans.j2 kj7 a0 a1 t187 t190 (!t194))) else (laws_FnSubsetMeans.j2 kj7 a0 a1 t187 t190 true))) else (laws_FnSubsetMeans.j2 kj7 a0 a1 t187 t190 true))) = some r := by rw [if_pos rfl] at H; exact H
                    clear H
                    have H := H1
                    clear H1
                    replace H := Option.bind_eq_some_iff.mp H
                    obtain ⟨t192, A310, H⟩ := H
                    replace H : (if t192 = true then ((impl_MatchLiteral.f kj7 t187 a0).bind fun t193 => (if t193 = true then ((impl_MatchLiteral.f kj7 t190 a0).bind fun t194 => (laws_FnSubsetMeans.j2 kj7 a0 a1 t187 t190 (!t194))) else (laws_FnSubsetMeans.j2 kj7 a0 a1 t187 t190 true))) else (laws_FnSubsetMeans.j2 kj7 a0 a1 t187 t190 true)) = some r := H
                    have A31 := Aside0.mk A310
                    clear A310
                    by_cases c32 : t192 = true
                    · subst c32
                      have H1 : ((impl_MatchLiteral.f kj7 t187 a0).bind fun t193 => (if t193 = true then ((impl_MatchLiteral.f kj7 t190 a0).bind fun t194 => (laws_FnSubsetMeans.j2 kj7 a0 a1 t187 t190 (!t194))) else (laws_FnSubsetMeans.j2 kj7 a0 a1 t187 t190 true))) = some r := by rw [if_pos rfl] at H; exact H
                      clear H
                      have H := H1
                      clear H1
                      replace H := Option.bind_eq_some_iff.mp H
                      obtain ⟨t193, A330, H⟩ := H
                      replace H : (if t193 = true then ((impl_MatchLiteral.f kj7 t190 a0).bind fun t194 => (laws_FnSubsetMeans.j2 kj7 a0 a1 t187 t190 (!t194))) else (laws_FnSubsetMeans.j2 kj7 a0 a1 t187 t190 true)) = some r := H
                      have A33 := Aside0.mk A330
                      clear A330
                      by_cases c34 : t193 = true
                      · subst c34
                        have H1 : ((impl_MatchLiteral.f kj7 t190 a0).bind fun t194 => (laws_FnSubsetMeans.j2 kj7 a0 a1 t187 t190 (!t194))) = some r := by rw [if_pos rfl] at H; exact H
                        clear H
                        have H := H1
                        clear H1
                        replace H := Option.bind_eq_some_iff.mp H
                        obtain ⟨t194, A350, H⟩ := H
                        replace H : (laws_FnSubsetMeans.j2 kj7 a0 a1 t187 t190 (!t194)) = some r := H
                        have A35 := Aside0.mk A350
                        clear A350
                        have H' := Aside0.mk H
                        clear H
                        go_wp2_with (first | ((with_reducible refine gate_callee (f := 16) rfl ?_); refine goesL_ (some 43) rfl rfl Try.func16 (by kernel_rfl) rfl #[.string t187] rfl (by (try simp only [List.map_toArray, List.map_cons, List.map_nil]); first | done | rfl | (simp only [List.length_drop, List.length_take]; rfl)) ?_; (with_reducible refine (impl_Publish.calls kj7 t187 true _ A29.out).mono ?_); rintro e w36 ⟨rfl, hb⟩; refine ⟨_, rfl, ?_⟩; have n0_ := Aside0.mk (below_step (by repeat (first | (with_reducible first | exact HB.out | apply below_alloc | apply pw_below_drewN | apply below_drew1) | exact HB.out)) hb); clear HB; have HB := n0_; clear n0_; (try clear hb); (try clear hb2); (try clear hk); (try clear hi)) | (go_at_call 16; (with_reducible refine (impl_Publish.calls kj7 t190 true _ A31.out).mono ?_); rintro e w37 ⟨rfl, hb⟩; have n0_ := Aside0.mk (below_step (by repeat (first | (with_reducible first | exact HB.out | apply below_alloc | apply pw_below_drewN | apply below_drew1) | exact HB.out)) hb); clear HB; have HB := n0_; clear n0_; (try clear hb); (try clear hb2); (try clear hk); (try clear hi)) | (go_at_call 11; (with_reducible refine (impl_MatchLiteral.calls kj7 t187 a0 true _ A33.out).mono ?_); rintro e w' ⟨rfl, ⟨nd, rfl⟩⟩) | (go_at_call 11; (with_reducible refine (impl_MatchLiteral.calls kj7 t190 a0 t194 _ A35.out).mono ?_); rintro e w' ⟨rfl, ⟨nd, rfl⟩⟩))
                        go_meet
                        case rel => exact ⟨_, (!t194), (by first | rfl | (simp; done) | (simp [*]; done)), H', ⟨by have := HJ2.out; have := HJ7.out; first | omega | exact Nat.le_refl _⟩, ⟨by repeat (first | (with_reducible first | exact HB.out | apply below_alloc | apply pw_below_drewN | apply below_drew1) | exact HB.out)⟩⟩
                      · replace c34 := Bool.eq_false_iff.mpr c34
                        subst c34
                        have H1 : (laws_FnSubsetMeans.j2 kj7 a0 a1 t187 t190 true) = some r := by rw [if_neg (show ¬ (false = true) by decide)] at H; exact H
                        clear H
                        have H := H1
                        clear H1
                        have H' := Aside0.mk H
                        clear H
                        go_wp2_with (first | ((with_reducible refine gate_callee (f := 16) rfl ?_); refine goesL_ (some 43) rfl rfl Try.func16 (by kernel_rfl) rfl #[.string t187] rfl (by (try simp only [List.map_toArray, List.map_cons, List.map_nil]); first | done | rfl | (simp only [List.length_drop, List.length_take]; rfl)) ?_; (with_reducible refine (impl_Publish.calls kj7 t187 true _ A29.out).mono ?_); rintro e w38 ⟨rfl, hb⟩; refine ⟨_, rfl, ?_⟩; have n0_ := Aside0.mk (below_step (by repeat (first | (with_reducible first | exact HB.out | apply below_alloc | apply pw_below_drewN | apply below_drew1) | exact HB.out)) hb); clear HB; have HB := n0_; clear n0_; (try clear hb); (try clear hb2); (try clear hk); (try clear hi)) | (go_at_call 16; (with_reducible refine (impl_Publish.calls kj7 t190 true _ A31.out).mono ?_); rintro e w39 ⟨rfl, hb⟩; have n0_ := Aside0.mk (below_step (by repeat (first | (with_reducible first | exact HB.out | apply below_alloc | apply pw_below_drewN | apply below_drew1) | exact HB.out)) hb); clear HB; have HB := n0_; clear n0_; (try clear hb); (try clear hb2); (try clear hk); (try clear hi)) | (go_at_call 11; (with_reducible refine (impl_MatchLiteral.calls kj7 t187 a0 false _ A33.out).mono ?_); rintro e w' ⟨rfl, ⟨nd, rfl⟩⟩))
                        go_meet
                        case rel => exact ⟨_, (true), (by first | rfl | (simp; done) | (simp [*]; done)), H', ⟨by have := HJ2.out; have := HJ7.out; first | omega | exact Nat.le_refl _⟩, ⟨by repeat (first | (with_reducible first | exact HB.out | apply below_alloc | apply pw_below_drewN | apply below_drew1) | exact HB.out)⟩⟩
                    · replace c32 := Bool.eq_false_iff.mpr c32
                      subst c32
                      have H1 : (laws_FnSubsetMeans.j2 kj7 a0 a1 t187 t190 true) = some r := by rw [if_neg (show ¬ (false = true) by decide)] at H; exact H
                      clear H
                      have H := H1
                      clear H1
                      have H' := Aside0.mk H
                      clear H
                      go_wp2_with (first | ((with_reducible refine gate_callee (f := 16) rfl ?_); refine goesL_ (some 43) rfl rfl Try.func16 (by kernel_rfl) rfl #[.string t187] rfl (by (try simp only [List.map_toArray, List.map_cons, List.map_nil]); first | done | rfl | (simp only [List.length_drop, List.length_take]; rfl)) ?_; (with_reducible refine (impl_Publish.calls kj7 t187 true _ A29.out).mono ?_); rintro e w40 ⟨rfl, hb⟩; refine ⟨_, rfl, ?_⟩; have n0_ := Aside0.mk (below_step (by repeat (first | (with_reducible first | exact HB.out | apply below_alloc | apply pw_below_drewN | apply below_drew1) | exact HB.out)) hb); clear HB; have HB := n0_; clear n0_; (try clear hb); (try clear hb2); (try clear hk); (try clear hi)) | (go_at_call 16; (with_reducible refine (impl_Publish.calls kj7 t190 false _ A31.out).mono ?_); rintro e w41 ⟨rfl, hb⟩; have n0_ := Aside0.mk (below_step (by repeat (first | (with_reducible first | exact HB.out | apply below_alloc | apply pw_below_drewN | apply below_drew1) | exact HB.out)) hb); clear HB; have HB := n0_; clear n0_; (try clear hb); (try clear hb2); (try clear hk); (try clear hi)))
                      go_meet
                      case rel => exact ⟨_, (true), (by first | rfl | (simp; done) | (simp [*]; done)), H', ⟨by have := HJ2.out; have := HJ7.out; first | omega | exact Nat.le_refl _⟩, ⟨by repeat (first | (with_reducible first | exact HB.out | apply below_alloc | apply pw_below_drewN | apply below_drew1) | exact HB.out)⟩⟩
                  · replace c30 := Bool.eq_false_iff.mpr c30
                    subst c30
                    have H1 : (laws_FnSubsetMeans.j2 kj7 a0 a1 t187 t190 true) = some r := by rw [if_neg (show ¬ (false = true) by decide)] at H; exact H
                    clear H
                    have H := H1
                    clear H1
                    have H' := Aside0.mk H
                    clear H
                    go_wp2_with (first | ((with_reducible refine gate_callee (f := 16) rfl ?_); refine goesL_ (some 43) rfl rfl Try.func16 (by kernel_rfl) rfl #[.string t187] rfl (by (try simp only [List.map_toArray, List.map_cons, List.map_nil]); first | done | rfl | (simp only [List.length_drop, List.length_take]; rfl)) ?_; (with_reducible refine (impl_Publish.calls kj7 t187 false _ A29.out).mono ?_); rintro e w42 ⟨rfl, hb⟩; refine ⟨_, rfl, ?_⟩; have n0_ := Aside0.mk (below_step (by repeat (first | (with_reducible first | exact HB.out | apply below_alloc | apply pw_below_drewN | apply below_drew1) | exact HB.out)) hb); clear HB; have HB := n0_; clear n0_; (try clear hb); (try clear hb2); (try clear hk); (try clear hi)))
                    go_meet
                    case rel => exact ⟨_, (true), (by first | rfl | (simp; done) | (simp [*]; done)), H', ⟨by have := HJ2.out; have := HJ7.out; first | omega | exact Nat.le_refl _⟩, ⟨by repeat (first | (with_reducible first | exact HB.out | apply below_alloc | apply pw_below_drewN | apply below_drew1) | exact HB.out)⟩⟩
                case rest =>
                  clear HC25
                  try clear c1
                  try clear p2
                  try clear c3
                  try clear c4
                  try clear c4b0
                  try clear c4b1
                  try clear c5
                  try clear c6
                  try clear p6
                  try clear c7
                  try clear c11
                  try clear c13
                  try clear c16
                  try clear c17
                  try clear c18
                  try clear c19
                  try clear c30
                  try clear c32
                  try clear c34
                  try clear p2
                  obtain ⟨kq, x61_24, rfl, HA, HJ24, HB⟩ := hcut
                  cases kq with
                  | zero => exact absurd HA.out (by simp [laws_FnSubsetMeans.j2])
                  | succ kj24 =>
                    have H := HA.out
                    clear HA
                    simp only [laws_FnSubsetMeans.j2] at H
                    by_cases c43 : x61_24 = true
                    · subst c43
                      have H1 : (some false) = some r := by rw [if_pos rfl] at H; exact H
                      clear H
                      have H := H1
                      clear H1
                      obtain rfl := Option.some.inj H
                      go_wp2
                      go_ret
                      exact ⟨by first | rfl | (simp [errW_none, errW_some] <;> rfl) | (simp [*, errW_none, errW_some] <;> rfl), by repeat (first | (with_reducible first | exact HB.out | apply below_alloc | apply pw_below_drewN | apply below_drew1) | exact HB.out)⟩
                    · replace c43 := Bool.eq_false_iff.mpr c43
                      subst c43
                      have H1 : ((impl_MatchLiteral.f kj24 t187 a1).bind fun t195 => (if t195 = true then ((impl_MatchLiteral.f kj24 t190 a1).bind fun t196 => ((impl_Matches.f kj24 a0 a1).bind fun t197 => (if (t197 == t196) = true then ((impl_Subset.f kj24 a0 a1).bind fun t198 => (some (t198 == t196))) else (some false)))) else ((impl_Matches.f kj24 a0 a1).bind fun t199 => (if (t199 == false) = true then ((impl_Subset.f kj24 a0 a1).bind fun t200 => (some (t200 == false))) else (some false))))) = some r := by rw [if_neg (show ¬ (false = true) by decide)] at H; exact H
                      clear H
                      have H := H1
                      clear H1
                      replace H := Option.bind_eq_some_iff.mp H
                      obtain ⟨t195, A440, H⟩ := H
                      replace H : (if t195 = true then ((impl_MatchLiteral.f kj24 t190 a1).bind fun t196 => ((impl_Matches.f kj24 a0 a1).bind fun t197 => (if (t197 == t196) = true then ((impl_Subset.f kj24 a0 a1).bind fun t198 => (some (t198 == t196))) else (some false)))) else ((impl_Matches.f kj24 a0 a1).bind fun t199 => (if (t199 == false) = true then ((impl_Subset.f kj24 a0 a1).bind fun t200 => (some (t200 == false))) else (some false)))) = some r := H
                      have A44 := Aside0.mk A440
                      clear A440
                      by_cases c45 : t195 = true
                      · subst c45
                        have H1 : ((impl_MatchLiteral.f kj24 t190 a1).bind fun t196 => ((impl_Matches.f kj24 a0 a1).bind fun t197 => (if (t197 == t196) = true then ((impl_Subset.f kj24 a0 a1).bind fun t198 => (some (t198 == t196))) else (some false)))) = some r := by rw [if_pos rfl] at H; exact H
                        clear H
                        have H := H1
                        clear H1
                        replace H := Option.bind_eq_some_iff.mp H
                        obtain ⟨t196, A460, H⟩ := H
                        replace H : ((impl_Matches.f kj24 a0 a1).bind fun t197 => (if (t197 == t196) = true then ((impl_Subset.f kj24 a0 a1).bind fun t198 => (some (t198 == t196))) else (some false))) = some r := H
                        have A46 := Aside0.mk A460
                        clear A460
                        replace H := Option.bind_eq_some_iff.mp H
                        obtain ⟨t197, A470, H⟩ := H
                        replace H : (if (t197 == t196) = true then ((impl_Subset.f kj24 a0 a1).bind fun t198 => (some (t198 == t196))) else (some false)) = some r := H
                        have A47 := Aside0.mk A470
                        clear A470
                        by_cases c48 : (t197 == t196) = true
                        · rw [if_pos c48] at H
                          have c48b0 : (t197 == t196) = true := c48
                          (try (have c48b1 : decide (t197 = t196) = true := by simpa using c48))
                          (try (have c48b2 : (t197 == t196) = true := by simpa using c48))
                          clear c48
                          replace H := Option.bind_eq_some_iff.mp H
                          obtain ⟨t198, A490, H⟩ := H
                          replace H : (some (t198 == t196)) = some r := H
                          have A49 := Aside0.mk A490
                          clear A490
                          obtain rfl := Option.some.inj H
                          go_wp2_with (first | ((with_reducible refine gate_callee (f := 11) rfl ?_); refine goesL_ (some 64) rfl rfl Try.func11 (by kernel_rfl) rfl #[.string t187, .string a1] rfl (by (try simp only [List.map_toArray, List.map_cons, List.map_nil]); first | done | rfl | (simp only [List.length_drop, List.length_take]; rfl)) ?_; (with_reducible refine (impl_MatchLiteral.calls kj24 t187 a1 true _ A44.out).mono ?_); rintro e w' ⟨rfl, ⟨nd, rfl⟩⟩; refine ⟨_, rfl, ?_⟩) | (go_at_call 11; (with_reducible refine (impl_MatchLiteral.calls kj24 t190 a1 t196 _ A46.out).mono ?_); rintro e w' ⟨rfl, ⟨nd, rfl⟩⟩) | ((with_reducible refine gate_callee (f := 8) rfl ?_); refine goesL_ (some 72) rfl rfl Try.func8 (by kernel_rfl) rfl #[.string a0, .string a1] rfl (by (try simp only [List.map_toArray, List.map_cons, List.map_nil]); first | done | rfl | (simp only [List.length_drop, List.length_take]; rfl)) ?_; (with_reducible refine (impl_Matches.calls kj24 a0 a1 t197 _ A47.out).mono ?_); rintro e w50 ⟨rfl, hb⟩; refine ⟨_, rfl, ?_⟩; have n0_ := Aside0.mk (below_step (by repeat (first | (with_reducible first | exact HB.out | apply below_alloc | apply pw_below_drewN | apply below_drew1) | exact HB.out)) hb); clear HB; have HB := n0_; clear n0_; (try clear hb); (try clear hb2); (try clear hk); (try clear hi)) | (go_at_call 20; (with_reducible refine (impl_Subset.calls kj24 a0 a1 t198 _ A49.out).mono ?_); rintro e w51 ⟨rfl, hb⟩; have n0_ := Aside0.mk (below_step (by repeat (first | (with_reducible first | exact HB.out | apply below_alloc | apply pw_below_drewN | apply below_drew1) | exact HB.out)) hb); clear HB; have HB := n0_; clear n0_; (try clear hb); (try clear hb2); (try clear hk); (try clear hi)))
                          go_ret
                          exact ⟨by first | rfl | (simp [errW_none, errW_some] <;> rfl) | (simp [*, errW_none, errW_some] <;> rfl), by repeat (first | (with_reducible first | exact HB.out | apply below_alloc | apply pw_below_drewN | apply below_drew1) | exact HB.out)⟩
                        · rw [if_neg c48] at H
                          have c48b0 : (t197 == t196) = false := by simpa using c48
                          (try (have c48b1 : decide (t197 = t196) = false := by simpa using c48))
                          (try (have c48b2 : (t197 == t196) = false := by simpa using c48))
                          (try (have c48b3 : ¬ (t197 = t196) := by simpa using c48))
                          clear c48
                          obtain rfl := Option.some.inj H
                          go_wp2_with (first | ((with_reducible refine gate_callee (f := 11) rfl ?_); refine goesL_ (some 64) rfl rfl Try.func11 (by kernel_rfl) rfl #[.string t187, .string a1] rfl (by (try simp only [List.map_toArray, List.map_cons, List.map_nil]); first | done | rfl | (simp only [List.length_drop, List.length_take]; rfl)) ?_; (with_reducible refine (impl_MatchLiteral.calls kj24 t187 a1 true _ A44.out).mono ?_); rintro e w' ⟨rfl, ⟨nd, rfl⟩⟩; refine ⟨_, rfl, ?_⟩) | (go_at_call 11; (with_reducible refine (impl_MatchLiteral.calls kj24 t190 a1 t196 _ A46.out).mono ?_); rintro e w' ⟨rfl, ⟨nd, rfl⟩⟩) | ((with_reducible refine gate_callee (f := 8) rfl ?_); refine goesL_ (some 72) rfl rfl Try.func8 (by kernel_rfl) rfl #[.string a0, .string a1] rfl (by (try simp only [List.map_toArray, List.map_cons, List.map_nil]); first | done | rfl | (simp only [List.length_drop, List.length_take]; rfl)) ?_; (with_reducible refine (impl_Matches.calls kj24 a0 a1 t197 _ A47.out).mono ?_); rintro e w52 ⟨rfl, hb⟩; refine ⟨_, rfl, ?_⟩; have n0_ := Aside0.mk (below_step (by repeat (first | (with_reducible first | exact HB.out | apply below_alloc | apply pw_below_drewN | apply below_drew1) | exact HB.out)) hb); clear HB; have HB := n0_; clear n0_; (try clear hb); (try clear hb2); (try clear hk); (try clear hi)))
                          go_ret
                          exact ⟨by first | rfl | (simp [errW_none, errW_some] <;> rfl) | (simp [*, errW_none, errW_some] <;> rfl), by repeat (first | (with_reducible first | exact HB.out | apply below_alloc | apply pw_below_drewN | apply below_drew1) | exact HB.out)⟩
                      · replace c45 := Bool.eq_false_iff.mpr c45
                        subst c45
                        have H1 : ((impl_Matches.f kj24 a0 a1).bind fun t199 => (if (t199 == false) = true then ((impl_Subset.f kj24 a0 a1).bind fun t200 => (some (t200 == false))) else (some false))) = some r := by rw [if_neg (show ¬ (false = true) by decide)] at H; exact H
                        clear H
                        have H := H1
                        clear H1
                        replace H := Option.bind_eq_some_iff.mp H
                        obtain ⟨t199, A530, H⟩ := H
                        replace H : (if (t199 == false) = true then ((impl_Subset.f kj24 a0 a1).bind fun t200 => (some (t200 == false))) else (some false)) = some r := H
                        have A53 := Aside0.mk A530
                        clear A530
                        by_cases c54 : (t199 == false) = true
                        · rw [if_pos c54] at H
                          have c54b0 : (t199 == false) = true := c54
                          (try (have c54b1 : decide (t199 = false) = true := by simpa using c54))
                          (try (have c54b2 : (t199 == false) = true := by simpa using c54))
                          clear c54
                          replace H := Option.bind_eq_some_iff.mp H
                          obtain ⟨t200, A550, H⟩ := H
                          replace H : (some (t200 == false)) = some r := H
                          have A55 := Aside0.mk A550
                          clear A550
                          obtain rfl := Option.some.inj H
                          go_wp2_with (first | ((with_reducible refine gate_callee (f := 11) rfl ?_); refine goesL_ (some 64) rfl rfl Try.func11 (by kernel_rfl) rfl #[.string t187, .string a1] rfl (by (try simp only [List.map_toArray, List.map_cons, List.map_nil]); first | done | rfl | (simp only [List.length_drop, List.length_take]; rfl)) ?_; (with_reducible refine (impl_MatchLiteral.calls kj24 t187 a1 false _ A44.out).mono ?_); rintro e w' ⟨rfl, ⟨nd, rfl⟩⟩; refine ⟨_, rfl, ?_⟩) | ((with_reducible refine gate_callee (f := 8) rfl ?_); refine goesL_ (some 72) rfl rfl Try.func8 (by kernel_rfl) rfl #[.string a0, .string a1] rfl (by (try simp only [List.map_toArray, List.map_cons, List.map_nil]); first | done | rfl | (simp only [List.length_drop, List.length_take]; rfl)) ?_; (with_reducible refine (impl_Matches.calls kj24 a0 a1 t199 _ A53.out).mono ?_); rintro e w56 ⟨rfl, hb⟩; refine ⟨_, rfl, ?_⟩; have n0_ := Aside0.mk (below_step (by repeat (first | (with_reducible first | exact HB.out | apply below_alloc | apply pw_below_drewN | apply below_drew1) | exact HB.out)) hb); clear HB; have HB := n0_; clear n0_; (try clear hb); (try clear hb2); (try clear hk); (try clear hi)) | (go_at_call 20; (with_reducible refine (impl_Subset.calls kj24 a0 a1 t200 _ A55.out).mono ?_); rintro e w57 ⟨rfl, hb⟩; have n0_ := Aside0.mk (below_step (by repeat (first | (with_reducible first | exact HB.out | apply below_alloc | apply pw_below_drewN | apply below_drew1) | exact HB.out)) hb); clear HB; have HB := n0_; clear n0_; (try clear hb); (try clear hb2); (try clear hk); (try clear hi)))
                          go_ret
                          exact ⟨by first | rfl | (simp [errW_none, errW_some] <;> rfl) | (simp [*, errW_none, errW_some] <;> rfl), by repeat (first | (with_reducible first | exact HB.out | apply below_alloc | apply pw_below_drewN | apply below_drew1) | exact HB.out)⟩
                        · rw [if_neg c54] at H
                          have c54b0 : (t199 == false) = false := by simpa using c54
                          (try (have c54b1 : decide (t199 = false) = false := by simpa using c54))
                          (try (have c54b2 : (t199 == false) = false := by simpa using c54))
                          (try (have c54b3 : ¬ (t199 = false) := by simpa using c54))
                          clear c54
                          obtain rfl := Option.some.inj H
                          go_wp2_with (first | ((with_reducible refine gate_callee (f := 11) rfl ?_); refine goesL_ (some 64) rfl rfl Try.func11 (by kernel_rfl) rfl #[.string t187, .string a1] rfl (by (try simp only [List.map_toArray, List.map_cons, List.map_nil]); first | done | rfl | (simp only [List.length_drop, List.length_take]; rfl)) ?_; (with_reducible refine (impl_MatchLiteral.calls kj24 t187 a1 false _ A44.out).mono ?_); rintro e w' ⟨rfl, ⟨nd, rfl⟩⟩; refine ⟨_, rfl, ?_⟩) | ((with_reducible refine gate_callee (f := 8) rfl ?_); refine goesL_ (some 72) rfl rfl Try.func8 (by kernel_rfl) rfl #[.string a0, .string a1] rfl (by (try simp only [List.map_toArray, List.map_cons, List.map_nil]); first | done | rfl | (simp only [List.length_drop, List.length_take]; rfl)) ?_; (with_reducible refine (impl_Matches.calls kj24 a0 a1 t199 _ A53.out).mono ?_); rintro e w58 ⟨rfl, hb⟩; refine ⟨_, rfl, ?_⟩; have n0_ := Aside0.mk (below_step (by repeat (first | (with_reducible first | exact HB.out | apply below_alloc | apply pw_below_drewN | apply below_drew1) | exact HB.out)) hb); clear HB; have HB := n0_; clear n0_; (try clear hb); (try clear hb2); (try clear hk); (try clear hi)))
                          go_ret
                          exact ⟨by first | rfl | (simp [errW_none, errW_some] <;> rfl) | (simp [*, errW_none, errW_some] <;> rfl), by repeat (first | (with_reducible first | exact HB.out | apply below_alloc | apply pw_below_drewN | apply below_drew1) | exact HB.out)⟩
        · replace c7 := Bool.eq_false_iff.mpr c7
          subst c7
          have H1 : (some false) = some r := by rw [if_neg (show ¬ (false = true) by decide)] at H; exact H
          clear H
          have H := H1
          clear H1
          obtain rfl := Option.some.inj H
          go_wp2_with (first | ((with_reducible refine gate_callee (f := 13) rfl ?_); refine goesL_ (some 16) rfl rfl Try.func13 (by kernel_rfl) rfl #[] rfl (by (try simp only [List.map_toArray, List.map_cons, List.map_nil]); first | done | rfl | (simp only [List.length_drop, List.length_take]; rfl)) ?_; (with_reducible refine (laws_awakeSubject.calls kj2  false _ A6.out).mono ?_); rintro e w59 ⟨rfl, hb⟩; refine ⟨_, rfl, ?_⟩; have n0_ := Aside0.mk (below_step (by repeat (first | (with_reducible first | exact HB.out | apply below_alloc | apply pw_below_drewN | apply below_drew1) | exact HB.out)) hb); clear HB; have HB := n0_; clear n0_; (try clear hb); (try clear hb2); (try clear hk); (try clear hi)))
          go_ret
          exact ⟨by first | rfl | (simp [errW_none, errW_some] <;> rfl) | (simp [*, errW_none, errW_some] <;> rfl), by repeat (first | (with_reducible first | exact HB.out | apply below_alloc | apply pw_below_drewN | apply below_drew1) | exact HB.out)⟩

/-- THE ONE PURE STATEMENT of laws_FnSubsetMeans: yours. -/
def laws_FnSubsetMeans.Pure : Prop := ∀ (a0 : ByteArray) (a1 : ByteArray), a0.size ≤ 140737488351232 → a1.size ≤ 140737488351232 → ∃ k, laws_FnSubsetMeans.f k a0 a1 = some true
theorem laws_FnSubsetMeans.walk (P : laws_FnSubsetMeans.Pure) (a0 : ByteArray) (a1 : ByteArray) (w : World) (w0 : a0.size ≤ 140737488351232) (w1 : a1.size ≤ 140737488351232) :
    Calls Try.prog 6 #[.string a0, .string a1] w fun e w' => e = .returned (.bool true) ∧ Below w.heap.size w w' := by
  obtain ⟨k, h⟩ := P a0 a1 w0 w1
  refine (laws_FnSubsetMeans.calls k a0 a1 true w h).mono ?_
  rintro e w' ⟨rfl, hd⟩
  exact ⟨rfl, hd⟩

end Go.Proofs.Ytgbdjinanflhaaa.GFnSubsetMeans
