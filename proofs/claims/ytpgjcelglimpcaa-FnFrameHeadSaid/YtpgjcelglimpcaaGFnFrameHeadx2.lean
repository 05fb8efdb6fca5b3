/- A walk of Go functions (plain functions of theirs, and that the machine's calls do what these say), written by a program of this session's. -/
import Derived.Test.YtpgjcelglimpcaaGFnFrameHeadx0
namespace Go.Proofs.Ytpgjcelglimpcaa.GFnFrameHead
open Go.RowKit Go.Proofs.YtpgjcelglimpcaaW.PrintWords Go.Proofs.YtpgjcelglimpcaaW.PrintLast Go.Proofs.YtpgjcelglimpcaaW.PrintMore
attribute [local go_sem] max2_int min2_int max_two min_two max_three min_three max_four min_four   -- for this text's walks alone
set_option linter.unusedVariables false
set_option linter.unusedSimpArgs false

/-! ### server_FrameHeader: function 36 (by hand) -/
set_option maxRecDepth 100000 in
theorem put16 (g : Nat) (x0 x1 x2 x3 x4 x5 x6 x7 x8 x9 x10 x11 x12 x13 : Value) (w : World) (v : Int) (hg : Wk.RowW 5 w w g [x0, x1, x2, x3, x4, x5, x6, x7, x8, x9, x10, x11, x12, x13]) (hv : 0 ≤ v ∧ v < 65536) :
    Calls Try.prog 51 #[.agg #[], .slice (some ⟨g, 2, none⟩) 12 12, .int .u16 v] w fun e w' => (∃ q, e = .returned q) ∧ Wk.RowW 5 w w' g [x0, x1, .int .u8 (v / 256), .int .u8 (v % 256), x4, x5, x6, x7, x8, x9, x10, x11, x12, x13] := by
  go_enter Try.func51, Try.ntmps51
  go_upto_region 1 with (fail)
  have R0 := Aside0.mk (hg.alloc (.cells #[] 61))
  clear hg
  generalize w.alloc (.cells #[] 61) = W0 at R0 ⊢
  obtain ⟨c2, f2⟩ := R0.out.cell 2 _ rfl
  obtain ⟨c3, f3⟩ := R0.out.cell 3 _ rfl
  go_wp2
  go_end0
  exact ⟨⟨_, rfl⟩, (R0.out.store 2 _ (by simp)).store 3 _ (by simp)⟩
set_option maxRecDepth 100000 in
theorem put64 (g : Nat) (x0 x1 x2 x3 x4 x5 x6 x7 x8 x9 x10 x11 x12 x13 : Value) (w : World) (v : Int) (hg : Wk.RowW 5 w w g [x0, x1, x2, x3, x4, x5, x6, x7, x8, x9, x10, x11, x12, x13]) (hv : 0 ≤ v ∧ v < 18446744073709551616) :
    Calls Try.prog 50 #[.agg #[], .slice (some ⟨g, 2, none⟩) 12 12, .int .u64 v] w fun e w' => (∃ q, e = .returned q) ∧ Wk.RowW 5 w w' g [x0, x1, .int .u8 (v / 72057594037927936), .int .u8 (v / 281474976710656 % 256), .int .u8 (v / 1099511627776 % 256), .int .u8 (v / 4294967296 % 256), .int .u8 (v / 16777216 % 256), .int .u8 (v / 65536 % 256), .int .u8 (v / 256 % 256), .int .u8 (v % 256), x10, x11, x12, x13] := by
  go_enter Try.func50, Try.ntmps50
  go_upto_region 1 with (fail)
  have R0 := Aside0.mk (hg.alloc (.cells #[] 61))
  clear hg
  generalize w.alloc (.cells #[] 61) = W0 at R0 ⊢
  obtain ⟨c2, f2⟩ := R0.out.cell 2 _ rfl
  obtain ⟨c3, f3⟩ := R0.out.cell 3 _ rfl
  obtain ⟨c4, f4⟩ := R0.out.cell 4 _ rfl
  obtain ⟨c5, f5⟩ := R0.out.cell 5 _ rfl
  obtain ⟨c6, f6⟩ := R0.out.cell 6 _ rfl
  obtain ⟨c7, f7⟩ := R0.out.cell 7 _ rfl
  obtain ⟨c8, f8⟩ := R0.out.cell 8 _ rfl
  obtain ⟨c9, f9⟩ := R0.out.cell 9 _ rfl
  go_wp2
  go_end0
  exact ⟨⟨_, rfl⟩, (((((((R0.out.store 2 _ (by simp)).store 3 _ (by simp)).store 4 _ (by simp)).store 5 _ (by simp)).store 6 _ (by simp)).store 7 _ (by simp)).store 8 _ (by simp)).store 9 _ (by simp)⟩

/-- The head's first byte. -/
def headB (a b c : Bool) (k : Int) : Int :=
  let x := if a then k else 0
  let y := if b then bits .or .u8 x 128 else x
  if c then bits .or .u8 y 64 else y
/-- The head's bytes. -/
def headL (a b c : Bool) (k l : Int) : List Int :=
  if l ≤ 125 then [headB a b c k, bits .or .u8 0 (l % 256)]
  else if l < 65536 then [headB a b c k, bits .or .u8 0 126, l / 256, l % 256]
  else [headB a b c k, bits .or .u8 0 127, l / 72057594037927936, l / 281474976710656 % 256, l / 1099511627776 % 256, l / 4294967296 % 256, l / 16777216 % 256, l / 65536 % 256, l / 256 % 256, l % 256]
set_option maxRecDepth 100000 in
set_option maxHeartbeats 8000000 in
theorem fill (g : Nat) (x0 x1 x2 x3 x4 x5 x6 x7 x8 x9 x10 x11 x12 x13 : Value) (a b c : Bool) (k l : Int) (w : World) (hg : Wk.RowW 5 w w g [x0, x1, x2, x3, x4, x5, x6, x7, x8, x9, x10, x11, x12, x13]) (hk : 0 ≤ k ∧ k ≤ 15) (hl : 0 ≤ l ∧ l ≤ 1099511627776) :
    Calls Try.prog 45 #[.slice (some ⟨g, 0, none⟩) 14 14, .bool false, .bool a, .bool b, .bool c, .int .i64 k, .int .i64 l] w fun e w' => e = .returned (.tuple #[.int .i64 (headL a b c k l).length, .slice none 0 0]) ∧ Wk.RowW 5 w w' g ((headL a b c k l).map (Value.int .u8) ++ ([x0, x1, x2, x3, x4, x5, x6, x7, x8, x9, x10, x11, x12, x13] : List Value).drop (headL a b c k l).length) := by
  have R0 := Aside0.mk hg
  obtain ⟨c0, f0⟩ := hg.cell 0 _ rfl
  obtain ⟨c1, f1⟩ := hg.cell 1 _ rfl
  clear hg
  by_cases d : l ≤ 125
  · have d1 : decide (l ≤ 125) = true := decide_eq_true d
    have hh : headL a b c k l = [headB a b c k, bits .or .u8 0 (l % 256)] := by rw [headL, if_pos d]
    rw [hh]
    have HD := Aside0.mk d
    clear hh d
    cases a <;> cases b <;> cases c
    · go_enter Try.func45, Try.ntmps45
      go_wp2
      refine bodyPost_ret (results_list (rs := [.tmp 14, .tmp 15]) rfl (by simp) (.tmp (.tmp .nil))) rfl ?_
      exact ⟨rfl, (R0.out.store 0 _ (by simp)).store 1 _ (by simp)⟩
    · go_enter Try.func45, Try.ntmps45
      go_wp2
      refine bodyPost_ret (results_list (rs := [.tmp 14, .tmp 15]) rfl (by simp) (.tmp (.tmp .nil))) rfl ?_
      exact ⟨rfl, (R0.out.store 0 _ (by simp)).store 1 _ (by simp)⟩
    · go_enter Try.func45, Try.ntmps45
      go_wp2
      refine bodyPost_ret (results_list (rs := [.tmp 14, .tmp 15]) rfl (by simp) (.tmp (.tmp .nil))) rfl ?_
      exact ⟨rfl, (R0.out.store 0 _ (by simp)).store 1 _ (by simp)⟩
    · go_enter Try.func45, Try.ntmps45
      go_wp2
      refine bodyPost_ret (results_list (rs := [.tmp 14, .tmp 15]) rfl (by simp) (.tmp (.tmp .nil))) rfl ?_
      exact ⟨rfl, (R0.out.store 0 _ (by simp)).store 1 _ (by simp)⟩
    · go_enter Try.func45, Try.ntmps45
      go_wp2
      refine bodyPost_ret (results_list (rs := [.tmp 14, .tmp 15]) rfl (by simp) (.tmp (.tmp .nil))) rfl ?_
      exact ⟨rfl, (R0.out.store 0 _ (by simp)).store 1 _ (by simp)⟩
    · go_enter Try.func45, Try.ntmps45
      go_wp2
      refine bodyPost_ret (results_list (rs := [.tmp 14, .tmp 15]) rfl (by simp) (.tmp (.tmp .nil))) rfl ?_
      exact ⟨rfl, (R0.out.store 0 _ (by simp)).store 1 _ (by simp)⟩
    · go_enter Try.func45, Try.ntmps45
      go_wp2
      refine bodyPost_ret (results_list (rs := [.tmp 14, .tmp 15]) rfl (by simp) (.tmp (.tmp .nil))) rfl ?_
      exact ⟨rfl, (R0.out.store 0 _ (by simp)).store 1 _ (by simp)⟩
    · go_enter Try.func45, Try.ntmps45
      go_wp2
      refine bodyPost_ret (results_list (rs := [.tmp 14, .tmp 15]) rfl (by simp) (.tmp (.tmp .nil))) rfl ?_
      exact ⟨rfl, (R0.out.store 0 _ (by simp)).store 1 _ (by simp)⟩
  · have d1 : decide (l ≤ 125) = false := decide_eq_false d
    by_cases d2 : l < 65536
    · have d3 : decide (l < 65536) = true := decide_eq_true d2
      have hu : IntKind.u16.wrap l = l := by rw [IntKind.wrap_u16]; omega
      have hh : headL a b c k l = [headB a b c k, bits .or .u8 0 126, l / 256, l % 256] := by rw [headL, if_neg d, if_pos d2]
      rw [hh]
      clear hh
      cases a <;> cases b <;> cases c
      · go_enter Try.func45, Try.ntmps45
        go_wp2_with fail
        refine start_ (n := 6) (S := fun w' => Wk.RowW 5 w w' g [.int .u8 (0), .int .u8 (bits BinOp.or IntKind.u8 0 126), x2, x3, x4, x5, x6, x7, x8, x9, x10, x11, x12, x13]) (ds := [5]) #[false, false, false, false, false, false] (by kernel_rfl) rfl rfl (((R0.out.store 0 _ (by simp)).store 1 _ (by simp)).drew) (fun hHeld => ?_)
        refine pure_ (i := 1) (N := some 67) (v := ?_) (a' := ?_) #[false, true, false, false, false, false] rfl rfl (by kernel_rfl) (fun _ _ _ h => h) (Or.inl ⟨by rfl, ?_⟩) ?_ ?_
        rotate_left
        · intro w'
          go_simp
          with_reducible rfl
        rotate_left
        · simp only [Act.put, List.setIfInBounds_toArray, List.set_cons_zero, List.set_cons_succ, i64_w, i32_w]
          rfl
        refine pure_ (i := 2) (N := some 68) (v := ?_) (a' := ?_) #[false, true, true, false, false, false] rfl rfl (by kernel_rfl) (fun _ _ _ h => h) (Or.inl ⟨by rfl, ?_⟩) ?_ ?_
        rotate_left
        · intro w'
          go_simp
          with_reducible rfl
        rotate_left
        · simp only [Act.put, List.setIfInBounds_toArray, List.set_cons_zero, List.set_cons_succ, i64_w, i32_w]
          rfl
        refine pure_ (i := 3) (N := some 69) (v := ?_) (a' := ?_) #[false, true, true, true, false, false] rfl rfl (by kernel_rfl) (fun _ _ _ h => h) (Or.inl ⟨by rfl, ?_⟩) ?_ ?_
        rotate_left
        · intro w'
          go_simp
          with_reducible rfl
        rotate_left
        · simp only [Act.put, List.setIfInBounds_toArray, List.set_cons_zero, List.set_cons_succ, i64_w, i32_w]
          rfl
        refine pure_ (i := 4) (N := some 70) (v := ?_) (a' := ?_) #[false, true, true, true, true, false] rfl rfl (by kernel_rfl) (fun _ _ _ h => h) (Or.inl ⟨by rfl, ?_⟩) ?_ ?_
        rotate_left
        · intro w'
          go_simp
          with_reducible rfl
        rotate_left
        · simp only [Act.put, List.setIfInBounds_toArray, List.set_cons_zero, List.set_cons_succ, i64_w, i32_w]
          rfl
        refine take_ (i := 0) (N := some 66) (v := ?_) (a' := ?_) #[true, true, true, true, true, false] rfl rfl (by kernel_rfl) (fun _ _ _ h => h) (Or.inl ⟨by rfl, ?_⟩) hHeld ?_ ?_
        rotate_left
        · intro w' s0
          go_simp
          with_reducible rfl
        rotate_left
        · simp only [Act.put, List.setIfInBounds_toArray, List.set_cons_zero, List.set_cons_succ, i64_w, i32_w]
          rfl
        refine last_ (i := 5) (N := some 71) #[true, true, true, true, true, true] rfl rfl (by kernel_rfl) (by decide) (fun K hK => ?_)
        refine goes_ Try.func51 (by kernel_rfl) rfl #[.agg #[], .slice (some ⟨g, 2, none⟩) 12 12, .int .u16 l] (by rfl) rfl rfl (by simp only [List.map_toArray, List.map_cons, List.map_nil]; rfl) ?_
        with_reducible refine (put16 g _ _ x2 x3 x4 x5 x6 x7 x8 x9 x10 x11 x12 x13 _ l hHeld.self (by omega)).mono ?_
        rintro e w3 ⟨⟨q, rfl⟩, hr3⟩
        refine ⟨_, rfl, ?_⟩
        have hr4 := hHeld.trans hr3
        clear hr3 hHeld
        refine hK.out _ _ ?_
        clear hK K
        refine norm_ (a' := ?_) ?_ ?_
        rotate_left
        · show Act.put _ (some 71) _ = _
          simp only [Act.put, List.setIfInBounds_toArray, List.set_cons_zero, List.set_cons_succ, i64_w, i32_w]
          rfl
        refine done_ (by kernel_rfl) ?_
        go_wp2
        refine bodyPost_ret (results_list (rs := [.tmp 14, .tmp 15]) rfl (by simp) (.tmp (.tmp .nil))) rfl ?_
        exact ⟨rfl, hr4⟩
      · go_enter Try.func45, Try.ntmps45
        go_wp2_with fail
        refine start_ (n := 6) (S := fun w' => Wk.RowW 5 w w' g [.int .u8 (bits .or .u8 0 64), .int .u8 (bits BinOp.or IntKind.u8 0 126), x2, x3, x4, x5, x6, x7, x8, x9, x10, x11, x12, x13]) (ds := [5]) #[false, false, false, false, false, false] (by kernel_rfl) rfl rfl (((R0.out.store 0 _ (by simp)).store 1 _ (by simp)).drew) (fun hHeld => ?_)
        refine pure_ (i := 1) (N := some 67) (v := ?_) (a' := ?_) #[false, true, false, false, false, false] rfl rfl (by kernel_rfl) (fun _ _ _ h => h) (Or.inl ⟨by rfl, ?_⟩) ?_ ?_
        rotate_left
        · intro w'
          go_simp
          with_reducible rfl
        rotate_left
        · simp only [Act.put, List.setIfInBounds_toArray, List.set_cons_zero, List.set_cons_succ, i64_w, i32_w]
          rfl
        refine pure_ (i := 2) (N := some 68) (v := ?_) (a' := ?_) #[false, true, true, false, false, false] rfl rfl (by kernel_rfl) (fun _ _ _ h => h) (Or.inl ⟨by rfl, ?_⟩) ?_ ?_
        rotate_left
        · intro w'
          go_simp
          with_reducible rfl
        rotate_left
        · simp only [Act.put, List.setIfInBounds_toArray, List.set_cons_zero, List.set_cons_succ, i64_w, i32_w]
          rfl
        refine pure_ (i := 3) (N := some 69) (v := ?_) (a' := ?_) #[false, true, true, true, false, false] rfl rfl (by kernel_rfl) (fun _ _ _ h => h) (Or.inl ⟨by rfl, ?_⟩) ?_ ?_
        rotate_left
        · intro w'
          go_simp
          with_reducible rfl
        rotate_left
        · simp only [Act.put, List.setIfInBounds_toArray, List.set_cons_zero, List.set_cons_succ, i64_w, i32_w]
          rfl
        refine pure_ (i := 4) (N := some 70) (v := ?_) (a' := ?_) #[false, true, true, true, true, false] rfl rfl (by kernel_rfl) (fun _ _ _ h => h) (Or.inl ⟨by rfl, ?_⟩) ?_ ?_
        rotate_left
        · intro w'
          go_simp
          with_reducible rfl
        rotate_left
        · simp only [Act.put, List.setIfInBounds_toArray, List.set_cons_zero, List.set_cons_succ, i64_w, i32_w]
          rfl
        refine take_ (i := 0) (N := some 66) (v := ?_) (a' := ?_) #[true, true, true, true, true, false] rfl rfl (by kernel_rfl) (fun _ _ _ h => h) (Or.inl ⟨by rfl, ?_⟩) hHeld ?_ ?_
        rotate_left
        · intro w' s0
          go_simp
          with_reducible rfl
        rotate_left
        · simp only [Act.put, List.setIfInBounds_toArray, List.set_cons_zero, List.set_cons_succ, i64_w, i32_w]
          rfl
        refine last_ (i := 5) (N := some 71) #[true, true, true, true, true, true] rfl rfl (by kernel_rfl) (by decide) (fun K hK => ?_)
        refine goes_ Try.func51 (by kernel_rfl) rfl #[.agg #[], .slice (some ⟨g, 2, none⟩) 12 12, .int .u16 l] (by rfl) rfl rfl (by simp only [List.map_toArray, List.map_cons, List.map_nil]; rfl) ?_
        with_reducible refine (put16 g _ _ x2 x3 x4 x5 x6 x7 x8 x9 x10 x11 x12 x13 _ l hHeld.self (by omega)).mono ?_
        rintro e w3 ⟨⟨q, rfl⟩, hr3⟩
        refine ⟨_, rfl, ?_⟩
        have hr4 := hHeld.trans hr3
        clear hr3 hHeld
        refine hK.out _ _ ?_
        clear hK K
        refine norm_ (a' := ?_) ?_ ?_
        rotate_left
        · show Act.put _ (some 71) _ = _
          simp only [Act.put, List.setIfInBounds_toArray, List.set_cons_zero, List.set_cons_succ, i64_w, i32_w]
          rfl
        refine done_ (by kernel_rfl) ?_
        go_wp2
        refine bodyPost_ret (results_list (rs := [.tmp 14, .tmp 15]) rfl (by simp) (.tmp (.tmp .nil))) rfl ?_
        exact ⟨rfl, hr4⟩
      · go_enter Try.func45, Try.ntmps45
        go_wp2_with fail
        refine start_ (n := 6) (S := fun w' => Wk.RowW 5 w w' g [.int .u8 (bits .or .u8 0 128), .int .u8 (bits BinOp.or IntKind.u8 0 126), x2, x3, x4, x5, x6, x7, x8, x9, x10, x11, x12, x13]) (ds := [5]) #[false, false, false, false, false, false] (by kernel_rfl) rfl rfl (((R0.out.store 0 _ (by simp)).store 1 _ (by simp)).drew) (fun hHeld => ?_)
        refine pure_ (i := 1) (N := some 67) (v := ?_) (a' := ?_) #[false, true, false, false, false, false] rfl rfl (by kernel_rfl) (fun _ _ _ h => h) (Or.inl ⟨by rfl, ?_⟩) ?_ ?_
        rotate_left
        · intro w'
          go_simp
          with_reducible rfl
        rotate_left
        · simp only [Act.put, List.setIfInBounds_toArray, List.set_cons_zero, List.set_cons_succ, i64_w, i32_w]
          rfl
        refine pure_ (i := 2) (N := some 68) (v := ?_) (a' := ?_) #[false, true, true, false, false, false] rfl rfl (by kernel_rfl) (fun _ _ _ h => h) (Or.inl ⟨by rfl, ?_⟩) ?_ ?_
        rotate_left
        · intro w'
          go_simp
          with_reducible rfl
        rotate_left
        · simp only [Act.put, List.setIfInBounds_toArray, List.set_cons_zero, List.set_cons_succ, i64_w, i32_w]
          rfl
        refine pure_ (i := 3) (N := some 69) (v := ?_) (a' := ?_) #[false, true, true, true, false, false] rfl rfl (by kernel_rfl) (fun _ _ _ h => h) (Or.inl ⟨by rfl, ?_⟩) ?_ ?_
        rotate_left
        · intro w'
          go_simp
          with_reducible rfl
        rotate_left
        · simp only [Act.put, List.setIfInBounds_toArray, List.set_cons_zero, List.set_cons_succ, i64_w, i32_w]
          rfl
        refine pure_ (i := 4) (N := some 70) (v := ?_) (a' := ?_) #[false, true, true, true, true, false] rfl rfl (by kernel_rfl) (fun _ _ _ h => h) (Or.inl ⟨by rfl, ?_⟩) ?_ ?_
        rotate_left
        · intro w'
          go_simp
          with_reducible rfl
        rotate_left
        · simp only [Act.put, List.setIfInBounds_toArray, List.set_cons_zero, List.set_cons_succ, i64_w, i32_w]
          rfl
        refine take_ (i := 0) (N := some 66) (v := ?_) (a' := ?_) #[true, true, true, true, true, false] rfl rfl (by kernel_rfl) (fun _ _ _ h => h) (Or.inl ⟨by rfl, ?_⟩) hHeld ?_ ?_
        rotate_left
        · intro w' s0
          go_simp
          with_reducible rfl
        rotate_left
        · simp only [Act.put, List.setIfInBounds_toArray, List.set_cons_zero, List.set_cons_succ, i64_w, i32_w]
          rfl
        refine last_ (i := 5) (N := some 71) #[true, true, true, true, true, true] rfl rfl (by kernel_rfl) (by decide) (fun K hK => ?_)
        refine goes_ Try.func51 (by kernel_rfl) rfl #[.agg #[], .slice (some ⟨g, 2, none⟩) 12 12, .int .u16 l] (by rfl) rfl rfl (by simp only [List.map_toArray, List.map_cons, List.map_nil]; rfl) ?_
        with_reducible refine (put16 g _ _ x2 x3 x4 x5 x6 x7 x8 x9 x10 x11 x12 x13 _ l hHeld.self (by omega)).mono ?_
        rintro e w3 ⟨⟨q, rfl⟩, hr3⟩
        refine ⟨_, rfl, ?_⟩
        have hr4 := hHeld.trans hr3
        clear hr3 hHeld
        refine hK.out _ _ ?_
        clear hK K
        refine norm_ (a' := ?_) ?_ ?_
        rotate_left
        · show Act.put _ (some 71) _ = _
          simp only [Act.put, List.setIfInBounds_toArray, List.set_cons_zero, List.set_cons_succ, i64_w, i32_w]
          rfl
        refine done_ (by kernel_rfl) ?_
        go_wp2
        refine bodyPost_ret (results_list (rs := [.tmp 14, .tmp 15]) rfl (by simp) (.tmp (.tmp .nil))) rfl ?_
        exact ⟨rfl, hr4⟩
      · go_enter Try.func45, Try.ntmps45
        go_wp2_with fail
        refine start_ (n := 6) (S := fun w' => Wk.RowW 5 w w' g [.int .u8 (bits .or .u8 (bits .or .u8 0 128) 64), .int .u8 (bits BinOp.or IntKind.u8 0 126), x2, x3, x4, x5, x6, x7, x8, x9, x10, x11, x12, x13]) (ds := [5]) #[false, false, false, false, false, false] (by kernel_rfl) rfl rfl (((R0.out.store 0 _ (by simp)).store 1 _ (by simp)).drew) (fun hHeld => ?_)
        refine pure_ (i := 1) (N := some 67) (v := ?_) (a' := ?_) #[false, true, false, false, false, false] rfl rfl (by kernel_rfl) (fun _ _ _ h => h) (Or.inl ⟨by rfl, ?_⟩) ?_ ?_
        rotate_left
        · intro w'
          go_simp
          with_reducible rfl
        rotate_left
        · simp only [Act.put, List.setIfInBounds_toArray, List.set_cons_zero, List.set_cons_succ, i64_w, i32_w]
          rfl
        refine pure_ (i := 2) (N := some 68) (v := ?_) (a' := ?_) #[false, true, true, false, false, false] rfl rfl (by kernel_rfl) (fun _ _ _ h => h) (Or.inl ⟨by rfl, ?_⟩) ?_ ?_
        rotate_left
        · intro w'
          go_simp
          with_reducible rfl
        rotate_left
        · simp only [Act.put, List.setIfInBounds_toArray, List.set_cons_zero, List.set_cons_succ, i64_w, i32_w]
          rfl
        refine pure_ (i := 3) (N := some 69) (v := ?_) (a' := ?_) #[false, true, true, true, false, false] rfl rfl (by kernel_rfl) (fun _ _ _ h => h) (Or.inl ⟨by rfl, ?_⟩) ?_ ?_
        rotate_left
        · intro w'
          go_simp
          with_reducible rfl
        rotate_left
        · simp only [Act.put, List.setIfInBounds_toArray, List.set_cons_zero, List.set_cons_succ, i64_w, i32_w]
          rfl
        refine pure_ (i := 4) (N := some 70) (v := ?_) (a' := ?_) #[false, true, true, true, true, false] rfl rfl (by kernel_rfl) (fun _ _ _ h => h) (Or.inl ⟨by rfl, ?_⟩) ?_ ?_
        rotate_left
        · intro w'
          go_simp
          with_reducible rfl
        rotate_left
        · simp only [Act.put, List.setIfInBounds_toArray, List.set_cons_zero, List.set_cons_succ, i64_w, i32_w]
          rfl
        refine take_ (i := 0) (N := some 66) (v := ?_) (a' := ?_) #[true, true, true, true, true, false] rfl rfl (by kernel_rfl) (fun _ _ _ h => h) (Or.inl ⟨by rfl, ?_⟩) hHeld ?_ ?_
        rotate_left
        · intro w' s0
          go_simp
          with_reducible rfl
        rotate_left
        · simp only [Act.put, List.setIfInBounds_toArray, List.set_cons_zero, List.set_cons_succ, i64_w, i32_w]
          rfl
        refine last_ (i := 5) (N := some 71) #[true, true, true, true, true, true] rfl rfl (by kernel_rfl) (by decide) (fun K hK => ?_)
        refine goes_ Try.func51 (by kernel_rfl) rfl #[.agg #[], .slice (some ⟨g, 2, none⟩) 12 12, .int .u16 l] (by rfl) rfl rfl (by simp only [List.map_toArray, List.map_cons, List.map_nil]; rfl) ?_
        with_reducible refine (put16 g _ _ x2 x3 x4 x5 x6 x7 x8 x9 x10 x11 x12 x13 _ l hHeld.self (by omega)).mono ?_
        rintro e w3 ⟨⟨q, rfl⟩, hr3⟩
        refine ⟨_, rfl, ?_⟩
        have hr4 := hHeld.trans hr3
        clear hr3 hHeld
        refine hK.out _ _ ?_
        clear hK K
        refine norm_ (a' := ?_) ?_ ?_
        rotate_left
        · show Act.put _ (some 71) _ = _
          simp only [Act.put, List.setIfInBounds_toArray, List.set_cons_zero, List.set_cons_succ, i64_w, i32_w]
          rfl
        refine done_ (by kernel_rfl) ?_
        go_wp2
        refine bodyPost_ret (results_list (rs := [.tmp 14, .tmp 15]) rfl (by simp) (.tmp (.tmp .nil))) rfl ?_
        exact ⟨rfl, hr4⟩
      · go_enter Try.func45, Try.ntmps45
        go_wp2_with fail
        refine start_ (n := 6) (S := fun w' => Wk.RowW 5 w w' g [.int .u8 (k), .int .u8 (bits BinOp.or IntKind.u8 0 126), x2, x3, x4, x5, x6, x7, x8, x9, x10, x11, x12, x13]) (ds := [5]) #[false, false, false, false, false, false] (by kernel_rfl) rfl rfl (((R0.out.store 0 _ (by simp)).store 1 _ (by simp)).drew) (fun hHeld => ?_)
        refine pure_ (i := 1) (N := some 67) (v := ?_) (a' := ?_) #[false, true, false, false, false, false] rfl rfl (by kernel_rfl) (fun _ _ _ h => h) (Or.inl ⟨by rfl, ?_⟩) ?_ ?_
        rotate_left
        · intro w'
          go_simp
          with_reducible rfl
        rotate_left
        · simp only [Act.put, List.setIfInBounds_toArray, List.set_cons_zero, List.set_cons_succ, i64_w, i32_w]
          rfl
        refine pure_ (i := 2) (N := some 68) (v := ?_) (a' := ?_) #[false, true, true, false, false, false] rfl rfl (by kernel_rfl) (fun _ _ _ h => h) (Or.inl ⟨by rfl, ?_⟩) ?_ ?_
        rotate_left
        · intro w'
          go_simp
          with_reducible rfl
        rotate_left
        · simp only [Act.put, List.setIfInBounds_toArray, List.set_cons_zero, List.set_cons_succ, i64_w, i32_w]
          rfl
        refine pure_ (i := 3) (N := some 69) (v := ?_) (a' := ?_) #[false, true, true, true, false, false] rfl rfl (by kernel_rfl) (fun _ _ _ h => h) (Or.inl ⟨by rfl, ?_⟩) ?_ ?_
        rotate_left
        · intro w'
          go_simp
          with_reducible rfl
        rotate_left
        · simp only [Act.put, List.setIfInBounds_toArray, List.set_cons_zero, List.set_cons_succ, i64_w, i32_w]
          rfl
        refine pure_ (i := 4) (N := some 70) (v := ?_) (a' := ?_) #[false, true, true, true, true, false] rfl rfl (by kernel_rfl) (fun _ _ _ h => h) (Or.inl ⟨by rfl, ?_⟩) ?_ ?_
        rotate_left
        · intro w'
          go_simp
          with_reducible rfl
        rotate_left
        · simp only [Act.put, List.setIfInBounds_toArray, List.set_cons_zero, List.set_cons_succ, i64_w, i32_w]
          rfl
        refine take_ (i := 0) (N := some 66) (v := ?_) (a' := ?_) #[true, true, true, true, true, false] rfl rfl (by kernel_rfl) (fun _ _ _ h => h) (Or.inl ⟨by rfl, ?_⟩) hHeld ?_ ?_
        rotate_left
        · intro w' s0
          go_simp
          with_reducible rfl
        rotate_left
        · simp only [Act.put, List.setIfInBounds_toArray, List.set_cons_zero, List.set_cons_succ, i64_w, i32_w]
          rfl
        refine last_ (i := 5) (N := some 71) #[true, true, true, true, true, true] rfl rfl (by kernel_rfl) (by decide) (fun K hK => ?_)
        refine goes_ Try.func51 (by kernel_rfl) rfl #[.agg #[], .slice (some ⟨g, 2, none⟩) 12 12, .int .u16 l] (by rfl) rfl rfl (by simp only [List.map_toArray, List.map_cons, List.map_nil]; rfl) ?_
        with_reducible refine (put16 g _ _ x2 x3 x4 x5 x6 x7 x8 x9 x10 x11 x12 x13 _ l hHeld.self (by omega)).mono ?_
        rintro e w3 ⟨⟨q, rfl⟩, hr3⟩
        refine ⟨_, rfl, ?_⟩
        have hr4 := hHeld.trans hr3
        clear hr3 hHeld
        refine hK.out _ _ ?_
        clear hK K
        refine norm_ (a' := ?_) ?_ ?_
        rotate_left
        · show Act.put _ (some 71) _ = _
          simp only [Act.put, List.setIfInBounds_toArray, List.set_cons_zero, List.set_cons_succ, i64_w, i32_w]
          rfl
        refine done_ (by kernel_rfl) ?_
        go_wp2
        refine bodyPost_ret (results_list (rs := [.tmp 14, .tmp 15]) rfl (by simp) (.tmp (.tmp .nil))) rfl ?_
        exact ⟨rfl, hr4⟩
      · go_enter Try.func45, Try.ntmps45
        go_wp2_with fail
        refine start_ (n := 6) (S := fun w' => Wk.RowW 5 w w' g [.int .u8 (bits .or .u8 k 64), .int .u8 (bits BinOp.or IntKind.u8 0 126), x2, x3, x4, x5, x6, x7, x8, x9, x10, x11, x12, x13]) (ds := [5]) #[false, false, false, false, false, false] (by kernel_rfl) rfl rfl (((R0.out.store 0 _ (by simp)).store 1 _ (by simp)).drew) (fun hHeld => ?_)
        refine pure_ (i := 1) (N := some 67) (v := ?_) (a' := ?_) #[false, true, false, false, false, false] rfl rfl (by kernel_rfl) (fun _ _ _ h => h) (Or.inl ⟨by rfl, ?_⟩) ?_ ?_
        rotate_left
        · intro w'
          go_simp
          with_reducible rfl
        rotate_left
        · simp only [Act.put, List.setIfInBounds_toArray, List.set_cons_zero, List.set_cons_succ, i64_w, i32_w]
          rfl
        refine pure_ (i := 2) (N := some 68) (v := ?_) (a' := ?_) #[false, true, true, false, false, false] rfl rfl (by kernel_rfl) (fun _ _ _ h => h) (Or.inl ⟨by rfl, ?_⟩) ?_ ?_
        rotate_left
        · intro w'
          go_simp
          with_reducible rfl
        rotate_left
        · simp only [Act.put, List.setIfInBounds_toArray, List.set_cons_zero, List.set_cons_succ, i64_w, i32_w]
          rfl
        refine pure_ (i := 3) (N := some 69) (v := ?_) (a' := ?_) #[false, true, true, true, false, false] rfl rfl (by kernel_rfl) (fun _ _ _ h => h) (Or.inl ⟨by rfl, ?_⟩) ?_ ?_
        rotate_left
        · intro w'
          go_simp
          with_reducible rfl
        rotate_left
        · simp only [Act.put, List.setIfInBounds_toArray, List.set_cons_zero, List.set_cons_succ, i64_w, i32_w]
          rfl
        refine pure_ (i := 4) (N := some 70) (v := ?_) (a' := ?_) #[false, true, true, true, true, false] rfl rfl (by kernel_rfl) (fun _ _ _ h => h) (Or.inl ⟨by rfl, ?_⟩) ?_ ?_
        rotate_left
        · intro w'
          go_simp
          with_reducible rfl
        rotate_left
        · simp only [Act.put, List.setIfInBounds_toArray, List.set_cons_zero, List.set_cons_succ, i64_w, i32_w]
          rfl
        refine take_ (i := 0) (N := some 66) (v := ?_) (a' := ?_) #[true, true, true, true, true, false] rfl rfl (by kernel_rfl) (fun _ _ _ h => h) (Or.inl ⟨by rfl, ?_⟩) hHeld ?_ ?_
        rotate_left
        · intro w' s0
          go_simp
          with_reducible rfl
        rotate_left
        · simp only [Act.put, List.setIfInBounds_toArray, List.set_cons_zero, List.set_cons_succ, i64_w, i32_w]
          rfl
        refine last_ (i := 5) (N := some 71) #[true, true, true, true, true, true] rfl rfl (by kernel_rfl) (by decide) (fun K hK => ?_)
        refine goes_ Try.func51 (by kernel_rfl) rfl #[.agg #[], .slice (some ⟨g, 2, none⟩) 12 12, .int .u16 l] (by rfl) rfl rfl (by simp only [List.map_toArray, List.map_cons, List.map_nil]; rfl) ?_
        with_reducible refine (put16 g _ _ x2 x3 x4 x5 x6 x7 x8 x9 x10 x11 x12 x13 _ l hHeld.self (by omega)).mono ?_
        rintro e w3 ⟨⟨q, rfl⟩, hr3⟩
        refine ⟨_, rfl, ?_⟩
        have hr4 := hHeld.trans hr3
        clear hr3 hHeld
        refine hK.out _ _ ?_
        clear hK K
        refine norm_ (a' := ?_) ?_ ?_
        rotate_left
        · show Act.put _ (some 71) _ = _
          simp only [Act.put, List.setIfInBounds_toArray, List.set_cons_zero, List.set_cons_succ, i64_w, i32_w]
          rfl
        refine done_ (by kernel_rfl) ?_
        go_wp2
        refine bodyPost_ret (results_list (rs := [.tmp 14, .tmp 15]) rfl (by simp) (.tmp (.tmp .nil))) rfl ?_
        exact ⟨rfl, hr4⟩
      · go_enter Try.func45, Try.ntmps45
        go_wp2_with fail
        refine start_ (n := 6) (S := fun w' => Wk.RowW 5 w w' g [.int .u8 (bits .or .u8 k 128), .int .u8 (bits BinOp.or IntKind.u8 0 126), x2, x3, x4, x5, x6, x7, x8, x9, x10, x11, x12, x13]) (ds := [5]) #[false, false, false, false, false, false] (by kernel_rfl) rfl rfl (((R0.out.store 0 _ (by simp)).store 1 _ (by simp)).drew) (fun hHeld => ?_)
        refine pure_ (i := 1) (N := some 67) (v := ?_) (a' := ?_) #[false, true, false, false, false, false] rfl rfl (by kernel_rfl) (fun _ _ _ h => h) (Or.inl ⟨by rfl, ?_⟩) ?_ ?_
        rotate_left
        · intro w'
          go_simp
          with_reducible rfl
        rotate_left
        · simp only [Act.put, List.setIfInBounds_toArray, List.set_cons_zero, List.set_cons_succ, i64_w, i32_w]
          rfl
        refine pure_ (i := 2) (N := some 68) (v := ?_) (a' := ?_) #[false, true, true, false, false, false] rfl rfl (by kernel_rfl) (fun _ _ _ h => h) (Or.inl ⟨by rfl, ?_⟩) ?_ ?_
        rotate_left
        · intro w'
          go_simp
          with_reducible rfl
        rotate_left
        · simp only [Act.put, List.setIfInBounds_toArray, List.set_cons_zero, List.set_cons_succ, i64_w, i32_w]
          rfl
        refine pure_ (i := 3) (N := some 69) (v := ?_) (a' := ?_) #[false, true, true, true, false, false] rfl rfl (by kernel_rfl) (fun _ _ _ h => h) (Or.inl ⟨by rfl, ?_⟩) ?_ ?_
        rotate_left
        · intro w'
          go_simp
          with_reducible rfl
        rotate_left
        · simp only [Act.put, List.setIfInBounds_toArray, List.set_cons_zero, List.set_cons_succ, i64_w, i32_w]
          rfl
        refine pure_ (i := 4) (N := some 70) (v := ?_) (a' := ?_) #[false, true, true, true, true, false] rfl rfl (by kernel_rfl) (fun _ _ _ h => h) (Or.inl ⟨by rfl, ?_⟩) ?_ ?_
        rotate_left
        · intro w'
          go_simp
          with_reducible rfl
        rotate_left
        · simp only [Act.put, List.setIfInBounds_toArray, List.set_cons_zero, List.set_cons_succ, i64_w, i32_w]
          rfl
        refine take_ (i := 0) (N := some 66) (v := ?_) (a' := ?_) #[true, true, true, true, true, false] rfl rfl (by kernel_rfl) (fun _ _ _ h => h) (Or.inl ⟨by rfl, ?_⟩) hHeld ?_ ?_
        rotate_left
        · intro w' s0
          go_simp
          with_reducible rfl
        rotate_left
        · simp only [Act.put, List.setIfInBounds_toArray, List.set_cons_zero, List.set_cons_succ, i64_w, i32_w]
          rfl
        refine last_ (i := 5) (N := some 71) #[true, true, true, true, true, true] rfl rfl (by kernel_rfl) (by decide) (fun K hK => ?_)
        refine goes_ Try.func51 (by kernel_rfl) rfl #[.agg #[], .slice (some ⟨g, 2, none⟩) 12 12, .int .u16 l] (by rfl) rfl rfl (by simp only [List.map_toArray, List.map_cons, List.map_nil]; rfl) ?_
        with_reducible refine (put16 g _ _ x2 x3 x4 x5 x6 x7 x8 x9 x10 x11 x12 x13 _ l hHeld.self (by omega)).mono ?_
        rintro e w3 ⟨⟨q, rfl⟩, hr3⟩
        refine ⟨_, rfl, ?_⟩
        have hr4 := hHeld.trans hr3
        clear hr3 hHeld
        refine hK.out _ _ ?_
        clear hK K
        refine norm_ (a' := ?_) ?_ ?_
        rotate_left
        · show Act.put _ (some 71) _ = _
          simp only [Act.put, List.setIfInBounds_toArray, List.set_cons_zero, List.set_cons_succ, i64_w, i32_w]
          rfl
        refine done_ (by kernel_rfl) ?_
        go_wp2
        refine bodyPost_ret (results_list (rs := [.tmp 14, .tmp 15]) rfl (by simp) (.tmp (.tmp .nil))) rfl ?_
        exact ⟨rfl, hr4⟩
      · go_enter Try.func45, Try.ntmps45
        go_wp2_with fail
        refine start_ (n := 6) (S := fun w' => Wk.RowW 5 w w' g [.int .u8 (bits .or .u8 (bits .or .u8 k 128) 64), .int .u8 (bits BinOp.or IntKind.u8 0 126), x2, x3, x4, x5, x6, x7, x8, x9, x10, x11, x12, x13]) (ds := [5]) #[false, false, false, false, false, false] (by kernel_rfl) rfl rfl (((R0.out.store 0 _ (by simp)).store 1 _ (by simp)).drew) (fun hHeld => ?_)
        refine pure_ (i := 1) (N := some 67) (v := ?_) (a' := ?_) #[false, true, false, false, false, false] rfl rfl (by kernel_rfl) (fun _ _ _ h => h) (Or.inl ⟨by rfl, ?_⟩) ?_ ?_
        rotate_left
        · intro w'
          go_simp
          with_reducible rfl
        rotate_left
        · simp only [Act.put, List.setIfInBounds_toArray, List.set_cons_zero, List.set_cons_succ, i64_w, i32_w]
          rfl
        refine pure_ (i := 2) (N := some 68) (v := ?_) (a' := ?_) #[false, true, true, false, false, false] rfl rfl (by kernel_rfl) (fun _ _ _ h => h) (Or.inl ⟨by rfl, ?_⟩) ?_ ?_
        rotate_left
        · intro w'
          go_simp
          with_reducible rfl
        rotate_left
        · simp only [Act.put, List.setIfInBounds_toArray, List.set_cons_zero, List.set_cons_succ, i64_w, i32_w]
          rfl
        refine pure_ (i := 3) (N := some 69) (v := ?_) (a' := ?_) #[false, true, true, true, false, false] rfl rfl (by kernel_rfl) (fun _ _ _ h => h) (Or.inl ⟨by rfl, ?_⟩) ?_ ?_
        rotate_left
        · intro w'
          go_simp
          with_reducible rfl
        rotate_left
        · simp only [Act.put, List.setIfInBounds_toArray, List.set_cons_zero, List.set_cons_succ, i64_w, i32_w]
          rfl
        refine pure_ (i := 4) (N := some 70) (v := ?_) (a' := ?_) #[false, true, true, true, true, false] rfl rfl (by kernel_rfl) (fun _ _ _ h => h) (Or.inl ⟨by rfl, ?_⟩) ?_ ?_
        rotate_left
        · intro w'
          go_simp
          with_reducible rfl
        rotate_left
        · simp only [Act.put, List.setIfInBounds_toArray, List.set_cons_zero, List.set_cons_succ, i64_w, i32_w]
          rfl
        refine take_ (i := 0) (N := some 66) (v := ?_) (a' := ?_) #[true, true, true, true, true, false] rfl rfl (by kernel_rfl) (fun _ _ _ h => h) (Or.inl ⟨by rfl, ?_⟩) hHeld ?_ ?_
        rotate_left
        · intro w' s0
          go_simp
          with_reducible rfl
        rotate_left
        · simp only [Act.put, List.setIfInBounds_toArray, List.set_cons_zero, List.set_cons_succ, i64_w, i32_w]
          rfl
        refine last_ (i := 5) (N := some 71) #[true, true, true, true, true, true] rfl rfl (by kernel_rfl) (by decide) (fun K hK => ?_)
        refine goes_ Try.func51 (by kernel_rfl) rfl #[.agg #[], .slice (some ⟨g, 2, none⟩) 12 12, .int .u16 l] (by rfl) rfl rfl (by simp only [List.map_toArray, List.map_cons, List.map_nil]; rfl) ?_
        with_reducible refine (put16 g _ _ x2 x3 x4 x5 x6 x7 x8 x9 x10 x11 x12 x13 _ l hHeld.self (by omega)).mono ?_
        rintro e w3 ⟨⟨q, rfl⟩, hr3⟩
        refine ⟨_, rfl, ?_⟩
        have hr4 := hHeld.trans hr3
        clear hr3 hHeld
        refine hK.out _ _ ?_
        clear hK K
        refine norm_ (a' := ?_) ?_ ?_
        rotate_left
        · show Act.put _ (some 71) _ = _
          simp only [Act.put, List.setIfInBounds_toArray, List.set_cons_zero, List.set_cons_succ, i64_w, i32_w]
          rfl
        refine done_ (by kernel_rfl) ?_
        go_wp2
        refine bodyPost_ret (results_list (rs := [.tmp 14, .tmp 15]) rfl (by simp) (.tmp (.tmp .nil))) rfl ?_
        exact ⟨rfl, hr4⟩
    · have d3 : decide (l < 65536) = false := decide_eq_false d2
      have hu : IntKind.u64.wrap l = l := by rw [IntKind.wrap_u64]; omega
      have hh : headL a b c k l = [headB a b c k, bits .or .u8 0 127, l / 72057594037927936, l / 281474976710656 % 256, l / 1099511627776 % 256, l / 4294967296 % 256, l / 16777216 % 256, l / 65536 % 256, l / 256 % 256, l % 256] := by rw [headL, if_neg d, if_neg d2]
      rw [hh]
      clear hh
      cases a <;> cases b <;> cases c
      · go_enter Try.func45, Try.ntmps45
        go_wp2_with fail
        refine start_ (n := 6) (S := fun w' => Wk.RowW 5 w w' g [.int .u8 (0), .int .u8 (bits BinOp.or IntKind.u8 0 127), x2, x3, x4, x5, x6, x7, x8, x9, x10, x11, x12, x13]) (ds := [5]) #[false, false, false, false, false, false] (by kernel_rfl) rfl rfl (((R0.out.store 0 _ (by simp)).store 1 _ (by simp)).drew) (fun hHeld => ?_)
        refine pure_ (i := 1) (N := some 39) (v := ?_) (a' := ?_) #[false, true, false, false, false, false] rfl rfl (by kernel_rfl) (fun _ _ _ h => h) (Or.inl ⟨by rfl, ?_⟩) ?_ ?_
        rotate_left
        · intro w'
          go_simp
          with_reducible rfl
        rotate_left
        · simp only [Act.put, List.setIfInBounds_toArray, List.set_cons_zero, List.set_cons_succ, i64_w, i32_w]
          rfl
        refine pure_ (i := 2) (N := some 40) (v := ?_) (a' := ?_) #[false, true, true, false, false, false] rfl rfl (by kernel_rfl) (fun _ _ _ h => h) (Or.inl ⟨by rfl, ?_⟩) ?_ ?_
        rotate_left
        · intro w'
          go_simp
          with_reducible rfl
        rotate_left
        · simp only [Act.put, List.setIfInBounds_toArray, List.set_cons_zero, List.set_cons_succ, i64_w, i32_w]
          rfl
        refine pure_ (i := 3) (N := some 41) (v := ?_) (a' := ?_) #[false, true, true, true, false, false] rfl rfl (by kernel_rfl) (fun _ _ _ h => h) (Or.inl ⟨by rfl, ?_⟩) ?_ ?_
        rotate_left
        · intro w'
          go_simp
          with_reducible rfl
        rotate_left
        · simp only [Act.put, List.setIfInBounds_toArray, List.set_cons_zero, List.set_cons_succ, i64_w, i32_w]
          rfl
        refine pure_ (i := 4) (N := some 42) (v := ?_) (a' := ?_) #[false, true, true, true, true, false] rfl rfl (by kernel_rfl) (fun _ _ _ h => h) (Or.inl ⟨by rfl, ?_⟩) ?_ ?_
        rotate_left
        · intro w'
          go_simp
          with_reducible rfl
        rotate_left
        · simp only [Act.put, List.setIfInBounds_toArray, List.set_cons_zero, List.set_cons_succ, i64_w, i32_w]
          rfl
        refine take_ (i := 0) (N := some 38) (v := ?_) (a' := ?_) #[true, true, true, true, true, false] rfl rfl (by kernel_rfl) (fun _ _ _ h => h) (Or.inl ⟨by rfl, ?_⟩) hHeld ?_ ?_
        rotate_left
        · intro w' s0
          go_simp
          with_reducible rfl
        rotate_left
        · simp only [Act.put, List.setIfInBounds_toArray, List.set_cons_zero, List.set_cons_succ, i64_w, i32_w]
          rfl
        refine last_ (i := 5) (N := some 43) #[true, true, true, true, true, true] rfl rfl (by kernel_rfl) (by decide) (fun K hK => ?_)
        refine goes_ Try.func50 (by kernel_rfl) rfl #[.agg #[], .slice (some ⟨g, 2, none⟩) 12 12, .int .u64 l] (by rfl) rfl rfl (by simp only [List.map_toArray, List.map_cons, List.map_nil]; rfl) ?_
        with_reducible refine (put64 g _ _ x2 x3 x4 x5 x6 x7 x8 x9 x10 x11 x12 x13 _ l hHeld.self (by omega)).mono ?_
        rintro e w3 ⟨⟨q, rfl⟩, hr3⟩
        refine ⟨_, rfl, ?_⟩
        have hr4 := hHeld.trans hr3
        clear hr3 hHeld
        refine hK.out _ _ ?_
        clear hK K
        refine norm_ (a' := ?_) ?_ ?_
        rotate_left
        · show Act.put _ (some 43) _ = _
          simp only [Act.put, List.setIfInBounds_toArray, List.set_cons_zero, List.set_cons_succ, i64_w, i32_w]
          rfl
        refine done_ (by kernel_rfl) ?_
        go_wp2
        refine bodyPost_ret (results_list (rs := [.tmp 14, .tmp 15]) rfl (by simp) (.tmp (.tmp .nil))) rfl ?_
        exact ⟨rfl, hr4⟩
      · go_enter Try.func45, Try.ntmps45
        go_wp2_with fail
        refine start_ (n := 6) (S := fun w' => Wk.RowW 5 w w' g [.int .u8 (bits .or .u8 0 64), .int .u8 (bits BinOp.or IntKind.u8 0 127), x2, x3, x4, x5, x6, x7, x8, x9, x10, x11, x12, x13]) (ds := [5]) #[false, false, false, false, false, false] (by kernel_rfl) rfl rfl (((R0.out.store 0 _ (by simp)).store 1 _ (by simp)).drew) (fun hHeld => ?_)
        refine pure_ (i := 1) (N := some 39) (v := ?_) (a' := ?_) #[false, true, false, false, false, false] rfl rfl (by kernel_rfl) (fun _ _ _ h => h) (Or.inl ⟨by rfl, ?_⟩) ?_ ?_
        rotate_left
        · intro w'
          go_simp
          with_reducible rfl
        rotate_left
        · simp only [Act.put, List.setIfInBounds_toArray, List.set_cons_zero, List.set_cons_succ, i64_w, i32_w]
          rfl
        refine pure_ (i := 2) (N := some 40) (v := ?_) (a' := ?_) #[false, true, true, false, false, false] rfl rfl (by kernel_rfl) (fun _ _ _ h => h) (Or.inl ⟨by rfl, ?_⟩) ?_ ?_
        rotate_left
        · intro w'
          go_simp
          with_reducible rfl
        rotate_left
        · simp only [Act.put, List.setIfInBounds_toArray, List.set_cons_zero, List.set_cons_succ, i64_w, i32_w]
          rfl
        refine pure_ (i := 3) (N := some 41) (v := ?_) (a' := ?_) #[false, true, true, true, false, false] rfl rfl (by kernel_rfl) (fun _ _ _ h => h) (Or.inl ⟨by rfl, ?_⟩) ?_ ?_
        rotate_left
        · intro w'
          go_simp
          with_reducible rfl
        rotate_left
        · simp only [Act.put, List.setIfInBounds_toArray, List.set_cons_zero, List.set_cons_succ, i64_w, i32_w]
          rfl
        refine pure_ (i := 4) (N := some 42) (v := ?_) (a' := ?_) #[false, true, true, true, true, false] rfl rfl (by kernel_rfl) (fun _ _ _ h => h) (Or.inl ⟨by rfl, ?_⟩) ?_ ?_
        rotate_left
        · intro w'
          go_simp
          with_reducible rfl
        rotate_left
        · simp only [Act.put, List.setIfInBounds_toArray, List.set_cons_zero, List.set_cons_succ, i64_w, i32_w]
          rfl
        refine take_ (i := 0) (N := some 38) (v := ?_) (a' := ?_) #[true, true, true, true, true, false] rfl rfl (by kernel_rfl) (fun _ _ _ h => h) (Or.inl ⟨by rfl, ?_⟩) hHeld ?_ ?_
        rotate_left
        · intro w' s0
          go_simp
          with_reducible rfl
        rotate_left
        · simp only [Act.put, List.setIfInBounds_toArray, List.set_cons_zero, List.set_cons_succ, i64_w, i32_w]
          rfl
        refine last_ (i := 5) (N := some 43) #[true, true, true, true, true, true] rfl rfl (by kernel_rfl) (by decide) (fun K hK => ?_)
        refine goes_ Try.func50 (by kernel_rfl) rfl #[.agg #[], .slice (some ⟨g, 2, none⟩) 12 12, .int .u64 l] (by rfl) rfl rfl (by simp only [List.map_toArray, List.map_cons, List.map_nil]; rfl) ?_
        with_reducible refine (put64 g _ _ x2 x3 x4 x5 x6 x7 x8 x9 x10 x11 x12 x13 _ l hHeld.self (by omega)).mono ?_
        rintro e w3 ⟨⟨q, rfl⟩, hr3⟩
        refine ⟨_, rfl, ?_⟩
        have hr4 := hHeld.trans hr3
        clear hr3 hHeld
        refine hK.out _ _ ?_
        clear hK K
        refine norm_ (a' := ?_) ?_ ?_
        rotate_left
        · show Act.put _ (some 43) _ = _
          simp only [Act.put, List.setIfInBounds_toArray, List.set_cons_zero, List.set_cons_succ, i64_w, i32_w]
          rfl
        refine done_ (by kernel_rfl) ?_
        go_wp2
        refine bodyPost_ret (results_list (rs := [.tmp 14, .tmp 15]) rfl (by simp) (.tmp (.tmp .nil))) rfl ?_
        exact ⟨rfl, hr4⟩
      · go_enter Try.func45, Try.ntmps45
        go_wp2_with fail
        refine start_ (n := 6) (S := fun w' => Wk.RowW 5 w w' g [.int .u8 (bits .or .u8 0 128), .int .u8 (bits BinOp.or IntKind.u8 0 127), x2, x3, x4, x5, x6, x7, x8, x9, x10, x11, x12, x13]) (ds := [5]) #[false, false, false, false, false, false] (by kernel_rfl) rfl rfl (((R0.out.store 0 _ (by simp)).store 1 _ (by simp)).drew) (fun hHeld => ?_)
        refine pure_ (i := 1) (N := some 39) (v := ?_) (a' := ?_) #[false, true, false, false, false, false] rfl rfl (by kernel_rfl) (fun _ _ _ h => h) (Or.inl ⟨by rfl, ?_⟩) ?_ ?_
        rotate_left
        · intro w'
          go_simp
          with_reducible rfl
        rotate_left
        · simp only [Act.put, List.setIfInBounds_toArray, List.set_cons_zero, List.set_cons_succ, i64_w, i32_w]
          rfl
        refine pure_ (i := 2) (N := some 40) (v := ?_) (a' := ?_) #[false, true, true, false, false, false] rfl rfl (by kernel_rfl) (fun _ _ _ h => h) (Or.inl ⟨by rfl, ?_⟩) ?_ ?_
        rotate_left
        · intro w'
          go_simp
          with_reducible rfl
        rotate_left
        · simp only [Act.put, List.setIfInBounds_toArray, List.set_cons_zero, List.set_cons_succ, i64_w, i32_w]
          rfl
        refine pure_ (i := 3) (N := some 41) (v := ?_) (a' := ?_) #[false, true, true, true, false, false] rfl rfl (by kernel_rfl) (fun _ _ _ h => h) (Or.inl ⟨by rfl, ?_⟩) ?_ ?_
        rotate_left
        · intro w'
          go_simp
          with_reducible rfl
        rotate_left
        · simp only [Act.put, List.setIfInBounds_toArray, List.set_cons_zero, List.set_cons_succ, i64_w, i32_w]
          rfl
        refine pure_ (i := 4) (N := some 42) (v := ?_) (a' := ?_) #[false, true, true, true, true, false] rfl rfl (by kernel_rfl) (fun _ _ _ h => h) (Or.inl ⟨by rfl, ?_⟩) ?_ ?_
        rotate_left
        · intro w'
          go_simp
          with_reducible rfl
        rotate_left
        · simp only [Act.put, List.setIfInBounds_toArray, List.set_cons_zero, List.set_cons_succ, i64_w, i32_w]
          rfl
        refine take_ (i := 0) (N := some 38) (v := ?_) (a' := ?_) #[true, true, true, true, true, false] rfl rfl (by kernel_rfl) (fun _ _ _ h => h) (Or.inl ⟨by rfl, ?_⟩) hHeld ?_ ?_
        rotate_left
        · intro w' s0
          go_simp
          with_reducible rfl
        rotate_left
        · simp only [Act.put, List.setIfInBounds_toArray, List.set_cons_zero, List.set_cons_succ, i64_w, i32_w]
          rfl
        refine last_ (i := 5) (N := some 43) #[true, true, true, true, true, true] rfl rfl (by kernel_rfl) (by decide) (fun K hK => ?_)
        refine goes_ Try.func50 (by kernel_rfl) rfl #[.agg #[], .slice (some ⟨g, 2, none⟩) 12 12, .int .u64 l] (by rfl) rfl rfl (by simp only [List.map_toArray, List.map_cons, List.map_nil]; rfl) ?_
        with_reducible refine (put64 g _ _ x2 x3 x4 x5 x6 x7 x8 x9 x10 x11 x12 x13 _ l hHeld.self (by omega)).mono ?_
        rintro e w3 ⟨⟨q, rfl⟩, hr3⟩
        refine ⟨_, rfl, ?_⟩
        have hr4 := hHeld.trans hr3
        clear hr3 hHeld
        refine hK.out _ _ ?_
        clear hK K
        refine norm_ (a' := ?_) ?_ ?_
        rotate_left
        · show Act.put _ (some 43) _ = _
          simp only [Act.put, List.setIfInBounds_toArray, List.set_cons_zero, List.set_cons_succ, i64_w, i32_w]
          rfl
        refine done_ (by kernel_rfl) ?_
        go_wp2
        refine bodyPost_ret (results_list (rs := [.tmp 14, .tmp 15]) rfl (by simp) (.tmp (.tmp .nil))) rfl ?_
        exact ⟨rfl, hr4⟩
      · go_enter Try.func45, Try.ntmps45
        go_wp2_with fail
        refine start_ (n := 6) (S := fun w' => Wk.RowW 5 w w' g [.int .u8 (bits .or .u8 (bits .or .u8 0 128) 64), .int .u8 (bits BinOp.or IntKind.u8 0 127), x2, x3, x4, x5, x6, x7, x8, x9, x10, x11, x12, x13]) (ds := [5]) #[false, false, false, false, false, false] (by kernel_rfl) rfl rfl (((R0.out.store 0 _ (by simp)).store 1 _ (by simp)).drew) (fun hHeld => ?_)
        refine pure_ (i := 1) (N := some 39) (v := ?_) (a' := ?_) #[false, true, false, false, false, false] rfl rfl (by kernel_rfl) (fun _ _ _ h => h) (Or.inl ⟨by rfl, ?_⟩) ?_ ?_
        rotate_left
        · intro w'
          go_simp
          with_reducible rfl
        rotate_left
        · simp only [Act.put, List.setIfInBounds_toArray, List.set_cons_zero, List.set_cons_succ, i64_w, i32_w]
          rfl
        refine pure_ (i := 2) (N := some 40) (v := ?_) (a' := ?_) #[false, true, true, false, false, false] rfl rfl (by kernel_rfl) (fun _ _ _ h => h) (Or.inl ⟨by rfl, ?_⟩) ?_ ?_
        rotate_left
        · intro w'
          go_simp
          with_reducible rfl
        rotate_left
        · simp only [Act.put, List.setIfInBounds_toArray, List.set_cons_zero, List.set_cons_succ, i64_w, i32_w]
          rfl
        refine pure_ (i := 3) (N := some 41) (v := ?_) (a' := ?_) #[false, true, true, true, false, false] rfl rfl (by kernel_rfl) (fun _ _ _ h => h) (Or.inl ⟨by rfl, ?_⟩) ?_ ?_
        rotate_left
        · intro w'
          go_simp
          with_reducible rfl
        rotate_left
        · simp only [Act.put, List.setIfInBounds_toArray, List.set_cons_zero, List.set_cons_succ, i64_w, i32_w]
          rfl
        refine pure_ (i := 4) (N := some 42) (v := ?_) (a' := ?_) #[false, true, true, true, true, false] rfl rfl (by kernel_rfl) (fun _ _ _ h => h) (Or.inl ⟨by rfl, ?_⟩) ?_ ?_
        rotate_left
        · intro w'
          go_simp
          with_reducible rfl
        rotate_left
        · simp only [Act.put, List.setIfInBounds_toArray, List.set_cons_zero, List.set_cons_succ, i64_w, i32_w]
          rfl
        refine take_ (i := 0) (N := some 38) (v := ?_) (a' := ?_) #[true, true, true, true, true, false] rfl rfl (by kernel_rfl) (fun _ _ _ h => h) (Or.inl ⟨by rfl, ?_⟩) hHeld ?_ ?_
        rotate_left
        · intro w' s0
          go_simp
          with_reducible rfl
        rotate_left
        · simp only [Act.put, List.setIfInBounds_toArray, List.set_cons_zero, List.set_cons_succ, i64_w, i32_w]
          rfl
        refine last_ (i := 5) (N := some 43) #[true, true, true, true, true, true] rfl rfl (by kernel_rfl) (by decide) (fun K hK => ?_)
        refine goes_ Try.func50 (by kernel_rfl) rfl #[.agg #[], .slice (some ⟨g, 2, none⟩) 12 12, .int .u64 l] (by rfl) rfl rfl (by simp only [List.map_toArray, List.map_cons, List.map_nil]; rfl) ?_
        with_reducible refine (put64 g _ _ x2 x3 x4 x5 x6 x7 x8 x9 x10 x11 x12 x13 _ l hHeld.self (by omega)).mono ?_
        rintro e w3 ⟨⟨q, rfl⟩, hr3⟩
        refine ⟨_, rfl, ?_⟩
        have hr4 := hHeld.trans hr3
        clear hr3 hHeld
        refine hK.out _ _ ?_
        clear hK K
        refine norm_ (a' := ?_) ?_ ?_
        rotate_left
        · show Act.put _ (some 43) _ = _
          simp only [Act.put, List.setIfInBounds_toArray, List.set_cons_zero, List.set_cons_succ, i64_w, i32_w]
          rfl
        refine done_ (by kernel_rfl) ?_
        go_wp2
        refine bodyPost_ret (results_list (rs := [.tmp 14, .tmp 15]) rfl (by simp) (.tmp (.tmp .nil))) rfl ?_
        exact ⟨rfl, hr4⟩
      · go_enter Try.func45, Try.ntmps45
        go_wp2_with fail
        refine start_ (n := 6) (S := fun w' => Wk.RowW 5 w w' g [.int .u8 (k), .int .u8 (bits BinOp.or IntKind.u8 0 127), x2, x3, x4, x5, x6, x7, x8, x9, x10, x11, x12, x13]) (ds := [5]) #[false, false, false, false, false, false] (by kernel_rfl) rfl rfl (((R0.out.store 0 _ (by simp)).store 1 _ (by simp)).drew) (fun hHeld => ?_)
        refine pure_ (i := 1) (N := some 39) (v := ?_) (a' := ?_) #[false, true, false, false, false, false] rfl rfl (by kernel_rfl) (fun _ _ _ h => h) (Or.inl ⟨by rfl, ?_⟩) ?_ ?_
        rotate_left
        · intro w'
          go_simp
          with_reducible rfl
        rotate_left
        · simp only [Act.put, List.setIfInBounds_toArray, List.set_cons_zero, List.set_cons_succ, i64_w, i32_w]
          rfl
        refine pure_ (i := 2) (N := some 40) (v := ?_) (a' := ?_) #[false, true, true, false, false, false] rfl rfl (by kernel_rfl) (fun _ _ _ h => h) (Or.inl ⟨by rfl, ?_⟩) ?_ ?_
        rotate_left
        · intro w'
          go_simp
          with_reducible rfl
        rotate_left
        · simp only [Act.put, List.setIfInBounds_toArray, List.set_cons_zero, List.set_cons_succ, i64_w, i32_w]
          rfl
        refine pure_ (i := 3) (N := some 41) (v := ?_) (a' := ?_) #[false, true, true, true, false, false] rfl rfl (by kernel_rfl) (fun _ _ _ h => h) (Or.inl ⟨by rfl, ?_⟩) ?_ ?_
        rotate_left
        · intro w'
          go_simp
          with_reducible rfl
        rotate_left
        · simp only [Act.put, List.setIfInBounds_toArray, List.set_cons_zero, List.set_cons_succ, i64_w, i32_w]
          rfl
        refine pure_ (i := 4) (N := some 42) (v := ?_) (a' := ?_) #[false, true, true, true, true, false] rfl rfl (by kernel_rfl) (fun _ _ _ h => h) (Or.inl ⟨by rfl, ?_⟩) ?_ ?_
        rotate_left
        · intro w'
          go_simp
          with_reducible rfl
        rotate_left
        · simp only [Act.put, List.setIfInBounds_toArray, List.set_cons_zero, List.set_cons_succ, i64_w, i32_w]
          rfl
        refine take_ (i := 0) (N := some 38) (v := ?_) (a' := ?_) #[true, true, true, true, true, false] rfl rfl (by kernel_rfl) (fun _ _ _ h => h) (Or.inl ⟨by rfl, ?_⟩) hHeld ?_ ?_
        rotate_left
        · intro w' s0
          go_simp
          with_reducible rfl
        rotate_left
        · simp only [Act.put, List.setIfInBounds_toArray, List.set_cons_zero, List.set_cons_succ, i64_w, i32_w]
          rfl
        refine last_ (i := 5) (N := some 43) #[true, true, true, true, true, true] rfl rfl (by kernel_rfl) (by decide) (fun K hK => ?_)
        refine goes_ Try.func50 (by kernel_rfl) rfl #[.agg #[], .slice (some ⟨g, 2, none⟩) 12 12, .int .u64 l] (by rfl) rfl rfl (by simp only [List.map_toArray, List.map_cons, List.map_nil]; rfl) ?_
        with_reducible refine (put64 g _ _ x2 x3 x4 x5 x6 x7 x8 x9 x10 x11 x12 x13 _ l hHeld.self (by omega)).mono ?_
        rintro e w3 ⟨⟨q, rfl⟩, hr3⟩
        refine ⟨_, rfl, ?_⟩
        have hr4 := hHeld.trans hr3
        clear hr3 hHeld
        refine hK.out _ _ ?_
        clear hK K
        refine norm_ (a' := ?_) ?_ ?_
        rotate_left
        · show Act.put _ (some 43) _ = _
          simp only [Act.put, List.setIfInBounds_toArray, List.set_cons_zero, List.set_cons_succ, i64_w, i32_w]
          rfl
        refine done_ (by kernel_rfl) ?_
        go_wp2
        refine bodyPost_ret (results_list (rs := [.tmp 14, .tmp 15]) rfl (by simp) (.tmp (.tmp .nil))) rfl ?_
        exact ⟨rfl, hr4⟩
      · go_enter Try.func45, Try.ntmps45
        go_wp2_with fail
        refine start_ (n := 6) (S := fun w' => Wk.RowW 5 w w' g [.int .u8 (bits .or .u8 k 64), .int .u8 (bits BinOp.or IntKind.u8 0 127), x2, x3, x4, x5, x6, x7, x8, x9, x10, x11, x12, x13]) (ds := [5]) #[false, false, false, false, false, false] (by kernel_rfl) rfl rfl (((R0.out.store 0 _ (by simp)).store 1 _ (by simp)).drew) (fun hHeld => ?_)
        refine pure_ (i := 1) (N := some 39) (v := ?_) (a' := ?_) #[false, true, false, false, false, false] rfl rfl (by kernel_rfl) (fun _ _ _ h => h) (Or.inl ⟨by rfl, ?_⟩) ?_ ?_
        rotate_left
        · intro w'
          go_simp
          with_reducible rfl
        rotate_left
        · simp only [Act.put, List.setIfInBounds_toArray, List.set_cons_zero, List.set_cons_succ, i64_w, i32_w]
          rfl
        refine pure_ (i := 2) (N := some 40) (v := ?_) (a' := ?_) #[false, true, true, false, false, false] rfl rfl (by kernel_rfl) (fun _ _ _ h => h) (Or.inl ⟨by rfl, ?_⟩) ?_ ?_
        rotate_left
        · intro w'
          go_simp
          with_reducible rfl
        rotate_left
        · simp only [Act.put, List.setIfInBounds_toArray, List.set_cons_zero, List.set_cons_succ, i64_w, i32_w]
          rfl
        refine pure_ (i := 3) (N := some 41) (v := ?_) (a' := ?_) #[false, true, true, true, false, false] rfl rfl (by kernel_rfl) (fun _ _ _ h => h) (Or.inl ⟨by rfl, ?_⟩) ?_ ?_
        rotate_left
        · intro w'
          go_simp
          with_reducible rfl
        rotate_left
        · simp only [Act.put, List.setIfInBounds_toArray, List.set_cons_zero, List.set_cons_succ, i64_w, i32_w]
          rfl
        refine pure_ (i := 4) (N := some 42) (v := ?_) (a' := ?_) #[false, true, true, true, true, false] rfl rfl (by kernel_rfl) (fun _ _ _ h => h) (Or.inl ⟨by rfl, ?_⟩) ?_ ?_
        rotate_left
        · intro w'
          go_simp
          with_reducible rfl
        rotate_left
        · simp only [Act.put, List.setIfInBounds_toArray, List.set_cons_zero, List.set_cons_succ, i64_w, i32_w]
          rfl
        refine take_ (i := 0) (N := some 38) (v := ?_) (a' := ?_) #[true, true, true, true, true, false] rfl rfl (by kernel_rfl) (fun _ _ _ h => h) (Or.inl ⟨by rfl, ?_⟩) hHeld ?_ ?_
        rotate_left
        · intro w' s0
          go_simp
          with_reducible rfl
        rotate_left
        · simp only [Act.put, List.setIfInBounds_toArray, List.set_cons_zero, List.set_cons_succ, i64_w, i32_w]
          rfl
        refine last_ (i := 5) (N := some 43) #[true, true, true, true, true, true] rfl rfl (by kernel_rfl) (by decide) (fun K hK => ?_)
        refine goes_ Try.func50 (by kernel_rfl) rfl #[.agg #[], .slice (some ⟨g, 2, none⟩) 12 12, .int .u64 l] (by rfl) rfl rfl (by simp only [List.map_toArray, List.map_cons, List.map_nil]; rfl) ?_
        with_reducible refine (put64 g _ _ x2 x3 x4 x5 x6 x7 x8 x9 x10 x11 x12 x13 _ l hHeld.self (by omega)).mono ?_
        rintro e w3 ⟨⟨q, rfl⟩, hr3⟩
        refine ⟨_, rfl, ?_⟩
        have hr4 := hHeld.trans hr3
        clear hr3 hHeld
        refine hK.out _ _ ?_
        clear hK K
        refine norm_ (a' := ?_) ?_ ?_
        rotate_left
        · show Act.put _ (some 43) _ = _
          simp only [Act.put, List.setIfInBounds_toArray, List.set_cons_zero, List.set_cons_succ, i64_w, i32_w]
          rfl
        refine done_ (by kernel_rfl) ?_
        go_wp2
        refine bodyPost_ret (results_list (rs := [.tmp 14, .tmp 15]) rfl (by simp) (.tmp (.tmp .nil))) rfl ?_
        exact ⟨rfl, hr4⟩
      · go_enter Try.func45, Try.ntmps45
        go_wp2_with fail
        refine start_ (n := 6) (S := fun w' => Wk.RowW 5 w w' g [.int .u8 (bits .or .u8 k 128), .int .u8 (bits BinOp.or IntKind.u8 0 127), x2, x3, x4, x5, x6, x7, x8, x9, x10, x11, x12, x13]) (ds := [5]) #[false, false, false, false, false, false] (by kernel_rfl) rfl rfl (((R0.out.store 0 _ (by simp)).store 1 _ (by simp)).drew) (fun hHeld => ?_)
        refine pure_ (i := 1) (N := some 39) (v := ?_) (a' := ?_) #[false, true, false, false, false, false] rfl rfl (by kernel_rfl) (fun _ _ _ h => h) (Or.inl ⟨by rfl, ?_⟩) ?_ ?_
        rotate_left
        · intro w'
          go_simp
          with_reducible rfl
        rotate_left
        · simp only [Act.put, List.setIfInBounds_toArray, List.set_cons_zero, List.set_cons_succ, i64_w, i32_w]
          rfl
        refine pure_ (i := 2) (N := some 40) (v := ?_) (a' := ?_) #[false, true, true, false, false, false] rfl rfl (by kernel_rfl) (fun _ _ _ h => h) (Or.inl ⟨by rfl, ?_⟩) ?_ ?_
        rotate_left
        · intro w'
          go_simp
          with_reducible rfl
        rotate_left
        · simp only [Act.put, List.setIfInBounds_toArray, List.set_cons_zero, List.set_cons_succ, i64_w, i32_w]
          rfl
        refine pure_ (i := 3) (N := some 41) (v := ?_) (a' := ?_) #[false, true, true, true, false, false] rfl rfl (by kernel_rfl) (fun _ _ _ h => h) (Or.inl ⟨by rfl, ?_⟩) ?_ ?_
        rotate_left
        · intro w'
          go_simp
          with_reducible rfl
        rotate_left
        · simp only [Act.put, List.setIfInBounds_toArray, List.set_cons_zero, List.set_cons_succ, i64_w, i32_w]
          rfl
        refine pure_ (i := 4) (N := some 42) (v := ?_) (a' := ?_) #[false, true, true, true, true, false] rfl rfl (by kernel_rfl) (fun _ _ _ h => h) (Or.inl ⟨by rfl, ?_⟩) ?_ ?_
        rotate_left
        · intro w'
          go_simp
          with_reducible rfl
        rotate_left
        · simp only [Act.put, List.setIfInBounds_toArray, List.set_cons_zero, List.set_cons_succ, i64_w, i32_w]
          rfl
        refine take_ (i := 0) (N := some 38) (v := ?_) (a' := ?_) #[true, true, true, true, true, false] rfl rfl (by kernel_rfl) (fun _ _ _ h => h) (Or.inl ⟨by rfl, ?_⟩) hHeld ?_ ?_
        rotate_left
        · intro w' s0
          go_simp
          with_reducible rfl
        rotate_left
        · simp only [Act.put, List.setIfInBounds_toArray, List.set_cons_zero, List.set_cons_succ, i64_w, i32_w]
          rfl
        refine last_ (i := 5) (N := some 43) #[true, true, true, true, true, true] rfl rfl (by kernel_rfl) (by decide) (fun K hK => ?_)
        refine goes_ Try.func50 (by kernel_rfl) rfl #[.agg #[], .slice (some ⟨g, 2, none⟩) 12 12, .int .u64 l] (by rfl) rfl rfl (by simp only [List.map_toArray, List.map_cons, List.map_nil]; rfl) ?_
        with_reducible refine (put64 g _ _ x2 x3 x4 x5 x6 x7 x8 x9 x10 x11 x12 x13 _ l hHeld.self (by omega)).mono ?_
        rintro e w3 ⟨⟨q, rfl⟩, hr3⟩
        refine ⟨_, rfl, ?_⟩
        have hr4 := hHeld.trans hr3
        clear hr3 hHeld
        refine hK.out _ _ ?_
        clear hK K
        refine norm_ (a' := ?_) ?_ ?_
        rotate_left
        · show Act.put _ (some 43) _ = _
          simp only [Act.put, List.setIfInBounds_toArray, List.set_cons_zero, List.set_cons_succ, i64_w, i32_w]
          rfl
        refine done_ (by kernel_rfl) ?_
        go_wp2
        refine bodyPost_ret (results_list (rs := [.tmp 14, .tmp 15]) rfl (by simp) (.tmp (.tmp .nil))) rfl ?_
        exact ⟨rfl, hr4⟩
      · go_enter Try.func45, Try.ntmps45
        go_wp2_with fail
        refine start_ (n := 6) (S := fun w' => Wk.RowW 5 w w' g [.int .u8 (bits .or .u8 (bits .or .u8 k 128) 64), .int .u8 (bits BinOp.or IntKind.u8 0 127), x2, x3, x4, x5, x6, x7, x8, x9, x10, x11, x12, x13]) (ds := [5]) #[false, false, false, false, false, false] (by kernel_rfl) rfl rfl (((R0.out.store 0 _ (by simp)).store 1 _ (by simp)).drew) (fun hHeld => ?_)
        refine pure_ (i := 1) (N := some 39) (v := ?_) (a' := ?_) #[false, true, false, false, false, false] rfl rfl (by kernel_rfl) (fun _ _ _ h => h) (Or.inl ⟨by rfl, ?_⟩) ?_ ?_
        rotate_left
        · intro w'
          go_simp
          with_reducible rfl
        rotate_left
        · simp only [Act.put, List.setIfInBounds_toArray, List.set_cons_zero, List.set_cons_succ, i64_w, i32_w]
          rfl
        refine pure_ (i := 2) (N := some 40) (v := ?_) (a' := ?_) #[false, true, true, false, false, false] rfl rfl (by kernel_rfl) (fun _ _ _ h => h) (Or.inl ⟨by rfl, ?_⟩) ?_ ?_
        rotate_left
        · intro w'
          go_simp
          with_reducible rfl
        rotate_left
        · simp only [Act.put, List.setIfInBounds_toArray, List.set_cons_zero, List.set_cons_succ, i64_w, i32_w]
          rfl
        refine pure_ (i := 3) (N := some 41) (v := ?_) (a' := ?_) #[false, true, true, true, false, false] rfl rfl (by kernel_rfl) (fun _ _ _ h => h) (Or.inl ⟨by rfl, ?_⟩) ?_ ?_
        rotate_left
        · intro w'
          go_simp
          with_reducible rfl
        rotate_left
        · simp only [Act.put, List.setIfInBounds_toArray, List.set_cons_zero, List.set_cons_succ, i64_w, i32_w]
          rfl
        refine pure_ (i := 4) (N := some 42) (v := ?_) (a' := ?_) #[false, true, true, true, true, false] rfl rfl (by kernel_rfl) (fun _ _ _ h => h) (Or.inl ⟨by rfl, ?_⟩) ?_ ?_
        rotate_left
        · intro w'
          go_simp
          with_reducible rfl
        rotate_left
        · simp only [Act.put, List.setIfInBounds_toArray, List.set_cons_zero, List.set_cons_succ, i64_w, i32_w]
          rfl
        refine take_ (i := 0) (N := some 38) (v := ?_) (a' := ?_) #[true, true, true, true, true, false] rfl rfl (by kernel_rfl) (fun _ _ _ h => h) (Or.inl ⟨by rfl, ?_⟩) hHeld ?_ ?_
        rotate_left
        · intro w' s0
          go_simp
          with_reducible rfl
        rotate_left
        · simp only [Act.put, List.setIfInBounds_toArray, List.set_cons_zero, List.set_cons_succ, i64_w, i32_w]
          rfl
        refine last_ (i := 5) (N := some 43) #[true, true, true, true, true, true] rfl rfl (by kernel_rfl) (by decide) (fun K hK => ?_)
        refine goes_ Try.func50 (by kernel_rfl) rfl #[.agg #[], .slice (some ⟨g, 2, none⟩) 12 12, .int .u64 l] (by rfl) rfl rfl (by simp only [List.map_toArray, List.map_cons, List.map_nil]; rfl) ?_
        with_reducible refine (put64 g _ _ x2 x3 x4 x5 x6 x7 x8 x9 x10 x11 x12 x13 _ l hHeld.self (by omega)).mono ?_
        rintro e w3 ⟨⟨q, rfl⟩, hr3⟩
        refine ⟨_, rfl, ?_⟩
        have hr4 := hHeld.trans hr3
        clear hr3 hHeld
        refine hK.out _ _ ?_
        clear hK K
        refine norm_ (a' := ?_) ?_ ?_
        rotate_left
        · show Act.put _ (some 43) _ = _
          simp only [Act.put, List.setIfInBounds_toArray, List.set_cons_zero, List.set_cons_succ, i64_w, i32_w]
          rfl
        refine done_ (by kernel_rfl) ?_
        go_wp2
        refine bodyPost_ret (results_list (rs := [.tmp 14, .tmp 15]) rfl (by simp) (.tmp (.tmp .nil))) rfl ?_
        exact ⟨rfl, hr4⟩
def server_FrameHeader.f (a0 a1 a2 : Bool) (a3 a4 : Int) : Option (List Int) := if 0 ≤ a3 ∧ a3 ≤ 15 ∧ 0 ≤ a4 ∧ a4 ≤ 1099511627776 then some (headL a0 a1 a2 a3 a4) else none
theorem headL_len (a b c : Bool) (k l : Int) : (headL a b c k l).length ≤ 14 := by
  unfold headL
  split
  · simp
  · split <;> simp
set_option maxRecDepth 100000 in
theorem server_FrameHeader.calls (a0 : Bool) (a1 : Bool) (a2 : Bool) (a3 : Int) (a4 : Int) (r : List Int) (w : World) (h : server_FrameHeader.f a0 a1 a2 a3 a4 = some r) :
    Calls Try.prog 36 #[.bool a0, .bool a1, .bool a2, .int .i64 a3, .int .i64 a4] w fun e w' => ∃ v0_, e = .returned v0_ ∧ Kd.R (Kd.int .u8) 5 w' w.heap.size (fun _ => True) v0_ r ∧ Below w.heap.size w w' := by
  unfold server_FrameHeader.f at h
  by_cases hb : 0 ≤ a3 ∧ a3 ≤ 15 ∧ 0 ≤ a4 ∧ a4 ≤ 1099511627776
  rotate_left
  · rw [if_neg hb] at h; cases h
  rw [if_pos hb] at h
  obtain rfl := Option.some.inj h
  clear h
  have HB := Aside0.mk hb
  clear hb
  have hmk : (Instr.makeSlice 24 (.int .i64 14) (.int .i64 14)).run Try.prog w = .ok (.slice (some ⟨w.heap.size, 0, none⟩) 14 14) (w.alloc (.cells #[.int .u8 0, .int .u8 0, .int .u8 0, .int .u8 0, .int .u8 0, .int .u8 0, .int .u8 0, .int .u8 0, .int .u8 0, .int .u8 0, .int .u8 0, .int .u8 0, .int .u8 0, .int .u8 0] 5)) := by
    obtain ⟨i, hi, hz⟩ := Option.map_eq_some_iff.1 info5
    simp only [Prod.mk.injEq] at hz
    obtain ⟨hz0, hz1, hz2⟩ := hz
    have h := run_makeSlice (P := Try.prog) (w := w) 24 5 i (.int .u8 0) Try.underlying24 hi hz0 .i64 .i64 14 14 (by omega) (by omega) (by rw [hz1]; decide) (by rw [hz2]; decide) (by omega)
    rw [hz1, show madeCells (Value.int .u8 0).cells (Int.toNat 14 * 1) = #[.int .u8 0, .int .u8 0, .int .u8 0, .int .u8 0, .int .u8 0, .int .u8 0, .int .u8 0, .int .u8 0, .int .u8 0, .int .u8 0, .int .u8 0, .int .u8 0, .int .u8 0, .int .u8 0] from by kernel_rfl] at h
    exact h
  have HMK := Aside0.mk hmk
  clear hmk
  have R1 : Wk.RowW 5 w (w.alloc (.cells #[.int .u8 0, .int .u8 0, .int .u8 0, .int .u8 0, .int .u8 0, .int .u8 0, .int .u8 0, .int .u8 0, .int .u8 0, .int .u8 0, .int .u8 0, .int .u8 0, .int .u8 0, .int .u8 0] 5)) w.heap.size [.int .u8 0, .int .u8 0, .int .u8 0, .int .u8 0, .int .u8 0, .int .u8 0, .int .u8 0, .int .u8 0, .int .u8 0, .int .u8 0, .int .u8 0, .int .u8 0, .int .u8 0, .int .u8 0] :=
    ⟨heap_alloc_new w _, rfl, rfl, rfl, by simp, fun k hk _ => Below.heap_alloc w _ k hk⟩
  have hmk := HMK.out
  generalize w.alloc (.cells #[.int .u8 0, .int .u8 0, .int .u8 0, .int .u8 0, .int .u8 0, .int .u8 0, .int .u8 0, .int .u8 0, .int .u8 0, .int .u8 0, .int .u8 0, .int .u8 0, .int .u8 0, .int .u8 0] 5) = W1 at R1 hmk
  have HR1 := Aside0.mk R1
  clear HMK R1
  go_enter Try.func36, Try.ntmps36
  go_wp2_with fail
  clear hmk
  refine (fill w.heap.size _ _ _ _ _ _ _ _ _ _ _ _ _ _ a0 a1 a2 a3 a4 W1 HR1.out.self ⟨HB.out.1, HB.out.2.1⟩ HB.out.2.2).mono ?_
  rintro e w3 ⟨rfl, hr⟩
  have HR3 := Aside0.mk (HR1.out.trans hr)
  clear hr
  have hlen := headL_len a0 a1 a2 a3 a4
  have HL := Aside0.mk hlen
  generalize hN : (headL a0 a1 a2 a3 a4).length = N at *
  have n1 : (0 ≤ (N : Int)) = True := eq_true (by omega)
  have n2 : ((N : Int) ≤ 14) = True := eq_true (by omega)
  have n3 : (N ≤ 14) = True := eq_true hlen
  clear hlen
  go_wp2
  go_ret
  refine ⟨.slice (some ⟨w.heap.size, 0, none⟩) N 14, rfl, ?_, ?_⟩
  · refine Kd.R_of_own (enc := Value.int .u8) (h1 := fun _ => rfl) ⟨by simp [encs], .inr ⟨w.heap.size, 14, _, by rw [hN], Nat.le_refl _, HR3.out.row, by rw [hN]; exact HL.out, by simp [maxLen], ?_, ?_⟩⟩ (fun _ _ => trivial)
    · have := HL.out
      simp [hN]; omega
    · simp [encs, hN]
  · exact ⟨HR3.out.os, HR3.out.tape, HR3.out.output, HR3.out.size, fun k hk => HR3.out.block k hk (by omega)⟩

end Go.Proofs.Ytpgjcelglimpcaa.GFnFrameHead
