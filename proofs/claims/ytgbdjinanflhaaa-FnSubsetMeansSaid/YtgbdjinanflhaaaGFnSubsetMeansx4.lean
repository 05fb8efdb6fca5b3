/- A walk of Go functions (plain functions of theirs, and that the machine's calls do what these say), written by a program of this session's. -/
import Derived.Test.YtgbdjinanflhaaaGFnSubsetMeansx0
import Derived.Test.YtgbdjinanflhaaaGFnSubsetMeansx2
import Derived.Test.YtgbdjinanflhaaaGFnSubsetMeansx3
namespace Go.Proofs.Ytgbdjinanflhaaa.GFnSubsetMeans
open Go.RowKit Go.Proofs.YtgbdjinanflhaaaW.PrintWords Go.Proofs.YtgbdjinanflhaaaW.PrintLast Go.Proofs.YtgbdjinanflhaaaW.PrintMore
attribute [local go_sem] max2_int min2_int max_two min_two max_three min_three max_four min_four   -- for this text's walks alone
set_option linter.unusedVariables false
set_option linter.unusedSimpArgs false

/-! ### server_isSubsetMatch: function 45 (by hand) -/
set_option maxHeartbeats 8000000 in
set_option maxRecDepth 100000 in
/-- The tokens, appended to a slice of another's array (a cut of a local array): told by 'AR'. -/
theorem server_tokenizeSubjectIntoSlice.onto (k : Nat) (l0 : List ByteArray) (a1 : ByteArray) (r : List ByteArray) (w0 w : World) (v : Value) (hB : Below w0.heap.size w0 w) (ho : Wk.AR w w0.heap.size v (l0.map Value.string)) (h : server_tokenizeSubjectIntoSlice.f k l0 a1 = some r) :
    Calls Try.prog 38 #[v, .string a1] w fun e w' => ∃ v' : Value, e = .returned v' ∧ Wk.AR w' w0.heap.size v' (r.map Value.string) ∧ Below w0.heap.size w0 w' ∧ Wk.Fr w v w' ∧ (v'.ownBlock = v.ownBlock ∨ ∃ k, v'.ownBlock = some k ∧ w.heap.size ≤ k) := by
  have H' := Aside0.mk (show server_tokenizeSubjectIntoSlice.l0 k l0 a1 0 0 = some r from h)
  clear h
  have HO := Aside0.mk ho
  have HB := Aside0.mk hB
  have HF := Aside0.mk (Wk.Fr.refl w v)
  clear ho hB
  go_enter Try.func38, Try.ntmps38
  go_wp2
  go_loopg [0, 5, 6] k (fun kq v0 v5 v6 w' => ∃ (x0_1 : List ByteArray) (x5_1 : Int) (x6_1 : Int), v5 = .int .i64 x5_1 ∧ v6 = .int .i64 x6_1 ∧ Aside0 (server_tokenizeSubjectIntoSlice.l0 kq x0_1 a1 x5_1 x6_1 = some r) ∧ Aside0 (kq ≤ k) ∧ Aside0 (Wk.AR w' w0.heap.size v0 (x0_1.map Value.string)) ∧ Aside0 (Below w0.heap.size w0 w') ∧ Aside0 (Wk.Fr w v w') ∧ Aside0 (v0.ownBlock = v.ownBlock ∨ ∃ k, v0.ownBlock = some k ∧ w.heap.size ≤ k))
  case atStart => exact ⟨l0, (0), (0), rfl, rfl, H', ⟨Nat.le_refl _⟩, ⟨by repeat (first | exact HO.out | apply Wk.AR.alloc | apply Wk.AR.drew)⟩, ⟨by repeat (first | exact HB.out | apply Below.drew)⟩, HF, ⟨.inl rfl⟩⟩
  case round =>
    clear H'
    obtain ⟨x0_1, x5_1, x6_1, rfl, rfl, HA, HK1, HO_0, HB, HF, HV⟩ := hrel
    clear HO
    cases gk with
    | zero => exact absurd HA.out (by simp [server_tokenizeSubjectIntoSlice.l0])
    | succ k1 =>
      have H := HA.out
      clear HA
      simp only [server_tokenizeSubjectIntoSlice.l0] at H
      by_cases c3 : x6_1 < (a1.size : Int)
      · rw [if_pos c3] at H
        have c3b0 : decide (x6_1 < (a1.size : Int)) = true := decide_eq_true c3
        clear c3
        by_cases c4 : 0 ≤ x6_1
        · rw [if_pos c4] at H
          have c4b0 : decide (0 ≤ x6_1) = true := decide_eq_true c4
          clear c4
          by_cases c6 : (bt a1 x6_1) = 46
          · rw [if_pos c6] at H
            have c6b0 : ((bt a1 x6_1) == 46) = true := beq_iff_eq.mpr c6
            have c6b1 : ((bt a1 x6_1) != 46) = false := bne_eq_false_iff_eq.mpr c6
            clear c6
            by_cases c7 : 0 ≤ x5_1
            · rw [if_pos c7] at H
              have c7b0 := eq_true c7
              have c7b1 : decide (0 ≤ x5_1) = true := decide_eq_true c7
              clear c7
              by_cases c8 : x5_1 ≤ x6_1
              · rw [if_pos c8] at H
                have c8b0 := eq_true c8
                have c8b1 : decide (x5_1 ≤ x6_1) = true := decide_eq_true c8
                clear c8
                by_cases c9 : x6_1 ≤ (a1.size : Int)
                · rw [if_pos c9] at H
                  have c9b0 := eq_true c9
                  have c9b1 : decide (x6_1 ≤ (a1.size : Int)) = true := decide_eq_true c9
                  clear c9
                  by_cases c10 : x0_1.length < 8796093022208
                  · rw [if_pos c10] at H
                    have LMc10 := Aside0.mk c10
                    clear c10
                    have H' := Aside0.mk H
                    clear H
                    have p5 : 0 ≤ (x6_1 : Int) := of_decide_eq_true (by first | (with_reducible assumption) | assumption)
                    have q5 : x6_1 < (a1.size : Int) := of_decide_eq_true (by first | (with_reducible assumption) | assumption)
                    have hx5 := bt_at a1 x6_1
                    replace p5 := eq_true p5
                    replace q5 := eq_true q5
                    go_wp2_with (first | ((with_reducible refine gate_builtin (b := .append) (xs := #[.tmp 17, .tmp 22]) rfl ?_); at_builtin; refine Wk.AR.append (N := w0.heap.size) (w0 := w0) rfl (.tmp 17) (.tmp 22) 31 9 (.string ⟨#[]⟩) 16 rfl Try.underlying31 info9 rfl rfl (by repeat (first | exact HO_0.out | apply Wk.AR.alloc | apply Wk.AR.drew)) (Nat.le_refl _) ?cW ?cB _ _ (.string (a1.extract (x5_1 : Int).toNat (x6_1 : Int).toNat)) rfl ?cU rfl ?cL ?c6 ?_; (case cW => have := HB.out.size; simp; omega); (case cB => repeat (first | exact HB.out | apply below_alloc | apply Below.drew)); (case cU => simp); (case cL => have := LMc10.out; rw [List.length_map]; omega); (case c6 => have := LMc10.out; rw [List.length_map]; simp only [maxLen]; omega); intro v126 w11 q1 q2 q3 q4 q5; have n1 := Aside0.mk q1; have n2 := Aside0.mk q2; have n3 := Aside0.mk (Wk.frame_step HF.out HV.out (Wk.alloc_frame _ _) q3 q4); have n4 := Aside0.mk (Wk.own_step HF.out HV.out (by simp) q5); clear q1 q2 q3 q4 q5 HO_0 HB HF HV; have HO127 := n1; have HB := n2; have HF := n3; have HV := n4; clear n1 n2 n3 n4))
                    go_roundg k1
                    case measure => have := HK1.out; omega
                    case rel => exact ⟨_, (wrap64 (x6_1 + 1)), (wrap64 (x6_1 + 1)), (by first | rfl | (simp; done) | (simp [*]; done)), (by first | rfl | (simp; done) | (simp [*]; done)), H', ⟨by have := HK1.out; omega⟩, ⟨by have := HO127.out; first | exact this | (rw [List.map_append]; exact this)⟩, HB, HF, HV⟩
                  · rw [if_neg c10] at H
                    exact absurd H (by simp)
                · rw [if_neg c9] at H
                  exact absurd H (by simp)
              · rw [if_neg c8] at H
                exact absurd H (by simp)
            · rw [if_neg c7] at H
              exact absurd H (by simp)
          · rw [if_neg c6] at H
            have c6b0 : ((bt a1 x6_1) == 46) = false := beq_eq_false_iff_ne.mpr c6
            have c6b1 : ((bt a1 x6_1) != 46) = true := bne_iff_ne.mpr c6
            have H' := Aside0.mk H
            clear H
            have p5 : 0 ≤ (x6_1 : Int) := of_decide_eq_true (by first | (with_reducible assumption) | assumption)
            have q5 : x6_1 < (a1.size : Int) := of_decide_eq_true (by first | (with_reducible assumption) | assumption)
            have hx5 := bt_at a1 x6_1
            replace p5 := eq_true p5
            replace q5 := eq_true q5
            go_wp2
            go_roundg k1
            case measure => have := HK1.out; omega
            case rel => exact ⟨(x0_1), (x5_1), (wrap64 (x6_1 + 1)), (by first | rfl | (simp; done) | (simp [*]; done)), (by first | rfl | (simp; done) | (simp [*]; done)), H', ⟨by have := HK1.out; omega⟩, ⟨by repeat (first | exact HO_0.out | apply Wk.AR.alloc | apply Wk.AR.drew)⟩, HB, HF, HV⟩
        · rw [if_neg c4] at H
          exact absurd H (by simp)
      · rw [if_neg c3] at H
        have c3b0 : decide (x6_1 < (a1.size : Int)) = false := decide_eq_false c3
        clear c3
        by_cases c12 : 0 ≤ x5_1
        · rw [if_pos c12] at H
          have c12b0 := eq_true c12
          have c12b1 : decide (0 ≤ x5_1) = true := decide_eq_true c12
          clear c12
          by_cases c13 : x5_1 ≤ (a1.size : Int)
          · rw [if_pos c13] at H
            have c13b0 := eq_true c13
            have c13b1 : decide (x5_1 ≤ (a1.size : Int)) = true := decide_eq_true c13
            clear c13
            by_cases c14 : x0_1.length < 8796093022208
            · rw [if_pos c14] at H
              have LMc14 := Aside0.mk c14
              clear c14
              obtain rfl := Option.some.inj H
              go_wp2_with (first | ((with_reducible refine gate_builtin (b := .append) (xs := #[.tmp 26, .tmp 30]) rfl ?_); at_builtin; refine Wk.AR.append (N := w0.heap.size) (w0 := w0) rfl (.tmp 26) (.tmp 30) 31 9 (.string ⟨#[]⟩) 16 rfl Try.underlying31 info9 rfl rfl (by repeat (first | exact HO_0.out | apply Wk.AR.alloc | apply Wk.AR.drew)) (Nat.le_refl _) ?cW ?cB _ _ (.string (a1.extract (x5_1 : Int).toNat a1.size)) rfl ?cU rfl ?cL ?c6 ?_; (case cW => have := HB.out.size; simp; omega); (case cB => repeat (first | exact HB.out | apply below_alloc | apply Below.drew)); (case cU => simp); (case cL => have := LMc14.out; rw [List.length_map]; omega); (case c6 => have := LMc14.out; rw [List.length_map]; simp only [maxLen]; omega); intro v126 w11 q1 q2 q3 q4 q5; have n1 := Aside0.mk q1; have n2 := Aside0.mk q2; have n3 := Aside0.mk (Wk.frame_step HF.out HV.out (Wk.alloc_frame _ _) q3 q4); have n4 := Aside0.mk (Wk.own_step HF.out HV.out (by simp) q5); clear q1 q2 q3 q4 q5 HO_0 HB HF HV; have HO127 := n1; have HB := n2; have HF := n3; have HV := n4; clear n1 n2 n3 n4))
              go_ret
              exact ⟨v126, rfl, by have := HO127.out; first | exact this | (rw [List.map_append]; exact this), HB.out, HF.out, HV.out⟩
            · rw [if_neg c14] at H
              exact absurd H (by simp)
          · rw [if_neg c13] at H
            exact absurd H (by simp)
        · rw [if_neg c12] at H
          exact absurd H (by simp)
def server_isSubsetMatch.f (k : Nat) (l0 : List ByteArray) (a1 : ByteArray) : Option Bool := (server_tokenizeSubjectIntoSlice.f k [] a1).bind fun t => server_isSubsetMatchTokenized.f k l0 t
theorem server_isSubsetMatch.mono : ∀ l0 a1 k, LeO (server_isSubsetMatch.f k l0 a1) (server_isSubsetMatch.f (k + 1) l0 a1) := by
  intro l0 a1 k
  unfold server_isSubsetMatch.f
  exact LeO.bind (server_tokenizeSubjectIntoSlice.mono _ _ _) (fun _ => server_isSubsetMatchTokenized.mono _ _ _)
set_option maxHeartbeats 8000000 in
set_option maxRecDepth 100000 in
theorem server_isSubsetMatch.calls (k : Nat) (A0 : Option Addr) (c0 : Nat) (l0 : List ByteArray) (a1 : ByteArray) (r : Bool) (w : World) (hr0 : Kd.C Kd.string w A0 l0.length l0) (hc0 : l0.length ≤ c0) (h : server_isSubsetMatch.f k l0 a1 = some r) :
    Calls Try.prog 45 #[.slice A0 l0.length c0, .string a1] w fun e w' => e = .returned (.bool r) ∧ Below w.heap.size w w' := by
  obtain ⟨t, ht, h2⟩ := Option.bind_eq_some_iff.mp h
  have HT := Aside0.mk ht
  have H2 := Aside0.mk h2
  clear h ht h2
  have HR0 := Aside0.mk hr0
  have HC0 := Aside0.mk hc0
  clear hr0 hc0
  go_enter Try.func45, Try.ntmps45
  go_upto_region 1 with (fail)
  refine wp_region_lit ?_
  refine Wk.arrL_ (Array.replicate 32 (.string ⟨#[]⟩)) (T := 35) (N1 := 7) (N2 := 5) rfl rfl rfl rfl rfl rfl (fun _ _ => by kernel_rfl) (fun _ _ => by kernel_rfl) rfl (by kernel_rfl) (by simp [Value.oneCell']) rfl rfl ?_
  intro w2 cur hB hblk hcur hsz
  simp only [Act.put, List.setIfInBounds_toArray, List.set_cons_zero, List.set_cons_succ]
  generalize Value.agg (Array.replicate 32 (.string ⟨#[]⟩)) = v7
  have HO := Aside0.mk (Wk.AR.made (base := w.heap.size) (n := 32) hblk (Nat.le_refl _) (by rw [← Array.length_toList, hcur]; simp) (by simp only [maxLen]; omega))
  have hshape : w2.shape? w.heap.size = some (35, 32) := Wk.shape_of hblk (by rw [← Array.length_toList, hcur]; simp)
  have HB := Aside0.mk hB
  clear hB hcur hsz hblk
  clear hshape
  go_wp2_with fail
  refine (server_tokenizeSubjectIntoSlice.onto k [] a1 t w w2 _ HB.out HO.out HT.out).mono ?_
  rintro e w3 ⟨v3, rfl, q1, q2, -⟩
  obtain ⟨A1, c1, rfl, hc1, hC1⟩ := q1.strings
  clear q1
  have HB3 := Aside0.mk q2
  have HC1 := Aside0.mk hC1
  have HL1 := Aside0.mk hc1
  clear q2 hC1 hc1
  go_wp2_with fail
  refine (server_isSubsetMatchTokenized.calls k A0 c0 l0 A1 c1 t r w3 (Kd.C_below HR0.out HB3.out) HC0.out HC1.out HL1.out H2.out).mono ?_
  rintro e w' ⟨rfl, ⟨nd, rfl⟩⟩
  go_wp2
  go_ret
  exact ⟨rfl, pw_below_drewN HB3.out nd⟩

/-! ### server_subjectIsSubsetMatch: function 36 (by hand) -/
def server_subjectIsSubsetMatch.f (k : Nat) (a0 a1 : ByteArray) : Option Bool := (server_tokenizeSubjectIntoSlice.f k [] a0).bind fun t => server_isSubsetMatch.f k t a1
theorem server_subjectIsSubsetMatch.mono : ∀ a0 a1 k, LeO (server_subjectIsSubsetMatch.f k a0 a1) (server_subjectIsSubsetMatch.f (k + 1) a0 a1) := by
  intro a0 a1 k
  unfold server_subjectIsSubsetMatch.f
  exact LeO.bind (server_tokenizeSubjectIntoSlice.mono _ _ _) (fun _ => server_isSubsetMatch.mono _ _ _)
set_option maxHeartbeats 8000000 in
set_option maxRecDepth 100000 in
theorem server_subjectIsSubsetMatch.calls (k : Nat) (a0 a1 : ByteArray) (r : Bool) (w : World) (h : server_subjectIsSubsetMatch.f k a0 a1 = some r) :
    Calls Try.prog 36 #[.string a0, .string a1] w fun e w' => e = .returned (.bool r) ∧ Below w.heap.size w w' := by
  obtain ⟨t, ht, h2⟩ := Option.bind_eq_some_iff.mp h
  have HT := Aside0.mk ht
  have H2 := Aside0.mk h2
  clear h ht h2
  go_enter Try.func36, Try.ntmps36
  go_upto_region 1 with (fail)
  refine wp_region_lit ?_
  refine Wk.arrL_ (Array.replicate 32 (.string ⟨#[]⟩)) (T := 35) (N1 := 7) (N2 := 5) rfl rfl rfl rfl rfl rfl (fun _ _ => by kernel_rfl) (fun _ _ => by kernel_rfl) rfl (by kernel_rfl) (by simp [Value.oneCell']) rfl rfl ?_
  intro w2 cur hB hblk hcur hsz
  simp only [Act.put, List.setIfInBounds_toArray, List.set_cons_zero, List.set_cons_succ]
  generalize Value.agg (Array.replicate 32 (.string ⟨#[]⟩)) = v7
  have HO := Aside0.mk (Wk.AR.made (base := w.heap.size) (n := 32) hblk (Nat.le_refl _) (by rw [← Array.length_toList, hcur]; simp) (by simp only [maxLen]; omega))
  have hshape : w2.shape? w.heap.size = some (35, 32) := Wk.shape_of hblk (by rw [← Array.length_toList, hcur]; simp)
  have HB := Aside0.mk hB
  clear hB hcur hsz hblk
  go_wp2_with fail
  clear hshape
  go_wp2_with fail
  refine (server_tokenizeSubjectIntoSlice.onto k [] a0 t w w2 _ HB.out HO.out HT.out).mono ?_
  rintro e w3 ⟨v3, rfl, q1, q2, -⟩
  obtain ⟨A1, c1, rfl, hc1, hC1⟩ := q1.strings
  clear q1
  have HB3 := Aside0.mk q2
  have HC1 := Aside0.mk hC1
  have HL1 := Aside0.mk hc1
  clear q2 hC1 hc1
  go_wp2_with fail
  refine (server_isSubsetMatch.calls k A1 c1 t a1 r w3 HC1.out HL1.out H2.out).mono ?_
  rintro e w4 ⟨rfl, hb⟩
  have HB4 := Aside0.mk (below_step HB3.out hb)
  clear hb
  go_wp2
  go_ret
  exact ⟨rfl, HB4.out⟩

/-! ### server_SubjectMatchesFilter: function 24 -/
def server_SubjectMatchesFilter.f (k : Nat) (a0 : ByteArray) (a1 : ByteArray) : Option (Bool) := (server_subjectIsSubsetMatch.f k a0 a1).bind fun t134 => (some t134)
theorem server_SubjectMatchesFilter.mono : ∀ a0 a1 k, LeO (server_SubjectMatchesFilter.f k a0 a1) (server_SubjectMatchesFilter.f (k + 1) a0 a1) := by
  intro a0 a1 k
  unfold server_SubjectMatchesFilter.f
  repeat' first
      | (with_reducible exact server_subjectIsSubsetMatch.mono _ _ _)
      | (with_reducible exact LeO.refl _)
      | (with_reducible exact LeO.none _)
      | (with_reducible refine LeO.ite ?_ ?_)
      | (with_reducible refine LeO.bind ?_ (fun _ => ?_))
      | exact server_subjectIsSubsetMatch.mono _ _ _
      | exact LeO.none _
      | refine LeO.ite ?_ ?_
      | refine LeO.bind ?_ (fun _ => ?_)
set_option maxHeartbeats 8000000 in
set_option maxRecDepth 100000 in
theorem server_SubjectMatchesFilter.calls (k : Nat) (a0 : ByteArray) (a1 : ByteArray) (r : Bool) (w : World) (h : server_SubjectMatchesFilter.f k a0 a1 = some r) :
    Calls Try.prog 24 #[.string a0, .string a1] w fun e w' => e = .returned (.bool r) ∧ Below w.heap.size w w' := by
  have HB := Aside0.mk (Below.refl w.heap.size w)
  have H : ((server_subjectIsSubsetMatch.f k a0 a1).bind fun t134 => (some t134)) = some r := h
  clear h
  replace H := Option.bind_eq_some_iff.mp H
  obtain ⟨t134, A30, H⟩ := H
  replace H : (some t134) = some r := H
  have A3 := Aside0.mk A30
  clear A30
  obtain rfl := Option.some.inj H
  go_enter Try.func24, Try.ntmps24
  go_wp2_with (first | ((with_reducible refine gate_callee (f := 36) rfl ?_); refine goesL_ (some 7) rfl rfl Try.func36 (by kernel_rfl) rfl #[.string a0, .string a1] rfl (by (try simp only [List.map_toArray, List.map_cons, List.map_nil]); first | done | rfl | (simp only [List.length_drop, List.length_take]; rfl)) ?_; (with_reducible refine (server_subjectIsSubsetMatch.calls k a0 a1 t134 _ A3.out).mono ?_); rintro e w4 ⟨rfl, hb⟩; refine ⟨_, rfl, ?_⟩; have n0_ := Aside0.mk (below_step (by repeat (first | (with_reducible first | exact HB.out | apply below_alloc | apply pw_below_drewN | apply below_drew1) | exact HB.out)) hb); clear HB; have HB := n0_; clear n0_; (try clear hb); (try clear hb2); (try clear hk); (try clear hi)))
  go_ret
  exact ⟨by first | rfl | (simp [errW_none, errW_some] <;> rfl) | (simp [*, errW_none, errW_some] <;> rfl), by repeat (first | (with_reducible first | exact HB.out | apply below_alloc | apply pw_below_drewN | apply below_drew1) | exact HB.out)⟩

/-! ### impl_Matches: function 8 -/
def impl_Matches.f (k : Nat) (a0 : ByteArray) (a1 : ByteArray) : Option (Bool) := (server_SubjectMatchesFilter.f k a0 a1).bind fun t135 => (some t135)
theorem impl_Matches.mono : ∀ a0 a1 k, LeO (impl_Matches.f k a0 a1) (impl_Matches.f (k + 1) a0 a1) := by
  intro a0 a1 k
  unfold impl_Matches.f
  repeat' first
      | (with_reducible exact server_SubjectMatchesFilter.mono _ _ _)
      | (with_reducible exact LeO.refl _)
      | (with_reducible exact LeO.none _)
      | (with_reducible refine LeO.ite ?_ ?_)
      | (with_reducible refine LeO.bind ?_ (fun _ => ?_))
      | exact server_SubjectMatchesFilter.mono _ _ _
      | exact LeO.none _
      | refine LeO.ite ?_ ?_
      | refine LeO.bind ?_ (fun _ => ?_)
set_option maxHeartbeats 8000000 in
set_option maxRecDepth 100000 in
theorem impl_Matches.calls (k : Nat) (a0 : ByteArray) (a1 : ByteArray) (r : Bool) (w : World) (h : impl_Matches.f k a0 a1 = some r) :
    Calls Try.prog 8 #[.string a0, .string a1] w fun e w' => e = .returned (.bool r) ∧ Below w.heap.size w w' := by
  have HB := Aside0.mk (Below.refl w.heap.size w)
  have H : ((server_SubjectMatchesFilter.f k a0 a1).bind fun t135 => (some t135)) = some r := h
  clear h
  replace H := Option.bind_eq_some_iff.mp H
  obtain ⟨t135, A30, H⟩ := H
  replace H : (some t135) = some r := H
  have A3 := Aside0.mk A30
  clear A30
  obtain rfl := Option.some.inj H
  go_enter Try.func8, Try.ntmps8
  go_wp2_with (first | ((with_reducible refine gate_callee (f := 24) rfl ?_); refine goesL_ (some 7) rfl rfl Try.func24 (by kernel_rfl) rfl #[.string a0, .string a1] rfl (by (try simp only [List.map_toArray, List.map_cons, List.map_nil]); first | done | rfl | (simp only [List.length_drop, List.length_take]; rfl)) ?_; (with_reducible refine (server_SubjectMatchesFilter.calls k a0 a1 t135 _ A3.out).mono ?_); rintro e w4 ⟨rfl, hb⟩; refine ⟨_, rfl, ?_⟩; have n0_ := Aside0.mk (below_step (by repeat (first | (with_reducible first | exact HB.out | apply below_alloc | apply pw_below_drewN | apply below_drew1) | exact HB.out)) hb); clear HB; have HB := n0_; clear n0_; (try clear hb); (try clear hb2); (try clear hk); (try clear hi)))
  go_ret
  exact ⟨by first | rfl | (simp [errW_none, errW_some] <;> rfl) | (simp [*, errW_none, errW_some] <;> rfl), by repeat (first | (with_reducible first | exact HB.out | apply below_alloc | apply pw_below_drewN | apply below_drew1) | exact HB.out)⟩

end Go.Proofs.Ytgbdjinanflhaaa.GFnSubsetMeans
