/- A walk of Go functions (plain functions of theirs, and that the machine's calls do what these say), written by a program of this session's. -/
import Derived.Test.YtgbdjinanflhaaaGFnSubsetMeansx0
import Derived.Test.YtgbdjinanflhaaaGFnSubsetMeansx2
import Derived.Test.YtgbdjinanflhaaaGFnSubsetMeansx3
import Derived.Test.YtgbdjinanflhaaaGFnSubsetMeansx4
import Derived.Test.YtgbdjinanflhaaaGFnSubsetMeansx6
namespace Go.Proofs.Ytgbdjinanflhaaa.GFnSubsetMeans
open Go.RowKit Go.Proofs.YtgbdjinanflhaaaW.PrintWords Go.Proofs.YtgbdjinanflhaaaW.PrintLast Go.Proofs.YtgbdjinanflhaaaW.PrintMore
attribute [local go_sem] max2_int min2_int max_two min_two max_three min_three max_four min_four   -- for this text's walks alone
set_option linter.unusedVariables false
set_option linter.unusedSimpArgs false

/-! ### server_SubjectsCollide: function 30 (by hand) -/
/-- Whether all tokens of both, up to a place, can be the same. -/
def server_SubjectsCollide.l0 : Nat → List ByteArray → List ByteArray → Int → Int → Option Bool
  | 0, _, _, _, _ => none
  | k + 1, ta, tb, st, i => if i < st then (if 0 ≤ i then (if i < (ta.length : Int) then (if i < (tb.length : Int) then ((server_tokensCanMatch.f k (rdOf ByteArray.empty ta i) (rdOf ByteArray.empty tb i)).bind fun t => if t = true then server_SubjectsCollide.l0 k ta tb st (wrap64 (i + 1)) else some false) else none) else none) else none) else some true
def server_SubjectsCollide.tail (k : Nat) (ta tb : List ByteArray) (p1 f1 p2 f2 : Bool) : Option Bool :=
  if !(p1 || f1) && !(p2 || f2) then some false
  else if !(p1 || f1) then server_isSubsetMatchTokenized.f k ta tb
  else if !(p2 || f2) then server_isSubsetMatchTokenized.f k tb ta
  else if !f1 && !f2 && decide (ta.length ≠ tb.length) then some false
  else if decide (ta.length < tb.length) && !f1 || decide (tb.length < ta.length) && !f2 then some false
  else server_SubjectsCollide.l0 k ta tb ((min ta.length tb.length : Nat) : Int) 0
def server_SubjectsCollide.f (k : Nat) (a0 a1 : ByteArray) : Option Bool :=
  if a0.toList = a1.toList then some true else
  (server_tokenizeSubjectIntoSlice.f k [] a0).bind fun ta => (server_tokenizeSubjectIntoSlice.f k [] a1).bind fun tb =>
  (server_analyzeTokens.f k ta).bind fun q1 => (server_analyzeTokens.f k tb).bind fun q2 => server_SubjectsCollide.tail k ta tb q1.1 q1.2 q2.1 q2.2
theorem server_SubjectsCollide.mono_l : ∀ k ta tb st i, LeO (server_SubjectsCollide.l0 k ta tb st i) (server_SubjectsCollide.l0 (k + 1) ta tb st i)
  | 0, _, _, _, _ => fun r h => by simp [server_SubjectsCollide.l0] at h
  | k + 1, ta, tb, st, i => by
    unfold server_SubjectsCollide.l0
    repeat' (first | exact LeO.refl _ | exact server_SubjectsCollide.mono_l k _ _ _ _ | refine LeO.bind (server_tokensCanMatch.mono _ _ _) (fun t => ?_) | split)
theorem server_SubjectsCollide.mono : ∀ a0 a1 k, LeO (server_SubjectsCollide.f k a0 a1) (server_SubjectsCollide.f (k + 1) a0 a1) := by
  intro a0 a1 k
  unfold server_SubjectsCollide.f
  split
  · exact LeO.refl _
  · refine LeO.bind (server_tokenizeSubjectIntoSlice.mono _ _ _) (fun ta => LeO.bind (server_tokenizeSubjectIntoSlice.mono _ _ _) (fun tb => LeO.bind (server_analyzeTokens.mono _ _) (fun q1 => LeO.bind (server_analyzeTokens.mono _ _) (fun q2 => ?_))))
    unfold server_SubjectsCollide.tail
    repeat' (first | exact LeO.refl _ | exact server_isSubsetMatchTokenized.mono _ _ _ | exact server_SubjectsCollide.mono_l _ _ _ _ _ | split)
set_option maxHeartbeats 8000000 in
set_option maxRecDepth 100000 in
theorem server_SubjectsCollide.calls (k : Nat) (a0 a1 : ByteArray) (r : Bool) (w : World) (h : server_SubjectsCollide.f k a0 a1 = some r) :
    Calls Try.prog 30 #[.string a0, .string a1] w fun e w' => e = .returned (.bool r) ∧ Below w.heap.size w w' := by
  unfold server_SubjectsCollide.f at h
  by_cases hab : a0.toList = a1.toList
  · rw [if_pos hab] at h
    obtain rfl := Option.some.inj h
    have hb : (a0.toList == a1.toList) = true := beq_iff_eq.mpr hab
    go_enter Try.func30, Try.ntmps30
    go_wp2
    go_ret
    exact ⟨rfl, Below.refl _ _⟩
  rw [if_neg hab] at h
  have hb : (a0.toList == a1.toList) = false := beq_eq_false_iff_ne.mpr hab
  clear hab
  obtain ⟨ta, hta, g1⟩ := Option.bind_eq_some_iff.mp h
  obtain ⟨tb, htb, g2⟩ := Option.bind_eq_some_iff.mp g1
  obtain ⟨⟨p1, f1⟩, hq1, g3⟩ := Option.bind_eq_some_iff.mp g2
  obtain ⟨⟨p2, f2⟩, hq2, g4⟩ := Option.bind_eq_some_iff.mp g3
  have TA := Aside0.mk hta
  have TB := Aside0.mk htb
  have Q1 := Aside0.mk hq1
  have Q2 := Aside0.mk hq2
  have H := Aside0.mk g4
  clear hta htb hq1 hq2 h g1 g2 g3 g4
  go_enter Try.func30, Try.ntmps30
  go_upto_region 3 with (fail)
  refine wp_region_lit ?_
  refine Wk.arr2L_ (Array.replicate 32 (.string ⟨#[]⟩)) (T := 35) (N1 := 24) (N2 := 25) (N3 := 5) (N4 := 6) rfl rfl rfl rfl rfl rfl rfl rfl rfl rfl rfl rfl (fun _ _ => by kernel_rfl) (fun _ _ => by kernel_rfl) (fun _ _ => by kernel_rfl) (fun _ _ => by kernel_rfl) rfl rfl (by kernel_rfl) (by simp [Value.oneCell']) _ rfl rfl rfl rfl rfl ?_
  intro w2 cur cur2 hB hblk hblk2 hcur hcur2 hsz
  simp only [Act.put, List.setIfInBounds_toArray, List.set_cons_zero, List.set_cons_succ]
  generalize Value.agg (Array.replicate 32 (.string ⟨#[]⟩)) = v7
  have HO := Aside0.mk (Wk.AR.made (base := w.heap.size) (n := 32) hblk (Nat.le_refl _) (by rw [← Array.length_toList, hcur]; simp) (by simp only [maxLen]; omega))
  have HO2 := Aside0.mk (Wk.AR.made (base := w.heap.size) (n := 32) hblk2 (by omega) (by rw [← Array.length_toList, hcur2]; simp) (by simp only [maxLen]; omega))
  have hshape : w2.shape? w.heap.size = some (35, 32) := Wk.shape_of hblk (by rw [← Array.length_toList, hcur]; simp)
  have HB := Aside0.mk hB
  have HBLK2 := Aside0.mk hblk2
  have HC2 := Aside0.mk hcur2
  have HSZ := Aside0.mk hsz
  clear hB hcur hsz hblk hblk2 hcur2
  go_wp2_with fail
  clear hshape
  refine (server_tokenizeSubjectIntoSlice.onto k [] a0 ta w w2 _ HB.out HO.out TA.out).mono ?_
  rintro e w3 ⟨v3, rfl, q1, q2, q3, q4⟩
  have hsz := HSZ.out
  have HO3 := Aside0.mk (Wk.AR.frame HO2.out q3 (by simp [Value.ownBlock]))
  have hblk3 : w3.heap[w.heap.size + 1]? = some (.cells cur2 35 (0, 0)) := (q3.1 _ (by omega) (by simp [Value.ownBlock])).trans HBLK2.out
  have hshape : w3.shape? (w.heap.size + 1) = some (35, 32) := Wk.shape_of hblk3 (by rw [← Array.length_toList, HC2.out]; simp)
  have HV1 := Aside0.mk q1
  have HB3 := Aside0.mk q2
  have HN1 : Aside0 (v3.ownBlock ≠ some (w.heap.size + 1)) := ⟨by
    intro hh
    rcases q4 with g | ⟨k', g, hk'⟩
    · rw [g] at hh; simp [Value.ownBlock] at hh
    · rw [g] at hh; injection hh with hh; omega⟩
  clear q1 q2 q3 q4 hblk3 hsz HO2 HO HB HBLK2 HC2 HSZ
  go_wp2_with fail
  clear hshape
  refine (server_tokenizeSubjectIntoSlice.onto k [] a1 tb w w3 _ HB3.out HO3.out TB.out).mono ?_
  rintro e w4 ⟨v4, rfl, q1, q2, q3, q4⟩
  obtain ⟨A1, c1, rfl, hc1, hC1⟩ := (Wk.AR.frame HV1.out q3 HN1.out).strings
  obtain ⟨A2, c2, rfl, hc2, hC2⟩ := q1.strings
  have HB4 := Aside0.mk q2
  have HC1 := Aside0.mk hC1
  have HC2 := Aside0.mk hC2
  have HL1 := Aside0.mk hc1
  have HL2 := Aside0.mk hc2
  clear q1 q2 q3 q4 HV1 HB3 HN1 hC1 hC2 hc1 hc2 HO3 TA TB
  go_wp2_with fail
  refine (server_analyzeTokens.calls k A1 c1 ta p1 f1 w4 HC1.out HL1.out Q1.out).mono ?_
  rintro e w' ⟨rfl, ⟨nd, rfl⟩⟩
  go_wp2_with fail
  refine (server_analyzeTokens.calls k A2 c2 tb p2 f2 _ (Kd.C_drewN HC2.out nd) HL2.out Q2.out).mono ?_
  rintro e w' ⟨rfl, ⟨nd2, rfl⟩⟩
  clear Q1 Q2
  have HCA := Aside0.mk (Kd.C_drewN (Kd.C_drewN HC1.out nd) nd2)
  have HCB := Aside0.mk (Kd.C_drewN (Kd.C_drewN HC2.out nd) nd2)
  have HBW := Aside0.mk (pw_below_drewN (pw_below_drewN HB4.out nd) nd2)
  generalize (w4.drewN nd).drewN nd2 = W at *
  clear HC1 HC2 HB4
  rcases p1 with _ | _ <;> rcases f1 with _ | _ <;> rcases p2 with _ | _ <;> rcases f2 with _ | _
  · obtain rfl : false = r := by have h := H.out; simpa [server_SubjectsCollide.tail] using h
    go_wp2
    go_ret
    exact ⟨rfl, HBW.out⟩
  · have H1 := Aside0.mk (show server_isSubsetMatchTokenized.f k ta tb = some r from by have h := H.out; simpa [server_SubjectsCollide.tail] using h)
    go_wp2_with fail
    refine (server_isSubsetMatchTokenized.calls k A1 c1 ta A2 c2 tb r W HCA.out HL1.out HCB.out HL2.out H1.out).mono ?_
    rintro e w' ⟨rfl, ⟨nd, rfl⟩⟩
    go_wp2
    go_ret
    exact ⟨rfl, pw_below_drewN HBW.out nd⟩
  · have H1 := Aside0.mk (show server_isSubsetMatchTokenized.f k ta tb = some r from by have h := H.out; simpa [server_SubjectsCollide.tail] using h)
    go_wp2_with fail
    refine (server_isSubsetMatchTokenized.calls k A1 c1 ta A2 c2 tb r W HCA.out HL1.out HCB.out HL2.out H1.out).mono ?_
    rintro e w' ⟨rfl, ⟨nd, rfl⟩⟩
    go_wp2
    go_ret
    exact ⟨rfl, pw_below_drewN HBW.out nd⟩
  · have H1 := Aside0.mk (show server_isSubsetMatchTokenized.f k ta tb = some r from by have h := H.out; simpa [server_SubjectsCollide.tail] using h)
    go_wp2_with fail
    refine (server_isSubsetMatchTokenized.calls k A1 c1 ta A2 c2 tb r W HCA.out HL1.out HCB.out HL2.out H1.out).mono ?_
    rintro e w' ⟨rfl, ⟨nd, rfl⟩⟩
    go_wp2
    go_ret
    exact ⟨rfl, pw_below_drewN HBW.out nd⟩
  · have H1 := Aside0.mk (show server_isSubsetMatchTokenized.f k tb ta = some r from by have h := H.out; simpa [server_SubjectsCollide.tail] using h)
    go_wp2_with fail
    refine (server_isSubsetMatchTokenized.calls k A2 c2 tb A1 c1 ta r W HCB.out HL2.out HCA.out HL1.out H1.out).mono ?_
    rintro e w' ⟨rfl, ⟨nd, rfl⟩⟩
    go_wp2
    go_ret
    exact ⟨rfl, pw_below_drewN HBW.out nd⟩
  · rcases Nat.lt_trichotomy ta.length tb.length with d | d | d
    · have n1 : ((ta.length : Int) != (tb.length : Int)) = true := by exact bne_iff_ne.mpr (by omega)
      have n2 : decide ((ta.length : Int) < (tb.length : Int)) = true := decide_eq_true (by omega)
      have n3 : decide ((tb.length : Int) < (ta.length : Int)) = false := decide_eq_false (by omega)
      have m1 : (ta.length < tb.length) = True := by simp; omega
      have m2 : (tb.length < ta.length) = False := by simp; omega
      have H1 : Aside0 (server_SubjectsCollide.l0 k ta tb (ta.length : Int) 0 = some r) := ⟨by
        have h := H.out
        have hm : min ta.length tb.length = ta.length := by omega
        simp only [server_SubjectsCollide.tail, hm] at h
        simp [show ¬ ta.length = tb.length by omega, show (ta.length < tb.length) = True by simp; omega, show (tb.length < ta.length) = False by simp; omega] at h
        exact h⟩
      clear d
      clear H
      go_wp2
      go_loopg [18] k (fun kq v18 w' => ∃ (x : Int), v18 = .int .i64 x ∧ Aside0 (server_SubjectsCollide.l0 kq ta tb (ta.length : Int) x = some r) ∧ Aside0 (kq ≤ k) ∧ Drawn0 W w')
      case atStart => exact ⟨0, rfl, H1, ⟨Nat.le_refl _⟩, Drawn0.refl _⟩
      case round =>
        clear H1
        obtain ⟨x, rfl, HA, HK, ⟨m, rfl⟩⟩ := hrel
        cases gk with
        | zero => exact absurd HA.out (by simp [server_SubjectsCollide.l0])
        | succ k1 =>
          have H := HA.out
          clear HA
          simp only [server_SubjectsCollide.l0] at H
          by_cases c1 : x < (ta.length : Int)
          · rw [if_pos c1] at H
            have c1b : decide (x < (ta.length : Int)) = true := decide_eq_true c1
            clear c1
            by_cases p1 : 0 ≤ x
            · rw [if_pos p1] at H
              by_cases q1 : x < (ta.length : Int)
              · rw [if_pos q1] at H
                by_cases q2 : x < (tb.length : Int)
                · rw [if_pos q2] at H
                  obtain ⟨t, ht, H3⟩ := Option.bind_eq_some_iff.mp H
                  have HT := Aside0.mk ht
                  have H3 := Aside0.mk H3
                  clear ht H
                  obtain ⟨ad1, e1, hx1⟩ := Kd.at_string (Kd.C_drewN HCA.out m) x p1 q1
                  obtain ⟨ad2, e2, hx2⟩ := Kd.at_string (Kd.C_drewN HCB.out m) x p1 q2
                  cases e1
                  cases e2
                  replace p1 := eq_true p1
                  replace q1 := eq_true q1
                  replace q2 := eq_true q2
                  go_wp2
                  refine start_ (n := 10) (S := fun w' => w'.cell? (ad1.add x.toNat) = some (.string (rdOf ByteArray.empty ta x)) ∧ w'.cell? (ad2.add x.toNat) = some (.string (rdOf ByteArray.empty tb x))) (ds := []) #[false, false, false, false, false, false, false, false, false, false] (by kernel_rfl) rfl rfl ⟨hx1, hx2⟩ (fun hHeld => ?_)
                  refine pure_ (i := 0) (N := some 124) (v := ?_) (a' := ?_) #[true, false, false, false, false, false, false, false, false, false] rfl rfl (by kernel_rfl) (fun _ _ _ h => h) (Or.inl ⟨by rfl, ?_⟩) ?_ ?_
                  rotate_left
                  · intro w'
                    go_simp
                    with_reducible rfl
                  rotate_left
                  · simp only [Act.put, List.setIfInBounds_toArray, List.set_cons_zero, List.set_cons_succ, i64_w, i32_w]
                    rfl
                  refine pure_ (i := 1) (N := some 125) (v := ?_) (a' := ?_) #[true, true, false, false, false, false, false, false, false, false] rfl rfl (by kernel_rfl) (fun _ _ _ h => h) (Or.inl ⟨by rfl, ?_⟩) ?_ ?_
                  rotate_left
                  · intro w'
                    go_simp
                    with_reducible rfl
                  rotate_left
                  · simp only [Act.put, List.setIfInBounds_toArray, List.set_cons_zero, List.set_cons_succ, i64_w, i32_w]
                    rfl
                  refine pure_ (i := 2) (N := some 126) (v := ?_) (a' := ?_) #[true, true, true, false, false, false, false, false, false, false] rfl rfl (by kernel_rfl) (fun _ _ _ h => h) (Or.inl ⟨by rfl, ?_⟩) ?_ ?_
                  rotate_left
                  · intro w'
                    go_simp
                    with_reducible rfl
                  rotate_left
                  · simp only [Act.put, List.setIfInBounds_toArray, List.set_cons_zero, List.set_cons_succ, i64_w, i32_w]
                    rfl
                  refine pure_ (i := 4) (N := some 128) (v := ?_) (a' := ?_) #[true, true, true, false, true, false, false, false, false, false] rfl rfl (by kernel_rfl) (fun _ _ _ h => h) (Or.inl ⟨by rfl, ?_⟩) ?_ ?_
                  rotate_left
                  · intro w'
                    go_simp
                    with_reducible rfl
                  rotate_left
                  · simp only [Act.put, List.setIfInBounds_toArray, List.set_cons_zero, List.set_cons_succ, i64_w, i32_w]
                    rfl
                  refine pure_ (i := 5) (N := some 129) (v := ?_) (a' := ?_) #[true, true, true, false, true, true, false, false, false, false] rfl rfl (by kernel_rfl) (fun _ _ _ h => h) (Or.inl ⟨by rfl, ?_⟩) ?_ ?_
                  rotate_left
                  · intro w'
                    go_simp
                    with_reducible rfl
                  rotate_left
                  · simp only [Act.put, List.setIfInBounds_toArray, List.set_cons_zero, List.set_cons_succ, i64_w, i32_w]
                    rfl
                  refine pure_ (i := 6) (N := some 130) (v := ?_) (a' := ?_) #[true, true, true, false, true, true, true, false, false, false] rfl rfl (by kernel_rfl) (fun _ _ _ h => h) (Or.inl ⟨by rfl, ?_⟩) ?_ ?_
                  rotate_left
                  · intro w'
                    go_simp
                    with_reducible rfl
                  rotate_left
                  · simp only [Act.put, List.setIfInBounds_toArray, List.set_cons_zero, List.set_cons_succ, i64_w, i32_w]
                    rfl
                  refine take_ (i := 3) (N := some 127) (v := ?_) (a' := ?_) #[true, true, true, true, true, true, true, false, false, false] rfl rfl (by kernel_rfl) (fun _ _ _ h => h) (Or.inl ⟨by rfl, ?_⟩) hHeld ?_ ?_
                  rotate_left
                  · rintro w' ⟨s0, s1⟩
                    go_simp
                    with_reducible rfl
                  rotate_left
                  · simp only [Act.put, List.setIfInBounds_toArray, List.set_cons_zero, List.set_cons_succ, i64_w, i32_w]
                    rfl
                  refine pure_ (i := 8) (N := some 19) (v := ?_) (a' := ?_) #[true, true, true, true, true, true, true, false, true, false] rfl rfl (by kernel_rfl) (fun _ _ _ h => h) (Or.inl ⟨by rfl, ?_⟩) ?_ ?_
                  rotate_left
                  · intro w'
                    go_simp
                    with_reducible rfl
                  rotate_left
                  · simp only [Act.put, List.setIfInBounds_toArray, List.set_cons_zero, List.set_cons_succ, i64_w, i32_w]
                    rfl
                  refine take_ (i := 7) (N := some 131) (v := ?_) (a' := ?_) #[true, true, true, true, true, true, true, true, true, false] rfl rfl (by kernel_rfl) (fun _ _ _ h => h) (Or.inl ⟨by rfl, ?_⟩) hHeld ?_ ?_
                  rotate_left
                  · rintro w' ⟨s0, s1⟩
                    go_simp
                    with_reducible rfl
                  rotate_left
                  · simp only [Act.put, List.setIfInBounds_toArray, List.set_cons_zero, List.set_cons_succ, i64_w, i32_w]
                    rfl
                  refine pure_ (i := 9) (N := some 20) (v := ?_) (a' := ?_) #[true, true, true, true, true, true, true, true, true, true] rfl rfl (by kernel_rfl) (fun _ _ _ h => h) (Or.inl ⟨by rfl, ?_⟩) ?_ ?_
                  rotate_left
                  · intro w'
                    go_simp
                    with_reducible rfl
                  rotate_left
                  · simp only [Act.put, List.setIfInBounds_toArray, List.set_cons_zero, List.set_cons_succ, i64_w, i32_w]
                    rfl
                  refine done_ (by kernel_rfl) ?_
                  go_wp2_with fail
                  refine (server_tokensCanMatch.calls k1 _ _ t _ HT.out).mono ?_
                  rintro e w' ⟨rfl, ⟨m2, rfl⟩⟩
                  have hlt := HK.out
                  cases t with
                  | false =>
                    have H := H3.out
                    simp at H
                    subst H
                    go_wp2
                    go_ret
                    exact ⟨rfl, by repeat (first | exact HBW.out | apply pw_below_drewN | apply below_drew)⟩
                  | true =>
                    have H' := Aside0.mk (show server_SubjectsCollide.l0 k1 ta tb (ta.length : Int) (wrap64 (x + 1)) = some r from by have h := H3.out; simpa using h)
                    clear H3
                    go_wp2
                    go_roundg k1
                    case measure => omega
                    case rel => exact ⟨(wrap64 (x + 1)), (by first | rfl | (simp; done) | (simp [*]; done)), H', ⟨by omega⟩, by repeat (first | exact Drawn0.refl _ | apply Drawn0.step | exact ⟨_, rfl⟩)⟩
                · rw [if_neg q2] at H
                  exact absurd H (by simp)
              · rw [if_neg q1] at H
                exact absurd H (by simp)
            · rw [if_neg p1] at H
              exact absurd H (by simp)
          · rw [if_neg c1] at H
            have c1b : decide (x < (ta.length : Int)) = false := decide_eq_false c1
            obtain rfl := Option.some.inj H
            go_wp2
            go_ret
            exact ⟨rfl, pw_below_drewN HBW.out m⟩
    · have n1 : ((ta.length : Int) != (tb.length : Int)) = false := by exact bne_eq_false_iff_eq.mpr (by omega)
      have n2 : decide ((ta.length : Int) < (tb.length : Int)) = false := decide_eq_false (by omega)
      have n3 : decide ((tb.length : Int) < (ta.length : Int)) = false := decide_eq_false (by omega)
      have m1 : (ta.length < tb.length) = False := by simp; omega
      have m2 : (tb.length < ta.length) = False := by simp; omega
      have H1 : Aside0 (server_SubjectsCollide.l0 k ta tb (ta.length : Int) 0 = some r) := ⟨by
        have h := H.out
        have hm : min ta.length tb.length = ta.length := by omega
        simp only [server_SubjectsCollide.tail, hm] at h
        simp [show (ta.length = tb.length) = True by simp; omega, show (ta.length < tb.length) = False by simp; omega, show (tb.length < ta.length) = False by simp; omega] at h
        exact h⟩
      clear d
      clear H
      go_wp2
      go_loopg [18] k (fun kq v18 w' => ∃ (x : Int), v18 = .int .i64 x ∧ Aside0 (server_SubjectsCollide.l0 kq ta tb (ta.length : Int) x = some r) ∧ Aside0 (kq ≤ k) ∧ Drawn0 W w')
      case atStart => exact ⟨0, rfl, H1, ⟨Nat.le_refl _⟩, Drawn0.refl _⟩
      case round =>
        clear H1
        obtain ⟨x, rfl, HA, HK, ⟨m, rfl⟩⟩ := hrel
        cases gk with
        | zero => exact absurd HA.out (by simp [server_SubjectsCollide.l0])
        | succ k1 =>
          have H := HA.out
          clear HA
          simp only [server_SubjectsCollide.l0] at H
          by_cases c1 : x < (ta.length : Int)
          · rw [if_pos c1] at H
            have c1b : decide (x < (ta.length : Int)) = true := decide_eq_true c1
            clear c1
            by_cases p1 : 0 ≤ x
            · rw [if_pos p1] at H
              by_cases q1 : x < (ta.length : Int)
              · rw [if_pos q1] at H
                by_cases q2 : x < (tb.length : Int)
                · rw [if_pos q2] at H
                  obtain ⟨t, ht, H3⟩ := Option.bind_eq_some_iff.mp H
                  have HT := Aside0.mk ht
                  have H3 := Aside0.mk H3
                  clear ht H
                  obtain ⟨ad1, e1, hx1⟩ := Kd.at_string (Kd.C_drewN HCA.out m) x p1 q1
                  obtain ⟨ad2, e2, hx2⟩ := Kd.at_string (Kd.C_drewN HCB.out m) x p1 q2
                  cases e1
                  cases e2
                  replace p1 := eq_true p1
                  replace q1 := eq_true q1
                  replace q2 := eq_true q2
                  go_wp2
                  refine start_ (n := 10) (S := fun w' => w'.cell? (ad1.add x.toNat) = some (.string (rdOf ByteArray.empty ta x)) ∧ w'.cell? (ad2.add x.toNat) = some (.string (rdOf ByteArray.empty tb x))) (ds := []) #[false, false, false, false, false, false, false, false, false, false] (by kernel_rfl) rfl rfl ⟨hx1, hx2⟩ (fun hHeld => ?_)
                  refine pure_ (i := 0) (N := some 124) (v := ?_) (a' := ?_) #[true, false, false, false, false, false, false, false, false, false] rfl rfl (by kernel_rfl) (fun _ _ _ h => h) (Or.inl ⟨by rfl, ?_⟩) ?_ ?_
                  rotate_left
                  · intro w'
                    go_simp
                    with_reducible rfl
                  rotate_left
                  · simp only [Act.put, List.setIfInBounds_toArray, List.set_cons_zero, List.set_cons_succ, i64_w, i32_w]
                    rfl
                  refine pure_ (i := 1) (N := some 125) (v := ?_) (a' := ?_) #[true, true, false, false, false, false, false, false, false, false] rfl rfl (by kernel_rfl) (fun _ _ _ h => h) (Or.inl ⟨by rfl, ?_⟩) ?_ ?_
                  rotate_left
                  · intro w'
                    go_simp
                    with_reducible rfl
                  rotate_left
                  · simp only [Act.put, List.setIfInBounds_toArray, List.set_cons_zero, List.set_cons_succ, i64_w, i32_w]
                    rfl
                  refine pure_ (i := 2) (N := some 126) (v := ?_) (a' := ?_) #[true, true, true, false, false, false, false, false, false, false] rfl rfl (by kernel_rfl) (fun _ _ _ h => h) (Or.inl ⟨by rfl, ?_⟩) ?_ ?_
                  rotate_left
                  · intro w'
                    go_simp
                    with_reducible rfl
                  rotate_left
                  · simp only [Act.put, List.setIfInBounds_toArray, List.set_cons_zero, List.set_cons_succ, i64_w, i32_w]
                    rfl
                  refine pure_ (i := 4) (N := some 128) (v := ?_) (a' := ?_) #[true, true, true, false, true, false, false, false, false, false] rfl rfl (by kernel_rfl) (fun _ _ _ h => h) (Or.inl ⟨by rfl, ?_⟩) ?_ ?_
                  rotate_left
                  · intro w'
                    go_simp
                    with_reducible rfl
                  rotate_left
                  · simp only [Act.put, List.setIfInBounds_toArray, List.set_cons_zero, List.set_cons_succ, i64_w, i32_w]
                    rfl
                  refine pure_ (i := 5) (N := some 129) (v := ?_) (a' := ?_) #[true, true, true, false, true, true, false, false, false, false] rfl rfl (by kernel_rfl) (fun _ _ _ h => h) (Or.inl ⟨by rfl, ?_⟩) ?_ ?_
                  rotate_left
                  · intro w'
                    go_simp
                    with_reducible rfl
                  rotate_left
                  · simp only [Act.put, List.setIfInBounds_toArray, List.set_cons_zero, List.set_cons_succ, i64_w, i32_w]
                    rfl
                  refine pure_ (i := 6) (N := some 130) (v := ?_) (a' := ?_) #[true, true, true, false, true, true, true, false, false, false] rfl rfl (by kernel_rfl) (fun _ _ _ h => h) (Or.inl ⟨by rfl, ?_⟩) ?_ ?_
                  rotate_left
                  · intro w'
                    go_simp
                    with_reducible rfl
                  rotate_left
                  · simp only [Act.put, List.setIfInBounds_toArray, List.set_cons_zero, List.set_cons_succ, i64_w, i32_w]
                    rfl
                  refine take_ (i := 3) (N := some 127) (v := ?_) (a' := ?_) #[true, true, true, true, true, true, true, false, false, false] rfl rfl (by kernel_rfl) (fun _ _ _ h => h) (Or.inl ⟨by rfl, ?_⟩) hHeld ?_ ?_
                  rotate_left
                  · rintro w' ⟨s0, s1⟩
                    go_simp
                    with_reducible rfl
                  rotate_left
                  · simp only [Act.put, List.setIfInBounds_toArray, List.set_cons_zero, List.set_cons_succ, i64_w, i32_w]
                    rfl
                  refine pure_ (i := 8) (N := some 19) (v := ?_) (a' := ?_) #[true, true, true, true, true, true, true, false, true, false] rfl rfl (by kernel_rfl) (fun _ _ _ h => h) (Or.inl ⟨by rfl, ?_⟩) ?_ ?_
                  rotate_left
                  · intro w'
                    go_simp
                    with_reducible rfl
                  rotate_left
                  · simp only [Act.put, List.setIfInBounds_toArray, List.set_cons_zero, List.set_cons_succ, i64_w, i32_w]
                    rfl
                  refine take_ (i := 7) (N := some 131) (v := ?_) (a' := ?_) #[true, true, true, true, true, true, true, true, true, false] rfl rfl (by kernel_rfl) (fun _ _ _ h => h) (Or.inl ⟨by rfl, ?_⟩) hHeld ?_ ?_
                  rotate_left
                  · rintro w' ⟨s0, s1⟩
                    go_simp
                    with_reducible rfl
                  rotate_left
                  · simp only [Act.put, List.setIfInBounds_toArray, List.set_cons_zero, List.set_cons_succ, i64_w, i32_w]
                    rfl
                  refine pure_ (i := 9) (N := some 20) (v := ?_) (a' := ?_) #[true, true, true, true, true, true, true, true, true, true] rfl rfl (by kernel_rfl) (fun _ _ _ h => h) (Or.inl ⟨by rfl, ?_⟩) ?_ ?_
                  rotate_left
                  · intro w'
                    go_simp
                    with_reducible rfl
                  rotate_left
                  · simp only [Act.put, List.setIfInBounds_toArray, List.set_cons_zero, List.set_cons_succ, i64_w, i32_w]
                    rfl
                  refine done_ (by kernel_rfl) ?_
                  go_wp2_with fail
                  refine (server_tokensCanMatch.calls k1 _ _ t _ HT.out).mono ?_
                  rintro e w' ⟨rfl, ⟨m2, rfl⟩⟩
                  have hlt := HK.out
                  cases t with
                  | false =>
                    have H := H3.out
                    simp at H
                    subst H
                    go_wp2
                    go_ret
                    exact ⟨rfl, by repeat (first | exact HBW.out | apply pw_below_drewN | apply below_drew)⟩
                  | true =>
                    have H' := Aside0.mk (show server_SubjectsCollide.l0 k1 ta tb (ta.length : Int) (wrap64 (x + 1)) = some r from by have h := H3.out; simpa using h)
                    clear H3
                    go_wp2
                    go_roundg k1
                    case measure => omega
                    case rel => exact ⟨(wrap64 (x + 1)), (by first | rfl | (simp; done) | (simp [*]; done)), H', ⟨by omega⟩, by repeat (first | exact Drawn0.refl _ | apply Drawn0.step | exact ⟨_, rfl⟩)⟩
                · rw [if_neg q2] at H
                  exact absurd H (by simp)
              · rw [if_neg q1] at H
                exact absurd H (by simp)
            · rw [if_neg p1] at H
              exact absurd H (by simp)
          · rw [if_neg c1] at H
            have c1b : decide (x < (ta.length : Int)) = false := decide_eq_false c1
            obtain rfl := Option.some.inj H
            go_wp2
            go_ret
            exact ⟨rfl, pw_below_drewN HBW.out m⟩
    · have n1 : ((ta.length : Int) != (tb.length : Int)) = true := by exact bne_iff_ne.mpr (by omega)
      have n2 : decide ((ta.length : Int) < (tb.length : Int)) = false := decide_eq_false (by omega)
      have n3 : decide ((tb.length : Int) < (ta.length : Int)) = true := decide_eq_true (by omega)
      have m1 : (ta.length < tb.length) = False := by simp; omega
      have m2 : (tb.length < ta.length) = True := by simp; omega
      have H1 : Aside0 (server_SubjectsCollide.l0 k ta tb (tb.length : Int) 0 = some r) := ⟨by
        have h := H.out
        have hm : min ta.length tb.length = tb.length := by omega
        simp only [server_SubjectsCollide.tail, hm] at h
        simp [show ¬ ta.length = tb.length by omega, show (ta.length < tb.length) = False by simp; omega, show (tb.length < ta.length) = True by simp; omega] at h
        exact h⟩
      clear d
      clear H
      go_wp2
      go_loopg [18] k (fun kq v18 w' => ∃ (x : Int), v18 = .int .i64 x ∧ Aside0 (server_SubjectsCollide.l0 kq ta tb (tb.length : Int) x = some r) ∧ Aside0 (kq ≤ k) ∧ Drawn0 W w')
      case atStart => exact ⟨0, rfl, H1, ⟨Nat.le_refl _⟩, Drawn0.refl _⟩
      case round =>
        clear H1
        obtain ⟨x, rfl, HA, HK, ⟨m, rfl⟩⟩ := hrel
        cases gk with
        | zero => exact absurd HA.out (by simp [server_SubjectsCollide.l0])
        | succ k1 =>
          have H := HA.out
          clear HA
          simp only [server_SubjectsCollide.l0] at H
          by_cases c1 : x < (tb.length : Int)
          · rw [if_pos c1] at H
            have c1b : decide (x < (tb.length : Int)) = true := decide_eq_true c1
            clear c1
            by_cases p1 : 0 ≤ x
            · rw [if_pos p1] at H
              by_cases q1 : x < (ta.length : Int)
              · rw [if_pos q1] at H
                by_cases q2 : x < (tb.length : Int)
                · rw [if_pos q2] at H
                  obtain ⟨t, ht, H3⟩ := Option.bind_eq_some_iff.mp H
                  have HT := Aside0.mk ht
                  have H3 := Aside0.mk H3
                  clear ht H
                  obtain ⟨ad1, e1, hx1⟩ := Kd.at_string (Kd.C_drewN HCA.out m) x p1 q1
                  obtain ⟨ad2, e2, hx2⟩ := Kd.at_string (Kd.C_drewN HCB.out m) x p1 q2
                  cases e1
                  cases e2
                  replace p1 := eq_true p1
                  replace q1 := eq_true q1
                  replace q2 := eq_true q2
                  go_wp2
                  refine start_ (n := 10) (S := fun w' => w'.cell? (ad1.add x.toNat) = some (.string (rdOf ByteArray.empty ta x)) ∧ w'.cell? (ad2.add x.toNat) = some (.string (rdOf ByteArray.empty tb x))) (ds := []) #[false, false, false, false, false, false, false, false, false, false] (by kernel_rfl) rfl rfl ⟨hx1, hx2⟩ (fun hHeld => ?_)
                  refine pure_ (i := 0) (N := some 124) (v := ?_) (a' := ?_) #[true, false, false, false, false, false, false, false, false, false] rfl rfl (by kernel_rfl) (fun _ _ _ h => h) (Or.inl ⟨by rfl, ?_⟩) ?_ ?_
                  rotate_left
                  · intro w'
                    go_simp
                    with_reducible rfl
                  rotate_left
                  · simp only [Act.put, List.setIfInBounds_toArray, List.set_cons_zero, List.set_cons_succ, i64_w, i32_w]
                    rfl
                  refine pure_ (i := 1) (N := some 125) (v := ?_) (a' := ?_) #[true, true, false, false, false, false, false, false, false, false] rfl rfl (by kernel_rfl) (fun _ _ _ h => h) (Or.inl ⟨by rfl, ?_⟩) ?_ ?_
                  rotate_left
                  · intro w'
                    go_simp
                    with_reducible rfl
                  rotate_left
                  · simp only [Act.put, List.setIfInBounds_toArray, List.set_cons_zero, List.set_cons_succ, i64_w, i32_w]
                    rfl
                  refine pure_ (i := 2) (N := some 126) (v := ?_) (a' := ?_) #[true, true, true, false, false, false, false, false, false, false] rfl rfl (by kernel_rfl) (fun _ _ _ h => h) (Or.inl ⟨by rfl, ?_⟩) ?_ ?_
                  rotate_left
                  · intro w'
                    go_simp
                    with_reducible rfl
                  rotate_left
                  · simp only [Act.put, List.setIfInBounds_toArray, List.set_cons_zero, List.set_cons_succ, i64_w, i32_w]
                    rfl
                  refine pure_ (i := 4) (N := some 128) (v := ?_) (a' := ?_) #[true, true, true, false, true, false, false, false, false, false] rfl rfl (by kernel_rfl) (fun _ _ _ h => h) (Or.inl ⟨by rfl, ?_⟩) ?_ ?_
                  rotate_left
                  · intro w'
                    go_simp
                    with_reducible rfl
                  rotate_left
                  · simp only [Act.put, List.setIfInBounds_toArray, List.set_cons_zero, List.set_cons_succ, i64_w, i32_w]
                    rfl
                  refine pure_ (i := 5) (N := some 129) (v := ?_) (a' := ?_) #[true, true, true, false, true, true, false, false, false, false] rfl rfl (by kernel_rfl) (fun _ _ _ h => h) (Or.inl ⟨by rfl, ?_⟩) ?_ ?_
                  rotate_left
                  · intro w'
                    go_simp
                    with_reducible rfl
                  rotate_left
                  · simp only [Act.put, List.setIfInBounds_toArray, List.set_cons_zero, List.set_cons_succ, i64_w, i32_w]
                    rfl
                  refine pure_ (i := 6) (N := some 130) (v := ?_) (a' := ?_) #[true, true, true, false, true, true, true, false, false, false] rfl rfl (by kernel_rfl) (fun _ _ _ h => h) (Or.inl ⟨by rfl, ?_⟩) ?_ ?_
                  rotate_left
                  · intro w'
                    go_simp
                    with_reducible rfl
                  rotate_left
                  · simp only [Act.put, List.setIfInBounds_toArray, List.set_cons_zero, List.set_cons_succ, i64_w, i32_w]
                    rfl
                  refine take_ (i := 3) (N := some 127) (v := ?_) (a' := ?_) #[true, true, true, true, true, true, true, false, false, false] rfl rfl (by kernel_rfl) (fun _ _ _ h => h) (Or.inl ⟨by rfl, ?_⟩) hHeld ?_ ?_
                  rotate_left
                  · rintro w' ⟨s0, s1⟩
                    go_simp
                    with_reducible rfl
                  rotate_left
                  · simp only [Act.put, List.setIfInBounds_toArray, List.set_cons_zero, List.set_cons_succ, i64_w, i32_w]
                    rfl
                  refine pure_ (i := 8) (N := some 19) (v := ?_) (a' := ?_) #[true, true, true, true, true, true, true, false, true, false] rfl rfl (by kernel_rfl) (fun _ _ _ h => h) (Or.inl ⟨by rfl, ?_⟩) ?_ ?_
                  rotate_left
                  · intro w'
                    go_simp
                    with_reducible rfl
                  rotate_left
                  · simp only [Act.put, List.setIfInBounds_toArray, List.set_cons_zero, List.set_cons_succ, i64_w, i32_w]
                    rfl
                  refine take_ (i := 7) (N := some 131) (v := ?_) (a' := ?_) #[true, true, true, true, true, true, true, true, true, false] rfl rfl (by kernel_rfl) (fun _ _ _ h => h) (Or.inl ⟨by rfl, ?_⟩) hHeld ?_ ?_
                  rotate_left
                  · rintro w' ⟨s0, s1⟩
                    go_simp
                    with_reducible rfl
                  rotate_left
                  · simp only [Act.put, List.setIfInBounds_toArray, List.set_cons_zero, List.set_cons_succ, i64_w, i32_w]
                    rfl
                  refine pure_ (i := 9) (N := some 20) (v := ?_) (a' := ?_) #[true, true, true, true, true, true, true, true, true, true] rfl rfl (by kernel_rfl) (fun _ _ _ h => h) (Or.inl ⟨by rfl, ?_⟩) ?_ ?_
                  rotate_left
                  · intro w'
                    go_simp
                    with_reducible rfl
                  rotate_left
                  · simp only [Act.put, List.setIfInBounds_toArray, List.set_cons_zero, List.set_cons_succ, i64_w, i32_w]
                    rfl
                  refine done_ (by kernel_rfl) ?_
                  go_wp2_with fail
                  refine (server_tokensCanMatch.calls k1 _ _ t _ HT.out).mono ?_
                  rintro e w' ⟨rfl, ⟨m2, rfl⟩⟩
                  have hlt := HK.out
                  cases t with
                  | false =>
                    have H := H3.out
                    simp at H
                    subst H
                    go_wp2
                    go_ret
                    exact ⟨rfl, by repeat (first | exact HBW.out | apply pw_below_drewN | apply below_drew)⟩
                  | true =>
                    have H' := Aside0.mk (show server_SubjectsCollide.l0 k1 ta tb (tb.length : Int) (wrap64 (x + 1)) = some r from by have h := H3.out; simpa using h)
                    clear H3
                    go_wp2
                    go_roundg k1
                    case measure => omega
                    case rel => exact ⟨(wrap64 (x + 1)), (by first | rfl | (simp; done) | (simp [*]; done)), H', ⟨by omega⟩, by repeat (first | exact Drawn0.refl _ | apply Drawn0.step | exact ⟨_, rfl⟩)⟩
                · rw [if_neg q2] at H
                  exact absurd H (by simp)
              · rw [if_neg q1] at H
                exact absurd H (by simp)
            · rw [if_neg p1] at H
              exact absurd H (by simp)
          · rw [if_neg c1] at H
            have c1b : decide (x < (tb.length : Int)) = false := decide_eq_false c1
            obtain rfl := Option.some.inj H
            go_wp2
            go_ret
            exact ⟨rfl, pw_below_drewN HBW.out m⟩
  · rcases Nat.lt_trichotomy ta.length tb.length with d | d | d
    · have n1 : ((ta.length : Int) != (tb.length : Int)) = true := by exact bne_iff_ne.mpr (by omega)
      have n2 : decide ((ta.length : Int) < (tb.length : Int)) = true := decide_eq_true (by omega)
      have n3 : decide ((tb.length : Int) < (ta.length : Int)) = false := decide_eq_false (by omega)
      have m1 : (ta.length < tb.length) = True := by simp; omega
      have m2 : (tb.length < ta.length) = False := by simp; omega
      have H1 : Aside0 (server_SubjectsCollide.l0 k ta tb (ta.length : Int) 0 = some r) := ⟨by
        have h := H.out
        have hm : min ta.length tb.length = ta.length := by omega
        simp only [server_SubjectsCollide.tail, hm] at h
        simp [show ¬ ta.length = tb.length by omega, show (ta.length < tb.length) = True by simp; omega, show (tb.length < ta.length) = False by simp; omega] at h
        exact h⟩
      clear d
      clear H
      go_wp2
      go_loopg [18] k (fun kq v18 w' => ∃ (x : Int), v18 = .int .i64 x ∧ Aside0 (server_SubjectsCollide.l0 kq ta tb (ta.length : Int) x = some r) ∧ Aside0 (kq ≤ k) ∧ Drawn0 W w')
      case atStart => exact ⟨0, rfl, H1, ⟨Nat.le_refl _⟩, Drawn0.refl _⟩
      case round =>
        clear H1
        obtain ⟨x, rfl, HA, HK, ⟨m, rfl⟩⟩ := hrel
        cases gk with
        | zero => exact absurd HA.out (by simp [server_SubjectsCollide.l0])
        | succ k1 =>
          have H := HA.out
          clear HA
          simp only [server_SubjectsCollide.l0] at H
          by_cases c1 : x < (ta.length : Int)
          · rw [if_pos c1] at H
            have c1b : decide (x < (ta.length : Int)) = true := decide_eq_true c1
            clear c1
            by_cases p1 : 0 ≤ x
            · rw [if_pos p1] at H
              by_cases q1 : x < (ta.length : Int)
              · rw [if_pos q1] at H
                by_cases q2 : x < (tb.length : Int)
                · rw [if_pos q2] at H
                  obtain ⟨t, ht, H3⟩ := Option.bind_eq_some_iff.mp H
                  have HT := Aside0.mk ht
                  have H3 := Aside0.mk H3
                  clear ht H
                  obtain ⟨ad1, e1, hx1⟩ := Kd.at_string (Kd.C_drewN HCA.out m) x p1 q1
                  obtain ⟨ad2, e2, hx2⟩ := Kd.at_string (Kd.C_drewN HCB.out m) x p1 q2
                  cases e1
                  cases e2
                  replace p1 := eq_true p1
                  replace q1 := eq_true q1
                  replace q2 := eq_true q2
                  go_wp2
                  refine start_ (n := 10) (S := fun w' => w'.cell? (ad1.add x.toNat) = some (.string (rdOf ByteArray.empty ta x)) ∧ w'.cell? (ad2.add x.toNat) = some (.string (rdOf ByteArray.empty tb x))) (ds := []) #[false, false, false, false, false, false, false, false, false, false] (by kernel_rfl) rfl rfl ⟨hx1, hx2⟩ (fun hHeld => ?_)
                  refine pure_ (i := 0) (N := some 124) (v := ?_) (a' := ?_) #[true, false, false, false, false, false, false, false, false, false] rfl rfl (by kernel_rfl) (fun _ _ _ h => h) (Or.inl ⟨by rfl, ?_⟩) ?_ ?_
                  rotate_left
                  · intro w'
                    go_simp
                    with_reducible rfl
                  rotate_left
                  · simp only [Act.put, List.setIfInBounds_toArray, List.set_cons_zero, List.set_cons_succ, i64_w, i32_w]
                    rfl
                  refine pure_ (i := 1) (N := some 125) (v := ?_) (a' := ?_) #[true, true, false, false, false, false, false, false, false, false] rfl rfl (by kernel_rfl) (fun _ _ _ h => h) (Or.inl ⟨by rfl, ?_⟩) ?_ ?_
                  rotate_left
                  · intro w'
                    go_simp
                    with_reducible rfl
                  rotate_left
                  · simp only [Act.put, List.setIfInBounds_toArray, List.set_cons_zero, List.set_cons_succ, i64_w, i32_w]
                    rfl
                  refine pure_ (i := 2) (N := some 126) (v := ?_) (a' := ?_) #[true, true, true, false, false, false, false, false, false, false] rfl rfl (by kernel_rfl) (fun _ _ _ h => h) (Or.inl ⟨by rfl, ?_⟩) ?_ ?_
                  rotate_left
                  · intro w'
                    go_simp
                    with_reducible rfl
                  rotate_left
                  · simp only [Act.put, List.setIfInBounds_toArray, List.set_cons_zero, List.set_cons_succ, i64_w, i32_w]
                    rfl
                  refine pure_ (i := 4) (N := some 128) (v := ?_) (a' := ?_) #[true, true, true, false, true, false, false, false, false, false] rfl rfl (by kernel_rfl) (fun _ _ _ h => h) (Or.inl ⟨by rfl, ?_⟩) ?_ ?_
                  rotate_left
                  · intro w'
                    go_simp
                    with_reducible rfl
                  rotate_left
                  · simp only [Act.put, List.setIfInBounds_toArray, List.set_cons_zero, List.set_cons_succ, i64_w, i32_w]
                    rfl
                  refine pure_ (i := 5) (N := some 129) (v := ?_) (a' := ?_) #[true, true, true, false, true, true, false, false, false, false] rfl rfl (by kernel_rfl) (fun _ _ _ h => h) (Or.inl ⟨by rfl, ?_⟩) ?_ ?_
                  rotate_left
                  · intro w'
                    go_simp
                    with_reducible rfl
                  rotate_left
                  · simp only [Act.put, List.setIfInBounds_toArray, List.set_cons_zero, List.set_cons_succ, i64_w, i32_w]
                    rfl
                  refine pure_ (i := 6) (N := some 130) (v := ?_) (a' := ?_) #[true, true, true, false, true, true, true, false, false, false] rfl rfl (by kernel_rfl) (fun _ _ _ h => h) (Or.inl ⟨by rfl, ?_⟩) ?_ ?_
                  rotate_left
                  · intro w'
                    go_simp
                    with_reducible rfl
                  rotate_left
                  · simp only [Act.put, List.setIfInBounds_toArray, List.set_cons_zero, List.set_cons_succ, i64_w, i32_w]
                    rfl
                  refine take_ (i := 3) (N := some 127) (v := ?_) (a' := ?_) #[true, true, true, true, true, true, true, false, false, false] rfl rfl (by kernel_rfl) (fun _ _ _ h => h) (Or.inl ⟨by rfl, ?_⟩) hHeld ?_ ?_
                  rotate_left
                  · rintro w' ⟨s0, s1⟩
                    go_simp
                    with_reducible rfl
                  rotate_left
                  · simp only [Act.put, List.setIfInBounds_toArray, List.set_cons_zero, List.set_cons_succ, i64_w, i32_w]
                    rfl
                  refine pure_ (i := 8) (N := some 19) (v := ?_) (a' := ?_) #[true, true, true, true, true, true, true, false, true, false] rfl rfl (by kernel_rfl) (fun _ _ _ h => h) (Or.inl ⟨by rfl, ?_⟩) ?_ ?_
                  rotate_left
                  · intro w'
                    go_simp
                    with_reducible rfl
                  rotate_left
                  · simp only [Act.put, List.setIfInBounds_toArray, List.set_cons_zero, List.set_cons_succ, i64_w, i32_w]
                    rfl
                  refine take_ (i := 7) (N := some 131) (v := ?_) (a' := ?_) #[true, true, true, true, true, true, true, true, true, false] rfl rfl (by kernel_rfl) (fun _ _ _ h => h) (Or.inl ⟨by rfl, ?_⟩) hHeld ?_ ?_
                  rotate_left
                  · rintro w' ⟨s0, s1⟩
                    go_simp
                    with_reducible rfl
                  rotate_left
                  · simp only [Act.put, List.setIfInBounds_toArray, List.set_cons_zero, List.set_cons_succ, i64_w, i32_w]
                    rfl
                  refine pure_ (i := 9) (N := some 20) (v := ?_) (a' := ?_) #[true, true, true, true, true, true, true, true, true, true] rfl rfl (by kernel_rfl) (fun _ _ _ h => h) (Or.inl ⟨by rfl, ?_⟩) ?_ ?_
                  rotate_left
                  · intro w'
                    go_simp
                    with_reducible rfl
                  rotate_left
                  · simp only [Act.put, List.setIfInBounds_toArray, List.set_cons_zero, List.set_cons_succ, i64_w, i32_w]
                    rfl
                  refine done_ (by kernel_rfl) ?_
                  go_wp2_with fail
                  refine (server_tokensCanMatch.calls k1 _ _ t _ HT.out).mono ?_
                  rintro e w' ⟨rfl, ⟨m2, rfl⟩⟩
                  have hlt := HK.out
                  cases t with
                  | false =>
                    have H := H3.out
                    simp at H
                    subst H
                    go_wp2
                    go_ret
                    exact ⟨rfl, by repeat (first | exact HBW.out | apply pw_below_drewN | apply below_drew)⟩
                  | true =>
                    have H' := Aside0.mk (show server_SubjectsCollide.l0 k1 ta tb (ta.length : Int) (wrap64 (x + 1)) = some r from by have h := H3.out; simpa using h)
                    clear H3
                    go_wp2
                    go_roundg k1
                    case measure => omega
                    case rel => exact ⟨(wrap64 (x + 1)), (by first | rfl | (simp; done) | (simp [*]; done)), H', ⟨by omega⟩, by repeat (first | exact Drawn0.refl _ | apply Drawn0.step | exact ⟨_, rfl⟩)⟩
                · rw [if_neg q2] at H
                  exact absurd H (by simp)
              · rw [if_neg q1] at H
                exact absurd H (by simp)
            · rw [if_neg p1] at H
              exact absurd H (by simp)
          · rw [if_neg c1] at H
            have c1b : decide (x < (ta.length : Int)) = false := decide_eq_false c1
            obtain rfl := Option.some.inj H
            go_wp2
            go_ret
            exact ⟨rfl, pw_below_drewN HBW.out m⟩
    · have n1 : ((ta.length : Int) != (tb.length : Int)) = false := by exact bne_eq_false_iff_eq.mpr (by omega)
      have n2 : decide ((ta.length : Int) < (tb.length : Int)) = false := decide_eq_false (by omega)
      have n3 : decide ((tb.length : Int) < (ta.length : Int)) = false := decide_eq_false (by omega)
      have m1 : (ta.length < tb.length) = False := by simp; omega
      have m2 : (tb.length < ta.length) = False := by simp; omega
      have H1 : Aside0 (server_SubjectsCollide.l0 k ta tb (ta.length : Int) 0 = some r) := ⟨by
        have h := H.out
        have hm : min ta.length tb.length = ta.length := by omega
        simp only [server_SubjectsCollide.tail, hm] at h
        simp [show (ta.length = tb.length) = True by simp; omega, show (ta.length < tb.length) = False by simp; omega, show (tb.length < ta.length) = False by simp; omega] at h
        exact h⟩
      clear d
      clear H
      go_wp2
      go_loopg [18] k (fun kq v18 w' => ∃ (x : Int), v18 = .int .i64 x ∧ Aside0 (server_SubjectsCollide.l0 kq ta tb (ta.length : Int) x = some r) ∧ Aside0 (kq ≤ k) ∧ Drawn0 W w')
      case atStart => exact ⟨0, rfl, H1, ⟨Nat.le_refl _⟩, Drawn0.refl _⟩
      case round =>
        clear H1
        obtain ⟨x, rfl, HA, HK, ⟨m, rfl⟩⟩ := hrel
        cases gk with
        | zero => exact absurd HA.out (by simp [server_SubjectsCollide.l0])
        | succ k1 =>
          have H := HA.out
          clear HA
          simp only [server_SubjectsCollide.l0] at H
          by_cases c1 : x < (ta.length : Int)
          · rw [if_pos c1] at H
            have c1b : decide (x < (ta.length : Int)) = true := decide_eq_true c1
            clear c1
            by_cases p1 : 0 ≤ x
            · rw [if_pos p1] at H
              by_cases q1 : x < (ta.length : Int)
              · rw [if_pos q1] at H
                by_cases q2 : x < (tb.length : Int)
                · rw [if_pos q2] at H
                  obtain ⟨t, ht, H3⟩ := Option.bind_eq_some_iff.mp H
                  have HT := Aside0.mk ht
                  have H3 := Aside0.mk H3
                  clear ht H
                  obtain ⟨ad1, e1, hx1⟩ := Kd.at_string (Kd.C_drewN HCA.out m) x p1 q1
                  obtain ⟨ad2, e2, hx2⟩ := Kd.at_string (Kd.C_drewN HCB.out m) x p1 q2
                  cases e1
                  cases e2
                  replace p1 := eq_true p1
                  replace q1 := eq_true q1
                  replace q2 := eq_true q2
                  go_wp2
                  refine start_ (n := 10) (S := fun w' => w'.cell? (ad1.add x.toNat) = some (.string (rdOf ByteArray.empty ta x)) ∧ w'.cell? (ad2.add x.toNat) = some (.string (rdOf ByteArray.empty tb x))) (ds := []) #[false, false, false, false, false, false, false, false, false, false] (by kernel_rfl) rfl rfl ⟨hx1, hx2⟩ (fun hHeld => ?_)
                  refine pure_ (i := 0) (N := some 124) (v := ?_) (a' := ?_) #[true, false, false, false, false, false, false, false, false, false] rfl rfl (by kernel_rfl) (fun _ _ _ h => h) (Or.inl ⟨by rfl, ?_⟩) ?_ ?_
                  rotate_left
                  · intro w'
                    go_simp
                    with_reducible rfl
                  rotate_left
                  · simp only [Act.put, List.setIfInBounds_toArray, List.set_cons_zero, List.set_cons_succ, i64_w, i32_w]
                    rfl
                  refine pure_ (i := 1) (N := some 125) (v := ?_) (a' := ?_) #[true, true, false, false, false, false, false, false, false, false] rfl rfl (by kernel_rfl) (fun _ _ _ h => h) (Or.inl ⟨by rfl, ?_⟩) ?_ ?_
                  rotate_left
                  · intro w'
                    go_simp
                    with_reducible rfl
                  rotate_left
                  · simp only [Act.put, List.setIfInBounds_toArray, List.set_cons_zero, List.set_cons_succ, i64_w, i32_w]
                    rfl
                  refine pure_ (i := 2) (N := some 126) (v := ?_) (a' := ?_) #[true, true, true, false, false, false, false, false, false, false] rfl rfl (by kernel_rfl) (fun _ _ _ h => h) (Or.inl ⟨by rfl, ?_⟩) ?_ ?_
                  rotate_left
                  · intro w'
                    go_simp
                    with_reducible rfl
                  rotate_left
                  · simp only [Act.put, List.setIfInBounds_toArray, List.set_cons_zero, List.set_cons_succ, i64_w, i32_w]
                    rfl
                  refine pure_ (i := 4) (N := some 128) (v := ?_) (a' := ?_) #[true, true, true, false, true, false, false, false, false, false] rfl rfl (by kernel_rfl) (fun _ _ _ h => h) (Or.inl ⟨by rfl, ?_⟩) ?_ ?_
                  rotate_left
                  · intro w'
                    go_simp
                    with_reducible rfl
                  rotate_left
                  · simp only [Act.put, List.setIfInBounds_toArray, List.set_cons_zero, List.set_cons_succ, i64_w, i32_w]
                    rfl
                  refine pure_ (i := 5) (N := some 129) (v := ?_) (a' := ?_) #[true, true, true, false, true, true, false, false, false, false] rfl rfl (by kernel_rfl) (fun _ _ _ h => h) (Or.inl ⟨by rfl, ?_⟩) ?_ ?_
                  rotate_left
                  · intro w'
                    go_simp
                    with_reducible rfl
                  rotate_left
                  · simp only [Act.put, List.setIfInBounds_toArray, List.set_cons_zero, List.set_cons_succ, i64_w, i32_w]
                    rfl
                  refine pure_ (i := 6) (N := some 130) (v := ?_) (a' := ?_) #[true, true, true, false, true, true, true, false, false, false] rfl rfl (by kernel_rfl) (fun _ _ _ h => h) (Or.inl ⟨by rfl, ?_⟩) ?_ ?_
                  rotate_left
                  · intro w'
                    go_simp
                    with_reducible rfl
                  rotate_left
                  · simp only [Act.put, List.setIfInBounds_toArray, List.set_cons_zero, List.set_cons_succ, i64_w, i32_w]
                    rfl
                  refine take_ (i := 3) (N := some 127) (v := ?_) (a' := ?_) #[true, true, true, true, true, true, true, false, false, false] rfl rfl (by kernel_rfl) (fun _ _ _ h => h) (Or.inl ⟨by rfl, ?_⟩) hHeld ?_ ?_
                  rotate_left
                  · rintro w' ⟨s0, s1⟩
                    go_simp
                    with_reducible rfl
                  rotate_left
                  · simp only [Act.put, List.setIfInBounds_toArray, List.set_cons_zero, List.set_cons_succ, i64_w, i32_w]
                    rfl
                  refine pure_ (i := 8) (N := some 19) (v := ?_) (a' := ?_) #[true, true, true, true, true, true, true, false, true, false] rfl rfl (by kernel_rfl) (fun _ _ _ h => h) (Or.inl ⟨by rfl, ?_⟩) ?_ ?_
                  rotate_left
                  · intro w'
                    go_simp
                    with_reducible rfl
                  rotate_left
                  · simp only [Act.put, List.setIfInBounds_toArray, List.set_cons_zero, List.set_cons_succ, i64_w, i32_w]
                    rfl
                  refine take_ (i := 7) (N := some 131) (v := ?_) (a' := ?_) #[true, true, true, true, true, true, true, true, true, false] rfl rfl (by kernel_rfl) (fun _ _ _ h => h) (Or.inl ⟨by rfl, ?_⟩) hHeld ?_ ?_
                  rotate_left
                  · rintro w' ⟨s0, s1⟩
                    go_simp
                    with_reducible rfl
                  rotate_left
                  · simp only [Act.put, List.setIfInBounds_toArray, List.set_cons_zero, List.set_cons_succ, i64_w, i32_w]
                    rfl
                  refine pure_ (i := 9) (N := some 20) (v := ?_) (a' := ?_) #[true, true, true, true, true, true, true, true, true, true] rfl rfl (by kernel_rfl) (fun _ _ _ h => h) (Or.inl ⟨by rfl, ?_⟩) ?_ ?_
                  rotate_left
                  · intro w'
                    go_simp
                    with_reducible rfl
                  rotate_left
                  · simp only [Act.put, List.setIfInBounds_toArray, List.set_cons_zero, List.set_cons_succ, i64_w, i32_w]
                    rfl
                  refine done_ (by kernel_rfl) ?_
                  go_wp2_with fail
                  refine (server_tokensCanMatch.calls k1 _ _ t _ HT.out).mono ?_
                  rintro e w' ⟨rfl, ⟨m2, rfl⟩⟩
                  have hlt := HK.out
                  cases t with
                  | false =>
                    have H := H3.out
                    simp at H
                    subst H
                    go_wp2
                    go_ret
                    exact ⟨rfl, by repeat (first | exact HBW.out | apply pw_below_drewN | apply below_drew)⟩
                  | true =>
                    have H' := Aside0.mk (show server_SubjectsCollide.l0 k1 ta tb (ta.length : Int) (wrap64 (x + 1)) = some r from by have h := H3.out; simpa using h)
                    clear H3
                    go_wp2
                    go_roundg k1
                    case measure => omega
                    case rel => exact ⟨(wrap64 (x + 1)), (by first | rfl | (simp; done) | (simp [*]; done)), H', ⟨by omega⟩, by repeat (first | exact Drawn0.refl _ | apply Drawn0.step | exact ⟨_, rfl⟩)⟩
                · rw [if_neg q2] at H
                  exact absurd H (by simp)
              · rw [if_neg q1] at H
                exact absurd H (by simp)
            · rw [if_neg p1] at H
              exact absurd H (by simp)
          · rw [if_neg c1] at H
            have c1b : decide (x < (ta.length : Int)) = false := decide_eq_false c1
            obtain rfl := Option.some.inj H
            go_wp2
            go_ret
            exact ⟨rfl, pw_below_drewN HBW.out m⟩
    · have n1 : ((ta.length : Int) != (tb.length : Int)) = true := by exact bne_iff_ne.mpr (by omega)
      have n2 : decide ((ta.length : Int) < (tb.length : Int)) = false := decide_eq_false (by omega)
      have n3 : decide ((tb.length : Int) < (ta.length : Int)) = true := decide_eq_true (by omega)
      have m1 : (ta.length < tb.length) = False := by simp; omega
      have m2 : (tb.length < ta.length) = True := by simp; omega
      obtain rfl : false = r := by
        have h := H.out
        simp only [server_SubjectsCollide.tail] at h
        simp [show ¬ ta.length = tb.length by omega, show (ta.length < tb.length) = False by simp; omega, show (tb.length < ta.length) = True by simp; omega] at h
        exact h.symm
      clear d
      go_wp2
      go_ret
      exact ⟨rfl, HBW.out⟩
  · rcases Nat.lt_trichotomy ta.length tb.length with d | d | d
    · have n1 : ((ta.length : Int) != (tb.length : Int)) = true := by exact bne_iff_ne.mpr (by omega)
      have n2 : decide ((ta.length : Int) < (tb.length : Int)) = true := decide_eq_true (by omega)
      have n3 : decide ((tb.length : Int) < (ta.length : Int)) = false := decide_eq_false (by omega)
      have m1 : (ta.length < tb.length) = True := by simp; omega
      have m2 : (tb.length < ta.length) = False := by simp; omega
      have H1 : Aside0 (server_SubjectsCollide.l0 k ta tb (ta.length : Int) 0 = some r) := ⟨by
        have h := H.out
        have hm : min ta.length tb.length = ta.length := by omega
        simp only [server_SubjectsCollide.tail, hm] at h
        simp [show ¬ ta.length = tb.length by omega, show (ta.length < tb.length) = True by simp; omega, show (tb.length < ta.length) = False by simp; omega] at h
        exact h⟩
      clear d
      clear H
      go_wp2
      go_loopg [18] k (fun kq v18 w' => ∃ (x : Int), v18 = .int .i64 x ∧ Aside0 (server_SubjectsCollide.l0 kq ta tb (ta.length : Int) x = some r) ∧ Aside0 (kq ≤ k) ∧ Drawn0 W w')
      case atStart => exact ⟨0, rfl, H1, ⟨Nat.le_refl _⟩, Drawn0.refl _⟩
      case round =>
        clear H1
        obtain ⟨x, rfl, HA, HK, ⟨m, rfl⟩⟩ := hrel
        cases gk with
        | zero => exact absurd HA.out (by simp [server_SubjectsCollide.l0])
        | succ k1 =>
          have H := HA.out
          clear HA
          simp only [server_SubjectsCollide.l0] at H
          by_cases c1 : x < (ta.length : Int)
          · rw [if_pos c1] at H
            have c1b : decide (x < (ta.length : Int)) = true := decide_eq_true c1
            clear c1
            by_cases p1 : 0 ≤ x
            · rw [if_pos p1] at H
              by_cases q1 : x < (ta.length : Int)
              · rw [if_pos q1] at H
                by_cases q2 : x < (tb.length : Int)
                · rw [if_pos q2] at H
                  obtain ⟨t, ht, H3⟩ := Option.bind_eq_some_iff.mp H
                  have HT := Aside0.mk ht
                  have H3 := Aside0.mk H3
                  clear ht H
                  obtain ⟨ad1, e1, hx1⟩ := Kd.at_string (Kd.C_drewN HCA.out m) x p1 q1
                  obtain ⟨ad2, e2, hx2⟩ := Kd.at_string (Kd.C_drewN HCB.out m) x p1 q2
                  cases e1
                  cases e2
                  replace p1 := eq_true p1
                  replace q1 := eq_true q1
                  replace q2 := eq_true q2
                  go_wp2
                  refine start_ (n := 10) (S := fun w' => w'.cell? (ad1.add x.toNat) = some (.string (rdOf ByteArray.empty ta x)) ∧ w'.cell? (ad2.add x.toNat) = some (.string (rdOf ByteArray.empty tb x))) (ds := []) #[false, false, false, false, false, false, false, false, false, false] (by kernel_rfl) rfl rfl ⟨hx1, hx2⟩ (fun hHeld => ?_)
                  refine pure_ (i := 0) (N := some 124) (v := ?_) (a' := ?_) #[true, false, false, false, false, false, false, false, false, false] rfl rfl (by kernel_rfl) (fun _ _ _ h => h) (Or.inl ⟨by rfl, ?_⟩) ?_ ?_
                  rotate_left
                  · intro w'
                    go_simp
                    with_reducible rfl
                  rotate_left
                  · simp only [Act.put, List.setIfInBounds_toArray, List.set_cons_zero, List.set_cons_succ, i64_w, i32_w]
                    rfl
                  refine pure_ (i := 1) (N := some 125) (v := ?_) (a' := ?_) #[true, true, false, false, false, false, false, false, false, false] rfl rfl (by kernel_rfl) (fun _ _ _ h => h) (Or.inl ⟨by rfl, ?_⟩) ?_ ?_
                  rotate_left
                  · intro w'
                    go_simp
                    with_reducible rfl
                  rotate_left
                  · simp only [Act.put, List.setIfInBounds_toArray, List.set_cons_zero, List.set_cons_succ, i64_w, i32_w]
                    rfl
                  refine pure_ (i := 2) (N := some 126) (v := ?_) (a' := ?_) #[true, true, true, false, false, false, false, false, false, false] rfl rfl (by kernel_rfl) (fun _ _ _ h => h) (Or.inl ⟨by rfl, ?_⟩) ?_ ?_
                  rotate_left
                  · intro w'
                    go_simp
                    with_reducible rfl
                  rotate_left
                  · simp only [Act.put, List.setIfInBounds_toArray, List.set_cons_zero, List.set_cons_succ, i64_w, i32_w]
                    rfl
                  refine pure_ (i := 4) (N := some 128) (v := ?_) (a' := ?_) #[true, true, true, false, true, false, false, false, false, false] rfl rfl (by kernel_rfl) (fun _ _ _ h => h) (Or.inl ⟨by rfl, ?_⟩) ?_ ?_
                  rotate_left
                  · intro w'
                    go_simp
                    with_reducible rfl
                  rotate_left
                  · simp only [Act.put, List.setIfInBounds_toArray, List.set_cons_zero, List.set_cons_succ, i64_w, i32_w]
                    rfl
                  refine pure_ (i := 5) (N := some 129) (v := ?_) (a' := ?_) #[true, true, true, false, true, true, false, false, false, false] rfl rfl (by kernel_rfl) (fun _ _ _ h => h) (Or.inl ⟨by rfl, ?_⟩) ?_ ?_
                  rotate_left
                  · intro w'
                    go_simp
                    with_reducible rfl
                  rotate_left
                  · simp only [Act.put, List.setIfInBounds_toArray, List.set_cons_zero, List.set_cons_succ, i64_w, i32_w]
                    rfl
                  refine pure_ (i := 6) (N := some 130) (v := ?_) (a' := ?_) #[true, true, true, false, true, true, true, false, false, false] rfl rfl (by kernel_rfl) (fun _ _ _ h => h) (Or.inl ⟨by rfl, ?_⟩) ?_ ?_
                  rotate_left
                  · intro w'
                    go_simp
                    with_reducible rfl
                  rotate_left
                  · simp only [Act.put, List.setIfInBounds_toArray, List.set_cons_zero, List.set_cons_succ, i64_w, i32_w]
                    rfl
                  refine take_ (i := 3) (N := some 127) (v := ?_) (a' := ?_) #[true, true, true, true, true, true, true, false, false, false] rfl rfl (by kernel_rfl) (fun _ _ _ h => h) (Or.inl ⟨by rfl, ?_⟩) hHeld ?_ ?_
                  rotate_left
                  · rintro w' ⟨s0, s1⟩
                    go_simp
                    with_reducible rfl
                  rotate_left
                  · simp only [Act.put, List.setIfInBounds_toArray, List.set_cons_zero, List.set_cons_succ, i64_w, i32_w]
                    rfl
                  refine pure_ (i := 8) (N := some 19) (v := ?_) (a' := ?_) #[true, true, true, true, true, true, true, false, true, false] rfl rfl (by kernel_rfl) (fun _ _ _ h => h) (Or.inl ⟨by rfl, ?_⟩) ?_ ?_
                  rotate_left
                  · intro w'
                    go_simp
                    with_reducible rfl
                  rotate_left
                  · simp only [Act.put, List.setIfInBounds_toArray, List.set_cons_zero, List.set_cons_succ, i64_w, i32_w]
                    rfl
                  refine take_ (i := 7) (N := some 131) (v := ?_) (a' := ?_) #[true, true, true, true, true, true, true, true, true, false] rfl rfl (by kernel_rfl) (fun _ _ _ h => h) (Or.inl ⟨by rfl, ?_⟩) hHeld ?_ ?_
                  rotate_left
                  · rintro w' ⟨s0, s1⟩
                    go_simp
                    with_reducible rfl
                  rotate_left
                  · simp only [Act.put, List.setIfInBounds_toArray, List.set_cons_zero, List.set_cons_succ, i64_w, i32_w]
                    rfl
                  refine pure_ (i := 9) (N := some 20) (v := ?_) (a' := ?_) #[true, true, true, true, true, true, true, true, true, true] rfl rfl (by kernel_rfl) (fun _ _ _ h => h) (Or.inl ⟨by rfl, ?_⟩) ?_ ?_
                  rotate_left
                  · intro w'
                    go_simp
                    with_reducible rfl
                  rotate_left
                  · simp only [Act.put, List.setIfInBounds_toArray, List.set_cons_zero, List.set_cons_succ, i64_w, i32_w]
                    rfl
                  refine done_ (by kernel_rfl) ?_
                  go_wp2_with fail
                  refine (server_tokensCanMatch.calls k1 _ _ t _ HT.out).mono ?_
                  rintro e w' ⟨rfl, ⟨m2, rfl⟩⟩
                  have hlt := HK.out
                  cases t with
                  | false =>
                    have H := H3.out
                    simp at H
                    subst H
                    go_wp2
                    go_ret
                    exact ⟨rfl, by repeat (first | exact HBW.out | apply pw_below_drewN | apply below_drew)⟩
                  | true =>
                    have H' := Aside0.mk (show server_SubjectsCollide.l0 k1 ta tb (ta.length : Int) (wrap64 (x + 1)) = some r from by have h := H3.out; simpa using h)
                    clear H3
                    go_wp2
                    go_roundg k1
                    case measure => omega
                    case rel => exact ⟨(wrap64 (x + 1)), (by first | rfl | (simp; done) | (simp [*]; done)), H', ⟨by omega⟩, by repeat (first | exact Drawn0.refl _ | apply Drawn0.step | exact ⟨_, rfl⟩)⟩
                · rw [if_neg q2] at H
                  exact absurd H (by simp)
              · rw [if_neg q1] at H
                exact absurd H (by simp)
            · rw [if_neg p1] at H
              exact absurd H (by simp)
          · rw [if_neg c1] at H
            have c1b : decide (x < (ta.length : Int)) = false := decide_eq_false c1
            obtain rfl := Option.some.inj H
            go_wp2
            go_ret
            exact ⟨rfl, pw_below_drewN HBW.out m⟩
    · have n1 : ((ta.length : Int) != (tb.length : Int)) = false := by exact bne_eq_false_iff_eq.mpr (by omega)
      have n2 : decide ((ta.length : Int) < (tb.length : Int)) = false := decide_eq_false (by omega)
      have n3 : decide ((tb.length : Int) < (ta.length : Int)) = false := decide_eq_false (by omega)
      have m1 : (ta.length < tb.length) = False := by simp; omega
      have m2 : (tb.length < ta.length) = False := by simp; omega
      have H1 : Aside0 (server_SubjectsCollide.l0 k ta tb (ta.length : Int) 0 = some r) := ⟨by
        have h := H.out
        have hm : min ta.length tb.length = ta.length := by omega
        simp only [server_SubjectsCollide.tail, hm] at h
        simp [show (ta.length = tb.length) = True by simp; omega, show (ta.length < tb.length) = False by simp; omega, show (tb.length < ta.length) = False by simp; omega] at h
        exact h⟩
      clear d
      clear H
      go_wp2
      go_loopg [18] k (fun kq v18 w' => ∃ (x : Int), v18 = .int .i64 x ∧ Aside0 (server_SubjectsCollide.l0 kq ta tb (ta.length : Int) x = some r) ∧ Aside0 (kq ≤ k) ∧ Drawn0 W w')
      case atStart => exact ⟨0, rfl, H1, ⟨Nat.le_refl _⟩, Drawn0.refl _⟩
      case round =>
        clear H1
        obtain ⟨x, rfl, HA, HK, ⟨m, rfl⟩⟩ := hrel
        cases gk with
        | zero => exact absurd HA.out (by simp [server_SubjectsCollide.l0])
        | succ k1 =>
          have H := HA.out
          clear HA
          simp only [server_SubjectsCollide.l0] at H
          by_cases c1 : x < (ta.length : Int)
          · rw [if_pos c1] at H
            have c1b : decide (x < (ta.length : Int)) = true := decide_eq_true c1
            clear c1
            by_cases p1 : 0 ≤ x
            · rw [if_pos p1] at H
              by_cases q1 : x < (ta.length : Int)
              · rw [if_pos q1] at H
                by_cases q2 : x < (tb.length : Int)
                · rw [if_pos q2] at H
                  obtain ⟨t, ht, H3⟩ := Option.bind_eq_some_iff.mp H
                  have HT := Aside0.mk ht
                  have H3 := Aside0.mk H3
                  clear ht H
                  obtain ⟨ad1, e1, hx1⟩ := Kd.at_string (Kd.C_drewN HCA.out m) x p1 q1
                  obtain ⟨ad2, e2, hx2⟩ := Kd.at_string (Kd.C_drewN HCB.out m) x p1 q2
                  cases e1
                  cases e2
                  replace p1 := eq_true p1
                  replace q1 := eq_true q1
                  replace q2 := eq_true q2
                  go_wp2
                  refine start_ (n := 10) (S := fun w' => w'.cell? (ad1.add x.toNat) = some (.string (rdOf ByteArray.empty ta x)) ∧ w'.cell? (ad2.add x.toNat) = some (.string (rdOf ByteArray.empty tb x))) (ds := []) #[false, false, false, false, false, false, false, false, false, false] (by kernel_rfl) rfl rfl ⟨hx1, hx2⟩ (fun hHeld => ?_)
                  refine pure_ (i := 0) (N := some 124) (v := ?_) (a' := ?_) #[true, false, false, false, false, false, false, false, false, false] rfl rfl (by kernel_rfl) (fun _ _ _ h => h) (Or.inl ⟨by rfl, ?_⟩) ?_ ?_
                  rotate_left
                  · intro w'
                    go_simp
                    with_reducible rfl
                  rotate_left
                  · simp only [Act.put, List.setIfInBounds_toArray, List.set_cons_zero, List.set_cons_succ, i64_w, i32_w]
                    rfl
                  refine pure_ (i := 1) (N := some 125) (v := ?_) (a' := ?_) #[true, true, false, false, false, false, false, false, false, false] rfl rfl (by kernel_rfl) (fun _ _ _ h => h) (Or.inl ⟨by rfl, ?_⟩) ?_ ?_
                  rotate_left
                  · intro w'
                    go_simp
                    with_reducible rfl
                  rotate_left
                  · simp only [Act.put, List.setIfInBounds_toArray, List.set_cons_zero, List.set_cons_succ, i64_w, i32_w]
                    rfl
                  refine pure_ (i := 2) (N := some 126) (v := ?_) (a' := ?_) #[true, true, true, false, false, false, false, false, false, false] rfl rfl (by kernel_rfl) (fun _ _ _ h => h) (Or.inl ⟨by rfl, ?_⟩) ?_ ?_
                  rotate_left
                  · intro w'
                    go_simp
                    with_reducible rfl
                  rotate_left
                  · simp only [Act.put, List.setIfInBounds_toArray, List.set_cons_zero, List.set_cons_succ, i64_w, i32_w]
                    rfl
                  refine pure_ (i := 4) (N := some 128) (v := ?_) (a' := ?_) #[true, true, true, false, true, false, false, false, false, false] rfl rfl (by kernel_rfl) (fun _ _ _ h => h) (Or.inl ⟨by rfl, ?_⟩) ?_ ?_
                  rotate_left
                  · intro w'
                    go_simp
                    with_reducible rfl
                  rotate_left
                  · simp only [Act.put, List.setIfInBounds_toArray, List.set_cons_zero, List.set_cons_succ, i64_w, i32_w]
                    rfl
                  refine pure_ (i := 5) (N := some 129) (v := ?_) (a' := ?_) #[true, true, true, false, true, true, false, false, false, false] rfl rfl (by kernel_rfl) (fun _ _ _ h => h) (Or.inl ⟨by rfl, ?_⟩) ?_ ?_
                  rotate_left
                  · intro w'
                    go_simp
                    with_reducible rfl
                  rotate_left
                  · simp only [Act.put, List.setIfInBounds_toArray, List.set_cons_zero, List.set_cons_succ, i64_w, i32_w]
                    rfl
                  refine pure_ (i := 6) (N := some 130) (v := ?_) (a' := ?_) #[true, true, true, false, true, true, true, false, false, false] rfl rfl (by kernel_rfl) (fun _ _ _ h => h) (Or.inl ⟨by rfl, ?_⟩) ?_ ?_
                  rotate_left
                  · intro w'
                    go_simp
                    with_reducible rfl
                  rotate_left
                  · simp only [Act.put, List.setIfInBounds_toArray, List.set_cons_zero, List.set_cons_succ, i64_w, i32_w]
                    rfl
                  refine take_ (i := 3) (N := some 127) (v := ?_) (a' := ?_) #[true, true, true, true, true, true, true, false, false, false] rfl rfl (by kernel_rfl) (fun _ _ _ h => h) (Or.inl ⟨by rfl, ?_⟩) hHeld ?_ ?_
                  rotate_left
                  · rintro w' ⟨s0, s1⟩
                    go_simp
                    with_reducible rfl
                  rotate_left
                  · simp only [Act.put, List.setIfInBounds_toArray, List.set_cons_zero, List.set_cons_succ, i64_w, i32_w]
                    rfl
                  refine pure_ (i := 8) (N := some 19) (v := ?_) (a' := ?_) #[true, true, true, true, true, true, true, false, true, false] rfl rfl (by kernel_rfl) (fun _ _ _ h => h) (Or.inl ⟨by rfl, ?_⟩) ?_ ?_
                  rotate_left
                  · intro w'
                    go_simp
                    with_reducible rfl
                  rotate_left
                  · simp only [Act.put, List.setIfInBounds_toArray, List.set_cons_zero, List.set_cons_succ, i64_w, i32_w]
                    rfl
                  refine take_ (i := 7) (N := some 131) (v := ?_) (a' := ?_) #[true, true, true, true, true, true, true, true, true, false] rfl rfl (by kernel_rfl) (fun _ _ _ h => h) (Or.inl ⟨by rfl, ?_⟩) hHeld ?_ ?_
                  rotate_left
                  · rintro w' ⟨s0, s1⟩
                    go_simp
                    with_reducible rfl
                  rotate_left
                  · simp only [Act.put, List.setIfInBounds_toArray, List.set_cons_zero, List.set_cons_succ, i64_w, i32_w]
                    rfl
                  refine pure_ (i := 9) (N := some 20) (v := ?_) (a' := ?_) #[true, true, true, true, true, true, true, true, true, true] rfl rfl (by kernel_rfl) (fun _ _ _ h => h) (Or.inl ⟨by rfl, ?_⟩) ?_ ?_
                  rotate_left
                  · intro w'
                    go_simp
                    with_reducible rfl
                  rotate_left
                  · simp only [Act.put, List.setIfInBounds_toArray, List.set_cons_zero, List.set_cons_succ, i64_w, i32_w]
                    rfl
                  refine done_ (by kernel_rfl) ?_
                  go_wp2_with fail
                  refine (server_tokensCanMatch.calls k1 _ _ t _ HT.out).mono ?_
                  rintro e w' ⟨rfl, ⟨m2, rfl⟩⟩
                  have hlt := HK.out
                  cases t with
                  | false =>
                    have H := H3.out
                    simp at H
                    subst H
                    go_wp2
                    go_ret
                    exact ⟨rfl, by repeat (first | exact HBW.out | apply pw_below_drewN | apply below_drew)⟩
                  | true =>
                    have H' := Aside0.mk (show server_SubjectsCollide.l0 k1 ta tb (ta.length : Int) (wrap64 (x + 1)) = some r from by have h := H3.out; simpa using h)
                    clear H3
                    go_wp2
                    go_roundg k1
                    case measure => omega
                    case rel => exact ⟨(wrap64 (x + 1)), (by first | rfl | (simp; done) | (simp [*]; done)), H', ⟨by omega⟩, by repeat (first | exact Drawn0.refl _ | apply Drawn0.step | exact ⟨_, rfl⟩)⟩
                · rw [if_neg q2] at H
                  exact absurd H (by simp)
              · rw [if_neg q1] at H
                exact absurd H (by simp)
            · rw [if_neg p1] at H
              exact absurd H (by simp)
          · rw [if_neg c1] at H
            have c1b : decide (x < (ta.length : Int)) = false := decide_eq_false c1
            obtain rfl := Option.some.inj H
            go_wp2
            go_ret
            exact ⟨rfl, pw_below_drewN HBW.out m⟩
    · have n1 : ((ta.length : Int) != (tb.length : Int)) = true := by exact bne_iff_ne.mpr (by omega)
      have n2 : decide ((ta.length : Int) < (tb.length : Int)) = false := decide_eq_false (by omega)
      have n3 : decide ((tb.length : Int) < (ta.length : Int)) = true := decide_eq_true (by omega)
      have m1 : (ta.length < tb.length) = False := by simp; omega
      have m2 : (tb.length < ta.length) = True := by simp; omega
      have H1 : Aside0 (server_SubjectsCollide.l0 k ta tb (tb.length : Int) 0 = some r) := ⟨by
        have h := H.out
        have hm : min ta.length tb.length = tb.length := by omega
        simp only [server_SubjectsCollide.tail, hm] at h
        simp [show ¬ ta.length = tb.length by omega, show (ta.length < tb.length) = False by simp; omega, show (tb.length < ta.length) = True by simp; omega] at h
        exact h⟩
      clear d
      clear H
      go_wp2
      go_loopg [18] k (fun kq v18 w' => ∃ (x : Int), v18 = .int .i64 x ∧ Aside0 (server_SubjectsCollide.l0 kq ta tb (tb.length : Int) x = some r) ∧ Aside0 (kq ≤ k) ∧ Drawn0 W w')
      case atStart => exact ⟨0, rfl, H1, ⟨Nat.le_refl _⟩, Drawn0.refl _⟩
      case round =>
        clear H1
        obtain ⟨x, rfl, HA, HK, ⟨m, rfl⟩⟩ := hrel
        cases gk with
        | zero => exact absurd HA.out (by simp [server_SubjectsCollide.l0])
        | succ k1 =>
          have H := HA.out
          clear HA
          simp only [server_SubjectsCollide.l0] at H
          by_cases c1 : x < (tb.length : Int)
          · rw [if_pos c1] at H
            have c1b : decide (x < (tb.length : Int)) = true := decide_eq_true c1
            clear c1
            by_cases p1 : 0 ≤ x
            · rw [if_pos p1] at H
              by_cases q1 : x < (ta.length : Int)
              · rw [if_pos q1] at H
                by_cases q2 : x < (tb.length : Int)
                · rw [if_pos q2] at H
                  obtain ⟨t, ht, H3⟩ := Option.bind_eq_some_iff.mp H
                  have HT := Aside0.mk ht
                  have H3 := Aside0.mk H3
                  clear ht H
                  obtain ⟨ad1, e1, hx1⟩ := Kd.at_string (Kd.C_drewN HCA.out m) x p1 q1
                  obtain ⟨ad2, e2, hx2⟩ := Kd.at_string (Kd.C_drewN HCB.out m) x p1 q2
                  cases e1
                  cases e2
                  replace p1 := eq_true p1
                  replace q1 := eq_true q1
                  replace q2 := eq_true q2
                  go_wp2
                  refine start_ (n := 10) (S := fun w' => w'.cell? (ad1.add x.toNat) = some (.string (rdOf ByteArray.empty ta x)) ∧ w'.cell? (ad2.add x.toNat) = some (.string (rdOf ByteArray.empty tb x))) (ds := []) #[false, false, false, false, false, false, false, false, false, false] (by kernel_rfl) rfl rfl ⟨hx1, hx2⟩ (fun hHeld => ?_)
                  refine pure_ (i := 0) (N := some 124) (v := ?_) (a' := ?_) #[true, false, false, false, false, false, false, false, false, false] rfl rfl (by kernel_rfl) (fun _ _ _ h => h) (Or.inl ⟨by rfl, ?_⟩) ?_ ?_
                  rotate_left
                  · intro w'
                    go_simp
                    with_reducible rfl
                  rotate_left
                  · simp only [Act.put, List.setIfInBounds_toArray, List.set_cons_zero, List.set_cons_succ, i64_w, i32_w]
                    rfl
                  refine pure_ (i := 1) (N := some 125) (v := ?_) (a' := ?_) #[true, true, false, false, false, false, false, false, false, false] rfl rfl (by kernel_rfl) (fun _ _ _ h => h) (Or.inl ⟨by rfl, ?_⟩) ?_ ?_
                  rotate_left
                  · intro w'
                    go_simp
                    with_reducible rfl
                  rotate_left
                  · simp only [Act.put, List.setIfInBounds_toArray, List.set_cons_zero, List.set_cons_succ, i64_w, i32_w]
                    rfl
                  refine pure_ (i := 2) (N := some 126) (v := ?_) (a' := ?_) #[true, true, true, false, false, false, false, false, false, false] rfl rfl (by kernel_rfl) (fun _ _ _ h => h) (Or.inl ⟨by rfl, ?_⟩) ?_ ?_
                  rotate_left
                  · intro w'
                    go_simp
                    with_reducible rfl
                  rotate_left
                  · simp only [Act.put, List.setIfInBounds_toArray, List.set_cons_zero, List.set_cons_succ, i64_w, i32_w]
                    rfl
                  refine pure_ (i := 4) (N := some 128) (v := ?_) (a' := ?_) #[true, true, true, false, true, false, false, false, false, false] rfl rfl (by kernel_rfl) (fun _ _ _ h => h) (Or.inl ⟨by rfl, ?_⟩) ?_ ?_
                  rotate_left
                  · intro w'
                    go_simp
                    with_reducible rfl
                  rotate_left
                  · simp only [Act.put, List.setIfInBounds_toArray, List.set_cons_zero, List.set_cons_succ, i64_w, i32_w]
                    rfl
                  refine pure_ (i := 5) (N := some 129) (v := ?_) (a' := ?_) #[true, true, true, false, true, true, false, false, false, false] rfl rfl (by kernel_rfl) (fun _ _ _ h => h) (Or.inl ⟨by rfl, ?_⟩) ?_ ?_
                  rotate_left
                  · intro w'
                    go_simp
                    with_reducible rfl
                  rotate_left
                  · simp only [Act.put, List.setIfInBounds_toArray, List.set_cons_zero, List.set_cons_succ, i64_w, i32_w]
                    rfl
                  refine pure_ (i := 6) (N := some 130) (v := ?_) (a' := ?_) #[true, true, true, false, true, true, true, false, false, false] rfl rfl (by kernel_rfl) (fun _ _ _ h => h) (Or.inl ⟨by rfl, ?_⟩) ?_ ?_
                  rotate_left
                  · intro w'
                    go_simp
                    with_reducible rfl
                  rotate_left
                  · simp only [Act.put, List.setIfInBounds_toArray, List.set_cons_zero, List.set_cons_succ, i64_w, i32_w]
                    rfl
                  refine take_ (i := 3) (N := some 127) (v := ?_) (a' := ?_) #[true, true, true, true, true, true, true, false, false, false] rfl rfl (by kernel_rfl) (fun _ _ _ h => h) (Or.inl ⟨by rfl, ?_⟩) hHeld ?_ ?_
                  rotate_left
                  · rintro w' ⟨s0, s1⟩
                    go_simp
                    with_reducible rfl
                  rotate_left
                  · simp only [Act.put, List.setIfInBounds_toArray, List.set_cons_zero, List.set_cons_succ, i64_w, i32_w]
                    rfl
                  refine pure_ (i := 8) (N := some 19) (v := ?_) (a' := ?_) #[true, true, true, true, true, true, true, false, true, false] rfl rfl (by kernel_rfl) (fun _ _ _ h => h) (Or.inl ⟨by rfl, ?_⟩) ?_ ?_
                  rotate_left
                  · intro w'
                    go_simp
                    with_reducible rfl
                  rotate_left
                  · simp only [Act.put, List.setIfInBounds_toArray, List.set_cons_zero, List.set_cons_succ, i64_w, i32_w]
                    rfl
                  refine take_ (i := 7) (N := some 131) (v := ?_) (a' := ?_) #[true, true, true, true, true, true, true, true, true, false] rfl rfl (by kernel_rfl) (fun _ _ _ h => h) (Or.inl ⟨by rfl, ?_⟩) hHeld ?_ ?_
                  rotate_left
                  · rintro w' ⟨s0, s1⟩
                    go_simp
                    with_reducible rfl
                  rotate_left
                  · simp only [Act.put, List.setIfInBounds_toArray, List.set_cons_zero, List.set_cons_succ, i64_w, i32_w]
                    rfl
                  refine pure_ (i := 9) (N := some 20) (v := ?_) (a' := ?_) #[true, true, true, true, true, true, true, true, true, true] rfl rfl (by kernel_rfl) (fun _ _ _ h => h) (Or.inl ⟨by rfl, ?_⟩) ?_ ?_
                  rotate_left
                  · intro w'
                    go_simp
                    with_reducible rfl
                  rotate_left
                  · simp only [Act.put, List.setIfInBounds_toArray, List.set_cons_zero, List.set_cons_succ, i64_w, i32_w]
                    rfl
                  refine done_ (by kernel_rfl) ?_
                  go_wp2_with fail
                  refine (server_tokensCanMatch.calls k1 _ _ t _ HT.out).mono ?_
                  rintro e w' ⟨rfl, ⟨m2, rfl⟩⟩
                  have hlt := HK.out
                  cases t with
                  | false =>
                    have H := H3.out
                    simp at H
                    subst H
                    go_wp2
                    go_ret
                    exact ⟨rfl, by repeat (first | exact HBW.out | apply pw_below_drewN | apply below_drew)⟩
                  | true =>
                    have H' := Aside0.mk (show server_SubjectsCollide.l0 k1 ta tb (tb.length : Int) (wrap64 (x + 1)) = some r from by have h := H3.out; simpa using h)
                    clear H3
                    go_wp2
                    go_roundg k1
                    case measure => omega
                    case rel => exact ⟨(wrap64 (x + 1)), (by first | rfl | (simp; done) | (simp [*]; done)), H', ⟨by omega⟩, by repeat (first | exact Drawn0.refl _ | apply Drawn0.step | exact ⟨_, rfl⟩)⟩
                · rw [if_neg q2] at H
                  exact absurd H (by simp)
              · rw [if_neg q1] at H
                exact absurd H (by simp)
            · rw [if_neg p1] at H
              exact absurd H (by simp)
          · rw [if_neg c1] at H
            have c1b : decide (x < (tb.length : Int)) = false := decide_eq_false c1
            obtain rfl := Option.some.inj H
            go_wp2
            go_ret
            exact ⟨rfl, pw_below_drewN HBW.out m⟩
  · have H1 := Aside0.mk (show server_isSubsetMatchTokenized.f k tb ta = some r from by have h := H.out; simpa [server_SubjectsCollide.tail] using h)
    go_wp2_with fail
    refine (server_isSubsetMatchTokenized.calls k A2 c2 tb A1 c1 ta r W HCB.out HL2.out HCA.out HL1.out H1.out).mono ?_
    rintro e w' ⟨rfl, ⟨nd, rfl⟩⟩
    go_wp2
    go_ret
    exact ⟨rfl, pw_below_drewN HBW.out nd⟩
  · rcases Nat.lt_trichotomy ta.length tb.length with d | d | d
    · have n1 : ((ta.length : Int) != (tb.length : Int)) = true := by exact bne_iff_ne.mpr (by omega)
      have n2 : decide ((ta.length : Int) < (tb.length : Int)) = true := decide_eq_true (by omega)
      have n3 : decide ((tb.length : Int) < (ta.length : Int)) = false := decide_eq_false (by omega)
      have m1 : (ta.length < tb.length) = True := by simp; omega
      have m2 : (tb.length < ta.length) = False := by simp; omega
      obtain rfl : false = r := by
        have h := H.out
        simp only [server_SubjectsCollide.tail] at h
        simp [show ¬ ta.length = tb.length by omega, show (ta.length < tb.length) = True by simp; omega, show (tb.length < ta.length) = False by simp; omega] at h
        exact h.symm
      clear d
      go_wp2
      go_ret
      exact ⟨rfl, HBW.out⟩
    · have n1 : ((ta.length : Int) != (tb.length : Int)) = false := by exact bne_eq_false_iff_eq.mpr (by omega)
      have n2 : decide ((ta.length : Int) < (tb.length : Int)) = false := decide_eq_false (by omega)
      have n3 : decide ((tb.length : Int) < (ta.length : Int)) = false := decide_eq_false (by omega)
      have m1 : (ta.length < tb.length) = False := by simp; omega
      have m2 : (tb.length < ta.length) = False := by simp; omega
      have H1 : Aside0 (server_SubjectsCollide.l0 k ta tb (ta.length : Int) 0 = some r) := ⟨by
        have h := H.out
        have hm : min ta.length tb.length = ta.length := by omega
        simp only [server_SubjectsCollide.tail, hm] at h
        simp [show (ta.length = tb.length) = True by simp; omega, show (ta.length < tb.length) = False by simp; omega, show (tb.length < ta.length) = False by simp; omega] at h
        exact h⟩
      clear d
      clear H
      go_wp2
      go_loopg [18] k (fun kq v18 w' => ∃ (x : Int), v18 = .int .i64 x ∧ Aside0 (server_SubjectsCollide.l0 kq ta tb (ta.length : Int) x = some r) ∧ Aside0 (kq ≤ k) ∧ Drawn0 W w')
      case atStart => exact ⟨0, rfl, H1, ⟨Nat.le_refl _⟩, Drawn0.refl _⟩
      case round =>
        clear H1
        obtain ⟨x, rfl, HA, HK, ⟨m, rfl⟩⟩ := hrel
        cases gk with
        | zero => exact absurd HA.out (by simp [server_SubjectsCollide.l0])
        | succ k1 =>
          have H := HA.out
          clear HA
          simp only [server_SubjectsCollide.l0] at H
          by_cases c1 : x < (ta.length : Int)
          · rw [if_pos c1] at H
            have c1b : decide (x < (ta.length : Int)) = true := decide_eq_true c1
            clear c1
            by_cases p1 : 0 ≤ x
            · rw [if_pos p1] at H
              by_cases q1 : x < (ta.length : Int)
              · rw [if_pos q1] at H
                by_cases q2 : x < (tb.length : Int)
                · rw [if_pos q2] at H
                  obtain ⟨t, ht, H3⟩ := Option.bind_eq_some_iff.mp H
                  have HT := Aside0.mk ht
                  have H3 := Aside0.mk H3
                  clear ht H
                  obtain ⟨ad1, e1, hx1⟩ := Kd.at_string (Kd.C_drewN HCA.out m) x p1 q1
                  obtain ⟨ad2, e2, hx2⟩ := Kd.at_string (Kd.C_drewN HCB.out m) x p1 q2
                  cases e1
                  cases e2
                  replace p1 := eq_true p1
                  replace q1 := eq_true q1
                  replace q2 := eq_true q2
                  go_wp2
                  refine start_ (n := 10) (S := fun w' => w'.cell? (ad1.add x.toNat) = some (.string (rdOf ByteArray.empty ta x)) ∧ w'.cell? (ad2.add x.toNat) = some (.string (rdOf ByteArray.empty tb x))) (ds := []) #[false, false, false, false, false, false, false, false, false, false] (by kernel_rfl) rfl rfl ⟨hx1, hx2⟩ (fun hHeld => ?_)
                  refine pure_ (i := 0) (N := some 124) (v := ?_) (a' := ?_) #[true, false, false, false, false, false, false, false, false, false] rfl rfl (by kernel_rfl) (fun _ _ _ h => h) (Or.inl ⟨by rfl, ?_⟩) ?_ ?_
                  rotate_left
                  · intro w'
                    go_simp
                    with_reducible rfl
                  rotate_left
                  · simp only [Act.put, List.setIfInBounds_toArray, List.set_cons_zero, List.set_cons_succ, i64_w, i32_w]
                    rfl
                  refine pure_ (i := 1) (N := some 125) (v := ?_) (a' := ?_) #[true, true, false, false, false, false, false, false, false, false] rfl rfl (by kernel_rfl) (fun _ _ _ h => h) (Or.inl ⟨by rfl, ?_⟩) ?_ ?_
                  rotate_left
                  · intro w'
                    go_simp
                    with_reducible rfl
                  rotate_left
                  · simp only [Act.put, List.setIfInBounds_toArray, List.set_cons_zero, List.set_cons_succ, i64_w, i32_w]
                    rfl
                  refine pure_ (i := 2) (N := some 126) (v := ?_) (a' := ?_) #[true, true, true, false, false, false, false, false, false, false] rfl rfl (by kernel_rfl) (fun _ _ _ h => h) (Or.inl ⟨by rfl, ?_⟩) ?_ ?_
                  rotate_left
                  · intro w'
                    go_simp
                    with_reducible rfl
                  rotate_left
                  · simp only [Act.put, List.setIfInBounds_toArray, List.set_cons_zero, List.set_cons_succ, i64_w, i32_w]
                    rfl
                  refine pure_ (i := 4) (N := some 128) (v := ?_) (a' := ?_) #[true, true, true, false, true, false, false, false, false, false] rfl rfl (by kernel_rfl) (fun _ _ _ h => h) (Or.inl ⟨by rfl, ?_⟩) ?_ ?_
                  rotate_left
                  · intro w'
                    go_simp
                    with_reducible rfl
                  rotate_left
                  · simp only [Act.put, List.setIfInBounds_toArray, List.set_cons_zero, List.set_cons_succ, i64_w, i32_w]
                    rfl
                  refine pure_ (i := 5) (N := some 129) (v := ?_) (a' := ?_) #[true, true, true, false, true, true, false, false, false, false] rfl rfl (by kernel_rfl) (fun _ _ _ h => h) (Or.inl ⟨by rfl, ?_⟩) ?_ ?_
                  rotate_left
                  · intro w'
                    go_simp
                    with_reducible rfl
                  rotate_left
                  · simp only [Act.put, List.setIfInBounds_toArray, List.set_cons_zero, List.set_cons_succ, i64_w, i32_w]
                    rfl
                  refine pure_ (i := 6) (N := some 130) (v := ?_) (a' := ?_) #[true, true, true, false, true, true, true, false, false, false] rfl rfl (by kernel_rfl) (fun _ _ _ h => h) (Or.inl ⟨by rfl, ?_⟩) ?_ ?_
                  rotate_left
                  · intro w'
                    go_simp
                    with_reducible rfl
                  rotate_left
                  · simp only [Act.put, List.setIfInBounds_toArray, List.set_cons_zero, List.set_cons_succ, i64_w, i32_w]
                    rfl
                  refine take_ (i := 3) (N := some 127) (v := ?_) (a' := ?_) #[true, true, true, true, true, true, true, false, false, false] rfl rfl (by kernel_rfl) (fun _ _ _ h => h) (Or.inl ⟨by rfl, ?_⟩) hHeld ?_ ?_
                  rotate_left
                  · rintro w' ⟨s0, s1⟩
                    go_simp
                    with_reducible rfl
                  rotate_left
                  · simp only [Act.put, List.setIfInBounds_toArray, List.set_cons_zero, List.set_cons_succ, i64_w, i32_w]
                    rfl
                  refine pure_ (i := 8) (N := some 19) (v := ?_) (a' := ?_) #[true, true, true, true, true, true, true, false, true, false] rfl rfl (by kernel_rfl) (fun _ _ _ h => h) (Or.inl ⟨by rfl, ?_⟩) ?_ ?_
                  rotate_left
                  · intro w'
                    go_simp
                    with_reducible rfl
                  rotate_left
                  · simp only [Act.put, List.setIfInBounds_toArray, List.set_cons_zero, List.set_cons_succ, i64_w, i32_w]
                    rfl
                  refine take_ (i := 7) (N := some 131) (v := ?_) (a' := ?_) #[true, true, true, true, true, true, true, true, true, false] rfl rfl (by kernel_rfl) (fun _ _ _ h => h) (Or.inl ⟨by rfl, ?_⟩) hHeld ?_ ?_
                  rotate_left
                  · rintro w' ⟨s0, s1⟩
                    go_simp
                    with_reducible rfl
                  rotate_left
                  · simp only [Act.put, List.setIfInBounds_toArray, List.set_cons_zero, List.set_cons_succ, i64_w, i32_w]
                    rfl
                  refine pure_ (i := 9) (N := some 20) (v := ?_) (a' := ?_) #[true, true, true, true, true, true, true, true, true, true] rfl rfl (by kernel_rfl) (fun _ _ _ h => h) (Or.inl ⟨by rfl, ?_⟩) ?_ ?_
                  rotate_left
                  · intro w'
                    go_simp
                    with_reducible rfl
                  rotate_left
                  · simp only [Act.put, List.setIfInBounds_toArray, List.set_cons_zero, List.set_cons_succ, i64_w, i32_w]
                    rfl
                  refine done_ (by kernel_rfl) ?_
                  go_wp2_with fail
                  refine (server_tokensCanMatch.calls k1 _ _ t _ HT.out).mono ?_
                  rintro e w' ⟨rfl, ⟨m2, rfl⟩⟩
                  have hlt := HK.out
                  cases t with
                  | false =>
                    have H := H3.out
                    simp at H
                    subst H
                    go_wp2
                    go_ret
                    exact ⟨rfl, by repeat (first | exact HBW.out | apply pw_below_drewN | apply below_drew)⟩
                  | true =>
                    have H' := Aside0.mk (show server_SubjectsCollide.l0 k1 ta tb (ta.length : Int) (wrap64 (x + 1)) = some r from by have h := H3.out; simpa using h)
                    clear H3
                    go_wp2
                    go_roundg k1
                    case measure => omega
                    case rel => exact ⟨(wrap64 (x + 1)), (by first | rfl | (simp; done) | (simp [*]; done)), H', ⟨by omega⟩, by repeat (first | exact Drawn0.refl _ | apply Drawn0.step | exact ⟨_, rfl⟩)⟩
                · rw [if_neg q2] at H
                  exact absurd H (by simp)
              · rw [if_neg q1] at H
                exact absurd H (by simp)
            · rw [if_neg p1] at H
              exact absurd H (by simp)
          · rw [if_neg c1] at H
            have c1b : decide (x < (ta.length : Int)) = false := decide_eq_false c1
            obtain rfl := Option.some.inj H
            go_wp2
            go_ret
            exact ⟨rfl, pw_below_drewN HBW.out m⟩
    · have n1 : ((ta.length : Int) != (tb.length : Int)) = true := by exact bne_iff_ne.mpr (by omega)
      have n2 : decide ((ta.length : Int) < (tb.length : Int)) = false := decide_eq_false (by omega)
      have n3 : decide ((tb.length : Int) < (ta.length : Int)) = true := decide_eq_true (by omega)
      have m1 : (ta.length < tb.length) = False := by simp; omega
      have m2 : (tb.length < ta.length) = True := by simp; omega
      have H1 : Aside0 (server_SubjectsCollide.l0 k ta tb (tb.length : Int) 0 = some r) := ⟨by
        have h := H.out
        have hm : min ta.length tb.length = tb.length := by omega
        simp only [server_SubjectsCollide.tail, hm] at h
        simp [show ¬ ta.length = tb.length by omega, show (ta.length < tb.length) = False by simp; omega, show (tb.length < ta.length) = True by simp; omega] at h
        exact h⟩
      clear d
      clear H
      go_wp2
      go_loopg [18] k (fun kq v18 w' => ∃ (x : Int), v18 = .int .i64 x ∧ Aside0 (server_SubjectsCollide.l0 kq ta tb (tb.length : Int) x = some r) ∧ Aside0 (kq ≤ k) ∧ Drawn0 W w')
      case atStart => exact ⟨0, rfl, H1, ⟨Nat.le_refl _⟩, Drawn0.refl _⟩
      case round =>
        clear H1
        obtain ⟨x, rfl, HA, HK, ⟨m, rfl⟩⟩ := hrel
        cases gk with
        | zero => exact absurd HA.out (by simp [server_SubjectsCollide.l0])
        | succ k1 =>
          have H := HA.out
          clear HA
          simp only [server_SubjectsCollide.l0] at H
          by_cases c1 : x < (tb.length : Int)
          · rw [if_pos c1] at H
            have c1b : decide (x < (tb.length : Int)) = true := decide_eq_true c1
            clear c1
            by_cases p1 : 0 ≤ x
            · rw [if_pos p1] at H
              by_cases q1 : x < (ta.length : Int)
              · rw [if_pos q1] at H
                by_cases q2 : x < (tb.length : Int)
                · rw [if_pos q2] at H
                  obtain ⟨t, ht, H3⟩ := Option.bind_eq_some_iff.mp H
                  have HT := Aside0.mk ht
                  have H3 := Aside0.mk H3
                  clear ht H
                  obtain ⟨ad1, e1, hx1⟩ := Kd.at_string (Kd.C_drewN HCA.out m) x p1 q1
                  obtain ⟨ad2, e2, hx2⟩ := Kd.at_string (Kd.C_drewN HCB.out m) x p1 q2
                  cases e1
                  cases e2
                  replace p1 := eq_true p1
                  replace q1 := eq_true q1
                  replace q2 := eq_true q2
                  go_wp2
                  refine start_ (n := 10) (S := fun w' => w'.cell? (ad1.add x.toNat) = some (.string (rdOf ByteArray.empty ta x)) ∧ w'.cell? (ad2.add x.toNat) = some (.string (rdOf ByteArray.empty tb x))) (ds := []) #[false, false, false, false, false, false, false, false, false, false] (by kernel_rfl) rfl rfl ⟨hx1, hx2⟩ (fun hHeld => ?_)
                  refine pure_ (i := 0) (N := some 124) (v := ?_) (a' := ?_) #[true, false, false, false, false, false, false, false, false, false] rfl rfl (by kernel_rfl) (fun _ _ _ h => h) (Or.inl ⟨by rfl, ?_⟩) ?_ ?_
                  rotate_left
                  · intro w'
                    go_simp
                    with_reducible rfl
                  rotate_left
                  · simp only [Act.put, List.setIfInBounds_toArray, List.set_cons_zero, List.set_cons_succ, i64_w, i32_w]
                    rfl
                  refine pure_ (i := 1) (N := some 125) (v := ?_) (a' := ?_) #[true, true, false, false, false, false, false, false, false, false] rfl rfl (by kernel_rfl) (fun _ _ _ h => h) (Or.inl ⟨by rfl, ?_⟩) ?_ ?_
                  rotate_left
                  · intro w'
                    go_simp
                    with_reducible rfl
                  rotate_left
                  · simp only [Act.put, List.setIfInBounds_toArray, List.set_cons_zero, List.set_cons_succ, i64_w, i32_w]
                    rfl
                  refine pure_ (i := 2) (N := some 126) (v := ?_) (a' := ?_) #[true, true, true, false, false, false, false, false, false, false] rfl rfl (by kernel_rfl) (fun _ _ _ h => h) (Or.inl ⟨by rfl, ?_⟩) ?_ ?_
                  rotate_left
                  · intro w'
                    go_simp
                    with_reducible rfl
                  rotate_left
                  · simp only [Act.put, List.setIfInBounds_toArray, List.set_cons_zero, List.set_cons_succ, i64_w, i32_w]
                    rfl
                  refine pure_ (i := 4) (N := some 128) (v := ?_) (a' := ?_) #[true, true, true, false, true, false, false, false, false, false] rfl rfl (by kernel_rfl) (fun _ _ _ h => h) (Or.inl ⟨by rfl, ?_⟩) ?_ ?_
                  rotate_left
                  · intro w'
                    go_simp
                    with_reducible rfl
                  rotate_left
                  · simp only [Act.put, List.setIfInBounds_toArray, List.set_cons_zero, List.set_cons_succ, i64_w, i32_w]
                    rfl
                  refine pure_ (i := 5) (N := some 129) (v := ?_) (a' := ?_) #[true, true, true, false, true, true, false, false, false, false] rfl rfl (by kernel_rfl) (fun _ _ _ h => h) (Or.inl ⟨by rfl, ?_⟩) ?_ ?_
                  rotate_left
                  · intro w'
                    go_simp
                    with_reducible rfl
                  rotate_left
                  · simp only [Act.put, List.setIfInBounds_toArray, List.set_cons_zero, List.set_cons_succ, i64_w, i32_w]
                    rfl
                  refine pure_ (i := 6) (N := some 130) (v := ?_) (a' := ?_) #[true, true, true, false, true, true, true, false, false, false] rfl rfl (by kernel_rfl) (fun _ _ _ h => h) (Or.inl ⟨by rfl, ?_⟩) ?_ ?_
                  rotate_left
                  · intro w'
                    go_simp
                    with_reducible rfl
                  rotate_left
                  · simp only [Act.put, List.setIfInBounds_toArray, List.set_cons_zero, List.set_cons_succ, i64_w, i32_w]
                    rfl
                  refine take_ (i := 3) (N := some 127) (v := ?_) (a' := ?_) #[true, true, true, true, true, true, true, false, false, false] rfl rfl (by kernel_rfl) (fun _ _ _ h => h) (Or.inl ⟨by rfl, ?_⟩) hHeld ?_ ?_
                  rotate_left
                  · rintro w' ⟨s0, s1⟩
                    go_simp
                    with_reducible rfl
                  rotate_left
                  · simp only [Act.put, List.setIfInBounds_toArray, List.set_cons_zero, List.set_cons_succ, i64_w, i32_w]
                    rfl
                  refine pure_ (i := 8) (N := some 19) (v := ?_) (a' := ?_) #[true, true, true, true, true, true, true, false, true, false] rfl rfl (by kernel_rfl) (fun _ _ _ h => h) (Or.inl ⟨by rfl, ?_⟩) ?_ ?_
                  rotate_left
                  · intro w'
                    go_simp
                    with_reducible rfl
                  rotate_left
                  · simp only [Act.put, List.setIfInBounds_toArray, List.set_cons_zero, List.set_cons_succ, i64_w, i32_w]
                    rfl
                  refine take_ (i := 7) (N := some 131) (v := ?_) (a' := ?_) #[true, true, true, true, true, true, true, true, true, false] rfl rfl (by kernel_rfl) (fun _ _ _ h => h) (Or.inl ⟨by rfl, ?_⟩) hHeld ?_ ?_
                  rotate_left
                  · rintro w' ⟨s0, s1⟩
                    go_simp
                    with_reducible rfl
                  rotate_left
                  · simp only [Act.put, List.setIfInBounds_toArray, List.set_cons_zero, List.set_cons_succ, i64_w, i32_w]
                    rfl
                  refine pure_ (i := 9) (N := some 20) (v := ?_) (a' := ?_) #[true, true, true, true, true, true, true, true, true, true] rfl rfl (by kernel_rfl) (fun _ _ _ h => h) (Or.inl ⟨by rfl, ?_⟩) ?_ ?_
                  rotate_left
                  · intro w'
                    go_simp
                    with_reducible rfl
                  rotate_left
                  · simp only [Act.put, List.setIfInBounds_toArray, List.set_cons_zero, List.set_cons_succ, i64_w, i32_w]
                    rfl
                  refine done_ (by kernel_rfl) ?_
                  go_wp2_with fail
                  refine (server_tokensCanMatch.calls k1 _ _ t _ HT.out).mono ?_
                  rintro e w' ⟨rfl, ⟨m2, rfl⟩⟩
                  have hlt := HK.out
                  cases t with
                  | false =>
                    have H := H3.out
                    simp at H
                    subst H
                    go_wp2
                    go_ret
                    exact ⟨rfl, by repeat (first | exact HBW.out | apply pw_below_drewN | apply below_drew)⟩
                  | true =>
                    have H' := Aside0.mk (show server_SubjectsCollide.l0 k1 ta tb (tb.length : Int) (wrap64 (x + 1)) = some r from by have h := H3.out; simpa using h)
                    clear H3
                    go_wp2
                    go_roundg k1
                    case measure => omega
                    case rel => exact ⟨(wrap64 (x + 1)), (by first | rfl | (simp; done) | (simp [*]; done)), H', ⟨by omega⟩, by repeat (first | exact Drawn0.refl _ | apply Drawn0.step | exact ⟨_, rfl⟩)⟩
                · rw [if_neg q2] at H
                  exact absurd H (by simp)
              · rw [if_neg q1] at H
                exact absurd H (by simp)
            · rw [if_neg p1] at H
              exact absurd H (by simp)
          · rw [if_neg c1] at H
            have c1b : decide (x < (tb.length : Int)) = false := decide_eq_false c1
            obtain rfl := Option.some.inj H
            go_wp2
            go_ret
            exact ⟨rfl, pw_below_drewN HBW.out m⟩
  · rcases Nat.lt_trichotomy ta.length tb.length with d | d | d
    · have n1 : ((ta.length : Int) != (tb.length : Int)) = true := by exact bne_iff_ne.mpr (by omega)
      have n2 : decide ((ta.length : Int) < (tb.length : Int)) = true := decide_eq_true (by omega)
      have n3 : decide ((tb.length : Int) < (ta.length : Int)) = false := decide_eq_false (by omega)
      have m1 : (ta.length < tb.length) = True := by simp; omega
      have m2 : (tb.length < ta.length) = False := by simp; omega
      obtain rfl : false = r := by
        have h := H.out
        simp only [server_SubjectsCollide.tail] at h
        simp [show ¬ ta.length = tb.length by omega, show (ta.length < tb.length) = True by simp; omega, show (tb.length < ta.length) = False by simp; omega] at h
        exact h.symm
      clear d
      go_wp2
      go_ret
      exact ⟨rfl, HBW.out⟩
    · have n1 : ((ta.length : Int) != (tb.length : Int)) = false := by exact bne_eq_false_iff_eq.mpr (by omega)
      have n2 : decide ((ta.length : Int) < (tb.length : Int)) = false := decide_eq_false (by omega)
      have n3 : decide ((tb.length : Int) < (ta.length : Int)) = false := decide_eq_false (by omega)
      have m1 : (ta.length < tb.length) = False := by simp; omega
      have m2 : (tb.length < ta.length) = False := by simp; omega
      have H1 : Aside0 (server_SubjectsCollide.l0 k ta tb (ta.length : Int) 0 = some r) := ⟨by
        have h := H.out
        have hm : min ta.length tb.length = ta.length := by omega
        simp only [server_SubjectsCollide.tail, hm] at h
        simp [show (ta.length = tb.length) = True by simp; omega, show (ta.length < tb.length) = False by simp; omega, show (tb.length < ta.length) = False by simp; omega] at h
        exact h⟩
      clear d
      clear H
      go_wp2
      go_loopg [18] k (fun kq v18 w' => ∃ (x : Int), v18 = .int .i64 x ∧ Aside0 (server_SubjectsCollide.l0 kq ta tb (ta.length : Int) x = some r) ∧ Aside0 (kq ≤ k) ∧ Drawn0 W w')
      case atStart => exact ⟨0, rfl, H1, ⟨Nat.le_refl _⟩, Drawn0.refl _⟩
      case round =>
        clear H1
        obtain ⟨x, rfl, HA, HK, ⟨m, rfl⟩⟩ := hrel
        cases gk with
        | zero => exact absurd HA.out (by simp [server_SubjectsCollide.l0])
        | succ k1 =>
          have H := HA.out
          clear HA
          simp only [server_SubjectsCollide.l0] at H
          by_cases c1 : x < (ta.length : Int)
          · rw [if_pos c1] at H
            have c1b : decide (x < (ta.length : Int)) = true := decide_eq_true c1
            clear c1
            by_cases p1 : 0 ≤ x
            · rw [if_pos p1] at H
              by_cases q1 : x < (ta.length : Int)
              · rw [if_pos q1] at H
                by_cases q2 : x < (tb.length : Int)
                · rw [if_pos q2] at H
                  obtain ⟨t, ht, H3⟩ := Option.bind_eq_some_iff.mp H
                  have HT := Aside0.mk ht
                  have H3 := Aside0.mk H3
                  clear ht H
                  obtain ⟨ad1, e1, hx1⟩ := Kd.at_string (Kd.C_drewN HCA.out m) x p1 q1
                  obtain ⟨ad2, e2, hx2⟩ := Kd.at_string (Kd.C_drewN HCB.out m) x p1 q2
                  cases e1
                  cases e2
                  replace p1 := eq_true p1
                  replace q1 := eq_true q1
                  replace q2 := eq_true q2
                  go_wp2
                  refine start_ (n := 10) (S := fun w' => w'.cell? (ad1.add x.toNat) = some (.string (rdOf ByteArray.empty ta x)) ∧ w'.cell? (ad2.add x.toNat) = some (.string (rdOf ByteArray.empty tb x))) (ds := []) #[false, false, false, false, false, false, false, false, false, false] (by kernel_rfl) rfl rfl ⟨hx1, hx2⟩ (fun hHeld => ?_)
                  refine pure_ (i := 0) (N := some 124) (v := ?_) (a' := ?_) #[true, false, false, false, false, false, false, false, false, false] rfl rfl (by kernel_rfl) (fun _ _ _ h => h) (Or.inl ⟨by rfl, ?_⟩) ?_ ?_
                  rotate_left
                  · intro w'
                    go_simp
                    with_reducible rfl
                  rotate_left
                  · simp only [Act.put, List.setIfInBounds_toArray, List.set_cons_zero, List.set_cons_succ, i64_w, i32_w]
                    rfl
                  refine pure_ (i := 1) (N := some 125) (v := ?_) (a' := ?_) #[true, true, false, false, false, false, false, false, false, false] rfl rfl (by kernel_rfl) (fun _ _ _ h => h) (Or.inl ⟨by rfl, ?_⟩) ?_ ?_
                  rotate_left
                  · intro w'
                    go_simp
                    with_reducible rfl
                  rotate_left
                  · simp only [Act.put, List.setIfInBounds_toArray, List.set_cons_zero, List.set_cons_succ, i64_w, i32_w]
                    rfl
                  refine pure_ (i := 2) (N := some 126) (v := ?_) (a' := ?_) #[true, true, true, false, false, false, false, false, false, false] rfl rfl (by kernel_rfl) (fun _ _ _ h => h) (Or.inl ⟨by rfl, ?_⟩) ?_ ?_
                  rotate_left
                  · intro w'
                    go_simp
                    with_reducible rfl
                  rotate_left
                  · simp only [Act.put, List.setIfInBounds_toArray, List.set_cons_zero, List.set_cons_succ, i64_w, i32_w]
                    rfl
                  refine pure_ (i := 4) (N := some 128) (v := ?_) (a' := ?_) #[true, true, true, false, true, false, false, false, false, false] rfl rfl (by kernel_rfl) (fun _ _ _ h => h) (Or.inl ⟨by rfl, ?_⟩) ?_ ?_
                  rotate_left
                  · intro w'
                    go_simp
                    with_reducible rfl
                  rotate_left
                  · simp only [Act.put, List.setIfInBounds_toArray, List.set_cons_zero, List.set_cons_succ, i64_w, i32_w]
                    rfl
                  refine pure_ (i := 5) (N := some 129) (v := ?_) (a' := ?_) #[true, true, true, false, true, true, false, false, false, false] rfl rfl (by kernel_rfl) (fun _ _ _ h => h) (Or.inl ⟨by rfl, ?_⟩) ?_ ?_
                  rotate_left
                  · intro w'
                    go_simp
                    with_reducible rfl
                  rotate_left
                  · simp only [Act.put, List.setIfInBounds_toArray, List.set_cons_zero, List.set_cons_succ, i64_w, i32_w]
                    rfl
                  refine pure_ (i := 6) (N := some 130) (v := ?_) (a' := ?_) #[true, true, true, false, true, true, true, false, false, false] rfl rfl (by kernel_rfl) (fun _ _ _ h => h) (Or.inl ⟨by rfl, ?_⟩) ?_ ?_
                  rotate_left
                  · intro w'
                    go_simp
                    with_reducible rfl
                  rotate_left
                  · simp only [Act.put, List.setIfInBounds_toArray, List.set_cons_zero, List.set_cons_succ, i64_w, i32_w]
                    rfl
                  refine take_ (i := 3) (N := some 127) (v := ?_) (a' := ?_) #[true, true, true, true, true, true, true, false, false, false] rfl rfl (by kernel_rfl) (fun _ _ _ h => h) (Or.inl ⟨by rfl, ?_⟩) hHeld ?_ ?_
                  rotate_left
                  · rintro w' ⟨s0, s1⟩
                    go_simp
                    with_reducible rfl
                  rotate_left
                  · simp only [Act.put, List.setIfInBounds_toArray, List.set_cons_zero, List.set_cons_succ, i64_w, i32_w]
                    rfl
                  refine pure_ (i := 8) (N := some 19) (v := ?_) (a' := ?_) #[true, true, true, true, true, true, true, false, true, false] rfl rfl (by kernel_rfl) (fun _ _ _ h => h) (Or.inl ⟨by rfl, ?_⟩) ?_ ?_
                  rotate_left
                  · intro w'
                    go_simp
                    with_reducible rfl
                  rotate_left
                  · simp only [Act.put, List.setIfInBounds_toArray, List.set_cons_zero, List.set_cons_succ, i64_w, i32_w]
                    rfl
                  refine take_ (i := 7) (N := some 131) (v := ?_) (a' := ?_) #[true, true, true, true, true, true, true, true, true, false] rfl rfl (by kernel_rfl) (fun _ _ _ h => h) (Or.inl ⟨by rfl, ?_⟩) hHeld ?_ ?_
                  rotate_left
                  · rintro w' ⟨s0, s1⟩
                    go_simp
                    with_reducible rfl
                  rotate_left
                  · simp only [Act.put, List.setIfInBounds_toArray, List.set_cons_zero, List.set_cons_succ, i64_w, i32_w]
                    rfl
                  refine pure_ (i := 9) (N := some 20) (v := ?_) (a' := ?_) #[true, true, true, true, true, true, true, true, true, true] rfl rfl (by kernel_rfl) (fun _ _ _ h => h) (Or.inl ⟨by rfl, ?_⟩) ?_ ?_
                  rotate_left
                  · intro w'
                    go_simp
                    with_reducible rfl
                  rotate_left
                  · simp only [Act.put, List.setIfInBounds_toArray, List.set_cons_zero, List.set_cons_succ, i64_w, i32_w]
                    rfl
                  refine done_ (by kernel_rfl) ?_
                  go_wp2_with fail
                  refine (server_tokensCanMatch.calls k1 _ _ t _ HT.out).mono ?_
                  rintro e w' ⟨rfl, ⟨m2, rfl⟩⟩
                  have hlt := HK.out
                  cases t with
                  | false =>
                    have H := H3.out
                    simp at H
                    subst H
                    go_wp2
                    go_ret
                    exact ⟨rfl, by repeat (first | exact HBW.out | apply pw_below_drewN | apply below_drew)⟩
                  | true =>
                    have H' := Aside0.mk (show server_SubjectsCollide.l0 k1 ta tb (ta.length : Int) (wrap64 (x + 1)) = some r from by have h := H3.out; simpa using h)
                    clear H3
                    go_wp2
                    go_roundg k1
                    case measure => omega
                    case rel => exact ⟨(wrap64 (x + 1)), (by first | rfl | (simp; done) | (simp [*]; done)), H', ⟨by omega⟩, by repeat (first | exact Drawn0.refl _ | apply Drawn0.step | exact ⟨_, rfl⟩)⟩
                · rw [if_neg q2] at H
                  exact absurd H (by simp)
              · rw [if_neg q1] at H
                exact absurd H (by simp)
            · rw [if_neg p1] at H
              exact absurd H (by simp)
          · rw [if_neg c1] at H
            have c1b : decide (x < (ta.length : Int)) = false := decide_eq_false c1
            obtain rfl := Option.some.inj H
            go_wp2
            go_ret
            exact ⟨rfl, pw_below_drewN HBW.out m⟩
    · have n1 : ((ta.length : Int) != (tb.length : Int)) = true := by exact bne_iff_ne.mpr (by omega)
      have n2 : decide ((ta.length : Int) < (tb.length : Int)) = false := decide_eq_false (by omega)
      have n3 : decide ((tb.length : Int) < (ta.length : Int)) = true := decide_eq_true (by omega)
      have m1 : (ta.length < tb.length) = False := by simp; omega
      have m2 : (tb.length < ta.length) = True := by simp; omega
      obtain rfl : false = r := by
        have h := H.out
        simp only [server_SubjectsCollide.tail] at h
        simp [show ¬ ta.length = tb.length by omega, show (ta.length < tb.length) = False by simp; omega, show (tb.length < ta.length) = True by simp; omega] at h
        exact h.symm
      clear d
      go_wp2
      go_ret
      exact ⟨rfl, HBW.out⟩
  · rcases Nat.lt_trichotomy ta.length tb.length with d | d | d
    · have n1 : ((ta.length : Int) != (tb.length : Int)) = true := by exact bne_iff_ne.mpr (by omega)
      have n2 : decide ((ta.length : Int) < (tb.length : Int)) = true := decide_eq_true (by omega)
      have n3 : decide ((tb.length : Int) < (ta.length : Int)) = false := decide_eq_false (by omega)
      have m1 : (ta.length < tb.length) = True := by simp; omega
      have m2 : (tb.length < ta.length) = False := by simp; omega
      obtain rfl : false = r := by
        have h := H.out
        simp only [server_SubjectsCollide.tail] at h
        simp [show ¬ ta.length = tb.length by omega, show (ta.length < tb.length) = True by simp; omega, show (tb.length < ta.length) = False by simp; omega] at h
        exact h.symm
      clear d
      go_wp2
      go_ret
      exact ⟨rfl, HBW.out⟩
    · have n1 : ((ta.length : Int) != (tb.length : Int)) = false := by exact bne_eq_false_iff_eq.mpr (by omega)
      have n2 : decide ((ta.length : Int) < (tb.length : Int)) = false := decide_eq_false (by omega)
      have n3 : decide ((tb.length : Int) < (ta.length : Int)) = false := decide_eq_false (by omega)
      have m1 : (ta.length < tb.length) = False := by simp; omega
      have m2 : (tb.length < ta.length) = False := by simp; omega
      have H1 : Aside0 (server_SubjectsCollide.l0 k ta tb (ta.length : Int) 0 = some r) := ⟨by
        have h := H.out
        have hm : min ta.length tb.length = ta.length := by omega
        simp only [server_SubjectsCollide.tail, hm] at h
        simp [show (ta.length = tb.length) = True by simp; omega, show (ta.length < tb.length) = False by simp; omega, show (tb.length < ta.length) = False by simp; omega] at h
        exact h⟩
      clear d
      clear H
      go_wp2
      go_loopg [18] k (fun kq v18 w' => ∃ (x : Int), v18 = .int .i64 x ∧ Aside0 (server_SubjectsCollide.l0 kq ta tb (ta.length : Int) x = some r) ∧ Aside0 (kq ≤ k) ∧ Drawn0 W w')
      case atStart => exact ⟨0, rfl, H1, ⟨Nat.le_refl _⟩, Drawn0.refl _⟩
      case round =>
        clear H1
        obtain ⟨x, rfl, HA, HK, ⟨m, rfl⟩⟩ := hrel
        cases gk with
        | zero => exact absurd HA.out (by simp [server_SubjectsCollide.l0])
        | succ k1 =>
          have H := HA.out
          clear HA
          simp only [server_SubjectsCollide.l0] at H
          by_cases c1 : x < (ta.length : Int)
          · rw [if_pos c1] at H
            have c1b : decide (x < (ta.length : Int)) = true := decide_eq_true c1
            clear c1
            by_cases p1 : 0 ≤ x
            · rw [if_pos p1] at H
              by_cases q1 : x < (ta.length : Int)
              · rw [if_pos q1] at H
                by_cases q2 : x < (tb.length : Int)
                · rw [if_pos q2] at H
                  obtain ⟨t, ht, H3⟩ := Option.bind_eq_some_iff.mp H
                  have HT := Aside0.mk ht
                  have H3 := Aside0.mk H3
                  clear ht H
                  obtain ⟨ad1, e1, hx1⟩ := Kd.at_string (Kd.C_drewN HCA.out m) x p1 q1
                  obtain ⟨ad2, e2, hx2⟩ := Kd.at_string (Kd.C_drewN HCB.out m) x p1 q2
                  cases e1
                  cases e2
                  replace p1 := eq_true p1
                  replace q1 := eq_true q1
                  replace q2 := eq_true q2
                  go_wp2
                  refine start_ (n := 10) (S := fun w' => w'.cell? (ad1.add x.toNat) = some (.string (rdOf ByteArray.empty ta x)) ∧ w'.cell? (ad2.add x.toNat) = some (.string (rdOf ByteArray.empty tb x))) (ds := []) #[false, false, false, false, false, false, false, false, false, false] (by kernel_rfl) rfl rfl ⟨hx1, hx2⟩ (fun hHeld => ?_)
                  refine pure_ (i := 0) (N := some 124) (v := ?_) (a' := ?_) #[true, false, false, false, false, false, false, false, false, false] rfl rfl (by kernel_rfl) (fun _ _ _ h => h) (Or.inl ⟨by rfl, ?_⟩) ?_ ?_
                  rotate_left
                  · intro w'
                    go_simp
                    with_reducible rfl
                  rotate_left
                  · simp only [Act.put, List.setIfInBounds_toArray, List.set_cons_zero, List.set_cons_succ, i64_w, i32_w]
                    rfl
                  refine pure_ (i := 1) (N := some 125) (v := ?_) (a' := ?_) #[true, true, false, false, false, false, false, false, false, false] rfl rfl (by kernel_rfl) (fun _ _ _ h => h) (Or.inl ⟨by rfl, ?_⟩) ?_ ?_
                  rotate_left
                  · intro w'
                    go_simp
                    with_reducible rfl
                  rotate_left
                  · simp only [Act.put, List.setIfInBounds_toArray, List.set_cons_zero, List.set_cons_succ, i64_w, i32_w]
                    rfl
                  refine pure_ (i := 2) (N := some 126) (v := ?_) (a' := ?_) #[true, true, true, false, false, false, false, false, false, false] rfl rfl (by kernel_rfl) (fun _ _ _ h => h) (Or.inl ⟨by rfl, ?_⟩) ?_ ?_
                  rotate_left
                  · intro w'
                    go_simp
                    with_reducible rfl
                  rotate_left
                  · simp only [Act.put, List.setIfInBounds_toArray, List.set_cons_zero, List.set_cons_succ, i64_w, i32_w]
                    rfl
                  refine pure_ (i := 4) (N := some 128) (v := ?_) (a' := ?_) #[true, true, true, false, true, false, false, false, false, false] rfl rfl (by kernel_rfl) (fun _ _ _ h => h) (Or.inl ⟨by rfl, ?_⟩) ?_ ?_
                  rotate_left
                  · intro w'
                    go_simp
                    with_reducible rfl
                  rotate_left
                  · simp only [Act.put, List.setIfInBounds_toArray, List.set_cons_zero, List.set_cons_succ, i64_w, i32_w]
                    rfl
                  refine pure_ (i := 5) (N := some 129) (v := ?_) (a' := ?_) #[true, true, true, false, true, true, false, false, false, false] rfl rfl (by kernel_rfl) (fun _ _ _ h => h) (Or.inl ⟨by rfl, ?_⟩) ?_ ?_
                  rotate_left
                  · intro w'
                    go_simp
                    with_reducible rfl
                  rotate_left
                  · simp only [Act.put, List.setIfInBounds_toArray, List.set_cons_zero, List.set_cons_succ, i64_w, i32_w]
                    rfl
                  refine pure_ (i := 6) (N := some 130) (v := ?_) (a' := ?_) #[true, true, true, false, true, true, true, false, false, false] rfl rfl (by kernel_rfl) (fun _ _ _ h => h) (Or.inl ⟨by rfl, ?_⟩) ?_ ?_
                  rotate_left
                  · intro w'
                    go_simp
                    with_reducible rfl
                  rotate_left
                  · simp only [Act.put, List.setIfInBounds_toArray, List.set_cons_zero, List.set_cons_succ, i64_w, i32_w]
                    rfl
                  refine take_ (i := 3) (N := some 127) (v := ?_) (a' := ?_) #[true, true, true, true, true, true, true, false, false, false] rfl rfl (by kernel_rfl) (fun _ _ _ h => h) (Or.inl ⟨by rfl, ?_⟩) hHeld ?_ ?_
                  rotate_left
                  · rintro w' ⟨s0, s1⟩
                    go_simp
                    with_reducible rfl
                  rotate_left
                  · simp only [Act.put, List.setIfInBounds_toArray, List.set_cons_zero, List.set_cons_succ, i64_w, i32_w]
                    rfl
                  refine pure_ (i := 8) (N := some 19) (v := ?_) (a' := ?_) #[true, true, true, true, true, true, true, false, true, false] rfl rfl (by kernel_rfl) (fun _ _ _ h => h) (Or.inl ⟨by rfl, ?_⟩) ?_ ?_
                  rotate_left
                  · intro w'
                    go_simp
                    with_reducible rfl
                  rotate_left
                  · simp only [Act.put, List.setIfInBounds_toArray, List.set_cons_zero, List.set_cons_succ, i64_w, i32_w]
                    rfl
                  refine take_ (i := 7) (N := some 131) (v := ?_) (a' := ?_) #[true, true, true, true, true, true, true, true, true, false] rfl rfl (by kernel_rfl) (fun _ _ _ h => h) (Or.inl ⟨by rfl, ?_⟩) hHeld ?_ ?_
                  rotate_left
                  · rintro w' ⟨s0, s1⟩
                    go_simp
                    with_reducible rfl
                  rotate_left
                  · simp only [Act.put, List.setIfInBounds_toArray, List.set_cons_zero, List.set_cons_succ, i64_w, i32_w]
                    rfl
                  refine pure_ (i := 9) (N := some 20) (v := ?_) (a' := ?_) #[true, true, true, true, true, true, true, true, true, true] rfl rfl (by kernel_rfl) (fun _ _ _ h => h) (Or.inl ⟨by rfl, ?_⟩) ?_ ?_
                  rotate_left
                  · intro w'
                    go_simp
                    with_reducible rfl
                  rotate_left
                  · simp only [Act.put, List.setIfInBounds_toArray, List.set_cons_zero, List.set_cons_succ, i64_w, i32_w]
                    rfl
                  refine done_ (by kernel_rfl) ?_
                  go_wp2_with fail
                  refine (server_tokensCanMatch.calls k1 _ _ t _ HT.out).mono ?_
                  rintro e w' ⟨rfl, ⟨m2, rfl⟩⟩
                  have hlt := HK.out
                  cases t with
                  | false =>
                    have H := H3.out
                    simp at H
                    subst H
                    go_wp2
                    go_ret
                    exact ⟨rfl, by repeat (first | exact HBW.out | apply pw_below_drewN | apply below_drew)⟩
                  | true =>
                    have H' := Aside0.mk (show server_SubjectsCollide.l0 k1 ta tb (ta.length : Int) (wrap64 (x + 1)) = some r from by have h := H3.out; simpa using h)
                    clear H3
                    go_wp2
                    go_roundg k1
                    case measure => omega
                    case rel => exact ⟨(wrap64 (x + 1)), (by first | rfl | (simp; done) | (simp [*]; done)), H', ⟨by omega⟩, by repeat (first | exact Drawn0.refl _ | apply Drawn0.step | exact ⟨_, rfl⟩)⟩
                · rw [if_neg q2] at H
                  exact absurd H (by simp)
              · rw [if_neg q1] at H
                exact absurd H (by simp)
            · rw [if_neg p1] at H
              exact absurd H (by simp)
          · rw [if_neg c1] at H
            have c1b : decide (x < (ta.length : Int)) = false := decide_eq_false c1
            obtain rfl := Option.some.inj H
            go_wp2
            go_ret
            exact ⟨rfl, pw_below_drewN HBW.out m⟩
    · have n1 : ((ta.length : Int) != (tb.length : Int)) = true := by exact bne_iff_ne.mpr (by omega)
      have n2 : decide ((ta.length : Int) < (tb.length : Int)) = false := decide_eq_false (by omega)
      have n3 : decide ((tb.length : Int) < (ta.length : Int)) = true := decide_eq_true (by omega)
      have m1 : (ta.length < tb.length) = False := by simp; omega
      have m2 : (tb.length < ta.length) = True := by simp; omega
      have H1 : Aside0 (server_SubjectsCollide.l0 k ta tb (tb.length : Int) 0 = some r) := ⟨by
        have h := H.out
        have hm : min ta.length tb.length = tb.length := by omega
        simp only [server_SubjectsCollide.tail, hm] at h
        simp [show ¬ ta.length = tb.length by omega, show (ta.length < tb.length) = False by simp; omega, show (tb.length < ta.length) = True by simp; omega] at h
        exact h⟩
      clear d
      clear H
      go_wp2
      go_loopg [18] k (fun kq v18 w' => ∃ (x : Int), v18 = .int .i64 x ∧ Aside0 (server_SubjectsCollide.l0 kq ta tb (tb.length : Int) x = some r) ∧ Aside0 (kq ≤ k) ∧ Drawn0 W w')
      case atStart => exact ⟨0, rfl, H1, ⟨Nat.le_refl _⟩, Drawn0.refl _⟩
      case round =>
        clear H1
        obtain ⟨x, rfl, HA, HK, ⟨m, rfl⟩⟩ := hrel
        cases gk with
        | zero => exact absurd HA.out (by simp [server_SubjectsCollide.l0])
        | succ k1 =>
          have H := HA.out
          clear HA
          simp only [server_SubjectsCollide.l0] at H
          by_cases c1 : x < (tb.length : Int)
          · rw [if_pos c1] at H
            have c1b : decide (x < (tb.length : Int)) = true := decide_eq_true c1
            clear c1
            by_cases p1 : 0 ≤ x
            · rw [if_pos p1] at H
              by_cases q1 : x < (ta.length : Int)
              · rw [if_pos q1] at H
                by_cases q2 : x < (tb.length : Int)
                · rw [if_pos q2] at H
                  obtain ⟨t, ht, H3⟩ := Option.bind_eq_some_iff.mp H
                  have HT := Aside0.mk ht
                  have H3 := Aside0.mk H3
                  clear ht H
                  obtain ⟨ad1, e1, hx1⟩ := Kd.at_string (Kd.C_drewN HCA.out m) x p1 q1
                  obtain ⟨ad2, e2, hx2⟩ := Kd.at_string (Kd.C_drewN HCB.out m) x p1 q2
                  cases e1
                  cases e2
                  replace p1 := eq_true p1
                  replace q1 := eq_true q1
                  replace q2 := eq_true q2
                  go_wp2
                  refine start_ (n := 10) (S := fun w' => w'.cell? (ad1.add x.toNat) = some (.string (rdOf ByteArray.empty ta x)) ∧ w'.cell? (ad2.add x.toNat) = some (.string (rdOf ByteArray.empty tb x))) (ds := []) #[false, false, false, false, false, false, false, false, false, false] (by kernel_rfl) rfl rfl ⟨hx1, hx2⟩ (fun hHeld => ?_)
                  refine pure_ (i := 0) (N := some 124) (v := ?_) (a' := ?_) #[true, false, false, false, false, false, false, false, false, false] rfl rfl (by kernel_rfl) (fun _ _ _ h => h) (Or.inl ⟨by rfl, ?_⟩) ?_ ?_
                  rotate_left
                  · intro w'
                    go_simp
                    with_reducible rfl
                  rotate_left
                  · simp only [Act.put, List.setIfInBounds_toArray, List.set_cons_zero, List.set_cons_succ, i64_w, i32_w]
                    rfl
                  refine pure_ (i := 1) (N := some 125) (v := ?_) (a' := ?_) #[true, true, false, false, false, false, false, false, false, false] rfl rfl (by kernel_rfl) (fun _ _ _ h => h) (Or.inl ⟨by rfl, ?_⟩) ?_ ?_
                  rotate_left
                  · intro w'
                    go_simp
                    with_reducible rfl
                  rotate_left
                  · simp only [Act.put, List.setIfInBounds_toArray, List.set_cons_zero, List.set_cons_succ, i64_w, i32_w]
                    rfl
                  refine pure_ (i := 2) (N := some 126) (v := ?_) (a' := ?_) #[true, true, true, false, false, false, false, false, false, false] rfl rfl (by kernel_rfl) (fun _ _ _ h => h) (Or.inl ⟨by rfl, ?_⟩) ?_ ?_
                  rotate_left
                  · intro w'
                    go_simp
                    with_reducible rfl
                  rotate_left
                  · simp only [Act.put, List.setIfInBounds_toArray, List.set_cons_zero, List.set_cons_succ, i64_w, i32_w]
                    rfl
                  refine pure_ (i := 4) (N := some 128) (v := ?_) (a' := ?_) #[true, true, true, false, true, false, false, false, false, false] rfl rfl (by kernel_rfl) (fun _ _ _ h => h) (Or.inl ⟨by rfl, ?_⟩) ?_ ?_
                  rotate_left
                  · intro w'
                    go_simp
                    with_reducible rfl
                  rotate_left
                  · simp only [Act.put, List.setIfInBounds_toArray, List.set_cons_zero, List.set_cons_succ, i64_w, i32_w]
                    rfl
                  refine pure_ (i := 5) (N := some 129) (v := ?_) (a' := ?_) #[true, true, true, false, true, true, false, false, false, false] rfl rfl (by kernel_rfl) (fun _ _ _ h => h) (Or.inl ⟨by rfl, ?_⟩) ?_ ?_
                  rotate_left
                  · intro w'
                    go_simp
                    with_reducible rfl
                  rotate_left
                  · simp only [Act.put, List.setIfInBounds_toArray, List.set_cons_zero, List.set_cons_succ, i64_w, i32_w]
                    rfl
                  refine pure_ (i := 6) (N := some 130) (v := ?_) (a' := ?_) #[true, true, true, false, true, true, true, false, false, false] rfl rfl (by kernel_rfl) (fun _ _ _ h => h) (Or.inl ⟨by rfl, ?_⟩) ?_ ?_
                  rotate_left
                  · intro w'
                    go_simp
                    with_reducible rfl
                  rotate_left
                  · simp only [Act.put, List.setIfInBounds_toArray, List.set_cons_zero, List.set_cons_succ, i64_w, i32_w]
                    rfl
                  refine take_ (i := 3) (N := some 127) (v := ?_) (a' := ?_) #[true, true, true, true, true, true, true, false, false, false] rfl rfl (by kernel_rfl) (fun _ _ _ h => h) (Or.inl ⟨by rfl, ?_⟩) hHeld ?_ ?_
                  rotate_left
                  · rintro w' ⟨s0, s1⟩
                    go_simp
                    with_reducible rfl
                  rotate_left
                  · simp only [Act.put, List.setIfInBounds_toArray, List.set_cons_zero, List.set_cons_succ, i64_w, i32_w]
                    rfl
                  refine pure_ (i := 8) (N := some 19) (v := ?_) (a' := ?_) #[true, true, true, true, true, true, true, false, true, false] rfl rfl (by kernel_rfl) (fun _ _ _ h => h) (Or.inl ⟨by rfl, ?_⟩) ?_ ?_
                  rotate_left
                  · intro w'
                    go_simp
                    with_reducible rfl
                  rotate_left
                  · simp only [Act.put, List.setIfInBounds_toArray, List.set_cons_zero, List.set_cons_succ, i64_w, i32_w]
                    rfl
                  refine take_ (i := 7) (N := some 131) (v := ?_) (a' := ?_) #[true, true, true, true, true, true, true, true, true, false] rfl rfl (by kernel_rfl) (fun _ _ _ h => h) (Or.inl ⟨by rfl, ?_⟩) hHeld ?_ ?_
                  rotate_left
                  · rintro w' ⟨s0, s1⟩
                    go_simp
                    with_reducible rfl
                  rotate_left
                  · simp only [Act.put, List.setIfInBounds_toArray, List.set_cons_zero, List.set_cons_succ, i64_w, i32_w]
                    rfl
                  refine pure_ (i := 9) (N := some 20) (v := ?_) (a' := ?_) #[true, true, true, true, true, true, true, true, true, true] rfl rfl (by kernel_rfl) (fun _ _ _ h => h) (Or.inl ⟨by rfl, ?_⟩) ?_ ?_
                  rotate_left
                  · intro w'
                    go_simp
                    with_reducible rfl
                  rotate_left
                  · simp only [Act.put, List.setIfInBounds_toArray, List.set_cons_zero, List.set_cons_succ, i64_w, i32_w]
                    rfl
                  refine done_ (by kernel_rfl) ?_
                  go_wp2_with fail
                  refine (server_tokensCanMatch.calls k1 _ _ t _ HT.out).mono ?_
                  rintro e w' ⟨rfl, ⟨m2, rfl⟩⟩
                  have hlt := HK.out
                  cases t with
                  | false =>
                    have H := H3.out
                    simp at H
                    subst H
                    go_wp2
                    go_ret
                    exact ⟨rfl, by repeat (first | exact HBW.out | apply pw_below_drewN | apply below_drew)⟩
                  | true =>
                    have H' := Aside0.mk (show server_SubjectsCollide.l0 k1 ta tb (tb.length : Int) (wrap64 (x + 1)) = some r from by have h := H3.out; simpa using h)
                    clear H3
                    go_wp2
                    go_roundg k1
                    case measure => omega
                    case rel => exact ⟨(wrap64 (x + 1)), (by first | rfl | (simp; done) | (simp [*]; done)), H', ⟨by omega⟩, by repeat (first | exact Drawn0.refl _ | apply Drawn0.step | exact ⟨_, rfl⟩)⟩
                · rw [if_neg q2] at H
                  exact absurd H (by simp)
              · rw [if_neg q1] at H
                exact absurd H (by simp)
            · rw [if_neg p1] at H
              exact absurd H (by simp)
          · rw [if_neg c1] at H
            have c1b : decide (x < (tb.length : Int)) = false := decide_eq_false c1
            obtain rfl := Option.some.inj H
            go_wp2
            go_ret
            exact ⟨rfl, pw_below_drewN HBW.out m⟩
  · have H1 := Aside0.mk (show server_isSubsetMatchTokenized.f k tb ta = some r from by have h := H.out; simpa [server_SubjectsCollide.tail] using h)
    go_wp2_with fail
    refine (server_isSubsetMatchTokenized.calls k A2 c2 tb A1 c1 ta r W HCB.out HL2.out HCA.out HL1.out H1.out).mono ?_
    rintro e w' ⟨rfl, ⟨nd, rfl⟩⟩
    go_wp2
    go_ret
    exact ⟨rfl, pw_below_drewN HBW.out nd⟩
  · rcases Nat.lt_trichotomy ta.length tb.length with d | d | d
    · have n1 : ((ta.length : Int) != (tb.length : Int)) = true := by exact bne_iff_ne.mpr (by omega)
      have n2 : decide ((ta.length : Int) < (tb.length : Int)) = true := decide_eq_true (by omega)
      have n3 : decide ((tb.length : Int) < (ta.length : Int)) = false := decide_eq_false (by omega)
      have m1 : (ta.length < tb.length) = True := by simp; omega
      have m2 : (tb.length < ta.length) = False := by simp; omega
      have H1 : Aside0 (server_SubjectsCollide.l0 k ta tb (ta.length : Int) 0 = some r) := ⟨by
        have h := H.out
        have hm : min ta.length tb.length = ta.length := by omega
        simp only [server_SubjectsCollide.tail, hm] at h
        simp [show ¬ ta.length = tb.length by omega, show (ta.length < tb.length) = True by simp; omega, show (tb.length < ta.length) = False by simp; omega] at h
        exact h⟩
      clear d
      clear H
      go_wp2
      go_loopg [18] k (fun kq v18 w' => ∃ (x : Int), v18 = .int .i64 x ∧ Aside0 (server_SubjectsCollide.l0 kq ta tb (ta.length : Int) x = some r) ∧ Aside0 (kq ≤ k) ∧ Drawn0 W w')
      case atStart => exact ⟨0, rfl, H1, ⟨Nat.le_refl _⟩, Drawn0.refl _⟩
      case round =>
        clear H1
        obtain ⟨x, rfl, HA, HK, ⟨m, rfl⟩⟩ := hrel
        cases gk with
        | zero => exact absurd HA.out (by simp [server_SubjectsCollide.l0])
        | succ k1 =>
          have H := HA.out
          clear HA
          simp only [server_SubjectsCollide.l0] at H
          by_cases c1 : x < (ta.length : Int)
          · rw [if_pos c1] at H
            have c1b : decide (x < (ta.length : Int)) = true := decide_eq_true c1
            clear c1
            by_cases p1 : 0 ≤ x
            · rw [if_pos p1] at H
              by_cases q1 : x < (ta.length : Int)
              · rw [if_pos q1] at H
                by_cases q2 : x < (tb.length : Int)
                · rw [if_pos q2] at H
                  obtain ⟨t, ht, H3⟩ := Option.bind_eq_some_iff.mp H
                  have HT := Aside0.mk ht
                  have H3 := Aside0.mk H3
                  clear ht H
                  obtain ⟨ad1, e1, hx1⟩ := Kd.at_string (Kd.C_drewN HCA.out m) x p1 q1
                  obtain ⟨ad2, e2, hx2⟩ := Kd.at_string (Kd.C_drewN HCB.out m) x p1 q2
                  cases e1
                  cases e2
                  replace p1 := eq_true p1
                  replace q1 := eq_true q1
                  replace q2 := eq_true q2
                  go_wp2
                  refine start_ (n := 10) (S := fun w' => w'.cell? (ad1.add x.toNat) = some (.string (rdOf ByteArray.empty ta x)) ∧ w'.cell? (ad2.add x.toNat) = some (.string (rdOf ByteArray.empty tb x))) (ds := []) #[false, false, false, false, false, false, false, false, false, false] (by kernel_rfl) rfl rfl ⟨hx1, hx2⟩ (fun hHeld => ?_)
                  refine pure_ (i := 0) (N := some 124) (v := ?_) (a' := ?_) #[true, false, false, false, false, false, false, false, false, false] rfl rfl (by kernel_rfl) (fun _ _ _ h => h) (Or.inl ⟨by rfl, ?_⟩) ?_ ?_
                  rotate_left
                  · intro w'
                    go_simp
                    with_reducible rfl
                  rotate_left
                  · simp only [Act.put, List.setIfInBounds_toArray, List.set_cons_zero, List.set_cons_succ, i64_w, i32_w]
                    rfl
                  refine pure_ (i := 1) (N := some 125) (v := ?_) (a' := ?_) #[true, true, false, false, false, false, false, false, false, false] rfl rfl (by kernel_rfl) (fun _ _ _ h => h) (Or.inl ⟨by rfl, ?_⟩) ?_ ?_
                  rotate_left
                  · intro w'
                    go_simp
                    with_reducible rfl
                  rotate_left
                  · simp only [Act.put, List.setIfInBounds_toArray, List.set_cons_zero, List.set_cons_succ, i64_w, i32_w]
                    rfl
                  refine pure_ (i := 2) (N := some 126) (v := ?_) (a' := ?_) #[true, true, true, false, false, false, false, false, false, false] rfl rfl (by kernel_rfl) (fun _ _ _ h => h) (Or.inl ⟨by rfl, ?_⟩) ?_ ?_
                  rotate_left
                  · intro w'
                    go_simp
                    with_reducible rfl
                  rotate_left
                  · simp only [Act.put, List.setIfInBounds_toArray, List.set_cons_zero, List.set_cons_succ, i64_w, i32_w]
                    rfl
                  refine pure_ (i := 4) (N := some 128) (v := ?_) (a' := ?_) #[true, true, true, false, true, false, false, false, false, false] rfl rfl (by kernel_rfl) (fun _ _ _ h => h) (Or.inl ⟨by rfl, ?_⟩) ?_ ?_
                  rotate_left
                  · intro w'
                    go_simp
                    with_reducible rfl
                  rotate_left
                  · simp only [Act.put, List.setIfInBounds_toArray, List.set_cons_zero, List.set_cons_succ, i64_w, i32_w]
                    rfl
                  refine pure_ (i := 5) (N := some 129) (v := ?_) (a' := ?_) #[true, true, true, false, true, true, false, false, false, false] rfl rfl (by kernel_rfl) (fun _ _ _ h => h) (Or.inl ⟨by rfl, ?_⟩) ?_ ?_
                  rotate_left
                  · intro w'
                    go_simp
                    with_reducible rfl
                  rotate_left
                  · simp only [Act.put, List.setIfInBounds_toArray, List.set_cons_zero, List.set_cons_succ, i64_w, i32_w]
                    rfl
                  refine pure_ (i := 6) (N := some 130) (v := ?_) (a' := ?_) #[true, true, true, false, true, true, true, false, false, false] rfl rfl (by kernel_rfl) (fun _ _ _ h => h) (Or.inl ⟨by rfl, ?_⟩) ?_ ?_
                  rotate_left
                  · intro w'
                    go_simp
                    with_reducible rfl
                  rotate_left
                  · simp only [Act.put, List.setIfInBounds_toArray, List.set_cons_zero, List.set_cons_succ, i64_w, i32_w]
                    rfl
                  refine take_ (i := 3) (N := some 127) (v := ?_) (a' := ?_) #[true, true, true, true, true, true, true, false, false, false] rfl rfl (by kernel_rfl) (fun _ _ _ h => h) (Or.inl ⟨by rfl, ?_⟩) hHeld ?_ ?_
                  rotate_left
                  · rintro w' ⟨s0, s1⟩
                    go_simp
                    with_reducible rfl
                  rotate_left
                  · simp only [Act.put, List.setIfInBounds_toArray, List.set_cons_zero, List.set_cons_succ, i64_w, i32_w]
                    rfl
                  refine pure_ (i := 8) (N := some 19) (v := ?_) (a' := ?_) #[true, true, true, true, true, true, true, false, true, false] rfl rfl (by kernel_rfl) (fun _ _ _ h => h) (Or.inl ⟨by rfl, ?_⟩) ?_ ?_
                  rotate_left
                  · intro w'
                    go_simp
                    with_reducible rfl
                  rotate_left
                  · simp only [Act.put, List.setIfInBounds_toArray, List.set_cons_zero, List.set_cons_succ, i64_w, i32_w]
                    rfl
                  refine take_ (i := 7) (N := some 131) (v := ?_) (a' := ?_) #[true, true, true, true, true, true, true, true, true, false] rfl rfl (by kernel_rfl) (fun _ _ _ h => h) (Or.inl ⟨by rfl, ?_⟩) hHeld ?_ ?_
                  rotate_left
                  · rintro w' ⟨s0, s1⟩
                    go_simp
                    with_reducible rfl
                  rotate_left
                  · simp only [Act.put, List.setIfInBounds_toArray, List.set_cons_zero, List.set_cons_succ, i64_w, i32_w]
                    rfl
                  refine pure_ (i := 9) (N := some 20) (v := ?_) (a' := ?_) #[true, true, true, true, true, true, true, true, true, true] rfl rfl (by kernel_rfl) (fun _ _ _ h => h) (Or.inl ⟨by rfl, ?_⟩) ?_ ?_
                  rotate_left
                  · intro w'
                    go_simp
                    with_reducible rfl
                  rotate_left
                  · simp only [Act.put, List.setIfInBounds_toArray, List.set_cons_zero, List.set_cons_succ, i64_w, i32_w]
                    rfl
                  refine done_ (by kernel_rfl) ?_
                  go_wp2_with fail
                  refine (server_tokensCanMatch.calls k1 _ _ t _ HT.out).mono ?_
                  rintro e w' ⟨rfl, ⟨m2, rfl⟩⟩
                  have hlt := HK.out
                  cases t with
                  | false =>
                    have H := H3.out
                    simp at H
                    subst H
                    go_wp2
                    go_ret
                    exact ⟨rfl, by repeat (first | exact HBW.out | apply pw_below_drewN | apply below_drew)⟩
                  | true =>
                    have H' := Aside0.mk (show server_SubjectsCollide.l0 k1 ta tb (ta.length : Int) (wrap64 (x + 1)) = some r from by have h := H3.out; simpa using h)
                    clear H3
                    go_wp2
                    go_roundg k1
                    case measure => omega
                    case rel => exact ⟨(wrap64 (x + 1)), (by first | rfl | (simp; done) | (simp [*]; done)), H', ⟨by omega⟩, by repeat (first | exact Drawn0.refl _ | apply Drawn0.step | exact ⟨_, rfl⟩)⟩
                · rw [if_neg q2] at H
                  exact absurd H (by simp)
              · rw [if_neg q1] at H
                exact absurd H (by simp)
            · rw [if_neg p1] at H
              exact absurd H (by simp)
          · rw [if_neg c1] at H
            have c1b : decide (x < (ta.length : Int)) = false := decide_eq_false c1
            obtain rfl := Option.some.inj H
            go_wp2
            go_ret
            exact ⟨rfl, pw_below_drewN HBW.out m⟩
    · have n1 : ((ta.length : Int) != (tb.length : Int)) = false := by exact bne_eq_false_iff_eq.mpr (by omega)
      have n2 : decide ((ta.length : Int) < (tb.length : Int)) = false := decide_eq_false (by omega)
      have n3 : decide ((tb.length : Int) < (ta.length : Int)) = false := decide_eq_false (by omega)
      have m1 : (ta.length < tb.length) = False := by simp; omega
      have m2 : (tb.length < ta.length) = False := by simp; omega
      have H1 : Aside0 (server_SubjectsCollide.l0 k ta tb (ta.length : Int) 0 = some r) := ⟨by
        have h := H.out
        have hm : min ta.length tb.length = ta.length := by omega
        simp only [server_SubjectsCollide.tail, hm] at h
        simp [show (ta.length = tb.length) = True by simp; omega, show (ta.length < tb.length) = False by simp; omega, show (tb.length < ta.length) = False by simp; omega] at h
        exact h⟩
      clear d
      clear H
      go_wp2
      go_loopg [18] k (fun kq v18 w' => ∃ (x : Int), v18 = .int .i64 x ∧ Aside0 (server_SubjectsCollide.l0 kq ta tb (ta.length : Int) x = some r) ∧ Aside0 (kq ≤ k) ∧ Drawn0 W w')
      case atStart => exact ⟨0, rfl, H1, ⟨Nat.le_refl _⟩, Drawn0.refl _⟩
      case round =>
        clear H1
        obtain ⟨x, rfl, HA, HK, ⟨m, rfl⟩⟩ := hrel
        cases gk with
        | zero => exact absurd HA.out (by simp [server_SubjectsCollide.l0])
        | succ k1 =>
          have H := HA.out
          clear HA
          simp only [server_SubjectsCollide.l0] at H
          by_cases c1 : x < (ta.length : Int)
          · rw [if_pos c1] at H
            have c1b : decide (x < (ta.length : Int)) = true := decide_eq_true c1
            clear c1
            by_cases p1 : 0 ≤ x
            · rw [if_pos p1] at H
              by_cases q1 : x < (ta.length : Int)
              · rw [if_pos q1] at H
                by_cases q2 : x < (tb.length : Int)
                · rw [if_pos q2] at H
                  obtain ⟨t, ht, H3⟩ := Option.bind_eq_some_iff.mp H
                  have HT := Aside0.mk ht
                  have H3 := Aside0.mk H3
                  clear ht H
                  obtain ⟨ad1, e1, hx1⟩ := Kd.at_string (Kd.C_drewN HCA.out m) x p1 q1
                  obtain ⟨ad2, e2, hx2⟩ := Kd.at_string (Kd.C_drewN HCB.out m) x p1 q2
                  cases e1
                  cases e2
                  replace p1 := eq_true p1
                  replace q1 := eq_true q1
                  replace q2 := eq_true q2
                  go_wp2
                  refine start_ (n := 10) (S := fun w' => w'.cell? (ad1.add x.toNat) = some (.string (rdOf ByteArray.empty ta x)) ∧ w'.cell? (ad2.add x.toNat) = some (.string (rdOf ByteArray.empty tb x))) (ds := []) #[false, false, false, false, false, false, false, false, false, false] (by kernel_rfl) rfl rfl ⟨hx1, hx2⟩ (fun hHeld => ?_)
                  refine pure_ (i := 0) (N := some 124) (v := ?_) (a' := ?_) #[true, false, false, false, false, false, false, false, false, false] rfl rfl (by kernel_rfl) (fun _ _ _ h => h) (Or.inl ⟨by rfl, ?_⟩) ?_ ?_
                  rotate_left
                  · intro w'
                    go_simp
                    with_reducible rfl
                  rotate_left
                  · simp only [Act.put, List.setIfInBounds_toArray, List.set_cons_zero, List.set_cons_succ, i64_w, i32_w]
                    rfl
                  refine pure_ (i := 1) (N := some 125) (v := ?_) (a' := ?_) #[true, true, false, false, false, false, false, false, false, false] rfl rfl (by kernel_rfl) (fun _ _ _ h => h) (Or.inl ⟨by rfl, ?_⟩) ?_ ?_
                  rotate_left
                  · intro w'
                    go_simp
                    with_reducible rfl
                  rotate_left
                  · simp only [Act.put, List.setIfInBounds_toArray, List.set_cons_zero, List.set_cons_succ, i64_w, i32_w]
                    rfl
                  refine pure_ (i := 2) (N := some 126) (v := ?_) (a' := ?_) #[true, true, true, false, false, false, false, false, false, false] rfl rfl (by kernel_rfl) (fun _ _ _ h => h) (Or.inl ⟨by rfl, ?_⟩) ?_ ?_
                  rotate_left
                  · intro w'
                    go_simp
                    with_reducible rfl
                  rotate_left
                  · simp only [Act.put, List.setIfInBounds_toArray, List.set_cons_zero, List.set_cons_succ, i64_w, i32_w]
                    rfl
                  refine pure_ (i := 4) (N := some 128) (v := ?_) (a' := ?_) #[true, true, true, false, true, false, false, false, false, false] rfl rfl (by kernel_rfl) (fun _ _ _ h => h) (Or.inl ⟨by rfl, ?_⟩) ?_ ?_
                  rotate_left
                  · intro w'
                    go_simp
                    with_reducible rfl
                  rotate_left
                  · simp only [Act.put, List.setIfInBounds_toArray, List.set_cons_zero, List.set_cons_succ, i64_w, i32_w]
                    rfl
                  refine pure_ (i := 5) (N := some 129) (v := ?_) (a' := ?_) #[true, true, true, false, true, true, false, false, false, false] rfl rfl (by kernel_rfl) (fun _ _ _ h => h) (Or.inl ⟨by rfl, ?_⟩) ?_ ?_
                  rotate_left
                  · intro w'
                    go_simp
                    with_reducible rfl
                  rotate_left
                  · simp only [Act.put, List.setIfInBounds_toArray, List.set_cons_zero, List.set_cons_succ, i64_w, i32_w]
                    rfl
                  refine pure_ (i := 6) (N := some 130) (v := ?_) (a' := ?_) #[true, true, true, false, true, true, true, false, false, false] rfl rfl (by kernel_rfl) (fun _ _ _ h => h) (Or.inl ⟨by rfl, ?_⟩) ?_ ?_
                  rotate_left
                  · intro w'
                    go_simp
                    with_reducible rfl
                  rotate_left
                  · simp only [Act.put, List.setIfInBounds_toArray, List.set_cons_zero, List.set_cons_succ, i64_w, i32_w]
                    rfl
                  refine take_ (i := 3) (N := some 127) (v := ?_) (a' := ?_) #[true, true, true, true, true, true, true, false, false, false] rfl rfl (by kernel_rfl) (fun _ _ _ h => h) (Or.inl ⟨by rfl, ?_⟩) hHeld ?_ ?_
                  rotate_left
                  · rintro w' ⟨s0, s1⟩
                    go_simp
                    with_reducible rfl
                  rotate_left
                  · simp only [Act.put, List.setIfInBounds_toArray, List.set_cons_zero, List.set_cons_succ, i64_w, i32_w]
                    rfl
                  refine pure_ (i := 8) (N := some 19) (v := ?_) (a' := ?_) #[true, true, true, true, true, true, true, false, true, false] rfl rfl (by kernel_rfl) (fun _ _ _ h => h) (Or.inl ⟨by rfl, ?_⟩) ?_ ?_
                  rotate_left
                  · intro w'
                    go_simp
                    with_reducible rfl
                  rotate_left
                  · simp only [Act.put, List.setIfInBounds_toArray, List.set_cons_zero, List.set_cons_succ, i64_w, i32_w]
                    rfl
                  refine take_ (i := 7) (N := some 131) (v := ?_) (a' := ?_) #[true, true, true, true, true, true, true, true, true, false] rfl rfl (by kernel_rfl) (fun _ _ _ h => h) (Or.inl ⟨by rfl, ?_⟩) hHeld ?_ ?_
                  rotate_left
                  · rintro w' ⟨s0, s1⟩
                    go_simp
                    with_reducible rfl
                  rotate_left
                  · simp only [Act.put, List.setIfInBounds_toArray, List.set_cons_zero, List.set_cons_succ, i64_w, i32_w]
                    rfl
                  refine pure_ (i := 9) (N := some 20) (v := ?_) (a' := ?_) #[true, true, true, true, true, true, true, true, true, true] rfl rfl (by kernel_rfl) (fun _ _ _ h => h) (Or.inl ⟨by rfl, ?_⟩) ?_ ?_
                  rotate_left
                  · intro w'
                    go_simp
                    with_reducible rfl
                  rotate_left
                  · simp only [Act.put, List.setIfInBounds_toArray, List.set_cons_zero, List.set_cons_succ, i64_w, i32_w]
                    rfl
                  refine done_ (by kernel_rfl) ?_
                  go_wp2_with fail
                  refine (server_tokensCanMatch.calls k1 _ _ t _ HT.out).mono ?_
                  rintro e w' ⟨rfl, ⟨m2, rfl⟩⟩
                  have hlt := HK.out
                  cases t with
                  | false =>
                    have H := H3.out
                    simp at H
                    subst H
                    go_wp2
                    go_ret
                    exact ⟨rfl, by repeat (first | exact HBW.out | apply pw_below_drewN | apply below_drew)⟩
                  | true =>
                    have H' := Aside0.mk (show server_SubjectsCollide.l0 k1 ta tb (ta.length : Int) (wrap64 (x + 1)) = some r from by have h := H3.out; simpa using h)
                    clear H3
                    go_wp2
                    go_roundg k1
                    case measure => omega
                    case rel => exact ⟨(wrap64 (x + 1)), (by first | rfl | (simp; done) | (simp [*]; done)), H', ⟨by omega⟩, by repeat (first | exact Drawn0.refl _ | apply Drawn0.step | exact ⟨_, rfl⟩)⟩
                · rw [if_neg q2] at H
                  exact absurd H (by simp)
              · rw [if_neg q1] at H
                exact absurd H (by simp)
            · rw [if_neg p1] at H
              exact absurd H (by simp)
          · rw [if_neg c1] at H
            have c1b : decide (x < (ta.length : Int)) = false := decide_eq_false c1
            obtain rfl := Option.some.inj H
            go_wp2
            go_ret
            exact ⟨rfl, pw_below_drewN HBW.out m⟩
    · have n1 : ((ta.length : Int) != (tb.length : Int)) = true := by exact bne_iff_ne.mpr (by omega)
      have n2 : decide ((ta.length : Int) < (tb.length : Int)) = false := decide_eq_false (by omega)
      have n3 : decide ((tb.length : Int) < (ta.length : Int)) = true := decide_eq_true (by omega)
      have m1 : (ta.length < tb.length) = False := by simp; omega
      have m2 : (tb.length < ta.length) = True := by simp; omega
      have H1 : Aside0 (server_SubjectsCollide.l0 k ta tb (tb.length : Int) 0 = some r) := ⟨by
        have h := H.out
        have hm : min ta.length tb.length = tb.length := by omega
        simp only [server_SubjectsCollide.tail, hm] at h
        simp [show ¬ ta.length = tb.length by omega, show (ta.length < tb.length) = False by simp; omega, show (tb.length < ta.length) = True by simp; omega] at h
        exact h⟩
      clear d
      clear H
      go_wp2
      go_loopg [18] k (fun kq v18 w' => ∃ (x : Int), v18 = .int .i64 x ∧ Aside0 (server_SubjectsCollide.l0 kq ta tb (tb.length : Int) x = some r) ∧ Aside0 (kq ≤ k) ∧ Drawn0 W w')
      case atStart => exact ⟨0, rfl, H1, ⟨Nat.le_refl _⟩, Drawn0.refl _⟩
      case round =>
        clear H1
        obtain ⟨x, rfl, HA, HK, ⟨m, rfl⟩⟩ := hrel
        cases gk with
        | zero => exact absurd HA.out (by simp [server_SubjectsCollide.l0])
        | succ k1 =>
          have H := HA.out
          clear HA
          simp only [server_SubjectsCollide.l0] at H
          by_cases c1 : x < (tb.length : Int)
          · rw [if_pos c1] at H
            have c1b : decide (x < (tb.length : Int)) = true := decide_eq_true c1
            clear c1
            by_cases p1 : 0 ≤ x
            · rw [if_pos p1] at H
              by_cases q1 : x < (ta.length : Int)
              · rw [if_pos q1] at H
                by_cases q2 : x < (tb.length : Int)
                · rw [if_pos q2] at H
                  obtain ⟨t, ht, H3⟩ := Option.bind_eq_some_iff.mp H
                  have HT := Aside0.mk ht
                  have H3 := Aside0.mk H3
                  clear ht H
                  obtain ⟨ad1, e1, hx1⟩ := Kd.at_string (Kd.C_drewN HCA.out m) x p1 q1
                  obtain ⟨ad2, e2, hx2⟩ := Kd.at_string (Kd.C_drewN HCB.out m) x p1 q2
                  cases e1
                  cases e2
                  replace p1 := eq_true p1
                  replace q1 := eq_true q1
                  replace q2 := eq_true q2
                  go_wp2
                  refine start_ (n := 10) (S := fun w' => w'.cell? (ad1.add x.toNat) = some (.string (rdOf ByteArray.empty ta x)) ∧ w'.cell? (ad2.add x.toNat) = some (.string (rdOf ByteArray.empty tb x))) (ds := []) #[false, false, false, false, false, false, false, false, false, false] (by kernel_rfl) rfl rfl ⟨hx1, hx2⟩ (fun hHeld => ?_)
                  refine pure_ (i := 0) (N := some 124) (v := ?_) (a' := ?_) #[true, false, false, false, false, false, false, false, false, false] rfl rfl (by kernel_rfl) (fun _ _ _ h => h) (Or.inl ⟨by rfl, ?_⟩) ?_ ?_
                  rotate_left
                  · intro w'
                    go_simp
                    with_reducible rfl
                  rotate_left
                  · simp only [Act.put, List.setIfInBounds_toArray, List.set_cons_zero, List.set_cons_succ, i64_w, i32_w]
                    rfl
                  refine pure_ (i := 1) (N := some 125) (v := ?_) (a' := ?_) #[true, true, false, false, false, false, false, false, false, false] rfl rfl (by kernel_rfl) (fun _ _ _ h => h) (Or.inl ⟨by rfl, ?_⟩) ?_ ?_
                  rotate_left
                  · intro w'
                    go_simp
                    with_reducible rfl
                  rotate_left
                  · simp only [Act.put, List.setIfInBounds_toArray, List.set_cons_zero, List.set_cons_succ, i64_w, i32_w]
                    rfl
                  refine pure_ (i := 2) (N := some 126) (v := ?_) (a' := ?_) #[true, true, true, false, false, false, false, false, false, false] rfl rfl (by kernel_rfl) (fun _ _ _ h => h) (Or.inl ⟨by rfl, ?_⟩) ?_ ?_
                  rotate_left
                  · intro w'
                    go_simp
                    with_reducible rfl
                  rotate_left
                  · simp only [Act.put, List.setIfInBounds_toArray, List.set_cons_zero, List.set_cons_succ, i64_w, i32_w]
                    rfl
                  refine pure_ (i := 4) (N := some 128) (v := ?_) (a' := ?_) #[true, true, true, false, true, false, false, false, false, false] rfl rfl (by kernel_rfl) (fun _ _ _ h => h) (Or.inl ⟨by rfl, ?_⟩) ?_ ?_
                  rotate_left
                  · intro w'
                    go_simp
                    with_reducible rfl
                  rotate_left
                  · simp only [Act.put, List.setIfInBounds_toArray, List.set_cons_zero, List.set_cons_succ, i64_w, i32_w]
                    rfl
                  refine pure_ (i := 5) (N := some 129) (v := ?_) (a' := ?_) #[true, true, true, false, true, true, false, false, false, false] rfl rfl (by kernel_rfl) (fun _ _ _ h => h) (Or.inl ⟨by rfl, ?_⟩) ?_ ?_
                  rotate_left
                  · intro w'
                    go_simp
                    with_reducible rfl
                  rotate_left
                  · simp only [Act.put, List.setIfInBounds_toArray, List.set_cons_zero, List.set_cons_succ, i64_w, i32_w]
                    rfl
                  refine pure_ (i := 6) (N := some 130) (v := ?_) (a' := ?_) #[true, true, true, false, true, true, true, false, false, false] rfl rfl (by kernel_rfl) (fun _ _ _ h => h) (Or.inl ⟨by rfl, ?_⟩) ?_ ?_
                  rotate_left
                  · intro w'
                    go_simp
                    with_reducible rfl
                  rotate_left
                  · simp only [Act.put, List.setIfInBounds_toArray, List.set_cons_zero, List.set_cons_succ, i64_w, i32_w]
                    rfl
                  refine take_ (i := 3) (N := some 127) (v := ?_) (a' := ?_) #[true, true, true, true, true, true, true, false, false, false] rfl rfl (by kernel_rfl) (fun _ _ _ h => h) (Or.inl ⟨by rfl, ?_⟩) hHeld ?_ ?_
                  rotate_left
                  · rintro w' ⟨s0, s1⟩
                    go_simp
                    with_reducible rfl
                  rotate_left
                  · simp only [Act.put, List.setIfInBounds_toArray, List.set_cons_zero, List.set_cons_succ, i64_w, i32_w]
                    rfl
                  refine pure_ (i := 8) (N := some 19) (v := ?_) (a' := ?_) #[true, true, true, true, true, true, true, false, true, false] rfl rfl (by kernel_rfl) (fun _ _ _ h => h) (Or.inl ⟨by rfl, ?_⟩) ?_ ?_
                  rotate_left
                  · intro w'
                    go_simp
                    with_reducible rfl
                  rotate_left
                  · simp only [Act.put, List.setIfInBounds_toArray, List.set_cons_zero, List.set_cons_succ, i64_w, i32_w]
                    rfl
                  refine take_ (i := 7) (N := some 131) (v := ?_) (a' := ?_) #[true, true, true, true, true, true, true, true, true, false] rfl rfl (by kernel_rfl) (fun _ _ _ h => h) (Or.inl ⟨by rfl, ?_⟩) hHeld ?_ ?_
                  rotate_left
                  · rintro w' ⟨s0, s1⟩
                    go_simp
                    with_reducible rfl
                  rotate_left
                  · simp only [Act.put, List.setIfInBounds_toArray, List.set_cons_zero, List.set_cons_succ, i64_w, i32_w]
                    rfl
                  refine pure_ (i := 9) (N := some 20) (v := ?_) (a' := ?_) #[true, true, true, true, true, true, true, true, true, true] rfl rfl (by kernel_rfl) (fun _ _ _ h => h) (Or.inl ⟨by rfl, ?_⟩) ?_ ?_
                  rotate_left
                  · intro w'
                    go_simp
                    with_reducible rfl
                  rotate_left
                  · simp only [Act.put, List.setIfInBounds_toArray, List.set_cons_zero, List.set_cons_succ, i64_w, i32_w]
                    rfl
                  refine done_ (by kernel_rfl) ?_
                  go_wp2_with fail
                  refine (server_tokensCanMatch.calls k1 _ _ t _ HT.out).mono ?_
                  rintro e w' ⟨rfl, ⟨m2, rfl⟩⟩
                  have hlt := HK.out
                  cases t with
                  | false =>
                    have H := H3.out
                    simp at H
                    subst H
                    go_wp2
                    go_ret
                    exact ⟨rfl, by repeat (first | exact HBW.out | apply pw_below_drewN | apply below_drew)⟩
                  | true =>
                    have H' := Aside0.mk (show server_SubjectsCollide.l0 k1 ta tb (tb.length : Int) (wrap64 (x + 1)) = some r from by have h := H3.out; simpa using h)
                    clear H3
                    go_wp2
                    go_roundg k1
                    case measure => omega
                    case rel => exact ⟨(wrap64 (x + 1)), (by first | rfl | (simp; done) | (simp [*]; done)), H', ⟨by omega⟩, by repeat (first | exact Drawn0.refl _ | apply Drawn0.step | exact ⟨_, rfl⟩)⟩
                · rw [if_neg q2] at H
                  exact absurd H (by simp)
              · rw [if_neg q1] at H
                exact absurd H (by simp)
            · rw [if_neg p1] at H
              exact absurd H (by simp)
          · rw [if_neg c1] at H
            have c1b : decide (x < (tb.length : Int)) = false := decide_eq_false c1
            obtain rfl := Option.some.inj H
            go_wp2
            go_ret
            exact ⟨rfl, pw_below_drewN HBW.out m⟩
  · rcases Nat.lt_trichotomy ta.length tb.length with d | d | d
    · have n1 : ((ta.length : Int) != (tb.length : Int)) = true := by exact bne_iff_ne.mpr (by omega)
      have n2 : decide ((ta.length : Int) < (tb.length : Int)) = true := decide_eq_true (by omega)
      have n3 : decide ((tb.length : Int) < (ta.length : Int)) = false := decide_eq_false (by omega)
      have m1 : (ta.length < tb.length) = True := by simp; omega
      have m2 : (tb.length < ta.length) = False := by simp; omega
      have H1 : Aside0 (server_SubjectsCollide.l0 k ta tb (ta.length : Int) 0 = some r) := ⟨by
        have h := H.out
        have hm : min ta.length tb.length = ta.length := by omega
        simp only [server_SubjectsCollide.tail, hm] at h
        simp [show ¬ ta.length = tb.length by omega, show (ta.length < tb.length) = True by simp; omega, show (tb.length < ta.length) = False by simp; omega] at h
        exact h⟩
      clear d
      clear H
      go_wp2
      go_loopg [18] k (fun kq v18 w' => ∃ (x : Int), v18 = .int .i64 x ∧ Aside0 (server_SubjectsCollide.l0 kq ta tb (ta.length : Int) x = some r) ∧ Aside0 (kq ≤ k) ∧ Drawn0 W w')
      case atStart => exact ⟨0, rfl, H1, ⟨Nat.le_refl _⟩, Drawn0.refl _⟩
      case round =>
        clear H1
        obtain ⟨x, rfl, HA, HK, ⟨m, rfl⟩⟩ := hrel
        cases gk with
        | zero => exact absurd HA.out (by simp [server_SubjectsCollide.l0])
        | succ k1 =>
          have H := HA.out
          clear HA
          simp only [server_SubjectsCollide.l0] at H
          by_cases c1 : x < (ta.length : Int)
          · rw [if_pos c1] at H
            have c1b : decide (x < (ta.length : Int)) = true := decide_eq_true c1
            clear c1
            by_cases p1 : 0 ≤ x
            · rw [if_pos p1] at H
              by_cases q1 : x < (ta.length : Int)
              · rw [if_pos q1] at H
                by_cases q2 : x < (tb.length : Int)
                · rw [if_pos q2] at H
                  obtain ⟨t, ht, H3⟩ := Option.bind_eq_some_iff.mp H
                  have HT := Aside0.mk ht
                  have H3 := Aside0.mk H3
                  clear ht H
                  obtain ⟨ad1, e1, hx1⟩ := Kd.at_string (Kd.C_drewN HCA.out m) x p1 q1
                  obtain ⟨ad2, e2, hx2⟩ := Kd.at_string (Kd.C_drewN HCB.out m) x p1 q2
                  cases e1
                  cases e2
                  replace p1 := eq_true p1
                  replace q1 := eq_true q1
                  replace q2 := eq_true q2
                  go_wp2
                  refine start_ (n := 10) (S := fun w' => w'.cell? (ad1.add x.toNat) = some (.string (rdOf ByteArray.empty ta x)) ∧ w'.cell? (ad2.add x.toNat) = some (.string (rdOf ByteArray.empty tb x))) (ds := []) #[false, false, false, false, false, false, false, false, false, false] (by kernel_rfl) rfl rfl ⟨hx1, hx2⟩ (fun hHeld => ?_)
                  refine pure_ (i := 0) (N := some 124) (v := ?_) (a' := ?_) #[true, false, false, false, false, false, false, false, false, false] rfl rfl (by kernel_rfl) (fun _ _ _ h => h) (Or.inl ⟨by rfl, ?_⟩) ?_ ?_
                  rotate_left
                  · intro w'
                    go_simp
                    with_reducible rfl
                  rotate_left
                  · simp only [Act.put, List.setIfInBounds_toArray, List.set_cons_zero, List.set_cons_succ, i64_w, i32_w]
                    rfl
                  refine pure_ (i := 1) (N := some 125) (v := ?_) (a' := ?_) #[true, true, false, false, false, false, false, false, false, false] rfl rfl (by kernel_rfl) (fun _ _ _ h => h) (Or.inl ⟨by rfl, ?_⟩) ?_ ?_
                  rotate_left
                  · intro w'
                    go_simp
                    with_reducible rfl
                  rotate_left
                  · simp only [Act.put, List.setIfInBounds_toArray, List.set_cons_zero, List.set_cons_succ, i64_w, i32_w]
                    rfl
                  refine pure_ (i := 2) (N := some 126) (v := ?_) (a' := ?_) #[true, true, true, false, false, false, false, false, false, false] rfl rfl (by kernel_rfl) (fun _ _ _ h => h) (Or.inl ⟨by rfl, ?_⟩) ?_ ?_
                  rotate_left
                  · intro w'
                    go_simp
                    with_reducible rfl
                  rotate_left
                  · simp only [Act.put, List.setIfInBounds_toArray, List.set_cons_zero, List.set_cons_succ, i64_w, i32_w]
                    rfl
                  refine pure_ (i := 4) (N := some 128) (v := ?_) (a' := ?_) #[true, true, true, false, true, false, false, false, false, false] rfl rfl (by kernel_rfl) (fun _ _ _ h => h) (Or.inl ⟨by rfl, ?_⟩) ?_ ?_
                  rotate_left
                  · intro w'
                    go_simp
                    with_reducible rfl
                  rotate_left
                  · simp only [Act.put, List.setIfInBounds_toArray, List.set_cons_zero, List.set_cons_succ, i64_w, i32_w]
                    rfl
                  refine pure_ (i := 5) (N := some 129) (v := ?_) (a' := ?_) #[true, true, true, false, true, true, false, false, false, false] rfl rfl (by kernel_rfl) (fun _ _ _ h => h) (Or.inl ⟨by rfl, ?_⟩) ?_ ?_
                  rotate_left
                  · intro w'
                    go_simp
                    with_reducible rfl
                  rotate_left
                  · simp only [Act.put, List.setIfInBounds_toArray, List.set_cons_zero, List.set_cons_succ, i64_w, i32_w]
                    rfl
                  refine pure_ (i := 6) (N := some 130) (v := ?_) (a' := ?_) #[true, true, true, false, true, true, true, false, false, false] rfl rfl (by kernel_rfl) (fun _ _ _ h => h) (Or.inl ⟨by rfl, ?_⟩) ?_ ?_
                  rotate_left
                  · intro w'
                    go_simp
                    with_reducible rfl
                  rotate_left
                  · simp only [Act.put, List.setIfInBounds_toArray, List.set_cons_zero, List.set_cons_succ, i64_w, i32_w]
                    rfl
                  refine take_ (i := 3) (N := some 127) (v := ?_) (a' := ?_) #[true, true, true, true, true, true, true, false, false, false] rfl rfl (by kernel_rfl) (fun _ _ _ h => h) (Or.inl ⟨by rfl, ?_⟩) hHeld ?_ ?_
                  rotate_left
                  · rintro w' ⟨s0, s1⟩
                    go_simp
                    with_reducible rfl
                  rotate_left
                  · simp only [Act.put, List.setIfInBounds_toArray, List.set_cons_zero, List.set_cons_succ, i64_w, i32_w]
                    rfl
                  refine pure_ (i := 8) (N := some 19) (v := ?_) (a' := ?_) #[true, true, true, true, true, true, true, false, true, false] rfl rfl (by kernel_rfl) (fun _ _ _ h => h) (Or.inl ⟨by rfl, ?_⟩) ?_ ?_
                  rotate_left
                  · intro w'
                    go_simp
                    with_reducible rfl
                  rotate_left
                  · simp only [Act.put, List.setIfInBounds_toArray, List.set_cons_zero, List.set_cons_succ, i64_w, i32_w]
                    rfl
                  refine take_ (i := 7) (N := some 131) (v := ?_) (a' := ?_) #[true, true, true, true, true, true, true, true, true, false] rfl rfl (by kernel_rfl) (fun _ _ _ h => h) (Or.inl ⟨by rfl, ?_⟩) hHeld ?_ ?_
                  rotate_left
                  · rintro w' ⟨s0, s1⟩
                    go_simp
                    with_reducible rfl
                  rotate_left
                  · simp only [Act.put, List.setIfInBounds_toArray, List.set_cons_zero, List.set_cons_succ, i64_w, i32_w]
                    rfl
                  refine pure_ (i := 9) (N := some 20) (v := ?_) (a' := ?_) #[true, true, true, true, true, true, true, true, true, true] rfl rfl (by kernel_rfl) (fun _ _ _ h => h) (Or.inl ⟨by rfl, ?_⟩) ?_ ?_
                  rotate_left
                  · intro w'
                    go_simp
                    with_reducible rfl
                  rotate_left
                  · simp only [Act.put, List.setIfInBounds_toArray, List.set_cons_zero, List.set_cons_succ, i64_w, i32_w]
                    rfl
                  refine done_ (by kernel_rfl) ?_
                  go_wp2_with fail
                  refine (server_tokensCanMatch.calls k1 _ _ t _ HT.out).mono ?_
                  rintro e w' ⟨rfl, ⟨m2, rfl⟩⟩
                  have hlt := HK.out
                  cases t with
                  | false =>
                    have H := H3.out
                    simp at H
                    subst H
                    go_wp2
                    go_ret
                    exact ⟨rfl, by repeat (first | exact HBW.out | apply pw_below_drewN | apply below_drew)⟩
                  | true =>
                    have H' := Aside0.mk (show server_SubjectsCollide.l0 k1 ta tb (ta.length : Int) (wrap64 (x + 1)) = some r from by have h := H3.out; simpa using h)
                    clear H3
                    go_wp2
                    go_roundg k1
                    case measure => omega
                    case rel => exact ⟨(wrap64 (x + 1)), (by first | rfl | (simp; done) | (simp [*]; done)), H', ⟨by omega⟩, by repeat (first | exact Drawn0.refl _ | apply Drawn0.step | exact ⟨_, rfl⟩)⟩
                · rw [if_neg q2] at H
                  exact absurd H (by simp)
              · rw [if_neg q1] at H
                exact absurd H (by simp)
            · rw [if_neg p1] at H
              exact absurd H (by simp)
          · rw [if_neg c1] at H
            have c1b : decide (x < (ta.length : Int)) = false := decide_eq_false c1
            obtain rfl := Option.some.inj H
            go_wp2
            go_ret
            exact ⟨rfl, pw_below_drewN HBW.out m⟩
    · have n1 : ((ta.length : Int) != (tb.length : Int)) = false := by exact bne_eq_false_iff_eq.mpr (by omega)
      have n2 : decide ((ta.length : Int) < (tb.length : Int)) = false := decide_eq_false (by omega)
      have n3 : decide ((tb.length : Int) < (ta.length : Int)) = false := decide_eq_false (by omega)
      have m1 : (ta.length < tb.length) = False := by simp; omega
      have m2 : (tb.length < ta.length) = False := by simp; omega
      have H1 : Aside0 (server_SubjectsCollide.l0 k ta tb (ta.length : Int) 0 = some r) := ⟨by
        have h := H.out
        have hm : min ta.length tb.length = ta.length := by omega
        simp only [server_SubjectsCollide.tail, hm] at h
        simp [show (ta.length = tb.length) = True by simp; omega, show (ta.length < tb.length) = False by simp; omega, show (tb.length < ta.length) = False by simp; omega] at h
        exact h⟩
      clear d
      clear H
      go_wp2
      go_loopg [18] k (fun kq v18 w' => ∃ (x : Int), v18 = .int .i64 x ∧ Aside0 (server_SubjectsCollide.l0 kq ta tb (ta.length : Int) x = some r) ∧ Aside0 (kq ≤ k) ∧ Drawn0 W w')
      case atStart => exact ⟨0, rfl, H1, ⟨Nat.le_refl _⟩, Drawn0.refl _⟩
      case round =>
        clear H1
        obtain ⟨x, rfl, HA, HK, ⟨m, rfl⟩⟩ := hrel
        cases gk with
        | zero => exact absurd HA.out (by simp [server_SubjectsCollide.l0])
        | succ k1 =>
          have H := HA.out
          clear HA
          simp only [server_SubjectsCollide.l0] at H
          by_cases c1 : x < (ta.length : Int)
          · rw [if_pos c1] at H
            have c1b : decide (x < (ta.length : Int)) = true := decide_eq_true c1
            clear c1
            by_cases p1 : 0 ≤ x
            · rw [if_pos p1] at H
              by_cases q1 : x < (ta.length : Int)
              · rw [if_pos q1] at H
                by_cases q2 : x < (tb.length : Int)
                · rw [if_pos q2] at H
                  obtain ⟨t, ht, H3⟩ := Option.bind_eq_some_iff.mp H
                  have HT := Aside0.mk ht
                  have H3 := Aside0.mk H3
                  clear ht H
                  obtain ⟨ad1, e1, hx1⟩ := Kd.at_string (Kd.C_drewN HCA.out m) x p1 q1
                  obtain ⟨ad2, e2, hx2⟩ := Kd.at_string (Kd.C_drewN HCB.out m) x p1 q2
                  cases e1
                  cases e2
                  replace p1 := eq_true p1
                  replace q1 := eq_true q1
                  replace q2 := eq_true q2
                  go_wp2
                  refine start_ (n := 10) (S := fun w' => w'.cell? (ad1.add x.toNat) = some (.string (rdOf ByteArray.empty ta x)) ∧ w'.cell? (ad2.add x.toNat) = some (.string (rdOf ByteArray.empty tb x))) (ds := []) #[false, false, false, false, false, false, false, false, false, false] (by kernel_rfl) rfl rfl ⟨hx1, hx2⟩ (fun hHeld => ?_)
                  refine pure_ (i := 0) (N := some 124) (v := ?_) (a' := ?_) #[true, false, false, false, false, false, false, false, false, false] rfl rfl (by kernel_rfl) (fun _ _ _ h => h) (Or.inl ⟨by rfl, ?_⟩) ?_ ?_
                  rotate_left
                  · intro w'
                    go_simp
                    with_reducible rfl
                  rotate_left
                  · simp only [Act.put, List.setIfInBounds_toArray, List.set_cons_zero, List.set_cons_succ, i64_w, i32_w]
                    rfl
                  refine pure_ (i := 1) (N := some 125) (v := ?_) (a' := ?_) #[true, true, false, false, false, false, false, false, false, false] rfl rfl (by kernel_rfl) (fun _ _ _ h => h) (Or.inl ⟨by rfl, ?_⟩) ?_ ?_
                  rotate_left
                  · intro w'
                    go_simp
                    with_reducible rfl
                  rotate_left
                  · simp only [Act.put, List.setIfInBounds_toArray, List.set_cons_zero, List.set_cons_succ, i64_w, i32_w]
                    rfl
                  refine pure_ (i := 2) (N := some 126) (v := ?_) (a' := ?_) #[true, true, true, false, false, false, false, false, false, false] rfl rfl (by kernel_rfl) (fun _ _ _ h => h) (Or.inl ⟨by rfl, ?_⟩) ?_ ?_
                  rotate_left
                  · intro w'
                    go_simp
                    with_reducible rfl
                  rotate_left
                  · simp only [Act.put, List.setIfInBounds_toArray, List.set_cons_zero, List.set_cons_succ, i64_w, i32_w]
                    rfl
                  refine pure_ (i := 4) (N := some 128) (v := ?_) (a' := ?_) #[true, true, true, false, true, false, false, false, false, false] rfl rfl (by kernel_rfl) (fun _ _ _ h => h) (Or.inl ⟨by rfl, ?_⟩) ?_ ?_
                  rotate_left
                  · intro w'
                    go_simp
                    with_reducible rfl
                  rotate_left
                  · simp only [Act.put, List.setIfInBounds_toArray, List.set_cons_zero, List.set_cons_succ, i64_w, i32_w]
                    rfl
                  refine pure_ (i := 5) (N := some 129) (v := ?_) (a' := ?_) #[true, true, true, false, true, true, false, false, false, false] rfl rfl (by kernel_rfl) (fun _ _ _ h => h) (Or.inl ⟨by rfl, ?_⟩) ?_ ?_
                  rotate_left
                  · intro w'
                    go_simp
                    with_reducible rfl
                  rotate_left
                  · simp only [Act.put, List.setIfInBounds_toArray, List.set_cons_zero, List.set_cons_succ, i64_w, i32_w]
                    rfl
                  refine pure_ (i := 6) (N := some 130) (v := ?_) (a' := ?_) #[true, true, true, false, true, true, true, false, false, false] rfl rfl (by kernel_rfl) (fun _ _ _ h => h) (Or.inl ⟨by rfl, ?_⟩) ?_ ?_
                  rotate_left
                  · intro w'
                    go_simp
                    with_reducible rfl
                  rotate_left
                  · simp only [Act.put, List.setIfInBounds_toArray, List.set_cons_zero, List.set_cons_succ, i64_w, i32_w]
                    rfl
                  refine take_ (i := 3) (N := some 127) (v := ?_) (a' := ?_) #[true, true, true, true, true, true, true, false, false, false] rfl rfl (by kernel_rfl) (fun _ _ _ h => h) (Or.inl ⟨by rfl, ?_⟩) hHeld ?_ ?_
                  rotate_left
                  · rintro w' ⟨s0, s1⟩
                    go_simp
                    with_reducible rfl
                  rotate_left
                  · simp only [Act.put, List.setIfInBounds_toArray, List.set_cons_zero, List.set_cons_succ, i64_w, i32_w]
                    rfl
                  refine pure_ (i := 8) (N := some 19) (v := ?_) (a' := ?_) #[true, true, true, true, true, true, true, false, true, false] rfl rfl (by kernel_rfl) (fun _ _ _ h => h) (Or.inl ⟨by rfl, ?_⟩) ?_ ?_
                  rotate_left
                  · intro w'
                    go_simp
                    with_reducible rfl
                  rotate_left
                  · simp only [Act.put, List.setIfInBounds_toArray, List.set_cons_zero, List.set_cons_succ, i64_w, i32_w]
                    rfl
                  refine take_ (i := 7) (N := some 131) (v := ?_) (a' := ?_) #[true, true, true, true, true, true, true, true, true, false] rfl rfl (by kernel_rfl) (fun _ _ _ h => h) (Or.inl ⟨by rfl, ?_⟩) hHeld ?_ ?_
                  rotate_left
                  · rintro w' ⟨s0, s1⟩
                    go_simp
                    with_reducible rfl
                  rotate_left
                  · simp only [Act.put, List.setIfInBounds_toArray, List.set_cons_zero, List.set_cons_succ, i64_w, i32_w]
                    rfl
                  refine pure_ (i := 9) (N := some 20) (v := ?_) (a' := ?_) #[true, true, true, true, true, true, true, true, true, true] rfl rfl (by kernel_rfl) (fun _ _ _ h => h) (Or.inl ⟨by rfl, ?_⟩) ?_ ?_
                  rotate_left
                  · intro w'
                    go_simp
                    with_reducible rfl
                  rotate_left
                  · simp only [Act.put, List.setIfInBounds_toArray, List.set_cons_zero, List.set_cons_succ, i64_w, i32_w]
                    rfl
                  refine done_ (by kernel_rfl) ?_
                  go_wp2_with fail
                  refine (server_tokensCanMatch.calls k1 _ _ t _ HT.out).mono ?_
                  rintro e w' ⟨rfl, ⟨m2, rfl⟩⟩
                  have hlt := HK.out
                  cases t with
                  | false =>
                    have H := H3.out
                    simp at H
                    subst H
                    go_wp2
                    go_ret
                    exact ⟨rfl, by repeat (first | exact HBW.out | apply pw_below_drewN | apply below_drew)⟩
                  | true =>
                    have H' := Aside0.mk (show server_SubjectsCollide.l0 k1 ta tb (ta.length : Int) (wrap64 (x + 1)) = some r from by have h := H3.out; simpa using h)
                    clear H3
                    go_wp2
                    go_roundg k1
                    case measure => omega
                    case rel => exact ⟨(wrap64 (x + 1)), (by first | rfl | (simp; done) | (simp [*]; done)), H', ⟨by omega⟩, by repeat (first | exact Drawn0.refl _ | apply Drawn0.step | exact ⟨_, rfl⟩)⟩
                · rw [if_neg q2] at H
                  exact absurd H (by simp)
              · rw [if_neg q1] at H
                exact absurd H (by simp)
            · rw [if_neg p1] at H
              exact absurd H (by simp)
          · rw [if_neg c1] at H
            have c1b : decide (x < (ta.length : Int)) = false := decide_eq_false c1
            obtain rfl := Option.some.inj H
            go_wp2
            go_ret
            exact ⟨rfl, pw_below_drewN HBW.out m⟩
    · have n1 : ((ta.length : Int) != (tb.length : Int)) = true := by exact bne_iff_ne.mpr (by omega)
      have n2 : decide ((ta.length : Int) < (tb.length : Int)) = false := decide_eq_false (by omega)
      have n3 : decide ((tb.length : Int) < (ta.length : Int)) = true := decide_eq_true (by omega)
      have m1 : (ta.length < tb.length) = False := by simp; omega
      have m2 : (tb.length < ta.length) = True := by simp; omega
      obtain rfl : false = r := by
        have h := H.out
        simp only [server_SubjectsCollide.tail] at h
        simp [show ¬ ta.length = tb.length by omega, show (ta.length < tb.length) = False by simp; omega, show (tb.length < ta.length) = True by simp; omega] at h
        exact h.symm
      clear d
      go_wp2
      go_ret
      exact ⟨rfl, HBW.out⟩
  · rcases Nat.lt_trichotomy ta.length tb.length with d | d | d
    · have n1 : ((ta.length : Int) != (tb.length : Int)) = true := by exact bne_iff_ne.mpr (by omega)
      have n2 : decide ((ta.length : Int) < (tb.length : Int)) = true := decide_eq_true (by omega)
      have n3 : decide ((tb.length : Int) < (ta.length : Int)) = false := decide_eq_false (by omega)
      have m1 : (ta.length < tb.length) = True := by simp; omega
      have m2 : (tb.length < ta.length) = False := by simp; omega
      have H1 : Aside0 (server_SubjectsCollide.l0 k ta tb (ta.length : Int) 0 = some r) := ⟨by
        have h := H.out
        have hm : min ta.length tb.length = ta.length := by omega
        simp only [server_SubjectsCollide.tail, hm] at h
        simp [show ¬ ta.length = tb.length by omega, show (ta.length < tb.length) = True by simp; omega, show (tb.length < ta.length) = False by simp; omega] at h
        exact h⟩
      clear d
      clear H
      go_wp2
      go_loopg [18] k (fun kq v18 w' => ∃ (x : Int), v18 = .int .i64 x ∧ Aside0 (server_SubjectsCollide.l0 kq ta tb (ta.length : Int) x = some r) ∧ Aside0 (kq ≤ k) ∧ Drawn0 W w')
      case atStart => exact ⟨0, rfl, H1, ⟨Nat.le_refl _⟩, Drawn0.refl _⟩
      case round =>
        clear H1
        obtain ⟨x, rfl, HA, HK, ⟨m, rfl⟩⟩ := hrel
        cases gk with
        | zero => exact absurd HA.out (by simp [server_SubjectsCollide.l0])
        | succ k1 =>
          have H := HA.out
          clear HA
          simp only [server_SubjectsCollide.l0] at H
          by_cases c1 : x < (ta.length : Int)
          · rw [if_pos c1] at H
            have c1b : decide (x < (ta.length : Int)) = true := decide_eq_true c1
            clear c1
            by_cases p1 : 0 ≤ x
            · rw [if_pos p1] at H
              by_cases q1 : x < (ta.length : Int)
              · rw [if_pos q1] at H
                by_cases q2 : x < (tb.length : Int)
                · rw [if_pos q2] at H
                  obtain ⟨t, ht, H3⟩ := Option.bind_eq_some_iff.mp H
                  have HT := Aside0.mk ht
                  have H3 := Aside0.mk H3
                  clear ht H
                  obtain ⟨ad1, e1, hx1⟩ := Kd.at_string (Kd.C_drewN HCA.out m) x p1 q1
                  obtain ⟨ad2, e2, hx2⟩ := Kd.at_string (Kd.C_drewN HCB.out m) x p1 q2
                  cases e1
                  cases e2
                  replace p1 := eq_true p1
                  replace q1 := eq_true q1
                  replace q2 := eq_true q2
                  go_wp2
                  refine start_ (n := 10) (S := fun w' => w'.cell? (ad1.add x.toNat) = some (.string (rdOf ByteArray.empty ta x)) ∧ w'.cell? (ad2.add x.toNat) = some (.string (rdOf ByteArray.empty tb x))) (ds := []) #[false, false, false, false, false, false, false, false, false, false] (by kernel_rfl) rfl rfl ⟨hx1, hx2⟩ (fun hHeld => ?_)
                  refine pure_ (i := 0) (N := some 124) (v := ?_) (a' := ?_) #[true, false, false, false, false, false, false, false, false, false] rfl rfl (by kernel_rfl) (fun _ _ _ h => h) (Or.inl ⟨by rfl, ?_⟩) ?_ ?_
                  rotate_left
                  · intro w'
                    go_simp
                    with_reducible rfl
                  rotate_left
                  · simp only [Act.put, List.setIfInBounds_toArray, List.set_cons_zero, List.set_cons_succ, i64_w, i32_w]
                    rfl
                  refine pure_ (i := 1) (N := some 125) (v := ?_) (a' := ?_) #[true, true, false, false, false, false, false, false, false, false] rfl rfl (by kernel_rfl) (fun _ _ _ h => h) (Or.inl ⟨by rfl, ?_⟩) ?_ ?_
                  rotate_left
                  · intro w'
                    go_simp
                    with_reducible rfl
                  rotate_left
                  · simp only [Act.put, List.setIfInBounds_toArray, List.set_cons_zero, List.set_cons_succ, i64_w, i32_w]
                    rfl
                  refine pure_ (i := 2) (N := some 126) (v := ?_) (a' := ?_) #[true, true, true, false, false, false, false, false, false, false] rfl rfl (by kernel_rfl) (fun _ _ _ h => h) (Or.inl ⟨by rfl, ?_⟩) ?_ ?_
                  rotate_left
                  · intro w'
                    go_simp
                    with_reducible rfl
                  rotate_left
                  · simp only [Act.put, List.setIfInBounds_toArray, List.set_cons_zero, List.set_cons_succ, i64_w, i32_w]
                    rfl
                  refine pure_ (i := 4) (N := some 128) (v := ?_) (a' := ?_) #[true, true, true, false, true, false, false, false, false, false] rfl rfl (by kernel_rfl) (fun _ _ _ h => h) (Or.inl ⟨by rfl, ?_⟩) ?_ ?_
                  rotate_left
                  · intro w'
                    go_simp
                    with_reducible rfl
                  rotate_left
                  · simp only [Act.put, List.setIfInBounds_toArray, List.set_cons_zero, List.set_cons_succ, i64_w, i32_w]
                    rfl
                  refine pure_ (i := 5) (N := some 129) (v := ?_) (a' := ?_) #[true, true, true, false, true, true, false, false, false, false] rfl rfl (by kernel_rfl) (fun _ _ _ h => h) (Or.inl ⟨by rfl, ?_⟩) ?_ ?_
                  rotate_left
                  · intro w'
                    go_simp
                    with_reducible rfl
                  rotate_left
                  · simp only [Act.put, List.setIfInBounds_toArray, List.set_cons_zero, List.set_cons_succ, i64_w, i32_w]
                    rfl
                  refine pure_ (i := 6) (N := some 130) (v := ?_) (a' := ?_) #[true, true, true, false, true, true, true, false, false, false] rfl rfl (by kernel_rfl) (fun _ _ _ h => h) (Or.inl ⟨by rfl, ?_⟩) ?_ ?_
                  rotate_left
                  · intro w'
                    go_simp
                    with_reducible rfl
                  rotate_left
                  · simp only [Act.put, List.setIfInBounds_toArray, List.set_cons_zero, List.set_cons_succ, i64_w, i32_w]
                    rfl
                  refine take_ (i := 3) (N := some 127) (v := ?_) (a' := ?_) #[true, true, true, true, true, true, true, false, false, false] rfl rfl (by kernel_rfl) (fun _ _ _ h => h) (Or.inl ⟨by rfl, ?_⟩) hHeld ?_ ?_
                  rotate_left
                  · rintro w' ⟨s0, s1⟩
                    go_simp
                    with_reducible rfl
                  rotate_left
                  · simp only [Act.put, List.setIfInBounds_toArray, List.set_cons_zero, List.set_cons_succ, i64_w, i32_w]
                    rfl
                  refine pure_ (i := 8) (N := some 19) (v := ?_) (a' := ?_) #[true, true, true, true, true, true, true, false, true, false] rfl rfl (by kernel_rfl) (fun _ _ _ h => h) (Or.inl ⟨by rfl, ?_⟩) ?_ ?_
                  rotate_left
                  · intro w'
                    go_simp
                    with_reducible rfl
                  rotate_left
                  · simp only [Act.put, List.setIfInBounds_toArray, List.set_cons_zero, List.set_cons_succ, i64_w, i32_w]
                    rfl
                  refine take_ (i := 7) (N := some 131) (v := ?_) (a' := ?_) #[true, true, true, true, true, true, true, true, true, false] rfl rfl (by kernel_rfl) (fun _ _ _ h => h) (Or.inl ⟨by rfl, ?_⟩) hHeld ?_ ?_
                  rotate_left
                  · rintro w' ⟨s0, s1⟩
                    go_simp
                    with_reducible rfl
                  rotate_left
                  · simp only [Act.put, List.setIfInBounds_toArray, List.set_cons_zero, List.set_cons_succ, i64_w, i32_w]
                    rfl
                  refine pure_ (i := 9) (N := some 20) (v := ?_) (a' := ?_) #[true, true, true, true, true, true, true, true, true, true] rfl rfl (by kernel_rfl) (fun _ _ _ h => h) (Or.inl ⟨by rfl, ?_⟩) ?_ ?_
                  rotate_left
                  · intro w'
                    go_simp
                    with_reducible rfl
                  rotate_left
                  · simp only [Act.put, List.setIfInBounds_toArray, List.set_cons_zero, List.set_cons_succ, i64_w, i32_w]
                    rfl
                  refine done_ (by kernel_rfl) ?_
                  go_wp2_with fail
                  refine (server_tokensCanMatch.calls k1 _ _ t _ HT.out).mono ?_
                  rintro e w' ⟨rfl, ⟨m2, rfl⟩⟩
                  have hlt := HK.out
                  cases t with
                  | false =>
                    have H := H3.out
                    simp at H
                    subst H
                    go_wp2
                    go_ret
                    exact ⟨rfl, by repeat (first | exact HBW.out | apply pw_below_drewN | apply below_drew)⟩
                  | true =>
                    have H' := Aside0.mk (show server_SubjectsCollide.l0 k1 ta tb (ta.length : Int) (wrap64 (x + 1)) = some r from by have h := H3.out; simpa using h)
                    clear H3
                    go_wp2
                    go_roundg k1
                    case measure => omega
                    case rel => exact ⟨(wrap64 (x + 1)), (by first | rfl | (simp; done) | (simp [*]; done)), H', ⟨by omega⟩, by repeat (first | exact Drawn0.refl _ | apply Drawn0.step | exact ⟨_, rfl⟩)⟩
                · rw [if_neg q2] at H
                  exact absurd H (by simp)
              · rw [if_neg q1] at H
                exact absurd H (by simp)
            · rw [if_neg p1] at H
              exact absurd H (by simp)
          · rw [if_neg c1] at H
            have c1b : decide (x < (ta.length : Int)) = false := decide_eq_false c1
            obtain rfl := Option.some.inj H
            go_wp2
            go_ret
            exact ⟨rfl, pw_below_drewN HBW.out m⟩
    · have n1 : ((ta.length : Int) != (tb.length : Int)) = false := by exact bne_eq_false_iff_eq.mpr (by omega)
      have n2 : decide ((ta.length : Int) < (tb.length : Int)) = false := decide_eq_false (by omega)
      have n3 : decide ((tb.length : Int) < (ta.length : Int)) = false := decide_eq_false (by omega)
      have m1 : (ta.length < tb.length) = False := by simp; omega
      have m2 : (tb.length < ta.length) = False := by simp; omega
      have H1 : Aside0 (server_SubjectsCollide.l0 k ta tb (ta.length : Int) 0 = some r) := ⟨by
        have h := H.out
        have hm : min ta.length tb.length = ta.length := by omega
        simp only [server_SubjectsCollide.tail, hm] at h
        simp [show (ta.length = tb.length) = True by simp; omega, show (ta.length < tb.length) = False by simp; omega, show (tb.length < ta.length) = False by simp; omega] at h
        exact h⟩
      clear d
      clear H
      go_wp2
      go_loopg [18] k (fun kq v18 w' => ∃ (x : Int), v18 = .int .i64 x ∧ Aside0 (server_SubjectsCollide.l0 kq ta tb (ta.length : Int) x = some r) ∧ Aside0 (kq ≤ k) ∧ Drawn0 W w')
      case atStart => exact ⟨0, rfl, H1, ⟨Nat.le_refl _⟩, Drawn0.refl _⟩
      case round =>
        clear H1
        obtain ⟨x, rfl, HA, HK, ⟨m, rfl⟩⟩ := hrel
        cases gk with
        | zero => exact absurd HA.out (by simp [server_SubjectsCollide.l0])
        | succ k1 =>
          have H := HA.out
          clear HA
          simp only [server_SubjectsCollide.l0] at H
          by_cases c1 : x < (ta.length : Int)
          · rw [if_pos c1] at H
            have c1b : decide (x < (ta.length : Int)) = true := decide_eq_true c1
            clear c1
            by_cases p1 : 0 ≤ x
            · rw [if_pos p1] at H
              by_cases q1 : x < (ta.length : Int)
              · rw [if_pos q1] at H
                by_cases q2 : x < (tb.length : Int)
                · rw [if_pos q2] at H
                  obtain ⟨t, ht, H3⟩ := Option.bind_eq_some_iff.mp H
                  have HT := Aside0.mk ht
                  have H3 := Aside0.mk H3
                  clear ht H
                  obtain ⟨ad1, e1, hx1⟩ := Kd.at_string (Kd.C_drewN HCA.out m) x p1 q1
                  obtain ⟨ad2, e2, hx2⟩ := Kd.at_string (Kd.C_drewN HCB.out m) x p1 q2
                  cases e1
                  cases e2
                  replace p1 := eq_true p1
                  replace q1 := eq_true q1
                  replace q2 := eq_true q2
                  go_wp2
                  refine start_ (n := 10) (S := fun w' => w'.cell? (ad1.add x.toNat) = some (.string (rdOf ByteArray.empty ta x)) ∧ w'.cell? (ad2.add x.toNat) = some (.string (rdOf ByteArray.empty tb x))) (ds := []) #[false, false, false, false, false, false, false, false, false, false] (by kernel_rfl) rfl rfl ⟨hx1, hx2⟩ (fun hHeld => ?_)
                  refine pure_ (i := 0) (N := some 124) (v := ?_) (a' := ?_) #[true, false, false, false, false, false, false, false, false, false] rfl rfl (by kernel_rfl) (fun _ _ _ h => h) (Or.inl ⟨by rfl, ?_⟩) ?_ ?_
                  rotate_left
                  · intro w'
                    go_simp
                    with_reducible rfl
                  rotate_left
                  · simp only [Act.put, List.setIfInBounds_toArray, List.set_cons_zero, List.set_cons_succ, i64_w, i32_w]
                    rfl
                  refine pure_ (i := 1) (N := some 125) (v := ?_) (a' := ?_) #[true, true, false, false, false, false, false, false, false, false] rfl rfl (by kernel_rfl) (fun _ _ _ h => h) (Or.inl ⟨by rfl, ?_⟩) ?_ ?_
                  rotate_left
                  · intro w'
                    go_simp
                    with_reducible rfl
                  rotate_left
                  · simp only [Act.put, List.setIfInBounds_toArray, List.set_cons_zero, List.set_cons_succ, i64_w, i32_w]
                    rfl
                  refine pure_ (i := 2) (N := some 126) (v := ?_) (a' := ?_) #[true, true, true, false, false, false, false, false, false, false] rfl rfl (by kernel_rfl) (fun _ _ _ h => h) (Or.inl ⟨by rfl, ?_⟩) ?_ ?_
                  rotate_left
                  · intro w'
                    go_simp
                    with_reducible rfl
                  rotate_left
                  · simp only [Act.put, List.setIfInBounds_toArray, List.set_cons_zero, List.set_cons_succ, i64_w, i32_w]
                    rfl
                  refine pure_ (i := 4) (N := some 128) (v := ?_) (a' := ?_) #[true, true, true, false, true, false, false, false, false, false] rfl rfl (by kernel_rfl) (fun _ _ _ h => h) (Or.inl ⟨by rfl, ?_⟩) ?_ ?_
                  rotate_left
                  · intro w'
                    go_simp
                    with_reducible rfl
                  rotate_left
                  · simp only [Act.put, List.setIfInBounds_toArray, List.set_cons_zero, List.set_cons_succ, i64_w, i32_w]
                    rfl
                  refine pure_ (i := 5) (N := some 129) (v := ?_) (a' := ?_) #[true, true, true, false, true, true, false, false, false, false] rfl rfl (by kernel_rfl) (fun _ _ _ h => h) (Or.inl ⟨by rfl, ?_⟩) ?_ ?_
                  rotate_left
                  · intro w'
                    go_simp
                    with_reducible rfl
                  rotate_left
                  · simp only [Act.put, List.setIfInBounds_toArray, List.set_cons_zero, List.set_cons_succ, i64_w, i32_w]
                    rfl
                  refine pure_ (i := 6) (N := some 130) (v := ?_) (a' := ?_) #[true, true, true, false, true, true, true, false, false, false] rfl rfl (by kernel_rfl) (fun _ _ _ h => h) (Or.inl ⟨by rfl, ?_⟩) ?_ ?_
                  rotate_left
                  · intro w'
                    go_simp
                    with_reducible rfl
                  rotate_left
                  · simp only [Act.put, List.setIfInBounds_toArray, List.set_cons_zero, List.set_cons_succ, i64_w, i32_w]
                    rfl
                  refine take_ (i := 3) (N := some 127) (v := ?_) (a' := ?_) #[true, true, true, true, true, true, true, false, false, false] rfl rfl (by kernel_rfl) (fun _ _ _ h => h) (Or.inl ⟨by rfl, ?_⟩) hHeld ?_ ?_
                  rotate_left
                  · rintro w' ⟨s0, s1⟩
                    go_simp
                    with_reducible rfl
                  rotate_left
                  · simp only [Act.put, List.setIfInBounds_toArray, List.set_cons_zero, List.set_cons_succ, i64_w, i32_w]
                    rfl
                  refine pure_ (i := 8) (N := some 19) (v := ?_) (a' := ?_) #[true, true, true, true, true, true, true, false, true, false] rfl rfl (by kernel_rfl) (fun _ _ _ h => h) (Or.inl ⟨by rfl, ?_⟩) ?_ ?_
                  rotate_left
                  · intro w'
                    go_simp
                    with_reducible rfl
                  rotate_left
                  · simp only [Act.put, List.setIfInBounds_toArray, List.set_cons_zero, List.set_cons_succ, i64_w, i32_w]
                    rfl
                  refine take_ (i := 7) (N := some 131) (v := ?_) (a' := ?_) #[true, true, true, true, true, true, true, true, true, false] rfl rfl (by kernel_rfl) (fun _ _ _ h => h) (Or.inl ⟨by rfl, ?_⟩) hHeld ?_ ?_
                  rotate_left
                  · rintro w' ⟨s0, s1⟩
                    go_simp
                    with_reducible rfl
                  rotate_left
                  · simp only [Act.put, List.setIfInBounds_toArray, List.set_cons_zero, List.set_cons_succ, i64_w, i32_w]
                    rfl
                  refine pure_ (i := 9) (N := some 20) (v := ?_) (a' := ?_) #[true, true, true, true, true, true, true, true, true, true] rfl rfl (by kernel_rfl) (fun _ _ _ h => h) (Or.inl ⟨by rfl, ?_⟩) ?_ ?_
                  rotate_left
                  · intro w'
                    go_simp
                    with_reducible rfl
                  rotate_left
                  · simp only [Act.put, List.setIfInBounds_toArray, List.set_cons_zero, List.set_cons_succ, i64_w, i32_w]
                    rfl
                  refine done_ (by kernel_rfl) ?_
                  go_wp2_with fail
                  refine (server_tokensCanMatch.calls k1 _ _ t _ HT.out).mono ?_
                  rintro e w' ⟨rfl, ⟨m2, rfl⟩⟩
                  have hlt := HK.out
                  cases t with
                  | false =>
                    have H := H3.out
                    simp at H
                    subst H
                    go_wp2
                    go_ret
                    exact ⟨rfl, by repeat (first | exact HBW.out | apply pw_below_drewN | apply below_drew)⟩
                  | true =>
                    have H' := Aside0.mk (show server_SubjectsCollide.l0 k1 ta tb (ta.length : Int) (wrap64 (x + 1)) = some r from by have h := H3.out; simpa using h)
                    clear H3
                    go_wp2
                    go_roundg k1
                    case measure => omega
                    case rel => exact ⟨(wrap64 (x + 1)), (by first | rfl | (simp; done) | (simp [*]; done)), H', ⟨by omega⟩, by repeat (first | exact Drawn0.refl _ | apply Drawn0.step | exact ⟨_, rfl⟩)⟩
                · rw [if_neg q2] at H
                  exact absurd H (by simp)
              · rw [if_neg q1] at H
                exact absurd H (by simp)
            · rw [if_neg p1] at H
              exact absurd H (by simp)
          · rw [if_neg c1] at H
            have c1b : decide (x < (ta.length : Int)) = false := decide_eq_false c1
            obtain rfl := Option.some.inj H
            go_wp2
            go_ret
            exact ⟨rfl, pw_below_drewN HBW.out m⟩
    · have n1 : ((ta.length : Int) != (tb.length : Int)) = true := by exact bne_iff_ne.mpr (by omega)
      have n2 : decide ((ta.length : Int) < (tb.length : Int)) = false := decide_eq_false (by omega)
      have n3 : decide ((tb.length : Int) < (ta.length : Int)) = true := decide_eq_true (by omega)
      have m1 : (ta.length < tb.length) = False := by simp; omega
      have m2 : (tb.length < ta.length) = True := by simp; omega
      have H1 : Aside0 (server_SubjectsCollide.l0 k ta tb (tb.length : Int) 0 = some r) := ⟨by
        have h := H.out
        have hm : min ta.length tb.length = tb.length := by omega
        simp only [server_SubjectsCollide.tail, hm] at h
        simp [show ¬ ta.length = tb.length by omega, show (ta.length < tb.length) = False by simp; omega, show (tb.length < ta.length) = True by simp; omega] at h
        exact h⟩
      clear d
      clear H
      go_wp2
      go_loopg [18] k (fun kq v18 w' => ∃ (x : Int), v18 = .int .i64 x ∧ Aside0 (server_SubjectsCollide.l0 kq ta tb (tb.length : Int) x = some r) ∧ Aside0 (kq ≤ k) ∧ Drawn0 W w')
      case atStart => exact ⟨0, rfl, H1, ⟨Nat.le_refl _⟩, Drawn0.refl _⟩
      case round =>
        clear H1
        obtain ⟨x, rfl, HA, HK, ⟨m, rfl⟩⟩ := hrel
        cases gk with
        | zero => exact absurd HA.out (by simp [server_SubjectsCollide.l0])
        | succ k1 =>
          have H := HA.out
          clear HA
          simp only [server_SubjectsCollide.l0] at H
          by_cases c1 : x < (tb.length : Int)
          · rw [if_pos c1] at H
            have c1b : decide (x < (tb.length : Int)) = true := decide_eq_true c1
            clear c1
            by_cases p1 : 0 ≤ x
            · rw [if_pos p1] at H
              by_cases q1 : x < (ta.length : Int)
              · rw [if_pos q1] at H
                by_cases q2 : x < (tb.length : Int)
                · rw [if_pos q2] at H
                  obtain ⟨t, ht, H3⟩ := Option.bind_eq_some_iff.mp H
                  have HT := Aside0.mk ht
                  have H3 := Aside0.mk H3
                  clear ht H
                  obtain ⟨ad1, e1, hx1⟩ := Kd.at_string (Kd.C_drewN HCA.out m) x p1 q1
                  obtain ⟨ad2, e2, hx2⟩ := Kd.at_string (Kd.C_drewN HCB.out m) x p1 q2
                  cases e1
                  cases e2
                  replace p1 := eq_true p1
                  replace q1 := eq_true q1
                  replace q2 := eq_true q2
                  go_wp2
                  refine start_ (n := 10) (S := fun w' => w'.cell? (ad1.add x.toNat) = some (.string (rdOf ByteArray.empty ta x)) ∧ w'.cell? (ad2.add x.toNat) = some (.string (rdOf ByteArray.empty tb x))) (ds := []) #[false, false, false, false, false, false, false, false, false, false] (by kernel_rfl) rfl rfl ⟨hx1, hx2⟩ (fun hHeld => ?_)
                  refine pure_ (i := 0) (N := some 124) (v := ?_) (a' := ?_) #[true, false, false, false, false, false, false, false, false, false] rfl rfl (by kernel_rfl) (fun _ _ _ h => h) (Or.inl ⟨by rfl, ?_⟩) ?_ ?_
                  rotate_left
                  · intro w'
                    go_simp
                    with_reducible rfl
                  rotate_left
                  · simp only [Act.put, List.setIfInBounds_toArray, List.set_cons_zero, List.set_cons_succ, i64_w, i32_w]
                    rfl
                  refine pure_ (i := 1) (N := some 125) (v := ?_) (a' := ?_) #[true, true, false, false, false, false, false, false, false, false] rfl rfl (by kernel_rfl) (fun _ _ _ h => h) (Or.inl ⟨by rfl, ?_⟩) ?_ ?_
                  rotate_left
                  · intro w'
                    go_simp
                    with_reducible rfl
                  rotate_left
                  · simp only [Act.put, List.setIfInBounds_toArray, List.set_cons_zero, List.set_cons_succ, i64_w, i32_w]
                    rfl
                  refine pure_ (i := 2) (N := some 126) (v := ?_) (a' := ?_) #[true, true, true, false, false, false, false, false, false, false] rfl rfl (by kernel_rfl) (fun _ _ _ h => h) (Or.inl ⟨by rfl, ?_⟩) ?_ ?_
                  rotate_left
                  · intro w'
                    go_simp
                    with_reducible rfl
                  rotate_left
                  · simp only [Act.put, List.setIfInBounds_toArray, List.set_cons_zero, List.set_cons_succ, i64_w, i32_w]
                    rfl
                  refine pure_ (i := 4) (N := some 128) (v := ?_) (a' := ?_) #[true, true, true, false, true, false, false, false, false, false] rfl rfl (by kernel_rfl) (fun _ _ _ h => h) (Or.inl ⟨by rfl, ?_⟩) ?_ ?_
                  rotate_left
                  · intro w'
                    go_simp
                    with_reducible rfl
                  rotate_left
                  · simp only [Act.put, List.setIfInBounds_toArray, List.set_cons_zero, List.set_cons_succ, i64_w, i32_w]
                    rfl
                  refine pure_ (i := 5) (N := some 129) (v := ?_) (a' := ?_) #[true, true, true, false, true, true, false, false, false, false] rfl rfl (by kernel_rfl) (fun _ _ _ h => h) (Or.inl ⟨by rfl, ?_⟩) ?_ ?_
                  rotate_left
                  · intro w'
                    go_simp
                    with_reducible rfl
                  rotate_left
                  · simp only [Act.put, List.setIfInBounds_toArray, List.set_cons_zero, List.set_cons_succ, i64_w, i32_w]
                    rfl
                  refine pure_ (i := 6) (N := some 130) (v := ?_) (a' := ?_) #[true, true, true, false, true, true, true, false, false, false] rfl rfl (by kernel_rfl) (fun _ _ _ h => h) (Or.inl ⟨by rfl, ?_⟩) ?_ ?_
                  rotate_left
                  · intro w'
                    go_simp
                    with_reducible rfl
                  rotate_left
                  · simp only [Act.put, List.setIfInBounds_toArray, List.set_cons_zero, List.set_cons_succ, i64_w, i32_w]
                    rfl
                  refine take_ (i := 3) (N := some 127) (v := ?_) (a' := ?_) #[true, true, true, true, true, true, true, false, false, false] rfl rfl (by kernel_rfl) (fun _ _ _ h => h) (Or.inl ⟨by rfl, ?_⟩) hHeld ?_ ?_
                  rotate_left
                  · rintro w' ⟨s0, s1⟩
                    go_simp
                    with_reducible rfl
                  rotate_left
                  · simp only [Act.put, List.setIfInBounds_toArray, List.set_cons_zero, List.set_cons_succ, i64_w, i32_w]
                    rfl
                  refine pure_ (i := 8) (N := some 19) (v := ?_) (a' := ?_) #[true, true, true, true, true, true, true, false, true, false] rfl rfl (by kernel_rfl) (fun _ _ _ h => h) (Or.inl ⟨by rfl, ?_⟩) ?_ ?_
                  rotate_left
                  · intro w'
                    go_simp
                    with_reducible rfl
                  rotate_left
                  · simp only [Act.put, List.setIfInBounds_toArray, List.set_cons_zero, List.set_cons_succ, i64_w, i32_w]
                    rfl
                  refine take_ (i := 7) (N := some 131) (v := ?_) (a' := ?_) #[true, true, true, true, true, true, true, true, true, false] rfl rfl (by kernel_rfl) (fun _ _ _ h => h) (Or.inl ⟨by rfl, ?_⟩) hHeld ?_ ?_
                  rotate_left
                  · rintro w' ⟨s0, s1⟩
                    go_simp
                    with_reducible rfl
                  rotate_left
                  · simp only [Act.put, List.setIfInBounds_toArray, List.set_cons_zero, List.set_cons_succ, i64_w, i32_w]
                    rfl
                  refine pure_ (i := 9) (N := some 20) (v := ?_) (a' := ?_) #[true, true, true, true, true, true, true, true, true, true] rfl rfl (by kernel_rfl) (fun _ _ _ h => h) (Or.inl ⟨by rfl, ?_⟩) ?_ ?_
                  rotate_left
                  · intro w'
                    go_simp
                    with_reducible rfl
                  rotate_left
                  · simp only [Act.put, List.setIfInBounds_toArray, List.set_cons_zero, List.set_cons_succ, i64_w, i32_w]
                    rfl
                  refine done_ (by kernel_rfl) ?_
                  go_wp2_with fail
                  refine (server_tokensCanMatch.calls k1 _ _ t _ HT.out).mono ?_
                  rintro e w' ⟨rfl, ⟨m2, rfl⟩⟩
                  have hlt := HK.out
                  cases t with
                  | false =>
                    have H := H3.out
                    simp at H
                    subst H
                    go_wp2
                    go_ret
                    exact ⟨rfl, by repeat (first | exact HBW.out | apply pw_below_drewN | apply below_drew)⟩
                  | true =>
                    have H' := Aside0.mk (show server_SubjectsCollide.l0 k1 ta tb (tb.length : Int) (wrap64 (x + 1)) = some r from by have h := H3.out; simpa using h)
                    clear H3
                    go_wp2
                    go_roundg k1
                    case measure => omega
                    case rel => exact ⟨(wrap64 (x + 1)), (by first | rfl | (simp; done) | (simp [*]; done)), H', ⟨by omega⟩, by repeat (first | exact Drawn0.refl _ | apply Drawn0.step | exact ⟨_, rfl⟩)⟩
                · rw [if_neg q2] at H
                  exact absurd H (by simp)
              · rw [if_neg q1] at H
                exact absurd H (by simp)
            · rw [if_neg p1] at H
              exact absurd H (by simp)
          · rw [if_neg c1] at H
            have c1b : decide (x < (tb.length : Int)) = false := decide_eq_false c1
            obtain rfl := Option.some.inj H
            go_wp2
            go_ret
            exact ⟨rfl, pw_below_drewN HBW.out m⟩

end Go.Proofs.Ytgbdjinanflhaaa.GFnSubsetMeans
