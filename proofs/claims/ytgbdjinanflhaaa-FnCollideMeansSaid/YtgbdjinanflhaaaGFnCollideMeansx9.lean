/- A walk of Go functions (plain functions of theirs, and that the machine's calls do what these say), written by a program of this session's. -/
import Derived.Test.YtgbdjinanflhaaaGFnCollideMeansx0
import Derived.Test.YtgbdjinanflhaaaGFnCollideMeansx4
import Derived.Test.YtgbdjinanflhaaaGFnCollideMeansx6
import Derived.Test.YtgbdjinanflhaaaGFnCollideMeansx8
namespace Go.Proofs.Ytgbdjinanflhaaa.GFnCollideMeans
open Go.RowKit Go.Proofs.YtgbdjinanflhaaaW.PrintWords Go.Proofs.YtgbdjinanflhaaaW.PrintLast Go.Proofs.YtgbdjinanflhaaaW.PrintMore
attribute [local go_sem] max2_int min2_int max_two min_two max_three min_three max_four min_four   -- for this text's walks alone
set_option linter.unusedVariables false
set_option linter.unusedSimpArgs false

/-! ### server_subjectIsLiteral: function 43 (by hand) -/
/-- A wildcard that is a token of its own stands at i. -/
def server_subjectIsLiteral.wildAt (s : ByteArray) (i : Nat) : Bool :=
  (decide (bt s (i : Int) = 42) || decide (bt s (i : Int) = 62)) && (decide (i = 0) || decide (bt s ((i : Int) - 1) = 46)) && (decide (i + 1 = s.size) || decide (bt s ((i : Int) + 1) = 46))
def server_subjectIsLiteral.f (a0 : ByteArray) : Option Bool := if a0.size ≤ 140737488351232 then some ((List.range a0.size).all fun i => !server_subjectIsLiteral.wildAt a0 i) else none
theorem server_subjectIsLiteral.wild_t (s : ByteArray) (pos : Nat) (hb : bt s (pos : Int) = 42 ∨ bt s (pos : Int) = 62) (h1 : pos = 0 ∨ ∃ h : pos - 1 < s.size, 0 < pos ∧ ((s[pos - 1]'h).toNat : Int) = 46) (h2 : pos + 1 = s.size ∨ ∃ h : pos + 1 < s.size, ((s[pos + 1]'h).toNat : Int) = 46) : server_subjectIsLiteral.wildAt s pos = true := by
  unfold server_subjectIsLiteral.wildAt
  simp only [Bool.and_eq_true, Bool.or_eq_true, decide_eq_true_eq]
  refine ⟨⟨hb, ?_⟩, ?_⟩
  · rcases h1 with h | ⟨h, h0, h3⟩
    · exact .inl h
    · refine .inr ?_
      have e : ((pos : Int) - 1) = ((pos - 1 : Nat) : Int) := by omega
      rw [e, Wk.bt_at s _ h]; exact h3
  · rcases h2 with h | ⟨h, h3⟩
    · exact .inl h
    · refine .inr ?_
      have e : ((pos : Int) + 1) = ((pos + 1 : Nat) : Int) := by omega
      rw [e, Wk.bt_at s _ h]; exact h3
theorem server_subjectIsLiteral.wild_f1 (s : ByteArray) (pos : Nat) (h0 : 0 < pos) (h : pos - 1 < s.size) (h3 : ¬ ((s[pos - 1]'h).toNat : Int) = 46) : server_subjectIsLiteral.wildAt s pos = false := by
  unfold server_subjectIsLiteral.wildAt
  have e : ((pos : Int) - 1) = ((pos - 1 : Nat) : Int) := by omega
  rw [e, Wk.bt_at s _ h, decide_eq_false h3, decide_eq_false (show ¬ pos = 0 by omega)]
  simp
theorem server_subjectIsLiteral.wild_f2 (s : ByteArray) (pos : Nat) (h : pos + 1 < s.size) (h3 : ¬ ((s[pos + 1]'h).toNat : Int) = 46) : server_subjectIsLiteral.wildAt s pos = false := by
  unfold server_subjectIsLiteral.wildAt
  have e : ((pos : Int) + 1) = ((pos + 1 : Nat) : Int) := by omega
  rw [e, Wk.bt_at s _ h, decide_eq_false h3, decide_eq_false (show ¬ pos + 1 = s.size by omega)]
  simp
theorem server_subjectIsLiteral.ret (s : ByteArray) (pos : Nat) (h : pos < s.size) (hw : server_subjectIsLiteral.wildAt s pos = true) {r : Bool} (hr : ((List.range s.size).all fun i => !server_subjectIsLiteral.wildAt s i) = r) : r = false := by
  rw [← hr, List.all_eq_false]
  exact ⟨pos, List.mem_range.mpr h, by rw [hw]; simp⟩
theorem server_subjectIsLiteral.nxt (s : ByteArray) (pos n : Nat) (hn : n = 1) (hW : ∀ j, j < pos → server_subjectIsLiteral.wildAt s j = false) (hw : server_subjectIsLiteral.wildAt s pos = false) : ∀ j, j < pos + n → server_subjectIsLiteral.wildAt s j = false := by
  intro j hj
  rcases Nat.lt_or_ge j pos with h | h
  · exact hW j h
  · obtain rfl : j = pos := by omega
    exact hw
set_option maxHeartbeats 8000000 in
set_option maxRecDepth 100000 in
theorem server_subjectIsLiteral.calls (a0 : ByteArray) (r : Bool) (w : World) (h : server_subjectIsLiteral.f a0 = some r) :
    Calls Try.prog 43 #[.string a0] w fun e w' => e = .returned (.bool r) ∧ Below w.heap.size w w' := by
  unfold server_subjectIsLiteral.f at h
  have hsz : a0.size ≤ 140737488351232 := by
    apply Classical.byContradiction
    intro hn; rw [if_neg hn] at h; cases h
  rw [if_pos hsz] at h
  have HR := Aside0.mk (Option.some.inj h)
  clear h
  have HS := Aside0.mk hsz
  clear hsz
  have hbelow : ∀ p, Below w.heap.size w (w.iter a0 p) := fun p => below_alloc (Below.refl _ _) _
  have HBL := Aside0.mk hbelow
  clear hbelow
  go_enter Try.func43, Try.ntmps43
  go_wp2
  go_loopw [] (fun w' => ∃ pos : Nat, w' = w.iter a0 pos ∧ Aside0 (∀ j, j < pos → server_subjectIsLiteral.wildAt a0 j = false)) (fun w' => a0.size - w'.iterPos w.heap.size)
  case atStart => exact ⟨0, rfl, ⟨fun j h => absurd h (Nat.not_lt_zero _)⟩⟩
  case round =>
    obtain ⟨pos, rfl, HW⟩ := hrel
    by_cases hp : pos < a0.size
    · obtain ⟨c, n, hd, hn, hc, hcase⟩ := Wk.decode_step a0 pos hp
      have hnx : ∀ ty, (Instr.next (.pointer (some ⟨w.heap.size, 0, none⟩)) true ty).run Try.prog (w.iter a0 pos) = .ok (.tuple #[.bool true, .int .i64 pos, .int .i32 c]) (w.iter a0 (pos + n)) := fun ty => by have h := run_next_any (P := Try.prog) w a0 pos ty hp; rw [hd] at h; exact h
      clear hd
      have hs := HS.out
      rcases (show c = 42 ∨ c = 62 ∨ (c ≠ 42 ∧ c ≠ 62) by omega) with rfl | rfl | ⟨hc1, hc2⟩
      · have hbt : bt a0 (pos : Int) = 42 ∨ bt a0 (pos : Int) = 62 := by
          rcases hcase with h | h
          · exact .inl h.2.2
          · exfalso; omega
        have hn1 : n = 1 := by
          rcases hcase with h | h
          · exact h.2.1
          · exfalso; omega
        clear hcase
        go_wp2
        · rename_i g0 g1
          go_ret
          obtain rfl := server_subjectIsLiteral.ret a0 pos hp (server_subjectIsLiteral.wild_t a0 pos hbt (.inl g0) (.inl (by omega))) HR.out
          exact ⟨rfl, HBL.out _⟩
        · rename_i g0 g1 g2 g3
          go_ret
          obtain rfl := server_subjectIsLiteral.ret a0 pos hp (server_subjectIsLiteral.wild_t a0 pos hbt (.inl g0) (.inr (by
            subst g0
            refine ⟨by omega, ?_⟩
            rcases g3 with g | g
            · exact absurd (of_decide_eq_true g) g1
            · exact of_decide_eq_true g))) HR.out
          exact ⟨rfl, HBL.out _⟩
        · rename_i g0 g1 g2 g3
          refine ⟨⟨pos + n, by subst g0; simp [hn1], ⟨server_subjectIsLiteral.nxt a0 pos n hn1 HW.out (server_subjectIsLiteral.wild_f2 a0 pos (by omega) (by subst g0; exact of_decide_eq_false g3.2))⟩⟩, by subst g0; simp; omega⟩
        · rename_i g0 g1 g2 g3
          go_ret
          obtain rfl := server_subjectIsLiteral.ret a0 pos hp (server_subjectIsLiteral.wild_t a0 pos hbt (.inr ⟨by omega, by omega, g2⟩) (.inl (by omega))) HR.out
          exact ⟨rfl, HBL.out _⟩
        · rename_i g0 g1 g2 g3 g4 g5
          go_ret
          obtain rfl := server_subjectIsLiteral.ret a0 pos hp (server_subjectIsLiteral.wild_t a0 pos hbt (.inr ⟨by omega, by omega, g2⟩) (.inr (by
            refine ⟨by omega, ?_⟩
            rcases g5 with g | g
            · exact absurd (of_decide_eq_true g) g3
            · exact of_decide_eq_true g))) HR.out
          exact ⟨rfl, HBL.out _⟩
        · rename_i g0 g1 g2 g3 g4 g5
          refine ⟨⟨pos + n, by rw [hn1], ⟨server_subjectIsLiteral.nxt a0 pos n hn1 HW.out (server_subjectIsLiteral.wild_f2 a0 pos (by omega) (of_decide_eq_false g5.2))⟩⟩, by simp; omega⟩
        · rename_i g0 g1 g2
          refine ⟨⟨pos + n, by rw [hn1], ⟨server_subjectIsLiteral.nxt a0 pos n hn1 HW.out (server_subjectIsLiteral.wild_f1 a0 pos (by omega) (by omega) g2)⟩⟩, by simp; omega⟩
      · have hbt : bt a0 (pos : Int) = 42 ∨ bt a0 (pos : Int) = 62 := by
          rcases hcase with h | h
          · exact .inr h.2.2
          · exfalso; omega
        have hn1 : n = 1 := by
          rcases hcase with h | h
          · exact h.2.1
          · exfalso; omega
        clear hcase
        go_wp2
        · rename_i g0 g1
          go_ret
          obtain rfl := server_subjectIsLiteral.ret a0 pos hp (server_subjectIsLiteral.wild_t a0 pos hbt (.inl g0) (.inl (by omega))) HR.out
          exact ⟨rfl, HBL.out _⟩
        · rename_i g0 g1 g2 g3
          go_ret
          obtain rfl := server_subjectIsLiteral.ret a0 pos hp (server_subjectIsLiteral.wild_t a0 pos hbt (.inl g0) (.inr (by
            subst g0
            refine ⟨by omega, ?_⟩
            rcases g3 with g | g
            · exact absurd (of_decide_eq_true g) g1
            · exact of_decide_eq_true g))) HR.out
          exact ⟨rfl, HBL.out _⟩
        · rename_i g0 g1 g2 g3
          refine ⟨⟨pos + n, by subst g0; simp [hn1], ⟨server_subjectIsLiteral.nxt a0 pos n hn1 HW.out (server_subjectIsLiteral.wild_f2 a0 pos (by omega) (by subst g0; exact of_decide_eq_false g3.2))⟩⟩, by subst g0; simp; omega⟩
        · rename_i g0 g1 g2 g3
          go_ret
          obtain rfl := server_subjectIsLiteral.ret a0 pos hp (server_subjectIsLiteral.wild_t a0 pos hbt (.inr ⟨by omega, by omega, g2⟩) (.inl (by omega))) HR.out
          exact ⟨rfl, HBL.out _⟩
        · rename_i g0 g1 g2 g3 g4 g5
          go_ret
          obtain rfl := server_subjectIsLiteral.ret a0 pos hp (server_subjectIsLiteral.wild_t a0 pos hbt (.inr ⟨by omega, by omega, g2⟩) (.inr (by
            refine ⟨by omega, ?_⟩
            rcases g5 with g | g
            · exact absurd (of_decide_eq_true g) g3
            · exact of_decide_eq_true g))) HR.out
          exact ⟨rfl, HBL.out _⟩
        · rename_i g0 g1 g2 g3 g4 g5
          refine ⟨⟨pos + n, by rw [hn1], ⟨server_subjectIsLiteral.nxt a0 pos n hn1 HW.out (server_subjectIsLiteral.wild_f2 a0 pos (by omega) (of_decide_eq_false g5.2))⟩⟩, by simp; omega⟩
        · rename_i g0 g1 g2
          refine ⟨⟨pos + n, by rw [hn1], ⟨server_subjectIsLiteral.nxt a0 pos n hn1 HW.out (server_subjectIsLiteral.wild_f1 a0 pos (by omega) (by omega) g2)⟩⟩, by simp; omega⟩
      · have e1 : ((c : Int) = 42) = False := eq_false (by omega)
        have e2 : ((c : Int) = 62) = False := eq_false (by omega)
        have e3 : ((c : Int) == 42) = false := beq_eq_false_iff_ne.mpr (by omega)
        have e4 : ((c : Int) == 62) = false := beq_eq_false_iff_ne.mpr (by omega)
        go_wp2
        go_roundw
        case rel =>
          refine ⟨pos + n, rfl, ⟨fun j hj => ?_⟩⟩
          by_cases hjp : j < pos
          · exact HW.out j hjp
          · have hb : bt a0 (j : Int) ≠ 42 ∧ bt a0 (j : Int) ≠ 62 := by
              rcases hcase with ⟨h1, h2, h3⟩ | ⟨h1, h2⟩
              · have : j = pos := by omega
                subst this
                rw [h3]; omega
              · have := h2 j (by omega) hj
                omega
            simp [server_subjectIsLiteral.wildAt, hb.1, hb.2]
        case measure =>
          simp
          omega
    · have hnx : ∀ ty, (Instr.next (.pointer (some ⟨w.heap.size, 0, none⟩)) true ty).run Try.prog (w.iter a0 pos) = _ := fun ty => run_next_end w a0 pos ty hp
      go_wp2
      go_ret
      have hr := HR.out
      rw [show ((List.range a0.size).all fun i => !server_subjectIsLiteral.wildAt a0 i) = true from by
        rw [List.all_eq_true]; intro i hi; rw [List.mem_range] at hi; rw [HW.out i (by omega)]; rfl] at hr
      subst hr
      exact ⟨rfl, HBL.out _⟩

/-! ### server_IsValidPublishSubject: function 32 -/
def server_IsValidPublishSubject.f (k : Nat) (a0 : ByteArray) : Option (Bool) := (server_IsValidSubject.f k a0).bind fun t161 => (if t161 = true then ((server_subjectIsLiteral.f a0).bind fun t162 => (some t162)) else (some false))
theorem server_IsValidPublishSubject.mono : ∀ a0 k, LeO (server_IsValidPublishSubject.f k a0) (server_IsValidPublishSubject.f (k + 1) a0) := by
  intro a0 k
  unfold server_IsValidPublishSubject.f
  repeat' first
      | (with_reducible exact server_IsValidSubject.mono _ _)
      | (with_reducible exact LeO.refl _)
      | (with_reducible exact LeO.none _)
      | (with_reducible refine LeO.ite ?_ ?_)
      | (with_reducible refine LeO.bind ?_ (fun _ => ?_))
      | exact server_IsValidSubject.mono _ _
      | exact LeO.none _
      | refine LeO.ite ?_ ?_
      | refine LeO.bind ?_ (fun _ => ?_)
set_option maxHeartbeats 8000000 in
set_option maxRecDepth 100000 in
theorem server_IsValidPublishSubject.calls (k : Nat) (a0 : ByteArray) (r : Bool) (w : World) (h : server_IsValidPublishSubject.f k a0 = some r) :
    Calls Try.prog 32 #[.string a0] w fun e w' => e = .returned (.bool r) ∧ Below w.heap.size w w' := by
  have HB := Aside0.mk (Below.refl w.heap.size w)
  have H : ((server_IsValidSubject.f k a0).bind fun t161 => (if t161 = true then ((server_subjectIsLiteral.f a0).bind fun t162 => (some t162)) else (some false))) = some r := h
  clear h
  replace H := Option.bind_eq_some_iff.mp H
  obtain ⟨t161, A20, H⟩ := H
  replace H : (if t161 = true then ((server_subjectIsLiteral.f a0).bind fun t162 => (some t162)) else (some false)) = some r := H
  have A2 := Aside0.mk A20
  clear A20
  by_cases c3 : t161 = true
  · subst c3
    have H1 : ((server_subjectIsLiteral.f a0).bind fun t162 => (some t162)) = some r := by rw [if_pos rfl] at H; exact H
    clear H
    have H := H1
    clear H1
    replace H := Option.bind_eq_some_iff.mp H
    obtain ⟨t162, A40, H⟩ := H
    replace H : (some t162) = some r := H
    have A4 := Aside0.mk A40
    clear A40
    obtain rfl := Option.some.inj H
    go_enter Try.func32, Try.ntmps32
    go_wp2_with (first | ((with_reducible refine gate_callee (f := 42) rfl ?_); refine goesL_ (some 4) rfl rfl Try.func42 (by kernel_rfl) rfl #[.string a0] rfl (by (try simp only [List.map_toArray, List.map_cons, List.map_nil]); first | done | rfl | (simp only [List.length_drop, List.length_take]; rfl)) ?_; (with_reducible refine (server_IsValidSubject.calls k a0 true _ A2.out).mono ?_); rintro e w5 ⟨rfl, hb⟩; refine ⟨_, rfl, ?_⟩; have n0_ := Aside0.mk (below_step (by repeat (first | (with_reducible first | exact HB.out | apply below_alloc | apply pw_below_drewN | apply below_drew1) | exact HB.out)) hb); clear HB; have HB := n0_; clear n0_; (try clear hb); (try clear hb2); (try clear hk); (try clear hi)) | (go_at_call 43; (with_reducible refine (server_subjectIsLiteral.calls a0 t162 _ A4.out).mono ?_); rintro e w6 ⟨rfl, hb⟩; have n0_ := Aside0.mk (below_step (by repeat (first | (with_reducible first | exact HB.out | apply below_alloc | apply pw_below_drewN | apply below_drew1) | exact HB.out)) hb); clear HB; have HB := n0_; clear n0_; (try clear hb); (try clear hb2); (try clear hk); (try clear hi)))
    go_ret
    exact ⟨by first | rfl | (simp [errW_none, errW_some] <;> rfl) | (simp [*, errW_none, errW_some] <;> rfl), by repeat (first | (with_reducible first | exact HB.out | apply below_alloc | apply pw_below_drewN | apply below_drew1) | exact HB.out)⟩
  · replace c3 := Bool.eq_false_iff.mpr c3
    subst c3
    have H1 : (some false) = some r := by rw [if_neg (show ¬ (false = true) by decide)] at H; exact H
    clear H
    have H := H1
    clear H1
    obtain rfl := Option.some.inj H
    go_enter Try.func32, Try.ntmps32
    go_wp2_with (first | ((with_reducible refine gate_callee (f := 42) rfl ?_); refine goesL_ (some 4) rfl rfl Try.func42 (by kernel_rfl) rfl #[.string a0] rfl (by (try simp only [List.map_toArray, List.map_cons, List.map_nil]); first | done | rfl | (simp only [List.length_drop, List.length_take]; rfl)) ?_; (with_reducible refine (server_IsValidSubject.calls k a0 false _ A2.out).mono ?_); rintro e w7 ⟨rfl, hb⟩; refine ⟨_, rfl, ?_⟩; have n0_ := Aside0.mk (below_step (by repeat (first | (with_reducible first | exact HB.out | apply below_alloc | apply pw_below_drewN | apply below_drew1) | exact HB.out)) hb); clear HB; have HB := n0_; clear n0_; (try clear hb); (try clear hb2); (try clear hk); (try clear hi)))
    go_ret
    exact ⟨by first | rfl | (simp [errW_none, errW_some] <;> rfl) | (simp [*, errW_none, errW_some] <;> rfl), by repeat (first | (with_reducible first | exact HB.out | apply below_alloc | apply pw_below_drewN | apply below_drew1) | exact HB.out)⟩

/-! ### impl_Publish: function 16 -/
def impl_Publish.f (k : Nat) (a0 : ByteArray) : Option (Bool) := (server_IsValidPublishSubject.f k a0).bind fun t163 => (some t163)
theorem impl_Publish.mono : ∀ a0 k, LeO (impl_Publish.f k a0) (impl_Publish.f (k + 1) a0) := by
  intro a0 k
  unfold impl_Publish.f
  repeat' first
      | (with_reducible exact server_IsValidPublishSubject.mono _ _)
      | (with_reducible exact LeO.refl _)
      | (with_reducible exact LeO.none _)
      | (with_reducible refine LeO.ite ?_ ?_)
      | (with_reducible refine LeO.bind ?_ (fun _ => ?_))
      | exact server_IsValidPublishSubject.mono _ _
      | exact LeO.none _
      | refine LeO.ite ?_ ?_
      | refine LeO.bind ?_ (fun _ => ?_)
set_option maxHeartbeats 8000000 in
set_option maxRecDepth 100000 in
theorem impl_Publish.calls (k : Nat) (a0 : ByteArray) (r : Bool) (w : World) (h : impl_Publish.f k a0 = some r) :
    Calls Try.prog 16 #[.string a0] w fun e w' => e = .returned (.bool r) ∧ Below w.heap.size w w' := by
  have HB := Aside0.mk (Below.refl w.heap.size w)
  have H : ((server_IsValidPublishSubject.f k a0).bind fun t163 => (some t163)) = some r := h
  clear h
  replace H := Option.bind_eq_some_iff.mp H
  obtain ⟨t163, A20, H⟩ := H
  replace H : (some t163) = some r := H
  have A2 := Aside0.mk A20
  clear A20
  obtain rfl := Option.some.inj H
  go_enter Try.func16, Try.ntmps16
  go_wp2_with (first | ((with_reducible refine gate_callee (f := 32) rfl ?_); refine goesL_ (some 4) rfl rfl Try.func32 (by kernel_rfl) rfl #[.string a0] rfl (by (try simp only [List.map_toArray, List.map_cons, List.map_nil]); first | done | rfl | (simp only [List.length_drop, List.length_take]; rfl)) ?_; (with_reducible refine (server_IsValidPublishSubject.calls k a0 t163 _ A2.out).mono ?_); rintro e w3 ⟨rfl, hb⟩; refine ⟨_, rfl, ?_⟩; have n0_ := Aside0.mk (below_step (by repeat (first | (with_reducible first | exact HB.out | apply below_alloc | apply pw_below_drewN | apply below_drew1) | exact HB.out)) hb); clear HB; have HB := n0_; clear n0_; (try clear hb); (try clear hb2); (try clear hk); (try clear hi)))
  go_ret
  exact ⟨by first | rfl | (simp [errW_none, errW_some] <;> rfl) | (simp [*, errW_none, errW_some] <;> rfl), by repeat (first | (with_reducible first | exact HB.out | apply below_alloc | apply pw_below_drewN | apply below_drew1) | exact HB.out)⟩

/-! ### laws_awakeSubject: function 13 -/
def laws_awakeSubject.f (k : Nat)  : Option (Bool) := (impl_Matches.f k (⟨#[97, 46, 98]⟩ : ByteArray) (⟨#[97, 46, 42]⟩ : ByteArray)).bind fun t164 => (if t164 = true then ((impl_MatchLiteral.f k (⟨#[97, 46, 98]⟩ : ByteArray) (⟨#[97, 46, 62]⟩ : ByteArray)).bind fun t165 => (if t165 = true then ((impl_Publish.f k (⟨#[97, 46, 98]⟩ : ByteArray)).bind fun t166 => (if t166 = true then ((impl_Collide.f k (⟨#[97, 46, 42]⟩ : ByteArray) (⟨#[42, 46, 98]⟩ : ByteArray)).bind fun t167 => (some t167)) else (some false))) else (some false))) else (some false))
theorem laws_awakeSubject.mono : ∀ k, LeO (laws_awakeSubject.f k ) (laws_awakeSubject.f (k + 1) ) := by
  intro  k
  unfold laws_awakeSubject.f
  repeat' first
      | (with_reducible exact impl_Collide.mono _ _ _)
      | (with_reducible exact impl_MatchLiteral.mono _ _ _)
      | (with_reducible exact impl_Matches.mono _ _ _)
      | (with_reducible exact impl_Publish.mono _ _)
      | (with_reducible exact LeO.refl _)
      | (with_reducible exact LeO.none _)
      | (with_reducible refine LeO.ite ?_ ?_)
      | (with_reducible refine LeO.bind ?_ (fun _ => ?_))
      | exact impl_Collide.mono _ _ _
      | exact impl_MatchLiteral.mono _ _ _
      | exact impl_Matches.mono _ _ _
      | exact impl_Publish.mono _ _
      | exact LeO.none _
      | refine LeO.ite ?_ ?_
      | refine LeO.bind ?_ (fun _ => ?_)
set_option maxHeartbeats 8000000 in
set_option maxRecDepth 100000 in
theorem laws_awakeSubject.calls (k : Nat)  (r : Bool) (w : World) (h : laws_awakeSubject.f k  = some r) :
    Calls Try.prog 13 #[] w fun e w' => e = .returned (.bool r) ∧ Below w.heap.size w w' := by
  have HB := Aside0.mk (Below.refl w.heap.size w)
  have H : ((impl_Matches.f k (⟨#[97, 46, 98]⟩ : ByteArray) (⟨#[97, 46, 42]⟩ : ByteArray)).bind fun t164 => (if t164 = true then ((impl_MatchLiteral.f k (⟨#[97, 46, 98]⟩ : ByteArray) (⟨#[97, 46, 62]⟩ : ByteArray)).bind fun t165 => (if t165 = true then ((impl_Publish.f k (⟨#[97, 46, 98]⟩ : ByteArray)).bind fun t166 => (if t166 = true then ((impl_Collide.f k (⟨#[97, 46, 42]⟩ : ByteArray) (⟨#[42, 46, 98]⟩ : ByteArray)).bind fun t167 => (some t167)) else (some false))) else (some false))) else (some false))) = some r := h
  clear h
  replace H := Option.bind_eq_some_iff.mp H
  obtain ⟨t164, A10, H⟩ := H
  replace H : (if t164 = true then ((impl_MatchLiteral.f k (⟨#[97, 46, 98]⟩ : ByteArray) (⟨#[97, 46, 62]⟩ : ByteArray)).bind fun t165 => (if t165 = true then ((impl_Publish.f k (⟨#[97, 46, 98]⟩ : ByteArray)).bind fun t166 => (if t166 = true then ((impl_Collide.f k (⟨#[97, 46, 42]⟩ : ByteArray) (⟨#[42, 46, 98]⟩ : ByteArray)).bind fun t167 => (some t167)) else (some false))) else (some false))) else (some false)) = some r := H
  have A1 := Aside0.mk A10
  clear A10
  by_cases c2 : t164 = true
  · subst c2
    have H1 : ((impl_MatchLiteral.f k (⟨#[97, 46, 98]⟩ : ByteArray) (⟨#[97, 46, 62]⟩ : ByteArray)).bind fun t165 => (if t165 = true then ((impl_Publish.f k (⟨#[97, 46, 98]⟩ : ByteArray)).bind fun t166 => (if t166 = true then ((impl_Collide.f k (⟨#[97, 46, 42]⟩ : ByteArray) (⟨#[42, 46, 98]⟩ : ByteArray)).bind fun t167 => (some t167)) else (some false))) else (some false))) = some r := by rw [if_pos rfl] at H; exact H
    clear H
    have H := H1
    clear H1
    replace H := Option.bind_eq_some_iff.mp H
    obtain ⟨t165, A30, H⟩ := H
    replace H : (if t165 = true then ((impl_Publish.f k (⟨#[97, 46, 98]⟩ : ByteArray)).bind fun t166 => (if t166 = true then ((impl_Collide.f k (⟨#[97, 46, 42]⟩ : ByteArray) (⟨#[42, 46, 98]⟩ : ByteArray)).bind fun t167 => (some t167)) else (some false))) else (some false)) = some r := H
    have A3 := Aside0.mk A30
    clear A30
    by_cases c4 : t165 = true
    · subst c4
      have H1 : ((impl_Publish.f k (⟨#[97, 46, 98]⟩ : ByteArray)).bind fun t166 => (if t166 = true then ((impl_Collide.f k (⟨#[97, 46, 42]⟩ : ByteArray) (⟨#[42, 46, 98]⟩ : ByteArray)).bind fun t167 => (some t167)) else (some false))) = some r := by rw [if_pos rfl] at H; exact H
      clear H
      have H := H1
      clear H1
      replace H := Option.bind_eq_some_iff.mp H
      obtain ⟨t166, A50, H⟩ := H
      replace H : (if t166 = true then ((impl_Collide.f k (⟨#[97, 46, 42]⟩ : ByteArray) (⟨#[42, 46, 98]⟩ : ByteArray)).bind fun t167 => (some t167)) else (some false)) = some r := H
      have A5 := Aside0.mk A50
      clear A50
      by_cases c6 : t166 = true
      · subst c6
        have H1 : ((impl_Collide.f k (⟨#[97, 46, 42]⟩ : ByteArray) (⟨#[42, 46, 98]⟩ : ByteArray)).bind fun t167 => (some t167)) = some r := by rw [if_pos rfl] at H; exact H
        clear H
        have H := H1
        clear H1
        replace H := Option.bind_eq_some_iff.mp H
        obtain ⟨t167, A70, H⟩ := H
        replace H : (some t167) = some r := H
        have A7 := Aside0.mk A70
        clear A70
        obtain rfl := Option.some.inj H
        go_enter Try.func13, Try.ntmps13
        go_wp2_with (first | ((with_reducible refine gate_callee (f := 8) rfl ?_); refine goesL_ (some 1) rfl rfl Try.func8 (by kernel_rfl) rfl #[.string (⟨#[97, 46, 98]⟩ : ByteArray), .string (⟨#[97, 46, 42]⟩ : ByteArray)] rfl (by (try simp only [List.map_toArray, List.map_cons, List.map_nil]); first | done | rfl | (simp only [List.length_drop, List.length_take]; rfl)) ?_; (with_reducible refine (impl_Matches.calls k (⟨#[97, 46, 98]⟩ : ByteArray) (⟨#[97, 46, 42]⟩ : ByteArray) true _ A1.out).mono ?_); rintro e w8 ⟨rfl, hb⟩; refine ⟨_, rfl, ?_⟩; have n0_ := Aside0.mk (below_step (by repeat (first | (with_reducible first | exact HB.out | apply below_alloc | apply pw_below_drewN | apply below_drew1) | exact HB.out)) hb); clear HB; have HB := n0_; clear n0_; (try clear hb); (try clear hb2); (try clear hk); (try clear hi)) | (go_at_call 11; (with_reducible refine (impl_MatchLiteral.calls k (⟨#[97, 46, 98]⟩ : ByteArray) (⟨#[97, 46, 62]⟩ : ByteArray) true _ A3.out).mono ?_); rintro e w' ⟨rfl, ⟨nd, rfl⟩⟩) | (go_at_call 16; (with_reducible refine (impl_Publish.calls k (⟨#[97, 46, 98]⟩ : ByteArray) true _ A5.out).mono ?_); rintro e w9 ⟨rfl, hb⟩; have n0_ := Aside0.mk (below_step (by repeat (first | (with_reducible first | exact HB.out | apply below_alloc | apply pw_below_drewN | apply below_drew1) | exact HB.out)) hb); clear HB; have HB := n0_; clear n0_; (try clear hb); (try clear hb2); (try clear hk); (try clear hi)) | (go_at_call 14; (with_reducible refine (impl_Collide.calls k (⟨#[97, 46, 42]⟩ : ByteArray) (⟨#[42, 46, 98]⟩ : ByteArray) t167 _ A7.out).mono ?_); rintro e w10 ⟨rfl, hb⟩; have n0_ := Aside0.mk (below_step (by repeat (first | (with_reducible first | exact HB.out | apply below_alloc | apply pw_below_drewN | apply below_drew1) | exact HB.out)) hb); clear HB; have HB := n0_; clear n0_; (try clear hb); (try clear hb2); (try clear hk); (try clear hi)))
        go_ret
        exact ⟨by first | rfl | (simp [errW_none, errW_some] <;> rfl) | (simp [*, errW_none, errW_some] <;> rfl), by repeat (first | (with_reducible first | exact HB.out | apply below_alloc | apply pw_below_drewN | apply below_drew1) | exact HB.out)⟩
      · replace c6 := Bool.eq_false_iff.mpr c6
        subst c6
        have H1 : (some false) = some r := by rw [if_neg (show ¬ (false = true) by decide)] at H; exact H
        clear H
        have H := H1
        clear H1
        obtain rfl := Option.some.inj H
        go_enter Try.func13, Try.ntmps13
        go_wp2_with (first | ((with_reducible refine gate_callee (f := 8) rfl ?_); refine goesL_ (some 1) rfl rfl Try.func8 (by kernel_rfl) rfl #[.string (⟨#[97, 46, 98]⟩ : ByteArray), .string (⟨#[97, 46, 42]⟩ : ByteArray)] rfl (by (try simp only [List.map_toArray, List.map_cons, List.map_nil]); first | done | rfl | (simp only [List.length_drop, List.length_take]; rfl)) ?_; (with_reducible refine (impl_Matches.calls k (⟨#[97, 46, 98]⟩ : ByteArray) (⟨#[97, 46, 42]⟩ : ByteArray) true _ A1.out).mono ?_); rintro e w11 ⟨rfl, hb⟩; refine ⟨_, rfl, ?_⟩; have n0_ := Aside0.mk (below_step (by repeat (first | (with_reducible first | exact HB.out | apply below_alloc | apply pw_below_drewN | apply below_drew1) | exact HB.out)) hb); clear HB; have HB := n0_; clear n0_; (try clear hb); (try clear hb2); (try clear hk); (try clear hi)) | (go_at_call 11; (with_reducible refine (impl_MatchLiteral.calls k (⟨#[97, 46, 98]⟩ : ByteArray) (⟨#[97, 46, 62]⟩ : ByteArray) true _ A3.out).mono ?_); rintro e w' ⟨rfl, ⟨nd, rfl⟩⟩) | (go_at_call 16; (with_reducible refine (impl_Publish.calls k (⟨#[97, 46, 98]⟩ : ByteArray) false _ A5.out).mono ?_); rintro e w12 ⟨rfl, hb⟩; have n0_ := Aside0.mk (below_step (by repeat (first | (with_reducible first | exact HB.out | apply below_alloc | apply pw_below_drewN | apply below_drew1) | exact HB.out)) hb); clear HB; have HB := n0_; clear n0_; (try clear hb); (try clear hb2); (try clear hk); (try clear hi)))
        go_ret
        exact ⟨by first | rfl | (simp [errW_none, errW_some] <;> rfl) | (simp [*, errW_none, errW_some] <;> rfl), by repeat (first | (with_reducible first | exact HB.out | apply below_alloc | apply pw_below_drewN | apply below_drew1) | exact HB.out)⟩
    · replace c4 := Bool.eq_false_iff.mpr c4
      subst c4
      have H1 : (some false) = some r := by rw [if_neg (show ¬ (false = true) by decide)] at H; exact H
      clear H
      have H := H1
      clear H1
      obtain rfl := Option.some.inj H
      go_enter Try.func13, Try.ntmps13
      go_wp2_with (first | ((with_reducible refine gate_callee (f := 8) rfl ?_); refine goesL_ (some 1) rfl rfl Try.func8 (by kernel_rfl) rfl #[.string (⟨#[97, 46, 98]⟩ : ByteArray), .string (⟨#[97, 46, 42]⟩ : ByteArray)] rfl (by (try simp only [List.map_toArray, List.map_cons, List.map_nil]); first | done | rfl | (simp only [List.length_drop, List.length_take]; rfl)) ?_; (with_reducible refine (impl_Matches.calls k (⟨#[97, 46, 98]⟩ : ByteArray) (⟨#[97, 46, 42]⟩ : ByteArray) true _ A1.out).mono ?_); rintro e w13 ⟨rfl, hb⟩; refine ⟨_, rfl, ?_⟩; have n0_ := Aside0.mk (below_step (by repeat (first | (with_reducible first | exact HB.out | apply below_alloc | apply pw_below_drewN | apply below_drew1) | exact HB.out)) hb); clear HB; have HB := n0_; clear n0_; (try clear hb); (try clear hb2); (try clear hk); (try clear hi)) | (go_at_call 11; (with_reducible refine (impl_MatchLiteral.calls k (⟨#[97, 46, 98]⟩ : ByteArray) (⟨#[97, 46, 62]⟩ : ByteArray) false _ A3.out).mono ?_); rintro e w' ⟨rfl, ⟨nd, rfl⟩⟩))
      go_ret
      exact ⟨by first | rfl | (simp [errW_none, errW_some] <;> rfl) | (simp [*, errW_none, errW_some] <;> rfl), by repeat (first | (with_reducible first | exact HB.out | apply below_alloc | apply pw_below_drewN | apply below_drew1) | exact HB.out)⟩
  · replace c2 := Bool.eq_false_iff.mpr c2
    subst c2
    have H1 : (some false) = some r := by rw [if_neg (show ¬ (false = true) by decide)] at H; exact H
    clear H
    have H := H1
    clear H1
    obtain rfl := Option.some.inj H
    go_enter Try.func13, Try.ntmps13
    go_wp2_with (first | ((with_reducible refine gate_callee (f := 8) rfl ?_); refine goesL_ (some 1) rfl rfl Try.func8 (by kernel_rfl) rfl #[.string (⟨#[97, 46, 98]⟩ : ByteArray), .string (⟨#[97, 46, 42]⟩ : ByteArray)] rfl (by (try simp only [List.map_toArray, List.map_cons, List.map_nil]); first | done | rfl | (simp only [List.length_drop, List.length_take]; rfl)) ?_; (with_reducible refine (impl_Matches.calls k (⟨#[97, 46, 98]⟩ : ByteArray) (⟨#[97, 46, 42]⟩ : ByteArray) false _ A1.out).mono ?_); rintro e w14 ⟨rfl, hb⟩; refine ⟨_, rfl, ?_⟩; have n0_ := Aside0.mk (below_step (by repeat (first | (with_reducible first | exact HB.out | apply below_alloc | apply pw_below_drewN | apply below_drew1) | exact HB.out)) hb); clear HB; have HB := n0_; clear n0_; (try clear hb); (try clear hb2); (try clear hk); (try clear hi)))
    go_ret
    exact ⟨by first | rfl | (simp [errW_none, errW_some] <;> rfl) | (simp [*, errW_none, errW_some] <;> rfl), by repeat (first | (with_reducible first | exact HB.out | apply below_alloc | apply pw_below_drewN | apply below_drew1) | exact HB.out)⟩

/-! ### spec_Join: function 31 -/
def spec_Join.l0 : Nat → List ByteArray → ByteArray → Int → Option (ByteArray)
  | 0, _, _, _ => none
  | k + 1, x0, x3, x4 => if x4 < (x0.length : Int) then (if x4 > 0 then (if x3.size + 1 ≤ 9223372036854775807 then (if 0 ≤ x4 then (if (x3 ++ (⟨#[46]⟩ : ByteArray)).size + (rdOf ByteArray.empty x0 x4).size ≤ 9223372036854775807 then (spec_Join.l0 k x0 ((x3 ++ (⟨#[46]⟩ : ByteArray)) ++ (rdOf ByteArray.empty x0 x4)) (wrap64 (x4 + 1))) else (none)) else (none)) else (none)) else (if 0 ≤ x4 then (if x3.size + (rdOf ByteArray.empty x0 x4).size ≤ 9223372036854775807 then (spec_Join.l0 k x0 (x3 ++ (rdOf ByteArray.empty x0 x4)) (wrap64 (x4 + 1))) else (none)) else (none))) else (some x3)
def spec_Join.f (k : Nat) (l0 : List ByteArray) : Option (ByteArray) := spec_Join.l0 k l0 (⟨#[]⟩ : ByteArray) 0
theorem spec_Join.mono_l : ∀ k, (∀ y0 y1 y2, LeO (spec_Join.l0 k y0 y1 y2) (spec_Join.l0 (k + 1) y0 y1 y2))
  | 0 => fun _ _ _ r h => by simp [spec_Join.l0] at h
  | k + 1 => by
    have ih0 := spec_Join.mono_l k
    · intro y0 y1 y2
      unfold spec_Join.l0
      repeat' first
      | (with_reducible exact ih0 _ _ _)
      | (with_reducible exact LeO.refl _)
      | (with_reducible exact LeO.none _)
      | (with_reducible refine LeO.ite ?_ ?_)
      | (with_reducible refine LeO.bind ?_ (fun _ => ?_))
      | exact ih0 _ _ _
      | exact LeO.none _
      | refine LeO.ite ?_ ?_
      | refine LeO.bind ?_ (fun _ => ?_)
theorem spec_Join.mono : ∀ a0 k, LeO (spec_Join.f k a0) (spec_Join.f (k + 1) a0) := by
  intro a0 k
  have ih0 := spec_Join.mono_l k
  unfold spec_Join.f
  repeat' first
      | (with_reducible exact ih0 _ _ _)
      | (with_reducible exact LeO.refl _)
      | (with_reducible exact LeO.none _)
      | (with_reducible refine LeO.ite ?_ ?_)
      | (with_reducible refine LeO.bind ?_ (fun _ => ?_))
      | exact ih0 _ _ _
      | exact LeO.none _
      | refine LeO.ite ?_ ?_
      | refine LeO.bind ?_ (fun _ => ?_)
set_option maxHeartbeats 8000000 in
set_option maxRecDepth 100000 in
theorem spec_Join.calls (k : Nat) (A0 : Option Addr) (c0 : Nat) (l0 : List ByteArray) (r : ByteArray) (w : World) (hr0 : Kd.C Kd.string w A0 l0.length l0) (hc0 : l0.length ≤ c0) (h : spec_Join.f k l0 = some r) :
    Calls Try.prog 31 #[.slice A0 l0.length c0] w fun e w' => e = .returned (.string r) ∧ Drawn0 w w' := by
  have HR0 := Aside0.mk hr0
  have HC0 := Aside0.mk hc0
  clear hr0 hc0
  have H : (spec_Join.l0 k l0 (⟨#[]⟩ : ByteArray) 0) = some r := h
  clear h
  have H' := Aside0.mk H
  clear H
  go_enter Try.func31, Try.ntmps31
  go_wp2
  go_loopg [3, 4] k (fun kq v3 v4 w' => ∃ (x3_1 : ByteArray) (x4_1 : Int), v3 = .string x3_1 ∧ v4 = .int .i64 x4_1 ∧ Aside0 (spec_Join.l0 kq l0 x3_1 x4_1 = some r) ∧ Aside0 (kq ≤ k) ∧ Drawn0 w w')
  case atStart => exact ⟨((⟨#[]⟩ : ByteArray)), (0), (by first | rfl | (simp; done) | (simp [*]; done)), (by first | rfl | (simp; done) | (simp [*]; done)), H', ⟨Nat.le_refl _⟩, by repeat (first | exact Drawn0.refl _ | apply Drawn0.step)⟩
  case round =>
    clear H'
    obtain ⟨x3_1, x4_1, rfl, rfl, HA, HK1, ⟨m1, rfl⟩⟩ := hrel
    cases gk with
    | zero => exact absurd HA.out (by simp [spec_Join.l0])
    | succ k1 =>
      have H := HA.out
      clear HA
      simp only [spec_Join.l0] at H
      by_cases c2 : x4_1 < (l0.length : Int)
      · rw [if_pos c2] at H
        have c2b0 : decide (x4_1 < (l0.length : Int)) = true := decide_eq_true c2
        clear c2
        by_cases c3 : x4_1 > 0
        · rw [if_pos c3] at H
          have c3b0 : decide (0 < x4_1) = true := decide_eq_true c3
          clear c3
          by_cases c4 : x3_1.size + 1 ≤ 9223372036854775807
          · rw [if_pos c4] at H
            have c4b0 := eq_true c4
            have c4b1 : decide (x3_1.size + 1 ≤ 9223372036854775807) = true := decide_eq_true c4
            try have c4b2 : (9223372036854775807 < x3_1.size + 1) = False := eq_false (Nat.not_lt.2 c4)
            by_cases c5 : 0 ≤ x4_1
            · rw [if_pos c5] at H
              have c5b0 : decide (0 ≤ x4_1) = true := decide_eq_true c5
              clear c5
              by_cases c6 : (x3_1 ++ (⟨#[46]⟩ : ByteArray)).size + (rdOf ByteArray.empty l0 x4_1).size ≤ 9223372036854775807
              · rw [if_pos c6] at H
                have c6b0 := eq_true c6
                have c6b1 : decide ((x3_1 ++ (⟨#[46]⟩ : ByteArray)).size + (rdOf ByteArray.empty l0 x4_1).size ≤ 9223372036854775807) = true := decide_eq_true c6
                try have c6b2 : (9223372036854775807 < (x3_1 ++ (⟨#[46]⟩ : ByteArray)).size + (rdOf ByteArray.empty l0 x4_1).size) = False := eq_false (Nat.not_lt.2 c6)
                have H' := Aside0.mk H
                clear H
                have p168 : 0 ≤ (x4_1 : Int) := of_decide_eq_true (by first | (with_reducible assumption) | assumption)
                have q168 : x4_1 < (l0.length : Int) := of_decide_eq_true (by first | (with_reducible assumption) | assumption)
                obtain ⟨ad168, e168, hx168_0⟩ := Kd.at_string HR0.out x4_1 p168 q168
                cases e168
                replace p168 := eq_true p168
                replace q168 := eq_true q168
                go_wp2
                go_roundg k1
                case measure => have := HK1.out; omega
                case rel => exact ⟨((x3_1 ++ (⟨#[46]⟩ : ByteArray)) ++ (rdOf ByteArray.empty l0 x4_1)), (wrap64 (x4_1 + 1)), (by first | rfl | (simp; done) | (simp [*]; done)), (by first | rfl | (simp; done) | (simp [*]; done)), H', ⟨by have := HK1.out; omega⟩, by repeat (first | exact Drawn0.refl _ | apply Drawn0.step)⟩
              · rw [if_neg c6] at H
                exact absurd H (by simp)
            · rw [if_neg c5] at H
              exact absurd H (by simp)
          · rw [if_neg c4] at H
            exact absurd H (by simp)
        · rw [if_neg c3] at H
          have c3b0 : decide (0 < x4_1) = false := decide_eq_false c3
          clear c3
          by_cases c7 : 0 ≤ x4_1
          · rw [if_pos c7] at H
            have c7b0 : decide (0 ≤ x4_1) = true := decide_eq_true c7
            clear c7
            by_cases c8 : x3_1.size + (rdOf ByteArray.empty l0 x4_1).size ≤ 9223372036854775807
            · rw [if_pos c8] at H
              have c8b0 := eq_true c8
              have c8b1 : decide (x3_1.size + (rdOf ByteArray.empty l0 x4_1).size ≤ 9223372036854775807) = true := decide_eq_true c8
              try have c8b2 : (9223372036854775807 < x3_1.size + (rdOf ByteArray.empty l0 x4_1).size) = False := eq_false (Nat.not_lt.2 c8)
              have H' := Aside0.mk H
              clear H
              have p169 : 0 ≤ (x4_1 : Int) := of_decide_eq_true (by first | (with_reducible assumption) | assumption)
              have q169 : x4_1 < (l0.length : Int) := of_decide_eq_true (by first | (with_reducible assumption) | assumption)
              obtain ⟨ad169, e169, hx169_0⟩ := Kd.at_string HR0.out x4_1 p169 q169
              cases e169
              replace p169 := eq_true p169
              replace q169 := eq_true q169
              go_wp2
              go_roundg k1
              case measure => have := HK1.out; omega
              case rel => exact ⟨(x3_1 ++ (rdOf ByteArray.empty l0 x4_1)), (wrap64 (x4_1 + 1)), (by first | rfl | (simp; done) | (simp [*]; done)), (by first | rfl | (simp; done) | (simp [*]; done)), H', ⟨by have := HK1.out; omega⟩, by repeat (first | exact Drawn0.refl _ | apply Drawn0.step)⟩
            · rw [if_neg c8] at H
              exact absurd H (by simp)
          · rw [if_neg c7] at H
            exact absurd H (by simp)
      · rw [if_neg c2] at H
        have c2b0 : decide (x4_1 < (l0.length : Int)) = false := decide_eq_false c2
        clear c2
        obtain rfl := Option.some.inj H
        go_wp2
        go_ret
        exact ⟨by first | rfl | (simp; done) | (simp [*]; done), by repeat (first | exact Drawn0.refl _ | apply Drawn0.step)⟩

end Go.Proofs.Ytgbdjinanflhaaa.GFnCollideMeans
