/- A walk of Go functions (plain functions of theirs, and that the machine's calls do what these say), written by a program of this session's. -/
import Derived.Test.YtgbdjinanflhaaaGFnSubsetMeansx0
import Derived.Test.YtgbdjinanflhaaaGFnSubsetMeansx1
import Derived.Test.YtgbdjinanflhaaaGFnSubsetMeansx4
import Derived.Test.YtgbdjinanflhaaaGFnSubsetMeansx6
import Derived.Test.YtgbdjinanflhaaaGFnSubsetMeansx8
namespace Go.Proofs.Ytgbdjinanflhaaa.GFnSubsetMeans
open Go.RowKit Go.Proofs.YtgbdjinanflhaaaW.PrintWords Go.Proofs.YtgbdjinanflhaaaW.PrintLast Go.Proofs.YtgbdjinanflhaaaW.PrintMore
attribute [local go_sem] max2_int min2_int max_two min_two max_three min_three max_four min_four   -- for this text's walks alone
set_option linter.unusedVariables false
set_option linter.unusedSimpArgs false

/-! ### server_subjectIsLiteral: function 43 (by hand) -/
/-- A wildcard that is a token of its own stands at i. -/
def server_subjectIsLiteral.wildAt (s : ByteArray) (i : Nat) : Bool :=
  (decide (bt s (i : Int) = 42) || decide (bt s (i : Int) = 62)) && (decide (i = 0) || decide (bt s ((i : Int) - 1) = 46)) && (decide (i + 1 = s.size) || decide (bt s ((i : Int) + 1) = 46))
def server_subjectIsLiteral.f (a0 : ByteArray) : Option Bool := if a0.size ≤ 140737488351232 then some ((List.range a0.size).all fun i => !server_subjectIsLiteral.wildAt a0 i) else none
theorem server_subjectIsLiteral.wild_t (s : ByteArray) (pos : Nat) (hb : bt s (pos : Int) = 42 ∨ bt s (pos : Int) = 62) (h1 : pos = 0 ∨ ∃ h : pos - 1 < s.size, 0 < pos ∧ ((s[pos - 1]'h).toNat : Int) = 46) (h2 : pos + 1 = s.size ∨ ∃ h : pos + 1 < s.size, ((s[pos + 1]'h).toNat : Int) = 46) : server_subjectIsLiteral.wildAt s pos = true := by
  unfold server_subjectIsLiteral.wildAt
  simp only [Bool.and_eq_true, Bool.or_eq_true, decide_eq_true_eq]
  refine ⟨⟨hb, ?_⟩, ?_⟩
  · rcases h1 with h | ⟨h, h0, h3⟩
    · exact .inl h
    · refine .inr ?_
      have e : ((pos : Int) - 1) = ((pos - 1 : Nat) : Int) := by omega
      rw [e, Wk.bt_at s _ h]; exact h3
  · rcases h2 with h | ⟨h, h3⟩
    · exact .inl h
    · refine .inr ?_
      have e : ((pos : Int) + 1) = ((pos + 1 : Nat) : Int) := by omega
      rw [e, Wk.bt_at s _ h]; exact h3
theorem server_subjectIsLiteral.wild_f1 (s : ByteArray) (pos : Nat) (h0 : 0 < pos) (h : pos - 1 < s.size) (h3 : ¬ ((s[pos - 1]'h).toNat : Int) = 46) : server_subjectIsLiteral.wildAt s pos = false := by
  unfold server_subjectIsLiteral.wildAt
  have e : ((pos : Int) - 1) = ((pos - 1 : Nat) : Int) := by omega
  rw [e, Wk.bt_at s _ h, decide_eq_false h3, decide_eq_false (show ¬ pos = 0 by omega)]
  simp
theorem server_subjectIsLiteral.wild_f2 (s : ByteArray) (pos : Nat) (h : pos + 1 < s.size) (h3 : ¬ ((s[pos + 1]'h).toNat : Int) = 46) : server_subjectIsLiteral.wildAt s pos = false := by
  unfold server_subjectIsLiteral.wildAt
  have e : ((pos : Int) + 1) = ((pos + 1 : Nat) : Int) := by omega
  rw [e, Wk.bt_at s _ h, decide_eq_false h3, decide_eq_false (show ¬ pos + 1 = s.size by omega)]
  simp
theorem server_subjectIsLiteral.ret (s : ByteArray) (pos : Nat) (h : pos < s.size) (hw : server_subjectIsLiteral.wildAt s pos = true) {r : Bool} (hr : ((List.range s.size).all fun i => !server_subjectIsLiteral.wildAt s i) = r) : r = false := by
  rw [← hr, List.all_eq_false]
  exact ⟨pos, List.mem_range.mpr h, by rw [hw]; simp⟩
theorem server_subjectIsLiteral.nxt (s : ByteArray) (pos n : Nat) (hn : n = 1) (hW : ∀ j, j < pos → server_subjectIsLiteral.wildAt s j = false) (hw : server_subjectIsLiteral.wildAt s pos = false) : ∀ j, j < pos + n → server_subjectIsLiteral.wildAt s j = false := by
  intro j hj
  rcases Nat.lt_or_ge j pos with h | h
  · exact hW j h
  · obtain rfl : j = pos := by omega
    exact hw
set_option maxHeartbeats 8000000 in
set_option maxRecDepth 100000 in
theorem server_subjectIsLiteral.calls (a0 : ByteArray) (r : Bool) (w : World) (h : server_subjectIsLiteral.f a0 = some r) :
    Calls Try.prog 43 #[.string a0] w fun e w' => e = .returned (.bool r) ∧ Below w.heap.size w w' := by
  unfold server_subjectIsLiteral.f at h
  have hsz : a0.size ≤ 140737488351232 := by
    apply Classical.byContradiction
    intro hn; rw [if_neg hn] at h; cases h
  rw [if_pos hsz] at h
  have HR := Aside0.mk (Option.some.inj h)
  clear h
  have HS := Aside0.mk hsz
  clear hsz
  have hbelow : ∀ p, Below w.heap.size w (w.iter a0 p) := fun p => below_alloc (Below.refl _ _) _
  have HBL := Aside0.mk hbelow
  clear hbelow
  go_enter Try.func43, Try.ntmps43
  go_wp2
  go_loopw [] (fun w' => ∃ pos : Nat, w' = w.iter a0 pos ∧ Aside0 (∀ j, j < pos → server_subjectIsLiteral.wildAt a0 j = false)) (fun w' => a0.size - w'.iterPos w.heap.size)
  case atStart => exact ⟨0, rfl, ⟨fun j h => absurd h (Nat.not_lt_zero _)⟩⟩
  case round =>
    obtain ⟨pos, rfl, HW⟩ := hrel
    by_cases hp : pos < a0.size
    · obtain ⟨c, n, hd, hn, hc, hcase⟩ := Wk.decode_step a0 pos hp
      have hnx : ∀ ty, (Instr.next (.pointer (some ⟨w.heap.size, 0, none⟩)) true ty).run Try.prog (w.iter a0 pos) = .ok (.tuple #[.bool true, .int .i64 pos, .int .i32 c]) (w.iter a0 (pos + n)) := fun ty => by have h := run_next_any (P := Try.prog) w a0 pos ty hp; rw [hd] at h; exact h
      clear hd
      have hs := HS.out
      rcases (show c = 42 ∨ c = 62 ∨ (c ≠ 42 ∧ c ≠ 62) by omega) with rfl | rfl | ⟨hc1, hc2⟩
      · have hbt : bt a0 (pos : Int) = 42 ∨ bt a0 (pos : Int) = 62 := by
          rcases hcase with h | h
          · exact .inl h.2.2
          · exfalso; omega
        have hn1 : n = 1 := by
          rcases hcase with h | h
          · exact h.2.1
          · exfalso; omega
        clear hcase
        go_wp2
        · rename_i g0 g1
          go_ret
          obtain rfl := server_subjectIsLiteral.ret a0 pos hp (server_subjectIsLiteral.wild_t a0 pos hbt (.inl g0) (.inl (by omega))) HR.out
          exact ⟨rfl, HBL.out _⟩
        · rename_i g0 g1 g2 g3
          go_ret
          obtain rfl := server_subjectIsLiteral.ret a0 pos hp (server_subjectIsLiteral.wild_t a0 pos hbt (.inl g0) (.inr (by
            subst g0
            refine ⟨by omega, ?_⟩
            rcases g3 with g | g
            · exact absurd (of_decide_eq_true g) g1
            · exact of_decide_eq_true g))) HR.out
          exact ⟨rfl, HBL.out _⟩
        · rename_i g0 g1 g2 g3
          refine ⟨⟨pos + n, by subst g0; simp [hn1], ⟨server_subjectIsLiteral.nxt a0 pos n hn1 HW.out (server_subjectIsLiteral.wild_f2 a0 pos (by omega) (by subst g0; exact of_decide_eq_false g3.2))⟩⟩, by subst g0; simp; omega⟩
        · rename_i g0 g1 g2 g3
          go_ret
          obtain rfl := server_subjectIsLiteral.ret a0 pos hp (server_subjectIsLiteral.wild_t a0 pos hbt (.inr ⟨by omega, by omega, g2⟩) (.inl (by omega))) HR.out
          exact ⟨rfl, HBL.out _⟩
        · rename_i g0 g1 g2 g3 g4 g5
          go_ret
          obtain rfl := server_subjectIsLiteral.ret a0 pos hp (server_subjectIsLiteral.wild_t a0 pos hbt (.inr ⟨by omega, by omega, g2⟩) (.inr (by
            refine ⟨by omega, ?_⟩
            rcases g5 with g | g
            · exact absurd (of_decide_eq_true g) g3
            · exact of_decide_eq_true g))) HR.out
          exact ⟨rfl, HBL.out _⟩
        · rename_i g0 g1 g2 g3 g4 g5
          refine ⟨⟨pos + n, by rw [hn1], ⟨server_subjectIsLiteral.nxt a0 pos n hn1 HW.out (server_subjectIsLiteral.wild_f2 a0 pos (by omega) (of_decide_eq_false g5.2))⟩⟩, by simp; omega⟩
        · rename_i g0 g1 g2
          refine ⟨⟨pos + n, by rw [hn1], ⟨server_subjectIsLiteral.nxt a0 pos n hn1 HW.out (server_subjectIsLiteral.wild_f1 a0 pos (by omega) (by omega) g2)⟩⟩, by simp; omega⟩
      · have hbt : bt a0 (pos : Int) = 42 ∨ bt a0 (pos : Int) = 62 := by
          rcases hcase with h | h
          · exact .inr h.2.2
          · exfalso; omega
        have hn1 : n = 1 := by
          rcases hcase with h | h
          · exact h.2.1
          · exfalso; omega
        clear hcase
        go_wp2
        · rename_i g0 g1
          go_ret
          obtain rfl := server_subjectIsLiteral.ret a0 pos hp (server_subjectIsLiteral.wild_t a0 pos hbt (.inl g0) (.inl (by omega))) HR.out
          exact ⟨rfl, HBL.out _⟩
        · rename_i g0 g1 g2 g3
          go_ret
          obtain rfl := server_subjectIsLiteral.ret a0 pos hp (server_subjectIsLiteral.wild_t a0 pos hbt (.inl g0) (.inr (by
            subst g0
            refine ⟨by omega, ?_⟩
            rcases g3 with g | g
            · exact absurd (of_decide_eq_true g) g1
            · exact of_decide_eq_true g))) HR.out
          exact ⟨rfl, HBL.out _⟩
        · rename_i g0 g1 g2 g3
          refine ⟨⟨pos + n, by subst g0; simp [hn1], ⟨server_subjectIsLiteral.nxt a0 pos n hn1 HW.out (server_subjectIsLiteral.wild_f2 a0 pos (by omega) (by subst g0; exact of_decide_eq_false g3.2))⟩⟩, by subst g0; simp; omega⟩
        · rename_i g0 g1 g2 g3
          go_ret
          obtain rfl := server_subjectIsLiteral.ret a0 pos hp (server_subjectIsLiteral.wild_t a0 pos hbt (.inr ⟨by omega, by omega, g2⟩) (.inl (by omega))) HR.out
          exact ⟨rfl, HBL.out _⟩
        · rename_i g0 g1 g2 g3 g4 g5
          go_ret
          obtain rfl := server_subjectIsLiteral.ret a0 pos hp (server_subjectIsLiteral.wild_t a0 pos hbt (.inr ⟨by omega, by omega, g2⟩) (.inr (by
            refine ⟨by omega, ?_⟩
            rcases g5 with g | g
            · exact absurd (of_decide_eq_true g) g3
            · exact of_decide_eq_true g))) HR.out
          exact ⟨rfl, HBL.out _⟩
        · rename_i g0 g1 g2 g3 g4 g5
          refine ⟨⟨pos + n, by rw [hn1], ⟨server_subjectIsLiteral.nxt a0 pos n hn1 HW.out (server_subjectIsLiteral.wild_f2 a0 pos (by omega) (of_decide_eq_false g5.2))⟩⟩, by simp; omega⟩
        · rename_i g0 g1 g2
          refine ⟨⟨pos + n, by rw [hn1], ⟨server_subjectIsLiteral.nxt a0 pos n hn1 HW.out (server_subjectIsLiteral.wild_f1 a0 pos (by omega) (by omega) g2)⟩⟩, by simp; omega⟩
      · have e1 : ((c : Int) = 42) = False := eq_false (by omega)
        have e2 : ((c : Int) = 62) = False := eq_false (by omega)
        have e3 : ((c : Int) == 42) = false := beq_eq_false_iff_ne.mpr (by omega)
        have e4 : ((c : Int) == 62) = false := beq_eq_false_iff_ne.mpr (by omega)
        go_wp2
        go_roundw
        case rel =>
          refine ⟨pos + n, rfl, ⟨fun j hj => ?_⟩⟩
          by_cases hjp : j < pos
          · exact HW.out j hjp
          · have hb : bt a0 (j : Int) ≠ 42 ∧ bt a0 (j : Int) ≠ 62 := by
              rcases hcase with ⟨h1, h2, h3⟩ | ⟨h1, h2⟩
              · have : j = pos := by omega
                subst this
                rw [h3]; omega
              · have := h2 j (by omega) hj
                omega
            simp [server_subjectIsLiteral.wildAt, hb.1, hb.2]
        case measure =>
          simp
          omega
    · have hnx : ∀ ty, (Instr.next (.pointer (some ⟨w.heap.size, 0, none⟩)) true ty).run Try.prog (w.iter a0 pos) = _ := fun ty => run_next_end w a0 pos ty hp
      go_wp2
      go_ret
      have hr := HR.out
      rw [show ((List.range a0.size).all fun i => !server_subjectIsLiteral.wildAt a0 i) = true from by
        rw [List.all_eq_true]; intro i hi; rw [List.mem_range] at hi; rw [HW.out i (by omega)]; rfl] at hr
      subst hr
      exact ⟨rfl, HBL.out _⟩

/-! ### server_IsValidPublishSubject: function 32 -/
def server_IsValidPublishSubject.f (k : Nat) (a0 : ByteArray) : Option (Bool) := (server_IsValidSubject.f k a0).bind fun t154 => (if t154 = true then ((server_subjectIsLiteral.f a0).bind fun t155 => (some t155)) else (some false))
theorem server_IsValidPublishSubject.mono : ∀ a0 k, LeO (server_IsValidPublishSubject.f k a0) (server_IsValidPublishSubject.f (k + 1) a0) := by
  intro a0 k
  unfold server_IsValidPublishSubject.f
  repeat' first
      | (with_reducible exact server_IsValidSubject.mono _ _)
      | (with_reducible exact LeO.refl _)
      | (with_reducible exact LeO.none _)
      | (with_reducible refine LeO.ite ?_ ?_)
      | (with_reducible refine LeO.bind ?_ (fun _ => ?_))
      | exact server_IsValidSubject.mono _ _
      | exact LeO.none _
      | refine LeO.ite ?_ ?_
      | refine LeO.bind ?_ (fun _ => ?_)
set_option maxHeartbeats 8000000 in
set_option maxRecDepth 100000 in
theorem server_IsValidPublishSubject.calls (k : Nat) (a0 : ByteArray) (r : Bool) (w : World) (h : server_IsValidPublishSubject.f k a0 = some r) :
    Calls Try.prog 32 #[.string a0] w fun e w' => e = .returned (.bool r) ∧ Below w.heap.size w w' := by
  have HB := Aside0.mk (Below.refl w.heap.size w)
  have H : ((server_IsValidSubject.f k a0).bind fun t154 => (if t154 = true then ((server_subjectIsLiteral.f a0).bind fun t155 => (some t155)) else (some false))) = some r := h
  clear h
  replace H := Option.bind_eq_some_iff.mp H
  obtain ⟨t154, A20, H⟩ := H
  replace H : (if t154 = true then ((server_subjectIsLiteral.f a0).bind fun t155 => (some t155)) else (some false)) = some r := H
  have A2 := Aside0.mk A20
  clear A20
  by_cases c3 : t154 = true
  · subst c3
    have H1 : ((server_subjectIsLiteral.f a0).bind fun t155 => (some t155)) = some r := by rw [if_pos rfl] at H; exact H
    clear H
    have H := H1
    clear H1
    replace H := Option.bind_eq_some_iff.mp H
    obtain ⟨t155, A40, H⟩ := H
    replace H : (some t155) = some r := H
    have A4 := Aside0.mk A40
    clear A40
    obtain rfl := Option.some.inj H
    go_enter Try.func32, Try.ntmps32
    go_wp2_with (first | ((with_reducible refine gate_callee (f := 42) rfl ?_); refine goesL_ (some 4) rfl rfl Try.func42 (by kernel_rfl) rfl #[.string a0] rfl (by (try simp only [List.map_toArray, List.map_cons, List.map_nil]); first | done | rfl | (simp only [List.length_drop, List.length_take]; rfl)) ?_; (with_reducible refine (server_IsValidSubject.calls k a0 true _ A2.out).mono ?_); rintro e w5 ⟨rfl, hb⟩; refine ⟨_, rfl, ?_⟩; have n0_ := Aside0.mk (below_step (by repeat (first | (with_reducible first | exact HB.out | apply below_alloc | apply pw_below_drewN | apply below_drew1) | exact HB.out)) hb); clear HB; have HB := n0_; clear n0_; (try clear hb); (try clear hb2); (try clear hk); (try clear hi)) | (go_at_call 43; (with_reducible refine (server_subjectIsLiteral.calls a0 t155 _ A4.out).mono ?_); rintro e w6 ⟨rfl, hb⟩; have n0_ := Aside0.mk (below_step (by repeat (first | (with_reducible first | exact HB.out | apply below_alloc | apply pw_below_drewN | apply below_drew1) | exact HB.out)) hb); clear HB; have HB := n0_; clear n0_; (try clear hb); (try clear hb2); (try clear hk); (try clear hi)))
    go_ret
    exact ⟨by first | rfl | (simp [errW_none, errW_some] <;> rfl) | (simp [*, errW_none, errW_some] <;> rfl), by repeat (first | (with_reducible first | exact HB.out | apply below_alloc | apply pw_below_drewN | apply below_drew1) | exact HB.out)⟩
  · replace c3 := Bool.eq_false_iff.mpr c3
    subst c3
    have H1 : (some false) = some r := by rw [if_neg (show ¬ (false = true) by decide)] at H; exact H
    clear H
    have H := H1
    clear H1
    obtain rfl := Option.some.inj H
    go_enter Try.func32, Try.ntmps32
    go_wp2_with (first | ((with_reducible refine gate_callee (f := 42) rfl ?_); refine goesL_ (some 4) rfl rfl Try.func42 (by kernel_rfl) rfl #[.string a0] rfl (by (try simp only [List.map_toArray, List.map_cons, List.map_nil]); first | done | rfl | (simp only [List.length_drop, List.length_take]; rfl)) ?_; (with_reducible refine (server_IsValidSubject.calls k a0 false _ A2.out).mono ?_); rintro e w7 ⟨rfl, hb⟩; refine ⟨_, rfl, ?_⟩; have n0_ := Aside0.mk (below_step (by repeat (first | (with_reducible first | exact HB.out | apply below_alloc | apply pw_below_drewN | apply below_drew1) | exact HB.out)) hb); clear HB; have HB := n0_; clear n0_; (try clear hb); (try clear hb2); (try clear hk); (try clear hi)))
    go_ret
    exact ⟨by first | rfl | (simp [errW_none, errW_some] <;> rfl) | (simp [*, errW_none, errW_some] <;> rfl), by repeat (first | (with_reducible first | exact HB.out | apply below_alloc | apply pw_below_drewN | apply below_drew1) | exact HB.out)⟩

/-! ### impl_Publish: function 16 -/
def impl_Publish.f (k : Nat) (a0 : ByteArray) : Option (Bool) := (server_IsValidPublishSubject.f k a0).bind fun t156 => (some t156)
theorem impl_Publish.mono : ∀ a0 k, LeO (impl_Publish.f k a0) (impl_Publish.f (k + 1) a0) := by
  intro a0 k
  unfold impl_Publish.f
  repeat' first
      | (with_reducible exact server_IsValidPublishSubject.mono _ _)
      | (with_reducible exact LeO.refl _)
      | (with_reducible exact LeO.none _)
      | (with_reducible refine LeO.ite ?_ ?_)
      | (with_reducible refine LeO.bind ?_ (fun _ => ?_))
      | exact server_IsValidPublishSubject.mono _ _
      | exact LeO.none _
      | refine LeO.ite ?_ ?_
      | refine LeO.bind ?_ (fun _ => ?_)
set_option maxHeartbeats 8000000 in
set_option maxRecDepth 100000 in
theorem impl_Publish.calls (k : Nat) (a0 : ByteArray) (r : Bool) (w : World) (h : impl_Publish.f k a0 = some r) :
    Calls Try.prog 16 #[.string a0] w fun e w' => e = .returned (.bool r) ∧ Below w.heap.size w w' := by
  have HB := Aside0.mk (Below.refl w.heap.size w)
  have H : ((server_IsValidPublishSubject.f k a0).bind fun t156 => (some t156)) = some r := h
  clear h
  replace H := Option.bind_eq_some_iff.mp H
  obtain ⟨t156, A20, H⟩ := H
  replace H : (some t156) = some r := H
  have A2 := Aside0.mk A20
  clear A20
  obtain rfl := Option.some.inj H
  go_enter Try.func16, Try.ntmps16
  go_wp2_with (first | ((with_reducible refine gate_callee (f := 32) rfl ?_); refine goesL_ (some 4) rfl rfl Try.func32 (by kernel_rfl) rfl #[.string a0] rfl (by (try simp only [List.map_toArray, List.map_cons, List.map_nil]); first | done | rfl | (simp only [List.length_drop, List.length_take]; rfl)) ?_; (with_reducible refine (server_IsValidPublishSubject.calls k a0 t156 _ A2.out).mono ?_); rintro e w3 ⟨rfl, hb⟩; refine ⟨_, rfl, ?_⟩; have n0_ := Aside0.mk (below_step (by repeat (first | (with_reducible first | exact HB.out | apply below_alloc | apply pw_below_drewN | apply below_drew1) | exact HB.out)) hb); clear HB; have HB := n0_; clear n0_; (try clear hb); (try clear hb2); (try clear hk); (try clear hi)))
  go_ret
  exact ⟨by first | rfl | (simp [errW_none, errW_some] <;> rfl) | (simp [*, errW_none, errW_some] <;> rfl), by repeat (first | (with_reducible first | exact HB.out | apply below_alloc | apply pw_below_drewN | apply below_drew1) | exact HB.out)⟩

/-! ### laws_awakeSubject: function 13 -/
def laws_awakeSubject.f (k : Nat)  : Option (Bool) := (impl_Matches.f k (⟨#[97, 46, 98]⟩ : ByteArray) (⟨#[97, 46, 42]⟩ : ByteArray)).bind fun t157 => (if t157 = true then ((impl_MatchLiteral.f k (⟨#[97, 46, 98]⟩ : ByteArray) (⟨#[97, 46, 62]⟩ : ByteArray)).bind fun t158 => (if t158 = true then ((impl_Publish.f k (⟨#[97, 46, 98]⟩ : ByteArray)).bind fun t159 => (if t159 = true then ((impl_Collide.f k (⟨#[97, 46, 42]⟩ : ByteArray) (⟨#[42, 46, 98]⟩ : ByteArray)).bind fun t160 => (some t160)) else (some false))) else (some false))) else (some false))
theorem laws_awakeSubject.mono : ∀ k, LeO (laws_awakeSubject.f k ) (laws_awakeSubject.f (k + 1) ) := by
  intro  k
  unfold laws_awakeSubject.f
  repeat' first
      | (with_reducible exact impl_Collide.mono _ _ _)
      | (with_reducible exact impl_MatchLiteral.mono _ _ _)
      | (with_reducible exact impl_Matches.mono _ _ _)
      | (with_reducible exact impl_Publish.mono _ _)
      | (with_reducible exact LeO.refl _)
      | (with_reducible exact LeO.none _)
      | (with_reducible refine LeO.ite ?_ ?_)
      | (with_reducible refine LeO.bind ?_ (fun _ => ?_))
      | exact impl_Collide.mono _ _ _
      | exact impl_MatchLiteral.mono _ _ _
      | exact impl_Matches.mono _ _ _
      | exact impl_Publish.mono _ _
      | exact LeO.none _
      | refine LeO.ite ?_ ?_
      | refine LeO.bind ?_ (fun _ => ?_)
set_option maxHeartbeats 8000000 in
set_option maxRecDepth 100000 in
theorem laws_awakeSubject.calls (k : Nat)  (r : Bool) (w : World) (h : laws_awakeSubject.f k  = some r) :
    Calls Try.prog 13 #[] w fun e w' => e = .returned (.bool r) ∧ Below w.heap.size w w' := by
  have HB := Aside0.mk (Below.refl w.heap.size w)
  have H : ((impl_Matches.f k (⟨#[97, 46, 98]⟩ : ByteArray) (⟨#[97, 46, 42]⟩ : ByteArray)).bind fun t157 => (if t157 = true then ((impl_MatchLiteral.f k (⟨#[97, 46, 98]⟩ : ByteArray) (⟨#[97, 46, 62]⟩ : ByteArray)).bind fun t158 => (if t158 = true then ((impl_Publish.f k (⟨#[97, 46, 98]⟩ : ByteArray)).bind fun t159 => (if t159 = true then ((impl_Collide.f k (⟨#[97, 46, 42]⟩ : ByteArray) (⟨#[42, 46, 98]⟩ : ByteArray)).bind fun t160 => (some t160)) else (some false))) else (some false))) else (some false))) = some r := h
  clear h
  replace H := Option.bind_eq_some_iff.mp H
  obtain ⟨t157, A10, H⟩ := H
  replace H : (if t157 = true then ((impl_MatchLiteral.f k (⟨#[97, 46, 98]⟩ : ByteArray) (⟨#[97, 46, 62]⟩ : ByteArray)).bind fun t158 => (if t158 = true then ((impl_Publish.f k (⟨#[97, 46, 98]⟩ : ByteArray)).bind fun t159 => (if t159 = true then ((impl_Collide.f k (⟨#[97, 46, 42]⟩ : ByteArray) (⟨#[42, 46, 98]⟩ : ByteArray)).bind fun t160 => (some t160)) else (some false))) else (some false))) else (some false)) = some r := H
  have A1 := Aside0.mk A10
  clear A10
  by_cases c2 : t157 = true
  · subst c2
    have H1 : ((impl_MatchLiteral.f k (⟨#[97, 46, 98]⟩ : ByteArray) (⟨#[97, 46, 62]⟩ : ByteArray)).bind fun t158 => (if t158 = true then ((impl_Publish.f k (⟨#[97, 46, 98]⟩ : ByteArray)).bind fun t159 => (if t159 = true then ((impl_Collide.f k (⟨#[97, 46, 42]⟩ : ByteArray) (⟨#[42, 46, 98]⟩ : ByteArray)).bind fun t160 => (some t160)) else (some false))) else (some false))) = some r := by rw [if_pos rfl] at H; exact H
    clear H
    have H := H1
    clear H1
    replace H := Option.bind_eq_some_iff.mp H
    obtain ⟨t158, A30, H⟩ := H
    replace H : (if t158 = true then ((impl_Publish.f k (⟨#[97, 46, 98]⟩ : ByteArray)).bind fun t159 => (if t159 = true then ((impl_Collide.f k (⟨#[97, 46, 42]⟩ : ByteArray) (⟨#[42, 46, 98]⟩ : ByteArray)).bind fun t160 => (some t160)) else (some false))) else (some false)) = some r := H
    have A3 := Aside0.mk A30
    clear A30
    by_cases c4 : t158 = true
    · subst c4
      have H1 : ((impl_Publish.f k (⟨#[97, 46, 98]⟩ : ByteArray)).bind fun t159 => (if t159 = true then ((impl_Collide.f k (⟨#[97, 46, 42]⟩ : ByteArray) (⟨#[42, 46, 98]⟩ : ByteArray)).bind fun t160 => (some t160)) else (some false))) = some r := by rw [if_pos rfl] at H; exact H
      clear H
      have H := H1
      clear H1
      replace H := Option.bind_eq_some_iff.mp H
      obtain ⟨t159, A50, H⟩ := H
      replace H : (if t159 = true then ((impl_Collide.f k (⟨#[97, 46, 42]⟩ : ByteArray) (⟨#[42, 46, 98]⟩ : ByteArray)).bind fun t160 => (some t160)) else (some false)) = some r := H
      have A5 := Aside0.mk A50
      clear A50
      by_cases c6 : t159 = true
      · subst c6
        have H1 : ((impl_Collide.f k (⟨#[97, 46, 42]⟩ : ByteArray) (⟨#[42, 46, 98]⟩ : ByteArray)).bind fun t160 => (some t160)) = some r := by rw [if_pos rfl] at H; exact H
        clear H
        have H := H1
        clear H1
        replace H := Option.bind_eq_some_iff.mp H
        obtain ⟨t160, A70, H⟩ := H
        replace H : (some t160) = some r := H
        have A7 := Aside0.mk A70
        clear A70
        obtain rfl := Option.some.inj H
        go_enter Try.func13, Try.ntmps13
        go_wp2_with (first | ((with_reducible refine gate_callee (f := 8) rfl ?_); refine goesL_ (some 1) rfl rfl Try.func8 (by kernel_rfl) rfl #[.string (⟨#[97, 46, 98]⟩ : ByteArray), .string (⟨#[97, 46, 42]⟩ : ByteArray)] rfl (by (try simp only [List.map_toArray, List.map_cons, List.map_nil]); first | done | rfl | (simp only [List.length_drop, List.length_take]; rfl)) ?_; (with_reducible refine (impl_Matches.calls k (⟨#[97, 46, 98]⟩ : ByteArray) (⟨#[97, 46, 42]⟩ : ByteArray) true _ A1.out).mono ?_); rintro e w8 ⟨rfl, hb⟩; refine ⟨_, rfl, ?_⟩; have n0_ := Aside0.mk (below_step (by repeat (first | (with_reducible first | exact HB.out | apply below_alloc | apply pw_below_drewN | apply below_drew1) | exact HB.out)) hb); clear HB; have HB := n0_; clear n0_; (try clear hb); (try clear hb2); (try clear hk); (try clear hi)) | (go_at_call 11; (with_reducible refine (impl_MatchLiteral.calls k (⟨#[97, 46, 98]⟩ : ByteArray) (⟨#[97, 46, 62]⟩ : ByteArray) true _ A3.out).mono ?_); rintro e w' ⟨rfl, ⟨nd, rfl⟩⟩) | (go_at_call 16; (with_reducible refine (impl_Publish.calls k (⟨#[97, 46, 98]⟩ : ByteArray) true _ A5.out).mono ?_); rintro e w9 ⟨rfl, hb⟩; have n0_ := Aside0.mk (below_step (by repeat (first | (with_reducible first | exact HB.out | apply below_alloc | apply pw_below_drewN | apply below_drew1) | exact HB.out)) hb); clear HB; have HB := n0_; clear n0_; (try clear hb); (try clear hb2); (try clear hk); (try clear hi)) | (go_at_call 14; (with_reducible refine (impl_Collide.calls k (⟨#[97, 46, 42]⟩ : ByteArray) (⟨#[42, 46, 98]⟩ : ByteArray) t160 _ A7.out).mono ?_); rintro e w10 ⟨rfl, hb⟩; have n0_ := Aside0.mk (below_step (by repeat (first | (with_reducible first | exact HB.out | apply below_alloc | apply pw_below_drewN | apply below_drew1) | exact HB.out)) hb); clear HB; have HB := n0_; clear n0_; (try clear hb); (try clear hb2); (try clear hk); (try clear hi)))
        go_ret
        exact ⟨by first | rfl | (simp [errW_none, errW_some] <;> rfl) | (simp [*, errW_none, errW_some] <;> rfl), by repeat (first | (with_reducible first | exact HB.out | apply below_alloc | apply pw_below_drewN | apply below_drew1) | exact HB.out)⟩
      · replace c6 := Bool.eq_false_iff.mpr c6
        subst c6
        have H1 : (some false) = some r := by rw [if_neg (show ¬ (false = true) by decide)] at H; exact H
        clear H
        have H := H1
        clear H1
        obtain rfl := Option.some.inj H
        go_enter Try.func13, Try.ntmps13
        go_wp2_with (first | ((with_reducible refine gate_callee (f := 8) rfl ?_); refine goesL_ (some 1) rfl rfl Try.func8 (by kernel_rfl) rfl #[.string (⟨#[97, 46, 98]⟩ : ByteArray), .string (⟨#[97, 46, 42]⟩ : ByteArray)] rfl (by (try simp only [List.map_toArray, List.map_cons, List.map_nil]); first | done | rfl | (simp only [List.length_drop, List.length_take]; rfl)) ?_; (with_reducible refine (impl_Matches.calls k (⟨#[97, 46, 98]⟩ : ByteArray) (⟨#[97, 46, 42]⟩ : ByteArray) true _ A1.out).mono ?_); rintro e w11 ⟨rfl, hb⟩; refine ⟨_, rfl, ?_⟩; have n0_ := Aside0.mk (below_step (by repeat (first | (with_reducible first | exact HB.out | apply below_alloc | apply pw_below_drewN | apply below_drew1) | exact HB.out)) hb); clear HB; have HB := n0_; clear n0_; (try clear hb); (try clear hb2); (try clear hk); (try clear hi)) | (go_at_call 11; (with_reducible refine (impl_MatchLiteral.calls k (⟨#[97, 46, 98]⟩ : ByteArray) (⟨#[97, 46, 62]⟩ : ByteArray) true _ A3.out).mono ?_); rintro e w' ⟨rfl, ⟨nd, rfl⟩⟩) | (go_at_call 16; (with_reducible refine (impl_Publish.calls k (⟨#[97, 46, 98]⟩ : ByteArray) false _ A5.out).mono ?_); rintro e w12 ⟨rfl, hb⟩; have n0_ := Aside0.mk (below_step (by repeat (first | (with_reducible first | exact HB.out | apply below_alloc | apply pw_below_drewN | apply below_drew1) | exact HB.out)) hb); clear HB; have HB := n0_; clear n0_; (try clear hb); (try clear hb2); (try clear hk); (try clear hi)))
        go_ret
        exact ⟨by first | rfl | (simp [errW_none, errW_some] <;> rfl) | (simp [*, errW_none, errW_some] <;> rfl), by repeat (first | (with_reducible first | exact HB.out | apply below_alloc | apply pw_below_drewN | apply below_drew1) | exact HB.out)⟩
    · replace c4 := Bool.eq_false_iff.mpr c4
      subst c4
      have H1 : (some false) = some r := by rw [if_neg (show ¬ (false = true) by decide)] at H; exact H
      clear H
      have H := H1
      clear H1
      obtain rfl := Option.some.inj H
      go_enter Try.func13, Try.ntmps13
      go_wp2_with (first | ((with_reducible refine gate_callee (f := 8) rfl ?_); refine goesL_ (some 1) rfl rfl Try.func8 (by kernel_rfl) rfl #[.string (⟨#[97, 46, 98]⟩ : ByteArray), .string (⟨#[97, 46, 42]⟩ : ByteArray)] rfl (by (try simp only [List.map_toArray, List.map_cons, List.map_nil]); first | done | rfl | (simp only [List.length_drop, List.length_take]; rfl)) ?_; (with_reducible refine (impl_Matches.calls k (⟨#[97, 46, 98]⟩ : ByteArray) (⟨#[97, 46, 42]⟩ : ByteArray) true _ A1.out).mono ?_); rintro e w13 ⟨rfl, hb⟩; refine ⟨_, rfl, ?_⟩; have n0_ := Aside0.mk (below_step (by repeat (first | (with_reducible first | exact HB.out | apply below_alloc | apply pw_below_drewN | apply below_drew1) | exact HB.out)) hb); clear HB; have HB := n0_; clear n0_; (try clear hb); (try clear hb2); (try clear hk); (try clear hi)) | (go_at_call 11; (with_reducible refine (impl_MatchLiteral.calls k (⟨#[97, 46, 98]⟩ : ByteArray) (⟨#[97, 46, 62]⟩ : ByteArray) false _ A3.out).mono ?_); rintro e w' ⟨rfl, ⟨nd, rfl⟩⟩))
      go_ret
      exact ⟨by first | rfl | (simp [errW_none, errW_some] <;> rfl) | (simp [*, errW_none, errW_some] <;> rfl), by repeat (first | (with_reducible first | exact HB.out | apply below_alloc | apply pw_below_drewN | apply below_drew1) | exact HB.out)⟩
  · replace c2 := Bool.eq_false_iff.mpr c2
    subst c2
    have H1 : (some false) = some r := by rw [if_neg (show ¬ (false = true) by decide)] at H; exact H
    clear H
    have H := H1
    clear H1
    obtain rfl := Option.some.inj H
    go_enter Try.func13, Try.ntmps13
    go_wp2_with (first | ((with_reducible refine gate_callee (f := 8) rfl ?_); refine goesL_ (some 1) rfl rfl Try.func8 (by kernel_rfl) rfl #[.string (⟨#[97, 46, 98]⟩ : ByteArray), .string (⟨#[97, 46, 42]⟩ : ByteArray)] rfl (by (try simp only [List.map_toArray, List.map_cons, List.map_nil]); first | done | rfl | (simp only [List.length_drop, List.length_take]; rfl)) ?_; (with_reducible refine (impl_Matches.calls k (⟨#[97, 46, 98]⟩ : ByteArray) (⟨#[97, 46, 42]⟩ : ByteArray) false _ A1.out).mono ?_); rintro e w14 ⟨rfl, hb⟩; refine ⟨_, rfl, ?_⟩; have n0_ := Aside0.mk (below_step (by repeat (first | (with_reducible first | exact HB.out | apply below_alloc | apply pw_below_drewN | apply below_drew1) | exact HB.out)) hb); clear HB; have HB := n0_; clear n0_; (try clear hb); (try clear hb2); (try clear hk); (try clear hi)))
    go_ret
    exact ⟨by first | rfl | (simp [errW_none, errW_some] <;> rfl) | (simp [*, errW_none, errW_some] <;> rfl), by repeat (first | (with_reducible first | exact HB.out | apply below_alloc | apply pw_below_drewN | apply below_drew1) | exact HB.out)⟩

/-! ### spec_Join: function 31 -/
def spec_Join.l0 : Nat → List ByteArray → ByteArray → Int → Option (ByteArray)
  | 0, _, _, _ => none
  | k + 1, x0, x3, x4 => if x4 < (x0.length : Int) then (if x4 > 0 then (if x3.size + 1 ≤ 9223372036854775807 then (if 0 ≤ x4 then (if (x3 ++ (⟨#[46]⟩ : ByteArray)).size + (rdOf ByteArray.empty x0 x4).size ≤ 9223372036854775807 then (spec_Join.l0 k x0 ((x3 ++ (⟨#[46]⟩ : ByteArray)) ++ (rdOf ByteArray.empty x0 x4)) (wrap64 (x4 + 1))) else (none)) else (none)) else (none)) else (if 0 ≤ x4 then (if x3.size + (rdOf ByteArray.empty x0 x4).size ≤ 9223372036854775807 then (spec_Join.l0 k x0 (x3 ++ (rdOf ByteArray.empty x0 x4)) (wrap64 (x4 + 1))) else (none)) else (none))) else (some x3)
def spec_Join.f (k : Nat) (l0 : List ByteArray) : Option (ByteArray) := spec_Join.l0 k l0 (⟨#[]⟩ : ByteArray) 0
theorem spec_Join.mono_l : ∀ k, (∀ y0 y1 y2, LeO (spec_Join.l0 k y0 y1 y2) (spec_Join.l0 (k + 1) y0 y1 y2))
  | 0 => fun _ _ _ r h => by simp [spec_Join.l0] at h
  | k + 1 => by
    have ih0 := spec_Join.mono_l k
    · intro y0 y1 y2
      unfold spec_Join.l0
      repeat' first
      | (with_reducible exact ih0 _ _ _)
      | (with_reducible exact LeO.refl _)
      | (with_reducible exact LeO.none _)
      | (with_reducible refine LeO.ite ?_ ?_)
      | (with_reducible refine LeO.bind ?_ (fun _ => ?_))
      | exact ih0 _ _ _
      | exact LeO.none _
      | refine LeO.ite ?_ ?_
      | refine LeO.bind ?_ (fun _ => ?_)
theorem spec_Join.mono : ∀ a0 k, LeO (spec_Join.f k a0) (spec_Join.f (k + 1) a0) := by
  intro a0 k
  have ih0 := spec_Join.mono_l k
  unfold spec_Join.f
  repeat' first
      | (with_reducible exact ih0 _ _ _)
      | (with_reducible exact LeO.refl _)
      | (with_reducible exact LeO.none _)
      | (with_reducible refine LeO.ite ?_ ?_)
      | (with_reducible refine LeO.bind ?_ (fun _ => ?_))
      | exact ih0 _ _ _
      | exact LeO.none _
      | refine LeO.ite ?_ ?_
      | refine LeO.bind ?_ (fun _ => ?_)
set_option maxHeartbeats 8000000 in
set_option maxRecDepth 100000 in
theorem spec_Join.calls (k : Nat) (A0 : Option Addr) (c0 : Nat) (l0 : List ByteArray) (r : ByteArray) (w : World) (hr0 : Kd.C Kd.string w A0 l0.length l0) (hc0 : l0.length ≤ c0) (h : spec_Join.f k l0 = some r) :
    Calls Try.prog 31 #[.slice A0 l0.length c0] w fun e w' => e = .returned (.string r) ∧ Drawn0 w w' := by
  have HR0 := Aside0.mk hr0
  have HC0 := Aside0.mk hc0
  clear hr0 hc0
  have H : (spec_Join.l0 k l0 (⟨#[]⟩ : ByteArray) 0) = some r := h
  clear h
  have H' := Aside0.mk H
  clear H
  go_enter Try.func31, Try.ntmps31
  go_wp2
  go_loopg [3, 4] k (fun kq v3 v4 w' => ∃ (x3_1 : ByteArray) (x4_1 : Int), v3 = .string x3_1 ∧ v4 = .int .i64 x4_1 ∧ Aside0 (spec_Join.l0 kq l0 x3_1 x4_1 = some r) ∧ Aside0 (kq ≤ k) ∧ Drawn0 w w')
  case atStart => exact ⟨((⟨#[]⟩ : ByteArray)), (0), (by first | rfl | (simp; done) | (simp [*]; done)), (by first | rfl | (simp; done) | (simp [*]; done)), H', ⟨Nat.le_refl _⟩, by repeat (first | exact Drawn0.refl _ | apply Drawn0.step)⟩
  case round =>
    clear H'
    obtain ⟨x3_1, x4_1, rfl, rfl, HA, HK1, ⟨m1, rfl⟩⟩ := hrel
    cases gk with
    | zero => exact absurd HA.out (by simp [spec_Join.l0])
    | succ k1 =>
      have H := HA.out
      clear HA
      simp only [spec_Join.l0] at H
      by_cases c2 : x4_1 < (l0.length : Int)
      · rw [if_pos c2] at H
        have c2b0 : decide (x4_1 < (l0.length : Int)) = true := decide_eq_true c2
        clear c2
        by_cases c3 : x4_1 > 0
        · rw [if_pos c3] at H
          have c3b0 : decide (0 < x4_1) = true := decide_eq_true c3
          clear c3
          by_cases c4 : x3_1.size + 1 ≤ 9223372036854775807
          · rw [if_pos c4] at H
            have c4b0 := eq_true c4
            have c4b1 : decide (x3_1.size + 1 ≤ 9223372036854775807) = true := decide_eq_true c4
            try have c4b2 : (9223372036854775807 < x3_1.size + 1) = False := eq_false (Nat.not_lt.2 c4)
            by_cases c5 : 0 ≤ x4_1
            · rw [if_pos c5] at H
              have c5b0 : decide (0 ≤ x4_1) = true := decide_eq_true c5
              clear c5
              by_cases c6 : (x3_1 ++ (⟨#[46]⟩ : ByteArray)).size + (rdOf ByteArray.empty l0 x4_1).size ≤ 9223372036854775807
              · rw [if_pos c6] at H
                have c6b0 := eq_true c6
                have c6b1 : decide ((x3_1 ++ (⟨#[46]⟩ : ByteArray)).size + (rdOf ByteArray.empty l0 x4_1).size ≤ 9223372036854775807) = true := decide_eq_true c6
                try have c6b2 : (9223372036854775807 < (x3_1 ++ (⟨#[46]⟩ : ByteArray)).size + (rdOf ByteArray.empty l0 x4_1).size) = False := eq_false (Nat.not_lt.2 c6)
                have H' := Aside0.mk H
                clear H
                have p161 : 0 ≤ (x4_1 : Int) := of_decide_eq_true (by first | (with_reducible assumption) | assumption)
                have q161 : x4_1 < (l0.length : Int) := of_decide_eq_true (by first | (with_reducible assumption) | assumption)
                obtain ⟨ad161, e161, hx161_0⟩ := Kd.at_string HR0.out x4_1 p161 q161
                cases e161
                replace p161 := eq_true p161
                replace q161 := eq_true q161
                go_wp2
                go_roundg k1
                case measure => have := HK1.out; omega
                case rel => exact ⟨((x3_1 ++ (⟨#[46]⟩ : ByteArray)) ++ (rdOf ByteArray.empty l0 x4_1)), (wrap64 (x4_1 + 1)), (by first | rfl | (simp; done) | (simp [*]; done)), (by first | rfl | (simp; done) | (simp [*]; done)), H', ⟨by have := HK1.out; omega⟩, by repeat (first | exact Drawn0.refl _ | apply Drawn0.step)⟩
              · rw [if_neg c6] at H
                exact absurd H (by simp)
            · rw [if_neg c5] at H
              exact absurd H (by simp)
          · rw [if_neg c4] at H
            exact absurd H (by simp)
        · rw [if_neg c3] at H
          have c3b0 : decide (0 < x4_1) = false := decide_eq_false c3
          clear c3
          by_cases c7 : 0 ≤ x4_1
          · rw [if_pos c7] at H
            have c7b0 : decide (0 ≤ x4_1) = true := decide_eq_true c7
            clear c7
            by_cases c8 : x3_1.size + (rdOf ByteArray.empty l0 x4_1).size ≤ 9223372036854775807
            · rw [if_pos c8] at H
              have c8b0 := eq_true c8
              have c8b1 : decide (x3_1.size + (rdOf ByteArray.empty l0 x4_1).size ≤ 9223372036854775807) = true := decide_eq_true c8
              try have c8b2 : (9223372036854775807 < x3_1.size + (rdOf ByteArray.empty l0 x4_1).size) = False := eq_false (Nat.not_lt.2 c8)
              have H' := Aside0.mk H
              clear H
              have p162 : 0 ≤ (x4_1 : Int) := of_decide_eq_true (by first | (with_reducible assumption) | assumption)
              have q162 : x4_1 < (l0.length : Int) := of_decide_eq_true (by first | (with_reducible assumption) | assumption)
              obtain ⟨ad162, e162, hx162_0⟩ := Kd.at_string HR0.out x4_1 p162 q162
              cases e162
              replace p162 := eq_true p162
              replace q162 := eq_true q162
              go_wp2
              go_roundg k1
              case measure => have := HK1.out; omega
              case rel => exact ⟨(x3_1 ++ (rdOf ByteArray.empty l0 x4_1)), (wrap64 (x4_1 + 1)), (by first | rfl | (simp; done) | (simp [*]; done)), (by first | rfl | (simp; done) | (simp [*]; done)), H', ⟨by have := HK1.out; omega⟩, by repeat (first | exact Drawn0.refl _ | apply Drawn0.step)⟩
            · rw [if_neg c8] at H
              exact absurd H (by simp)
          · rw [if_neg c7] at H
            exact absurd H (by simp)
      · rw [if_neg c2] at H
        have c2b0 : decide (x4_1 < (l0.length : Int)) = false := decide_eq_false c2
        clear c2
        obtain rfl := Option.some.inj H
        go_wp2
        go_ret
        exact ⟨by first | rfl | (simp; done) | (simp [*]; done), by repeat (first | exact Drawn0.refl _ | apply Drawn0.step)⟩

/-! ### laws_filled: function 17 -/
mutual
def laws_filled.l0 : Nat → ByteArray → Int → List ByteArray → List ByteArray → Int → Option (ByteArray)
  | 0, _, _, _, _, _ => none
  | k + 1, x1, x2, x7, x8, x9 => if x9 < (x7.length : Int) then (if 0 ≤ x9 then (if (rdOf ByteArray.empty x7 x9).toList = ([42] : List UInt8) then (if x8.length < 8796093022208 then (laws_filled.l0 k x1 x2 x7 (x8 ++ [x1]) (wrap64 (x9 + 1))) else (none)) else (if (rdOf ByteArray.empty x7 x9).toList = ([62] : List UInt8) then (laws_filled.l1 k x1 x2 x7 x8 x9 0) else (if x8.length < 8796093022208 then (laws_filled.l0 k x1 x2 x7 (x8 ++ [rdOf ByteArray.empty x7 x9]) (wrap64 (x9 + 1))) else (none)))) else (none)) else ((spec_Join.f k x8).bind fun t166 => (some t166))
def laws_filled.l1 : Nat → ByteArray → Int → List ByteArray → List ByteArray → Int → Int → Option (ByteArray)
  | 0, _, _, _, _, _, _ => none
  | k + 1, x1, x2, x7, x8, x9, x10 => if x10 < x2 then (if x8.length < 8796093022208 then (laws_filled.l1 k x1 x2 x7 (x8 ++ [x1]) x9 (wrap64 (x10 + 1))) else (none)) else (laws_filled.l0 k x1 x2 x7 x8 (wrap64 (x9 + 1)))
end
def laws_filled.f (k : Nat) (a0 : ByteArray) (a1 : ByteArray) (a2 : Int) : Option (ByteArray) := (spec_Tokens.f k a0).bind fun t163 => (laws_filled.l0 k a1 a2 t163 ([] : List ByteArray) 0)
theorem laws_filled.mono_l : ∀ k, (∀ y0 y1 y2 y3 y4, LeO (laws_filled.l0 k y0 y1 y2 y3 y4) (laws_filled.l0 (k + 1) y0 y1 y2 y3 y4)) ∧ (∀ y0 y1 y2 y3 y4 y5, LeO (laws_filled.l1 k y0 y1 y2 y3 y4 y5) (laws_filled.l1 (k + 1) y0 y1 y2 y3 y4 y5))
  | 0 => ⟨fun _ _ _ _ _ r h => by simp [laws_filled.l0] at h, fun _ _ _ _ _ _ r h => by simp [laws_filled.l1] at h⟩
  | k + 1 => by
    obtain ⟨ih0, ih1⟩ := laws_filled.mono_l k
    refine ⟨?_, ?_⟩
    · intro y0 y1 y2 y3 y4
      unfold laws_filled.l0
      repeat' first
      | (with_reducible exact ih0 _ _ _ _ _)
      | (with_reducible exact ih1 _ _ _ _ _ _)
      | (with_reducible exact spec_Join.mono _ _)
      | (with_reducible exact spec_Tokens.mono _ _)
      | (with_reducible exact LeO.refl _)
      | (with_reducible exact LeO.none _)
      | (with_reducible refine LeO.ite ?_ ?_)
      | (with_reducible refine LeO.bind ?_ (fun _ => ?_))
      | exact ih0 _ _ _ _ _
      | exact ih1 _ _ _ _ _ _
      | exact spec_Join.mono _ _
      | exact spec_Tokens.mono _ _
      | exact LeO.none _
      | refine LeO.ite ?_ ?_
      | refine LeO.bind ?_ (fun _ => ?_)
    · intro y0 y1 y2 y3 y4 y5
      unfold laws_filled.l1
      repeat' first
      | (with_reducible exact ih0 _ _ _ _ _)
      | (with_reducible exact ih1 _ _ _ _ _ _)
      | (with_reducible exact spec_Join.mono _ _)
      | (with_reducible exact spec_Tokens.mono _ _)
      | (with_reducible exact LeO.refl _)
      | (with_reducible exact LeO.none _)
      | (with_reducible refine LeO.ite ?_ ?_)
      | (with_reducible refine LeO.bind ?_ (fun _ => ?_))
      | exact ih0 _ _ _ _ _
      | exact ih1 _ _ _ _ _ _
      | exact spec_Join.mono _ _
      | exact spec_Tokens.mono _ _
      | exact LeO.none _
      | refine LeO.ite ?_ ?_
      | refine LeO.bind ?_ (fun _ => ?_)
theorem laws_filled.mono : ∀ a0 a1 a2 k, LeO (laws_filled.f k a0 a1 a2) (laws_filled.f (k + 1) a0 a1 a2) := by
  intro a0 a1 a2 k
  obtain ⟨ih0, ih1⟩ := laws_filled.mono_l k
  unfold laws_filled.f
  repeat' first
      | (with_reducible exact ih0 _ _ _ _ _)
      | (with_reducible exact ih1 _ _ _ _ _ _)
      | (with_reducible exact spec_Join.mono _ _)
      | (with_reducible exact spec_Tokens.mono _ _)
      | (with_reducible exact LeO.refl _)
      | (with_reducible exact LeO.none _)
      | (with_reducible refine LeO.ite ?_ ?_)
      | (with_reducible refine LeO.bind ?_ (fun _ => ?_))
      | exact ih0 _ _ _ _ _
      | exact ih1 _ _ _ _ _ _
      | exact spec_Join.mono _ _
      | exact spec_Tokens.mono _ _
      | exact LeO.none _
      | refine LeO.ite ?_ ?_
      | refine LeO.bind ?_ (fun _ => ?_)
set_option maxHeartbeats 8000000 in
set_option maxRecDepth 100000 in
theorem laws_filled.calls (k : Nat) (a0 : ByteArray) (a1 : ByteArray) (a2 : Int) (r : ByteArray) (w : World) (h : laws_filled.f k a0 a1 a2 = some r) :
    Calls Try.prog 17 #[.string a0, .string a1, .int .i64 a2] w fun e w' => e = .returned (.string r) ∧ Below w.heap.size w w' := by
  have HB := Aside0.mk (Below.refl w.heap.size w)
  have H : ((spec_Tokens.f k a0).bind fun t163 => (laws_filled.l0 k a1 a2 t163 ([] : List ByteArray) 0)) = some r := h
  clear h
  replace H := Option.bind_eq_some_iff.mp H
  obtain ⟨t163, A40, H⟩ := H
  replace H : (laws_filled.l0 k a1 a2 t163 ([] : List ByteArray) 0) = some r := H
  have A4 := Aside0.mk A40
  clear A40
  have H' := Aside0.mk H
  clear H
  go_enter Try.func17, Try.ntmps17
  go_wp2_with (first | ((with_reducible refine gate_callee (f := 26) rfl ?_); refine goesL_ (some 12) rfl rfl Try.func26 (by kernel_rfl) rfl #[.string a0] rfl (by (try simp only [List.map_toArray, List.map_cons, List.map_nil]); first | done | rfl | (simp only [List.length_drop, List.length_take]; rfl)) ?_; (with_reducible refine (spec_Tokens.calls k a0 t163 _ A4.out).mono ?_); rintro e w5 ⟨v164, rfl, ho0, hb⟩; refine ⟨_, rfl, ?_⟩; have n0_ := Aside0.mk (Kd.R_lower ho0 (below_size (by repeat (first | (with_reducible first | exact HB.out | apply below_alloc | apply pw_below_drewN | apply below_drew1) | exact HB.out)))); have n1_ := Aside0.mk (below_step (by repeat (first | (with_reducible first | exact HB.out | apply below_alloc | apply pw_below_drewN | apply below_drew1) | exact HB.out)) hb); clear HB; have HO165 := n0_; have HB := n1_; clear n0_ n1_; (try clear hb); (try clear hb2); (try clear hk); (try clear hi); (try clear ho0)))
  go_loopg [8, 9] k (fun kq v8 v9 w' => ∃ (x8_1 : List ByteArray) (x9_1 : Int), v9 = .int .i64 x9_1 ∧ Aside0 (laws_filled.l0 kq a1 a2 t163 x8_1 x9_1 = some r) ∧ Aside0 (kq ≤ k) ∧ Aside0 (Kd.R Kd.string 9 w' w.heap.size (fun k_ => some k_ ≠ (v8 : Value).ownBlock) v164 t163) ∧ Aside0 (Kd.R Kd.string 9 w' w.heap.size (fun k_ => some k_ ≠ (v164 : Value).ownBlock) v8 x8_1) ∧ Aside0 (Below w.heap.size w w'))
  case atStart => exact ⟨(([] : List ByteArray)), (0), (by first | rfl | (simp; done) | (simp [*]; done)), H', ⟨Nat.le_refl _⟩, ⟨by (with_reducible repeat (first | apply Kd.R_alloc | apply Kd.R_drewN | apply Kd.R_drew)); exact Kd.R_mono HO165.out (fun _ hk => (by simp [Value.ownBlock]))⟩, ⟨by first | exact Kd.R_nil _ _ _ _ _ | exact Kd.N_nil _ _ _ _ _ | exact Kd.V_nil _ _ _ _ _ | exact Kd.Q_nil _ _ _ _ _ | exact Kd.S_nil _ _ _ _ _⟩, ⟨by repeat (first | (with_reducible first | exact HB.out | apply below_alloc | apply pw_below_drewN | apply below_drew1) | exact HB.out)⟩⟩
  case round =>
    clear H'
    try clear c1
    try clear c2
    try clear p2
    obtain ⟨x8_1, x9_1, rfl, HA, HK1, HO_7, HO_8, HB⟩ := hrel
    cases gk with
    | zero => exact absurd HA.out (by simp [laws_filled.l0])
    | succ k1 =>
      have H := HA.out
      clear HA
      simp only [laws_filled.l0] at H
      by_cases c6 : x9_1 < (t163.length : Int)
      · rw [if_pos c6] at H
        have c6b0 : decide (x9_1 < (t163.length : Int)) = true := decide_eq_true c6
        clear c6
        by_cases c7 : 0 ≤ x9_1
        · rw [if_pos c7] at H
          have c7b0 : decide (0 ≤ x9_1) = true := decide_eq_true c7
          clear c7
          by_cases c8 : (rdOf ByteArray.empty t163 x9_1).toList = ([42] : List UInt8)
          · rw [if_pos c8] at H
            have c8b0 : ((rdOf ByteArray.empty t163 x9_1).toList == ([42] : List UInt8)) = true := beq_iff_eq.mpr c8
            have c8b1 : ((rdOf ByteArray.empty t163 x9_1).toList != ([42] : List UInt8)) = false := bne_eq_false_iff_eq.mpr c8
            clear c8
            by_cases c9 : x8_1.length < 8796093022208
            · rw [if_pos c9] at H
              have LMc9 := Aside0.mk c9
              clear c9
              obtain ⟨y168, hy168⟩ : ∃ y_ : List ByteArray, y_ = (x8_1 ++ [a1]) := ⟨_, rfl⟩
              replace H : (laws_filled.l0 k1 a1 a2 t163 y168 (wrap64 (x9_1 + 1))) = some r := by first | (rw [hy168]; with_reducible exact H) | (have H2_ := (Option.bind_some _ _).symm.trans H; rw [hy168]; with_reducible exact H2_) | (have H2_ := (Option.bind_some _ _).symm.trans H; with_reducible exact H2_) | with_reducible exact H | (rw [hy168]; exact H) | exact H
              have Ny168 := Aside0.mk hy168
              clear hy168
              have H' := Aside0.mk H
              clear H
              obtain ⟨Ao10, co10, eo10⟩ := Kd.R_slice HO_7.out
              subst eo10
              have p167 : 0 ≤ (x9_1 : Int) := of_decide_eq_true (by first | (with_reducible assumption) | assumption)
              have q167 : x9_1 < (t163.length : Int) := of_decide_eq_true (by first | (with_reducible assumption) | assumption)
              obtain ⟨ad167, e167, hx167_0⟩ := Kd.at_string (Kd.R_reads' HO_7.out).2.2 x9_1 p167 q167
              cases e167
              replace p167 := eq_true p167
              replace q167 := eq_true q167
              go_wp2_with (first | ((with_reducible refine gate_builtin (b := .append) (xs := #[.tmp 32, .tmp 34]) rfl ?_); at_builtin; refine Kd.R_append Kd.string (w0 := w) w.heap.size rfl (.tmp 32) (.tmp 34) 31 9 (.string ⟨#[]⟩) 16 rfl Try.underlying31 info9 rfl (by decide) (by omega) u8 x8_1 a1 [.string a1] (fun k_ => some k_ ≠ (.slice (some ad167) t163.length co10 : Value).ownBlock) (fun _ => False) rfl rfl ?aP (fun _ hk => hk.elim) ?aF ?aO ?aB ?aS ?aL ?_; (case aP => exact rfl); (case aB => exact (by repeat (first | (with_reducible first | exact HB.out | apply below_alloc | apply pw_below_drewN | apply below_drew1) | exact HB.out))); (case aF => exact (fun k_ hk => Kd.fresh' (Kd.R_lt (by (with_reducible repeat (first | apply Kd.R_alloc | apply Kd.R_drewN | apply Kd.R_drew)); exact HO_7.out)) k_ hk)); (case aO => exact (by (with_reducible repeat (first | apply Kd.R_alloc | apply Kd.R_drewN | apply Kd.R_drew)); exact HO_8.out)); (case aS => exact (below_size (by repeat (first | (with_reducible first | exact HB.out | apply below_alloc | apply pw_below_drewN | apply below_drew1) | exact HB.out)))); (case aL => have := LMc9.out; omega); intro v169 w11 ho hb hg hat; rw [← Ny168.out] at ho; have n0_ := Aside0.mk (Kd.R_after (ok := (fun _ => True)) (by (with_reducible repeat (first | apply Kd.R_alloc | apply Kd.R_drewN | apply Kd.R_drew)); exact Kd.R_mono HO_7.out (fun _ hk => ⟨trivial, hk⟩)) hg hat); have n1_ := Aside0.mk (hb); have n2_ := Aside0.mk (ho); clear HO_7; clear HB; clear HO_8; have HO_7 := n0_; have HB := n1_; have HO170 := n2_; clear n0_ n1_ n2_; clear ho hb hg hat))
              go_roundg k1
              case measure => have := HK1.out; omega
              case rel => exact ⟨(y168), (wrap64 (x9_1 + 1)), (by first | rfl | (simp; done) | (simp [*]; done)), H', ⟨by have := HK1.out; omega⟩, ⟨by (with_reducible repeat (first | apply Kd.R_alloc | apply Kd.R_drewN | apply Kd.R_drew)); exact Kd.R_mono HO_7.out (fun _ hk => hk.2)⟩, ⟨by (with_reducible repeat (first | apply Kd.R_alloc | apply Kd.R_drewN | apply Kd.R_drew)); exact HO170.out⟩, ⟨by repeat (first | (with_reducible first | exact HB.out | apply below_alloc | apply pw_below_drewN | apply below_drew1) | exact HB.out)⟩⟩
            · rw [if_neg c9] at H
              exact absurd H (by simp)
          · rw [if_neg c8] at H
            have c8b0 : ((rdOf ByteArray.empty t163 x9_1).toList == ([42] : List UInt8)) = false := beq_eq_false_iff_ne.mpr c8
            have c8b1 : ((rdOf ByteArray.empty t163 x9_1).toList != ([42] : List UInt8)) = true := bne_iff_ne.mpr c8
            by_cases c12 : (rdOf ByteArray.empty t163 x9_1).toList = ([62] : List UInt8)
            · rw [if_pos c12] at H
              have c12b0 : ((rdOf ByteArray.empty t163 x9_1).toList == ([62] : List UInt8)) = true := beq_iff_eq.mpr c12
              have c12b1 : ((rdOf ByteArray.empty t163 x9_1).toList != ([62] : List UInt8)) = false := bne_eq_false_iff_eq.mpr c12
              clear c12
              have H' := Aside0.mk H
              clear H
              obtain ⟨Ao13, co13, eo13⟩ := Kd.R_slice HO_7.out
              subst eo13
              have p167 : 0 ≤ (x9_1 : Int) := of_decide_eq_true (by first | (with_reducible assumption) | assumption)
              have q167 : x9_1 < (t163.length : Int) := of_decide_eq_true (by first | (with_reducible assumption) | assumption)
              obtain ⟨ad167, e167, hx167_0⟩ := Kd.at_string (Kd.R_reads' HO_7.out).2.2 x9_1 p167 q167
              cases e167
              replace p167 := eq_true p167
              replace q167 := eq_true q167
              go_wp2
              go_loopg [8, 10] k1 (fun kq v8 v10 w' => ∃ (x8_2 : List ByteArray) (x10_2 : Int), v10 = .int .i64 x10_2 ∧ Aside0 (laws_filled.l1 kq a1 a2 t163 x8_2 x9_1 x10_2 = some r) ∧ Aside0 (kq ≤ k1) ∧ Aside0 (Kd.R Kd.string 9 w' w.heap.size (fun k_ => some k_ ≠ (v8 : Value).ownBlock) (.slice (some ad167) t163.length co13) t163) ∧ Aside0 (Kd.R Kd.string 9 w' w.heap.size (fun k_ => some k_ ≠ ((.slice (some ad167) t163.length co13) : Value).ownBlock) v8 x8_2) ∧ Aside0 (Below w.heap.size w w'))
              case atStart => exact ⟨(x8_1), (0), (by first | rfl | (simp; done) | (simp [*]; done)), H', ⟨Nat.le_refl _⟩, ⟨by (with_reducible repeat (first | apply Kd.R_alloc | apply Kd.R_drewN | apply Kd.R_drew)); exact HO_7.out⟩, ⟨by (with_reducible repeat (first | apply Kd.R_alloc | apply Kd.R_drewN | apply Kd.R_drew)); exact HO_8.out⟩, ⟨by repeat (first | (with_reducible first | exact HB.out | apply below_alloc | apply pw_below_drewN | apply below_drew1) | exact HB.out)⟩⟩
              case round =>
                clear H'
                try clear c1
                try clear p1
                try clear q1
                try clear hx1
                try clear c2
                try clear p2
                try clear c6
                try clear c6b0
                try clear p6
                try clear c7
                try clear c7b0
                try clear c8
                try clear c8b0
                try clear c8b1
                try clear c9
                try clear c12
                try clear c12b0
                try clear c12b1
                try clear hx167_0
                try clear p167
                try clear p2
                try clear q167
                obtain ⟨x8_2, x10_2, rfl, HA, HK2, HO_7, HO_8, HB⟩ := hrel
                cases gk with
                | zero => exact absurd HA.out (by simp [laws_filled.l1])
                | succ k2 =>
                  have H := HA.out
                  clear HA
                  simp only [laws_filled.l1] at H
                  by_cases c14 : x10_2 < a2
                  · rw [if_pos c14] at H
                    have c14b0 : decide (x10_2 < a2) = true := decide_eq_true c14
                    clear c14
                    by_cases c15 : x8_2.length < 8796093022208
                    · rw [if_pos c15] at H
                      have LMc15 := Aside0.mk c15
                      clear c15
                      obtain ⟨y171, hy171⟩ : ∃ y_ : List ByteArray, y_ = (x8_2 ++ [a1]) := ⟨_, rfl⟩
                      replace H : (laws_filled.l1 k2 a1 a2 t163 y171 x9_1 (wrap64 (x10_2 + 1))) = some r := by first | (rw [hy171]; with_reducible exact H) | (have H2_ := (Option.bind_some _ _).symm.trans H; rw [hy171]; with_reducible exact H2_) | (have H2_ := (Option.bind_some _ _).symm.trans H; with_reducible exact H2_) | with_reducible exact H | (rw [hy171]; exact H) | exact H
                      have Ny171 := Aside0.mk hy171
                      clear hy171
                      have H' := Aside0.mk H
                      clear H
                      go_wp2_with (first | ((with_reducible refine gate_builtin (b := .append) (xs := #[.tmp 43, .tmp 45]) rfl ?_); at_builtin; refine Kd.R_append Kd.string (w0 := w) w.heap.size rfl (.tmp 43) (.tmp 45) 31 9 (.string ⟨#[]⟩) 16 rfl Try.underlying31 info9 rfl (by decide) (by omega) u8 x8_2 a1 [.string a1] (fun k_ => some k_ ≠ (.slice (some ad167) t163.length co13 : Value).ownBlock) (fun _ => False) rfl rfl ?aP (fun _ hk => hk.elim) ?aF ?aO ?aB ?aS ?aL ?_; (case aP => exact rfl); (case aB => exact (by repeat (first | (with_reducible first | exact HB.out | apply below_alloc | apply pw_below_drewN | apply below_drew1) | exact HB.out))); (case aF => exact (fun k_ hk => Kd.fresh' (Kd.R_lt (by (with_reducible repeat (first | apply Kd.R_alloc | apply Kd.R_drewN | apply Kd.R_drew)); exact HO_7.out)) k_ hk)); (case aO => exact (by (with_reducible repeat (first | apply Kd.R_alloc | apply Kd.R_drewN | apply Kd.R_drew)); exact HO_8.out)); (case aS => exact (below_size (by repeat (first | (with_reducible first | exact HB.out | apply below_alloc | apply pw_below_drewN | apply below_drew1) | exact HB.out)))); (case aL => have := LMc15.out; omega); intro v172 w16 ho hb hg hat; rw [← Ny171.out] at ho; have n0_ := Aside0.mk (Kd.R_after (ok := (fun _ => True)) (by (with_reducible repeat (first | apply Kd.R_alloc | apply Kd.R_drewN | apply Kd.R_drew)); exact Kd.R_mono HO_7.out (fun _ hk => ⟨trivial, hk⟩)) hg hat); have n1_ := Aside0.mk (hb); have n2_ := Aside0.mk (ho); clear HO_7; clear HB; clear HO_8; have HO_7 := n0_; have HB := n1_; have HO173 := n2_; clear n0_ n1_ n2_; clear ho hb hg hat))
                      go_roundg k2
                      case measure => have := HK1.out; have := HK2.out; omega
                      case rel => exact ⟨(y171), (wrap64 (x10_2 + 1)), (by first | rfl | (simp; done) | (simp [*]; done)), H', ⟨by have := HK1.out; have := HK2.out; omega⟩, ⟨by (with_reducible repeat (first | apply Kd.R_alloc | apply Kd.R_drewN | apply Kd.R_drew)); exact Kd.R_mono HO_7.out (fun _ hk => hk.2)⟩, ⟨by (with_reducible repeat (first | apply Kd.R_alloc | apply Kd.R_drewN | apply Kd.R_drew)); exact HO173.out⟩, ⟨by repeat (first | (with_reducible first | exact HB.out | apply below_alloc | apply pw_below_drewN | apply below_drew1) | exact HB.out)⟩⟩
                    · rw [if_neg c15] at H
                      exact absurd H (by simp)
                  · rw [if_neg c14] at H
                    have c14b0 : decide (x10_2 < a2) = false := decide_eq_false c14
                    clear c14
                    have H' := Aside0.mk H
                    clear H
                    go_wp2
                    go_roundg k2
                    case measure => have := HK1.out; have := HK2.out; omega
                    case rel => exact ⟨(x8_2), (wrap64 (x9_1 + 1)), (by first | rfl | (simp; done) | (simp [*]; done)), H', ⟨by have := HK1.out; have := HK2.out; omega⟩, ⟨by (with_reducible repeat (first | apply Kd.R_alloc | apply Kd.R_drewN | apply Kd.R_drew)); exact HO_7.out⟩, ⟨by (with_reducible repeat (first | apply Kd.R_alloc | apply Kd.R_drewN | apply Kd.R_drew)); exact HO_8.out⟩, ⟨by repeat (first | (with_reducible first | exact HB.out | apply below_alloc | apply pw_below_drewN | apply below_drew1) | exact HB.out)⟩⟩
            · rw [if_neg c12] at H
              have c12b0 : ((rdOf ByteArray.empty t163 x9_1).toList == ([62] : List UInt8)) = false := beq_eq_false_iff_ne.mpr c12
              have c12b1 : ((rdOf ByteArray.empty t163 x9_1).toList != ([62] : List UInt8)) = true := bne_iff_ne.mpr c12
              by_cases c17 : x8_1.length < 8796093022208
              · rw [if_pos c17] at H
                have LMc17 := Aside0.mk c17
                clear c17
                obtain ⟨y175, hy175⟩ : ∃ y_ : List ByteArray, y_ = (x8_1 ++ [rdOf ByteArray.empty t163 x9_1]) := ⟨_, rfl⟩
                replace H : (laws_filled.l0 k1 a1 a2 t163 y175 (wrap64 (x9_1 + 1))) = some r := by first | (rw [hy175]; with_reducible exact H) | (have H2_ := (Option.bind_some _ _).symm.trans H; rw [hy175]; with_reducible exact H2_) | (have H2_ := (Option.bind_some _ _).symm.trans H; with_reducible exact H2_) | with_reducible exact H | (rw [hy175]; exact H) | exact H
                have Ny175 := Aside0.mk hy175
                clear hy175
                have H' := Aside0.mk H
                clear H
                obtain ⟨Ao18, co18, eo18⟩ := Kd.R_slice HO_7.out
                subst eo18
                have p167 : 0 ≤ (x9_1 : Int) := of_decide_eq_true (by first | (with_reducible assumption) | assumption)
                have q167 : x9_1 < (t163.length : Int) := of_decide_eq_true (by first | (with_reducible assumption) | assumption)
                obtain ⟨ad167, e167, hx167_0⟩ := Kd.at_string (Kd.R_reads' HO_7.out).2.2 x9_1 p167 q167
                cases e167
                replace p167 := eq_true p167
                replace q167 := eq_true q167
                have p174 : 0 ≤ (x9_1 : Int) := of_decide_eq_true (by first | (with_reducible assumption) | assumption)
                have q174 : x9_1 < (t163.length : Int) := of_decide_eq_true (by first | (with_reducible assumption) | assumption)
                obtain ⟨ad174, e174, hx174_0⟩ := Kd.at_string (Kd.R_reads' HO_7.out).2.2 x9_1 p174 q174
                obtain rfl : ad167 = ad174 := (by injection e174)
                replace p174 := eq_true p174
                replace q174 := eq_true q174
                go_wp2_with (first | ((with_reducible refine gate_builtin (b := .append) (xs := #[.tmp 23, .tmp 28]) rfl ?_); at_builtin; refine Kd.R_append Kd.string (w0 := w) w.heap.size rfl (.tmp 23) (.tmp 28) 31 9 (.string ⟨#[]⟩) 16 rfl Try.underlying31 info9 rfl (by decide) (by omega) u8 x8_1 (rdOf ByteArray.empty t163 x9_1) [.string (rdOf ByteArray.empty t163 x9_1)] (fun k_ => some k_ ≠ (.slice (some ad167) t163.length co18 : Value).ownBlock) (fun _ => False) rfl rfl ?aP (fun _ hk => hk.elim) ?aF ?aO ?aB ?aS ?aL ?_; (case aP => exact rfl); (case aB => exact (by repeat (first | (with_reducible first | exact HB.out | apply below_alloc | apply pw_below_drewN | apply below_drew1) | exact HB.out))); (case aF => exact (fun k_ hk => Kd.fresh' (Kd.R_lt (by (with_reducible repeat (first | apply Kd.R_alloc | apply Kd.R_drewN | apply Kd.R_drew)); exact HO_7.out)) k_ hk)); (case aO => exact (by (with_reducible repeat (first | apply Kd.R_alloc | apply Kd.R_drewN | apply Kd.R_drew)); exact HO_8.out)); (case aS => exact (below_size (by repeat (first | (with_reducible first | exact HB.out | apply below_alloc | apply pw_below_drewN | apply below_drew1) | exact HB.out)))); (case aL => have := LMc17.out; omega); intro v176 w19 ho hb hg hat; rw [← Ny175.out] at ho; have n0_ := Aside0.mk (Kd.R_after (ok := (fun _ => True)) (by (with_reducible repeat (first | apply Kd.R_alloc | apply Kd.R_drewN | apply Kd.R_drew)); exact Kd.R_mono HO_7.out (fun _ hk => ⟨trivial, hk⟩)) hg hat); have n1_ := Aside0.mk (hb); have n2_ := Aside0.mk (ho); clear HO_7; clear HB; clear HO_8; have HO_7 := n0_; have HB := n1_; have HO177 := n2_; clear n0_ n1_ n2_; clear ho hb hg hat))
                go_roundg k1
                case measure => have := HK1.out; omega
                case rel => exact ⟨(y175), (wrap64 (x9_1 + 1)), (by first | rfl | (simp; done) | (simp [*]; done)), H', ⟨by have := HK1.out; omega⟩, ⟨by (with_reducible repeat (first | apply Kd.R_alloc | apply Kd.R_drewN | apply Kd.R_drew)); exact Kd.R_mono HO_7.out (fun _ hk => hk.2)⟩, ⟨by (with_reducible repeat (first | apply Kd.R_alloc | apply Kd.R_drewN | apply Kd.R_drew)); exact HO177.out⟩, ⟨by repeat (first | (with_reducible first | exact HB.out | apply below_alloc | apply pw_below_drewN | apply below_drew1) | exact HB.out)⟩⟩
              · rw [if_neg c17] at H
                exact absurd H (by simp)
        · rw [if_neg c7] at H
          exact absurd H (by simp)
      · rw [if_neg c6] at H
        have c6b0 : decide (x9_1 < (t163.length : Int)) = false := decide_eq_false c6
        clear c6
        replace H := Option.bind_eq_some_iff.mp H
        obtain ⟨t166, A200, H⟩ := H
        replace H : (some t166) = some r := H
        have A20 := Aside0.mk A200
        clear A200
        obtain rfl := Option.some.inj H
        obtain ⟨Ao21, co21, eo21⟩ := Kd.R_slice HO_7.out
        subst eo21
        obtain ⟨Ao22, co22, eo22⟩ := Kd.R_slice HO_8.out
        subst eo22
        go_wp2_with (first | ((with_reducible refine gate_callee (f := 31) rfl ?_); refine goesL_ (some 48) rfl rfl Try.func31 (by kernel_rfl) rfl #[.slice Ao22 x8_1.length co22] rfl (by (try simp only [List.map_toArray, List.map_cons, List.map_nil]); first | done | rfl | (simp only [List.length_drop, List.length_take]; rfl)) ?_; (with_reducible refine (spec_Join.calls k1 _ _ x8_1 t166 _ ?side1 ?side2 A20.out).mono ?_); (case side1 => repeat (first | exact (Kd.R_reads' HO_8.out).2.2 | (with_reducible refine Kd.C_alloc ?_ _) | (with_reducible refine Kd.C_drewN ?_ _) | (with_reducible refine Kd.C_drew ?_))); (case side2 => exact (Kd.R_reads' HO_8.out).2.1); rintro e w' ⟨rfl, ⟨nd, rfl⟩⟩; refine ⟨_, rfl, ?_⟩))
        go_ret
        exact ⟨by first | rfl | (simp [errW_none, errW_some] <;> rfl) | (simp [*, errW_none, errW_some] <;> rfl), by repeat (first | (with_reducible first | exact HB.out | apply below_alloc | apply pw_below_drewN | apply below_drew1) | exact HB.out)⟩

/-! ### laws_fresh: function 18 -/
def laws_fresh.l0 : Nat → ByteArray → ByteArray → Int → Option (ByteArray)
  | 0, _, _, _ => none
  | k + 1, x0, x3, x4 => if x4 < (x0.size : Int) then (if x3.size + 1 ≤ 9223372036854775807 then (laws_fresh.l0 k x0 (x3 ++ (⟨#[119]⟩ : ByteArray)) (wrap64 (x4 + 1))) else (none)) else (some x3)
def laws_fresh.f (k : Nat) (a0 : ByteArray) : Option (ByteArray) := laws_fresh.l0 k a0 (⟨#[119]⟩ : ByteArray) 0
theorem laws_fresh.mono_l : ∀ k, (∀ y0 y1 y2, LeO (laws_fresh.l0 k y0 y1 y2) (laws_fresh.l0 (k + 1) y0 y1 y2))
  | 0 => fun _ _ _ r h => by simp [laws_fresh.l0] at h
  | k + 1 => by
    have ih0 := laws_fresh.mono_l k
    · intro y0 y1 y2
      unfold laws_fresh.l0
      repeat' first
      | (with_reducible exact ih0 _ _ _)
      | (with_reducible exact LeO.refl _)
      | (with_reducible exact LeO.none _)
      | (with_reducible refine LeO.ite ?_ ?_)
      | (with_reducible refine LeO.bind ?_ (fun _ => ?_))
      | exact ih0 _ _ _
      | exact LeO.none _
      | refine LeO.ite ?_ ?_
      | refine LeO.bind ?_ (fun _ => ?_)
theorem laws_fresh.mono : ∀ a0 k, LeO (laws_fresh.f k a0) (laws_fresh.f (k + 1) a0) := by
  intro a0 k
  have ih0 := laws_fresh.mono_l k
  unfold laws_fresh.f
  repeat' first
      | (with_reducible exact ih0 _ _ _)
      | (with_reducible exact LeO.refl _)
      | (with_reducible exact LeO.none _)
      | (with_reducible refine LeO.ite ?_ ?_)
      | (with_reducible refine LeO.bind ?_ (fun _ => ?_))
      | exact ih0 _ _ _
      | exact LeO.none _
      | refine LeO.ite ?_ ?_
      | refine LeO.bind ?_ (fun _ => ?_)
set_option maxHeartbeats 8000000 in
set_option maxRecDepth 100000 in
theorem laws_fresh.calls (k : Nat) (a0 : ByteArray) (r : ByteArray) (w : World) (h : laws_fresh.f k a0 = some r) :
    Calls Try.prog 18 #[.string a0] w fun e w' => e = .returned (.string r) ∧ Drawn0 w w' := by
  have H : (laws_fresh.l0 k a0 (⟨#[119]⟩ : ByteArray) 0) = some r := h
  clear h
  have H' := Aside0.mk H
  clear H
  go_enter Try.func18, Try.ntmps18
  go_wp2
  go_loopg [3, 4] k (fun kq v3 v4 w' => ∃ (x3_1 : ByteArray) (x4_1 : Int), v3 = .string x3_1 ∧ v4 = .int .i64 x4_1 ∧ Aside0 (laws_fresh.l0 kq a0 x3_1 x4_1 = some r) ∧ Aside0 (kq ≤ k) ∧ Drawn0 w w')
  case atStart => exact ⟨((⟨#[119]⟩ : ByteArray)), (0), (by first | rfl | (simp; done) | (simp [*]; done)), (by first | rfl | (simp; done) | (simp [*]; done)), H', ⟨Nat.le_refl _⟩, by repeat (first | exact Drawn0.refl _ | apply Drawn0.step)⟩
  case round =>
    clear H'
    try clear c1
    obtain ⟨x3_1, x4_1, rfl, rfl, HA, HK1, ⟨m1, rfl⟩⟩ := hrel
    cases gk with
    | zero => exact absurd HA.out (by simp [laws_fresh.l0])
    | succ k1 =>
      have H := HA.out
      clear HA
      simp only [laws_fresh.l0] at H
      by_cases c2 : x4_1 < (a0.size : Int)
      · rw [if_pos c2] at H
        have c2b0 : decide (x4_1 < (a0.size : Int)) = true := decide_eq_true c2
        clear c2
        by_cases c3 : x3_1.size + 1 ≤ 9223372036854775807
        · rw [if_pos c3] at H
          have c3b0 := eq_true c3
          have c3b1 : decide (x3_1.size + 1 ≤ 9223372036854775807) = true := decide_eq_true c3
          try have c3b2 : (9223372036854775807 < x3_1.size + 1) = False := eq_false (Nat.not_lt.2 c3)
          have H' := Aside0.mk H
          clear H
          go_wp2
          go_roundg k1
          case measure => have := HK1.out; omega
          case rel => exact ⟨(x3_1 ++ (⟨#[119]⟩ : ByteArray)), (wrap64 (x4_1 + 1)), (by first | rfl | (simp; done) | (simp [*]; done)), (by first | rfl | (simp; done) | (simp [*]; done)), H', ⟨by have := HK1.out; omega⟩, by repeat (first | exact Drawn0.refl _ | apply Drawn0.step)⟩
        · rw [if_neg c3] at H
          exact absurd H (by simp)
      · rw [if_neg c2] at H
        have c2b0 : decide (x4_1 < (a0.size : Int)) = false := decide_eq_false c2
        clear c2
        obtain rfl := Option.some.inj H
        go_wp2
        go_ret
        exact ⟨by first | rfl | (simp; done) | (simp [*]; done), by repeat (first | exact Drawn0.refl _ | apply Drawn0.step)⟩

/-! ### spec_NumTokens: function 19 -/
def spec_NumTokens.f (k : Nat) (a0 : ByteArray) : Option (Int) := if a0.toList = ([] : List UInt8) then (some 0) else ((spec_Tokens.f k a0).bind fun t178 => (some (t178.length : Int)))
theorem spec_NumTokens.mono : ∀ a0 k, LeO (spec_NumTokens.f k a0) (spec_NumTokens.f (k + 1) a0) := by
  intro a0 k
  unfold spec_NumTokens.f
  repeat' first
      | (with_reducible exact spec_Tokens.mono _ _)
      | (with_reducible exact LeO.refl _)
      | (with_reducible exact LeO.none _)
      | (with_reducible refine LeO.ite ?_ ?_)
      | (with_reducible refine LeO.bind ?_ (fun _ => ?_))
      | exact spec_Tokens.mono _ _
      | exact LeO.none _
      | refine LeO.ite ?_ ?_
      | refine LeO.bind ?_ (fun _ => ?_)
set_option maxHeartbeats 8000000 in
set_option maxRecDepth 100000 in
theorem spec_NumTokens.calls (k : Nat) (a0 : ByteArray) (r : Int) (w : World) (h : spec_NumTokens.f k a0 = some r) :
    Calls Try.prog 19 #[.string a0] w fun e w' => e = .returned (.int .i64 r) ∧ Below w.heap.size w w' := by
  have HB := Aside0.mk (Below.refl w.heap.size w)
  have H : (if a0.toList = ([] : List UInt8) then (some 0) else ((spec_Tokens.f k a0).bind fun t178 => (some (t178.length : Int)))) = some r := h
  clear h
  by_cases c2 : a0.toList = ([] : List UInt8)
  · rw [if_pos c2] at H
    have c2b0 : (a0.toList == ([] : List UInt8)) = true := beq_iff_eq.mpr c2
    have c2b1 : (a0.toList != ([] : List UInt8)) = false := bne_eq_false_iff_eq.mpr c2
    clear c2
    obtain rfl := Option.some.inj H
    go_enter Try.func19, Try.ntmps19
    go_wp2
    go_ret
    exact ⟨by first | rfl | (simp [errW_none, errW_some] <;> rfl) | (simp [*, errW_none, errW_some] <;> rfl), by repeat (first | (with_reducible first | exact HB.out | apply below_alloc | apply pw_below_drewN | apply below_drew1) | exact HB.out)⟩
  · rw [if_neg c2] at H
    have c2b0 : (a0.toList == ([] : List UInt8)) = false := beq_eq_false_iff_ne.mpr c2
    have c2b1 : (a0.toList != ([] : List UInt8)) = true := bne_iff_ne.mpr c2
    replace H := Option.bind_eq_some_iff.mp H
    obtain ⟨t178, A30, H⟩ := H
    replace H : (some (t178.length : Int)) = some r := H
    have A3 := Aside0.mk A30
    clear A30
    obtain rfl := Option.some.inj H
    go_enter Try.func19, Try.ntmps19
    go_wp2_with (first | ((with_reducible refine gate_callee (f := 26) rfl ?_); refine goesL_ (some 6) rfl rfl Try.func26 (by kernel_rfl) rfl #[.string a0] rfl (by (try simp only [List.map_toArray, List.map_cons, List.map_nil]); first | done | rfl | (simp only [List.length_drop, List.length_take]; rfl)) ?_; (with_reducible refine (spec_Tokens.calls k a0 t178 _ A3.out).mono ?_); rintro e w4 ⟨v179, rfl, ho0, hb⟩; refine ⟨_, rfl, ?_⟩; have n0_ := Aside0.mk (Kd.R_lower ho0 (below_size (by repeat (first | (with_reducible first | exact HB.out | apply below_alloc | apply pw_below_drewN | apply below_drew1) | exact HB.out)))); have n1_ := Aside0.mk (below_step (by repeat (first | (with_reducible first | exact HB.out | apply below_alloc | apply pw_below_drewN | apply below_drew1) | exact HB.out)) hb); clear HB; have HO180 := n0_; have HB := n1_; clear n0_ n1_; (try clear hb); (try clear hb2); (try clear hk); (try clear hi); (try clear ho0); obtain ⟨Ao5, co5, eo5⟩ := Kd.R_slice HO180.out; subst eo5))
    go_ret
    exact ⟨by first | rfl | (simp [errW_none, errW_some] <;> rfl) | (simp [*, errW_none, errW_some] <;> rfl), by repeat (first | (with_reducible first | exact HB.out | apply below_alloc | apply pw_below_drewN | apply below_drew1) | exact HB.out)⟩

end Go.Proofs.Ytgbdjinanflhaaa.GFnSubsetMeans
