/- laws.FnTopicRefused, walked; its plain law. -/
import Derived.Test.YtgbdjinanflhaaaDoorMqC
import Derived.Test.YtgbdjinanflhaaaDoorPlBase
namespace Go.Proofs.YtgbdjinanflhaaaDoor.Mq
open Go.RowKit Go.Proofs.YtgbdjinanflhaaaDoorW.PrintWords Go.Proofs.YtgbdjinanflhaaaDoorW.PrintLast Go.Proofs.YtgbdjinanflhaaaDoorW.PrintMore Go.Proofs.YtgbdjinanflhaaaDoor.Pl
set_option linter.unusedVariables false
set_option linter.unusedSimpArgs false

def nm (l : List UInt8) : List Int := l.map fun b => (b.toNat : Int)
theorem nm_len (l : List UInt8) : (nm l).length = l.length := by simp [nm]
theorem conv_ba {w : World} (l : List UInt8) {m : Nat} (hm : m = l.length) (hsz : l.length ≤ 1000000) : ∃ A c w1, (convert 9 23 (.string (ba l))).run Tryd.prog w = .ok (.slice A m c) w1 ∧ Kd.C (Kd.int .u8) w1 A m (nm l) ∧ m ≤ c ∧ Below w.heap.size w w1 := by
  obtain ⟨A, c, w1, hrun, hC, hc, -, hB⟩ := Wk.conv_bytes (P := Tryd.prog) (u := .string) (w := w) (w0 := w) (N := w.heap.size) Tryd.underlying9 Tryd.underlying23 Tryd.underlying5 (ba l) (by rw [ba_size]; omega) (Nat.le_refl _) (Below.refl _ _)
  subst hm
  exact ⟨A, c, w1, hrun, hC, hc, hB⟩
/-- A byte that no topic can hold. -/
def sign (c : Int) : Prop := c = 43 ∨ c = 35 ∨ c = 32
theorem cv_sign : ∀ (rest : List Int) (i : Nat) (out : List Int) (cp : Bool), (∃ x ∈ rest, sign x) → (cp = false → out.getLast? ≠ some 46) → cv false rest i out cp = some none
  | [], _, _, _, h, _ => by obtain ⟨x, hx, -⟩ := h; cases hx
  | c :: r, i, out, cp, h, hinv => by
    have hlast : ∀ (o : List Int), True → ((true = false) → o.getLast? ≠ some 46) := fun o _ e => by cases e
    rw [cv]
    by_cases h47 : c = 47
    · subst h47
      have hr : ∃ x ∈ r, sign x := by
        obtain ⟨x, hx, hs⟩ := h
        rcases List.mem_cons.1 hx with rfl | hx
        · unfold sign at hs; omega
        · exact ⟨x, hx, hs⟩
      rw [if_pos rfl]
      by_cases hA : i = 0 ∨ out.getLast? = some 46
      · rw [if_pos hA, if_pos, cv_sign r _ _ _ hr (by simp)]
        cases cp with
        | true => exact .inl rfl
        | false => exact .inr (hA.resolve_right (hinv rfl))
      · rw [if_neg hA]
        split
        · exact cv_sign r _ _ _ hr (by simp)
        · exact cv_sign r _ _ _ hr (by simp)
    rw [if_neg h47]
    by_cases hb : badc c
    · rw [if_pos hb]
    rw [if_neg hb]
    by_cases h46 : c = 46
    · subst h46
      have hr : ∃ x ∈ r, sign x := by
        obtain ⟨x, hx, hs⟩ := h
        rcases List.mem_cons.1 hx with rfl | hx
        · unfold sign at hs; omega
        · exact ⟨x, hx, hs⟩
      rw [if_pos rfl]
      exact cv_sign r _ _ _ hr (by simp)
    rw [if_neg h46]
    by_cases h43 : c = 43 ∨ c = 35
    · rw [if_pos h43, if_pos rfl]
    rw [if_neg h43]
    have hr : ∃ x ∈ r, sign x := by
      obtain ⟨x, hx, hs⟩ := h
      rcases List.mem_cons.1 hx with rfl | hx
      · unfold sign at hs; unfold badc at hb; omega
      · exact ⟨x, hx, hs⟩
    exact cv_sign r _ _ _ hr (fun _ => by rw [List.getLast?_append]; simp; exact h46)
def LawPost (w : World) (e : Ending) (w' : World) : Prop := e = .returned (.bool true) ∧ Below w.heap.size w w'
set_option maxHeartbeats 8000000 in
set_option maxRecDepth 100000 in
theorem refused_law {w : World} (l : List UInt8) (hG : GlM w) : Calls Tryd.prog 3 #[.string (ba l)] w (LawPost w) := by
  have HG : Aside0 (∀ W, Below w.heap.size w W → GlM W) := ⟨fun W hb => hG.below hb⟩
  have hsz : (ba l).size = l.length := ba_size l
  clear hG
  by_cases h1 : (2147483647 : Int) < (l.length : Int)
  · go_enter Tryd.func3, Tryd.ntmps3
    go_wp2
    go_ret
    exact ⟨rfl, Below.refl _ _⟩
  by_cases h2 : (100 : Int) < (l.length : Int)
  · go_enter Tryd.func3, Tryd.ntmps3
    go_wp2_with fail
    refine (awake_calls (HG.out w (Below.refl _ _))).mono ?_
    rintro e w1 ⟨rfl, hb⟩
    have HB := Aside0.mk hb
    clear hb
    go_wp2
    go_ret
    exact ⟨rfl, HB.out⟩
  obtain ⟨n, hn⟩ : ∃ n, n = l.length := ⟨_, rfl⟩
  rw [← hn] at h1 h2 hsz
  have HN := Aside0.mk hn
  clear hn
  go_enter Tryd.func3, Tryd.ntmps3
  go_wp2
  go_loop [3] (fun v3 => ∃ i : Nat, i ≤ n ∧ v3 = .int .i64 i) (fun v3 => n - (intOf v3).toNat)
  case atStart => exact ⟨0, by omega, rfl⟩
  case round =>
    obtain ⟨i, hi, rfl⟩ := hrel
    have i1 : (0 : Int) ≤ (i : Int) := by omega
    by_cases hlt : i < n
    · have i2 : (i : Int) < (n : Int) := by omega
      have hlt2 : i < (ba l).size := by omega
      obtain ⟨x, hx⟩ : ∃ x : Int, x = (((ba l)[i].toNat : Nat) : Int) := ⟨_, rfl⟩
      by_cases hs : sign x
      · have hmem : ∃ y ∈ nm l, sign y := ⟨x, by
          rw [hx]
          have hll : i < l.length := by have := HN.out; omega
          exact List.mem_map.2 ⟨l[i], List.getElem_mem hll, rfl⟩, hs⟩
        have hcv := cv_sign (nm l) 0 [] false hmem (fun _ => by simp)
        obtain ⟨A, c, w1, hrun, hC, hc, hb⟩ := conv_ba (w := w) l HN.out (by have := HN.out; omega)
        obtain ⟨t0, u0, hg⟩ := (HG.out w1 hb).var
        have H := Aside0.mk (topic_calls hC hc (by omega) hg hcv)
        have HB := Aside0.mk hb
        clear hmem hcv hC hc hb hg
        have hs2 : x = 43 ∨ (¬ x = 43 ∧ x = 35) ∨ (¬ x = 43 ∧ ¬ x = 35 ∧ x = 32) := by unfold sign at hs; omega
        rw [hx] at hs2
        clear hx hs
        rcases hs2 with q1 | ⟨q1, q2⟩ | ⟨q1, q2, q3⟩
        · go_wp2_with fail
          refine H.out.mono ?_
          rintro e w2 ⟨hb, rfl⟩
          have HB2 := Aside0.mk (below_step HB.out hb)
          clear hb
          go_wp2_with fail
          refine (awake_calls (HG.out w2 HB2.out)).mono ?_
          rintro e w3 ⟨rfl, hb⟩
          have HB3 := Aside0.mk (below_step HB2.out hb)
          clear hb
          go_wp2
          go_ret
          exact ⟨rfl, HB3.out⟩
        · have p1 : (((ba l)[i].toNat : Int) == 43) = false := beq_eq_false_iff_ne.2 q1
          go_wp2_with fail
          refine H.out.mono ?_
          rintro e w2 ⟨hb, rfl⟩
          have HB2 := Aside0.mk (below_step HB.out hb)
          clear hb
          go_wp2_with fail
          refine (awake_calls (HG.out w2 HB2.out)).mono ?_
          rintro e w3 ⟨rfl, hb⟩
          have HB3 := Aside0.mk (below_step HB2.out hb)
          clear hb
          go_wp2
          go_ret
          exact ⟨rfl, HB3.out⟩
        · have p1 : (((ba l)[i].toNat : Int) == 43) = false := beq_eq_false_iff_ne.2 q1
          have p2 : (((ba l)[i].toNat : Int) == 35) = false := beq_eq_false_iff_ne.2 q2
          go_wp2_with fail
          refine H.out.mono ?_
          rintro e w2 ⟨hb, rfl⟩
          have HB2 := Aside0.mk (below_step HB.out hb)
          clear hb
          go_wp2_with fail
          refine (awake_calls (HG.out w2 HB2.out)).mono ?_
          rintro e w3 ⟨rfl, hb⟩
          have HB3 := Aside0.mk (below_step HB2.out hb)
          clear hb
          go_wp2
          go_ret
          exact ⟨rfl, HB3.out⟩
      · rw [hx] at hs
        unfold sign at hs
        have p1 : (((ba l)[i].toNat : Int) == 43) = false := beq_eq_false_iff_ne.2 (fun e => hs (.inl e))
        have p2 : (((ba l)[i].toNat : Int) == 35) = false := beq_eq_false_iff_ne.2 (fun e => hs (.inr (.inl e)))
        have p3 : (((ba l)[i].toNat : Int) == 32) = false := beq_eq_false_iff_ne.2 (fun e => hs (.inr (.inr e)))
        have q1 : ¬ ((ba l)[i].toNat : Int) = 43 := fun e => hs (.inl e)
        have q2 : ¬ ((ba l)[i].toNat : Int) = 35 := fun e => hs (.inr (.inl e))
        clear hx hs
        go_wp2
        go_round
        case rel => exact ⟨i + 1, by omega, by go_num⟩
        case measure => simp [intOf]; omega
    · have i2 : ¬ (i : Int) < (n : Int) := by omega
      go_wp2_with fail
      refine (awake_calls (HG.out w (Below.refl _ _))).mono ?_
      rintro e w1 ⟨rfl, hb⟩
      have HB := Aside0.mk hb
      clear hb
      go_wp2
      go_ret
      exact ⟨rfl, HB.out⟩
end Go.Proofs.YtgbdjinanflhaaaDoor.Mq
