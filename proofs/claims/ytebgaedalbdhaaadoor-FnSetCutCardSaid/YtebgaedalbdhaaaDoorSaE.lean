/- The laws FnSetExists, FnSetEmpty. -/
import Derived.Test.YtebgaedalbdhaaaDoorSaD
namespace Go.Proofs.YtebgaedalbdhaaaDoor.Av
open Go.RowKit Go.Proofs.YtebgaedalbdhaaaDoorW.PrintWords Go.Proofs.YtebgaedalbdhaaaDoorW.PrintLast Go.Proofs.YtebgaedalbdhaaaDoorW.PrintMore
set_option linter.unusedVariables false
set_option linter.unusedSimpArgs false

theorem ok_len {acts : List Deed} (h : actsOk acts = true) : acts.length ≤ 60 := by
  unfold actsOk at h
  rw [Bool.and_eq_true] at h
  simpa using h.1
theorem plays_max {acts : List Deed} (h : acts.length ≤ 60) : (plays [] acts).length ≤ maxLen := by
  have := plays_len acts []
  simp at this
  unfold maxLen
  omega
/-- What spec.Set answers, read. -/
def SpecPost (w : World) (acts : List Deed) (e : Ending) (w' : World) : Prop :=
  ∃ A c v5, e = .returned (.tuple #[.slice A (plays [] acts).length c, v5]) ∧ NumsR w' A (plays [] acts) ∧ Fr (fun _ => False) w w'
theorem spec_read {w : World} {A : Option Addr} {acts : List Deed} {c : Nat} (hA : ActsR w A acts) (hok : ∀ a ∈ acts, okDeed none a) (hn : acts.length ≤ 1000) : Calls Tryd.prog 14 #[.slice A acts.length c] w (SpecPost w acts) := by
  refine (spec_calls hA hok hn).mono ?_
  rintro e w' ⟨v4, v5, rfl, h⟩
  unfold SIn at h
  rw [List.take_length] at h
  obtain ⟨B, d, rfl, -, hr⟩ := ownsRow_read h.nums rfl
  exact ⟨B, d, v5, rfl, hr, h.fr⟩
set_option maxHeartbeats 4000000 in
set_option maxRecDepth 100000 in
theorem exists_law (q : Int) {w : World} {A : Option Addr} {acts : List Deed} {c : Nat} (hA : ActsR w A acts) (hp : ∀ a ∈ acts, 0 ≤ a.2) (hn : acts.length ≤ maxLen) (hq : (Lit.int .u64 q).wf = true) (hT : TabAt w) :
    Calls Tryd.prog 3 #[.slice A acts.length c, .int .u64 q] w fun e w' => e = .returned (.bool true) ∧ Fr (fun _ => False) w w' := by
  have HA := Aside0.mk hA
  have HP := Aside0.mk hp
  have HN := Aside0.mk hn
  have HT := Aside0.mk hT
  have hq0 : 0 ≤ q := by
    have hm : IntKind.u64.min = 0 := by decide
    simp only [Lit.wf, Bool.and_eq_true, decide_eq_true_eq, hm] at hq
    exact hq.1
  clear hA hp hn hT hq
  by_cases hbig : 2147483647 < (acts.length : Int)
  · go_enter Tryd.func3, Tryd.ntmps3
    go_wp2
    go_ret
    exact ⟨rfl, Fr.refl _ _⟩
  · go_enter Tryd.func3, Tryd.ntmps3
    go_wp2_with fail
    refine (acts_calls HA.out HN.out).mono ?_
    rintro e w' ⟨rfl, hw⟩
    subst w'
    cases hok : actsOk acts with
    | false =>
      clear hok
      go_wp2_with fail
      refine (awake_calls HT.out).mono ?_
      rintro e w' ⟨rfl, hf⟩
      have HF := Aside0.mk hf
      clear hf
      go_wp2
      go_ret
      exact ⟨rfl, HF.out⟩
    | true =>
      have HOK := Aside0.mk (actsOk_deed hok HP.out)
      have hlen := ok_len hok
      clear hok
      by_cases hmost : 18446744073709549568 ≤ q
      · go_wp2_with fail
        refine (awake_calls HT.out).mono ?_
        rintro e w' ⟨rfl, hf⟩
        have HF := Aside0.mk hf
        clear hf
        go_wp2
        go_ret
        exact ⟨rfl, HF.out⟩
      · go_wp2_with fail
        refine (spec_read HA.out HOK.out (by omega)).mono ?_
        rintro e w1 ⟨B, d, v5, rfl, hr, hf⟩
        have HR := Aside0.mk hr
        have HF1 := Aside0.mk hf
        clear hr hf
        have HS : Aside0 ((plays [] acts).Pairwise (· < ·)) := ⟨plays_sorted _ _ .nil⟩
        have HM := Aside0.mk (plays_max hlen)
        obtain ⟨L, hL⟩ : ∃ L, L = plays [] acts := ⟨_, rfl⟩
        have HL := Aside0.mk hL
        rw [← hL] at HS HM HR ⊢
        clear hL
        dsimp only
        go_wp2_with fail
        refine (setExists_calls q hq0 (by omega) (HA.out.fr HF1.out (fun _ _ h => h)) HOK.out (by omega)).mono ?_
        rintro e w2 ⟨rfl, hf⟩
        have HF2 := Aside0.mk (HF1.out.trans hf (fun _ _ h => h))
        have HR2 := Aside0.mk (HR.out.fr hf (fun _ _ h => h))
        clear hf
        rw [← HL.out]
        go_wp2_with fail
        refine (in_calls q HR2.out HM.out HS.out).mono ?_
        rintro e w3 ⟨rfl, hf⟩
        have HF3 := Aside0.mk (HF2.out.trans hf (fun _ _ h => h))
        clear hf
        generalize decide (q ∈ L) = b
        go_wp2_with fail
        refine (awake_calls (HT.out.fr HF3.out (fun h => h))).mono ?_
        rintro e w' ⟨rfl, hf⟩
        have HF := Aside0.mk (HF3.out.trans hf (fun _ _ h => h))
        clear hf
        go_wp2
        go_ret
        exact ⟨rfl, HF.out⟩
set_option maxHeartbeats 4000000 in
set_option maxRecDepth 100000 in
theorem setEmpty_calls {w : World} {A B : Option Addr} {acts more : List Deed} {c d : Nat} (hA : ActsR w A acts) (hB : ActsR w B more) (hoka : ∀ a ∈ acts, okDeed none a) (hokb : ∀ a ∈ more, okDeed none a) (hn : acts.length ≤ 1000) (hm : more.length ≤ 1000) (hT : TabAt w) :
    Calls Tryd.prog 19 #[.slice A acts.length c, .slice B more.length d] w fun e w' => ∃ v, e = .returned v ∧ NumRow w w' v (plays [] more) := by
  have HA := Aside0.mk hA
  have HB := Aside0.mk hB
  have HOKA := Aside0.mk hoka
  have HOKB := Aside0.mk hokb
  have HT := Aside0.mk hT
  clear hA hB hoka hokb hT
  go_enter Tryd.func19, Tryd.ntmps19
  go_wp2_with fail
  refine (made_calls HA.out HOKA.out hn).mono ?_
  rintro e w1 ⟨g, t, sz, nd, rfl, h⟩
  have H := Aside0.mk h
  clear h
  go_wp2_with fail
  refine (sempty H.out.is.set).mono ?_
  rintro e w2 ⟨rfl, hs, hf2, hsz⟩
  have HS2 := Aside0.mk (setIs_blank hs)
  have HF2 : Aside0 (Fr (fun _ => False) w w2) := ⟨H.out.fr.trans hf2 (fun k hk e => by have := H.out.low g (.inl rfl); omega)⟩
  clear hs hf2 hsz
  have HSEP : Aside0 (0 < more.length → ∀ ad, B = some ad → ad.block ≠ g ∧ ad.block ∉ T.nil.ids) := ⟨fun h0 ad e => ⟨fun hb => by
    obtain ⟨ad2, e2, hc⟩ := HB.out h0
    rw [e] at e2
    injection e2 with e2
    subst e2
    have := World.block_lt_of_cell? w _ (hc 0 _ (List.getElem?_eq_getElem h0)).1
    rw [add_block] at this
    have := H.out.low g (.inl rfl)
    omega, fun h => by cases h⟩⟩
  go_wp2_with fail
  refine (change_calls none [] 0 HS2.out rep_nil (Int.le_refl _) (.inl (fun p hp => by cases hp)) (HB.out.fr HF2.out (fun _ _ h => h)) HSEP.out HOKB.out hm (by omega) (Nat.zero_le _)).mono ?_
  rintro e w3 ⟨v, rfl, t2, sz2, nd2, hc⟩
  unfold CIn at hc
  rw [List.take_length, Nat.zero_add] at hc
  have HC := Aside0.mk hc
  have HF3 : Aside0 (Fr (fun _ => False) w w3) := ⟨HF2.out.trans hc.fr (fun k hk e => by
    rcases e with e | e
    · have := H.out.low g (.inl rfl); omega
    · cases e)⟩
  clear hc
  go_wp2_with fail
  refine (all_calls HC.out.is (HT.out.fr HF3.out (fun h => h)) HC.out.rep.nums (by have := plays_len more []; simp at this; omega)).mono ?_
  rintro e w4 ⟨v4, rfl, h4⟩
  have H4 := Aside0.mk h4
  clear h4
  go_wp2
  go_ret
  exact ⟨_, rfl, ownsRow_low H4.out.own HF3.out.size, HF3.out.trans H4.out.fr (fun _ _ h => h)⟩
set_option maxHeartbeats 4000000 in
set_option maxRecDepth 100000 in
theorem empty_law {w : World} {A B : Option Addr} {acts more : List Deed} {c d : Nat} (hA : ActsR w A acts) (hp : ∀ a ∈ acts, 0 ≤ a.2) (hn : acts.length ≤ maxLen) (hB : ActsR w B more) (hp2 : ∀ a ∈ more, 0 ≤ a.2) (hm : more.length ≤ maxLen) (hT : TabAt w) :
    Calls Tryd.prog 5 #[.slice A acts.length c, .slice B more.length d] w fun e w' => e = .returned (.bool true) ∧ Fr (fun _ => False) w w' := by
  have HA := Aside0.mk hA
  have HP := Aside0.mk hp
  have HN := Aside0.mk hn
  have HB := Aside0.mk hB
  have HP2 := Aside0.mk hp2
  have HM := Aside0.mk hm
  have HT := Aside0.mk hT
  clear hA hp hn hB hp2 hm hT
  by_cases hbig : 2147483647 < (acts.length : Int)
  · go_enter Tryd.func5, Tryd.ntmps5
    go_wp2
    go_ret
    exact ⟨rfl, Fr.refl _ _⟩
  · by_cases hbig2 : 2147483647 < (more.length : Int)
    · go_enter Tryd.func5, Tryd.ntmps5
      go_wp2
      go_ret
      exact ⟨rfl, Fr.refl _ _⟩
    · go_enter Tryd.func5, Tryd.ntmps5
      go_wp2_with fail
      refine (acts_calls HA.out HN.out).mono ?_
      rintro e w' ⟨rfl, hw⟩
      subst w'
      cases hok : actsOk acts with
      | false =>
        clear hok
        go_wp2_with fail
        refine (awake_calls HT.out).mono ?_
        rintro e w' ⟨rfl, hf⟩
        have HF := Aside0.mk hf
        clear hf
        go_wp2
        go_ret
        exact ⟨rfl, HF.out⟩
      | true =>
        have HOK := Aside0.mk (actsOk_deed hok HP.out)
        have hlen := ok_len hok
        clear hok
        go_wp2_with fail
        refine (acts_calls HB.out HM.out).mono ?_
        rintro e w' ⟨rfl, hw⟩
        subst w'
        cases hok2 : actsOk more with
        | false =>
          clear hok2
          go_wp2_with fail
          refine (awake_calls HT.out).mono ?_
          rintro e w' ⟨rfl, hf⟩
          have HF := Aside0.mk hf
          clear hf
          go_wp2
          go_ret
          exact ⟨rfl, HF.out⟩
        | true =>
          have HOK2 := Aside0.mk (actsOk_deed hok2 HP2.out)
          have hlen2 := ok_len hok2
          clear hok2
          go_wp2_with fail
          refine (spec_read HB.out HOK2.out (by omega)).mono ?_
          rintro e w1 ⟨C, d', v5, rfl, hr, hf⟩
          have HR := Aside0.mk hr
          have HF1 := Aside0.mk hf
          clear hr hf
          have HMX := Aside0.mk (plays_max hlen2)
          obtain ⟨L, hL⟩ : ∃ L, L = plays [] more := ⟨_, rfl⟩
          have HL := Aside0.mk hL
          rw [← hL] at HMX HR ⊢
          clear hL
          dsimp only
          go_wp2_with fail
          refine (setEmpty_calls (HA.out.fr HF1.out (fun _ _ h => h)) (HB.out.fr HF1.out (fun _ _ h => h)) HOK.out HOK2.out (by omega) (by omega) (HT.out.fr HF1.out (fun h => h))).mono ?_
          rintro e w2 ⟨v, rfl, h⟩
          rw [← HL.out] at h
          obtain ⟨D, d2, rfl, -, hr⟩ := ownsRow_read h.own rfl
          have HF2 := Aside0.mk (HF1.out.trans h.fr (fun _ _ h => h))
          have HR2 := Aside0.mk (HR.out.fr h.fr (fun _ _ h => h))
          have HRD := Aside0.mk hr
          clear h hr HR
          go_wp2_with fail
          refine (same_calls HRD.out HR2.out HMX.out HMX.out).mono ?_
          rintro e w3 ⟨rfl, hf⟩
          have HF3 := Aside0.mk (HF2.out.trans hf (fun _ _ h => h))
          clear hf
          rw [decide_eq_true (rfl : L = L)]
          go_wp2_with fail
          refine (awake_calls (HT.out.fr HF3.out (fun h => h))).mono ?_
          rintro e w' ⟨rfl, hf⟩
          have HF := Aside0.mk (HF3.out.trans hf (fun _ _ h => h))
          clear hf
          go_wp2
          go_ret
          exact ⟨rfl, HF.out⟩
end Go.Proofs.YtebgaedalbdhaaaDoor.Av
