/- The law FnSetSpanMeans. -/
import Derived.Test.YtebgaedalbdhaaaDoorSaM
namespace Go.Proofs.YtebgaedalbdhaaaDoor.Av
open Go.RowKit Go.Proofs.YtebgaedalbdhaaaDoorW.PrintWords Go.Proofs.YtebgaedalbdhaaaDoorW.PrintLast Go.Proofs.YtebgaedalbdhaaaDoorW.PrintMore
set_option linter.unusedVariables false
set_option linter.unusedSimpArgs false

theorem many_len (q : Int) : ∀ (k : Nat) (L : List Int), (∀ i : Nat, i < k → q + (i : Int) ∈ L) → k ≤ L.length
  | 0, _, _ => Nat.zero_le _
  | k + 1, L, h => by
    have hm := h k (by omega)
    have h1 := many_len q k (L.erase (q + (k : Int))) (fun i hi => (List.mem_erase_of_ne (by omega)).2 (h i (by omega)))
    rw [List.length_erase_of_mem hm] at h1
    have := List.length_pos_of_mem hm
    omega
theorem Span.len {L : List Int} {n E : Int} (h : Span L n E) : E - n + 1 ≤ L.length := by
  have := many_len n (E - n + 1).toNat L (fun i hi => h.2.1 _ (by omega) (by have := h.1; omega))
  have := h.1
  omega
set_option maxHeartbeats 4000000 in
set_option maxRecDepth 100000 in
theorem spanMeans_law (q : Int) {w : World} {A : Option Addr} {acts : List Deed} {c : Nat} (hA : ActsR w A acts) (hp : ∀ a ∈ acts, 0 ≤ a.2) (hn : acts.length ≤ maxLen) (hq : (Lit.int .u64 q).wf = true) (hT : TabAt w) :
    Calls Tryd.prog 10 #[.slice A acts.length c, .int .u64 q] w fun e w' => e = .returned (.bool true) ∧ Fr (fun _ => False) w w' := by
  have HA := Aside0.mk hA
  have HP := Aside0.mk hp
  have HN := Aside0.mk hn
  have HT := Aside0.mk hT
  have hq0 : 0 ≤ q := by
    have hm : IntKind.u64.min = 0 := by decide
    simp only [Lit.wf, Bool.and_eq_true, decide_eq_true_eq, hm] at hq
    exact hq.1
  clear hA hp hn hT hq
  by_cases hbig : 2147483647 < (acts.length : Int)
  · go_enter Tryd.func10, Tryd.ntmps10
    go_wp2
    go_ret
    exact ⟨rfl, Fr.refl _ _⟩
  · go_enter Tryd.func10, Tryd.ntmps10
    go_wp2_with fail
    refine (acts_calls HA.out HN.out).mono ?_
    rintro e w' ⟨rfl, hw⟩
    subst w'
    cases hok : actsOk acts with
    | false =>
      clear hok
      go_wp2_with fail
      refine (awake_calls HT.out).mono ?_
      rintro e w' ⟨rfl, hf⟩
      have HF := Aside0.mk hf
      clear hf
      go_wp2
      go_ret
      exact ⟨rfl, HF.out⟩
    | true =>
      have HOK := Aside0.mk (actsOk_deed hok HP.out)
      have hlen := ok_len hok
      clear hok
      by_cases hmost : 18446744073709549568 ≤ q
      · go_wp2_with fail
        refine (awake_calls HT.out).mono ?_
        rintro e w' ⟨rfl, hf⟩
        have HF := Aside0.mk hf
        clear hf
        go_wp2
        go_ret
        exact ⟨rfl, HF.out⟩
      · go_wp2_with fail
        refine (setSpan_calls q hq0 (by omega) HA.out HOK.out (by omega) HT.out).mono ?_
        rintro e w1 ⟨v, rfl, hs, hf⟩
        have HF1 := Aside0.mk hf
        have HBD := Aside0.mk (deeds_bound HOK.out)
        have HLN : Aside0 ((plays [] acts).length ≤ 60) := ⟨by have := plays_len acts []; simp at this; omega⟩
        clear hf
        obtain ⟨L, hL⟩ : ∃ L, L = plays [] acts := ⟨_, rfl⟩
        have HL := Aside0.mk hL
        rw [← hL] at HBD hs HLN
        clear hL
        rcases hs with ⟨hno, e⟩ | ⟨E, hE, e⟩
        · subst e
          have HNO := Aside0.mk hno
          clear hno
          go_wp2_with fail
          refine (setExists_calls q hq0 (by omega) (HA.out.fr HF1.out (fun _ _ h => h)) HOK.out (by omega)).mono ?_
          rintro e w2 ⟨rfl, hf⟩
          have HF2 := Aside0.mk (HF1.out.trans hf (fun _ _ h => h))
          clear hf
          rw [← HL.out, decide_eq_false HNO.out]
          go_wp2_with fail
          refine (awake_calls (HT.out.fr HF2.out (fun h => h))).mono ?_
          rintro e w' ⟨rfl, hf⟩
          have HF := Aside0.mk (HF2.out.trans hf (fun _ _ h => h))
          clear hf
          go_wp2
          go_ret
          exact ⟨rfl, HF.out⟩
        · subst e
          have HE := Aside0.mk hE
          have HQ : Aside0 (q ∈ L) := ⟨hE.2.1 q (Int.le_refl _) hE.1⟩
          have HEM : Aside0 (E ∈ L) := ⟨hE.2.1 E hE.1 (Int.le_refl _)⟩
          have y0 : q ≤ E := hE.1
          have y1 : E - q ≤ 100 := by have := hE.len; have := HLN.out; omega
          have y2 : E + 2048 < 18446744073709551616 := (HBD.out E HEM.out).2
          clear hE
          go_wp2_with fail
          refine (setExists_calls q hq0 (by omega) (HA.out.fr HF1.out (fun _ _ h => h)) HOK.out (by omega)).mono ?_
          rintro e w2 ⟨rfl, hf⟩
          have HF2 := Aside0.mk (HF1.out.trans hf (fun _ _ h => h))
          clear hf
          rw [← HL.out, decide_eq_true HQ.out]
          go_wp2
          go_loopg [7] (E - q).toNat (fun k v w' => ∃ i : Int, q ≤ i ∧ i ≤ E ∧ v = .int .u64 i ∧ Aside0 ((E - i).toNat ≤ k ∧ Fr (fun _ => False) w w'))
          case atStart => exact ⟨q, Int.le_refl _, y0, rfl, ⟨Nat.le_refl _, HF2.out⟩⟩
          case round =>
            obtain ⟨i, hi0, hi1, rfl, HU⟩ := hrel
            have HK := Aside0.mk HU.out.1
            have HFI := Aside0.mk HU.out.2
            clear HU HF1 HF2
            by_cases hlt : i < E
            · have HI : Aside0 (i ∈ L) := ⟨HE.out.2.1 i hi0 hi1⟩
              go_wp2_with fail
              refine (setExists_calls i (by omega) (by omega) (HA.out.fr HFI.out (fun _ _ h => h)) HOK.out (by omega)).mono ?_
              rintro e w3 ⟨rfl, hf⟩
              have HF3 := Aside0.mk (HFI.out.trans hf (fun _ _ h => h))
              clear hf
              rw [← HL.out, decide_eq_true HI.out]
              go_wp2
              go_roundg (E - (i + 1)).toNat
              case measure => have := HK.out; omega
              case rel => exact ⟨i + 1, by omega, by omega, rfl, ⟨Nat.le_refl _, HF3.out⟩⟩
            · go_wp2_with fail
              refine (setExists_calls E (by omega) (by omega) (HA.out.fr HFI.out (fun _ _ h => h)) HOK.out (by omega)).mono ?_
              rintro e w3 ⟨rfl, hf⟩
              have HF3 := Aside0.mk (HFI.out.trans hf (fun _ _ h => h))
              clear hf
              rw [← HL.out, decide_eq_true HEM.out]
              go_wp2_with fail
              refine (setExists_wide (E + 1) (by omega) (by omega) (HA.out.fr HF3.out (fun _ _ h => h)) HOK.out (by omega)).mono ?_
              rintro e w4 ⟨rfl, hf⟩
              have HF4 := Aside0.mk (HF3.out.trans hf (fun _ _ h => h))
              clear hf
              rw [← HL.out, decide_eq_false HE.out.2.2]
              go_wp2_with fail
              refine (awake_calls (HT.out.fr HF4.out (fun h => h))).mono ?_
              rintro e w' ⟨rfl, hf⟩
              have HF := Aside0.mk (HF4.out.trans hf (fun _ _ h => h))
              clear hf
              go_wp2
              go_ret
              exact ⟨rfl, HF.out⟩
end Go.Proofs.YtebgaedalbdhaaaDoor.Av
