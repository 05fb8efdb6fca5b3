/- The law FnSetFrom. -/
import Derived.Test.YtebgaedalbdhaaaDoorSaH
namespace Go.Proofs.YtebgaedalbdhaaaDoor.Av
open Go.RowKit Go.Proofs.YtebgaedalbdhaaaDoorW.PrintWords Go.Proofs.YtebgaedalbdhaaaDoorW.PrintLast Go.Proofs.YtebgaedalbdhaaaDoorW.PrintMore
set_option linter.unusedVariables false
set_option linter.unusedSimpArgs false

set_option maxHeartbeats 4000000 in
set_option maxRecDepth 100000 in
theorem from_law (mn : Int) {w : World} {A : Option Addr} {acts : List Deed} {c : Nat} {ty : TypeId} {a : Option Addr} (hq : (Lit.int .u64 mn).wf = true) (hA : ActsR w A acts) (hp : ∀ a ∈ acts, 0 ≤ a.2) (hn : acts.length ≤ maxLen) (hT : TabAt w) (hG : w.cell? ⟨0, 0, none⟩ = some (.iface ty (.pointer a))) :
    Calls Tryd.prog 8 #[.int .u64 mn, .slice A acts.length c] w fun e w' => e = .returned (.bool true) ∧ Fr (fun _ => False) w w' := by
  have HA := Aside0.mk hA
  have HP := Aside0.mk hp
  have HN := Aside0.mk hn
  have HT := Aside0.mk hT
  have HG := Aside0.mk hG
  have hq0 : 0 ≤ mn := by
    have hm : IntKind.u64.min = 0 := by decide
    simp only [Lit.wf, Bool.and_eq_true, decide_eq_true_eq, hm] at hq
    exact hq.1
  clear hA hp hn hT hq hG
  by_cases hbig : 2147483647 < (acts.length : Int)
  · go_enter Tryd.func8, Tryd.ntmps8
    go_wp2
    go_ret
    exact ⟨rfl, Fr.refl _ _⟩
  · go_enter Tryd.func8, Tryd.ntmps8
    go_wp2_with fail
    refine (acts_calls HA.out HN.out).mono ?_
    rintro e w' ⟨rfl, hw⟩
    subst w'
    cases hok : actsOk acts with
    | false =>
      clear hok
      go_wp2_with fail
      refine (awake_calls HT.out).mono ?_
      rintro e w' ⟨rfl, hf⟩
      have HF := Aside0.mk hf
      clear hf
      go_wp2
      go_ret
      exact ⟨rfl, HF.out⟩
    | true =>
      have HOK := Aside0.mk (actsOk_deed hok HP.out)
      have hlen := ok_len hok
      clear hok
      by_cases hmost : 18446744073709547520 ≤ mn
      · go_wp2_with fail
        refine (awake_calls HT.out).mono ?_
        rintro e w' ⟨rfl, hf⟩
        have HF := Aside0.mk hf
        clear hf
        go_wp2
        go_ret
        exact ⟨rfl, HF.out⟩
      · go_wp2
        go_loopg [5] acts.length (fun k v w' => ∃ i : Nat, i ≤ acts.length ∧ v = .int .i64 i ∧ w' = w ∧ Aside0 (acts.length - i ≤ k ∧ ∀ (j : Nat) a, acts[j]? = some a → j < i → mn ≤ a.2 ∧ (mn % 2048 = 0 ∨ a.2 < mn + 2048)))
        case atStart => exact ⟨0, Nat.zero_le _, rfl, rfl, ⟨Nat.le_refl _, fun _ _ _ h => by omega⟩⟩
        case round =>
          obtain ⟨i, hi, rfl, rfl, HU⟩ := hrel
          have HK := Aside0.mk HU.out.1
          have HRI := Aside0.mk HU.out.2
          clear HU
          by_cases hlt : i < acts.length
          · obtain ⟨ad, hAd, hcells⟩ := HA.out (by omega)
            subst hAd
            obtain ⟨⟨op, q⟩, ha⟩ : ∃ a, acts[i]? = some a := ⟨_, List.getElem?_eq_getElem hlt⟩
            obtain ⟨k1, k2⟩ := hcells i _ ha
            replace k2 : wr.cell? ⟨(ad.add (i * 2)).block, (ad.add (i * 2)).off + 1, none⟩ = some (.int .u64 q) := by
              rw [← k2, ← add_add']
              rfl
            have HAI := Aside0.mk ha
            have i1 : (0 : Int) ≤ (i : Int) := by omega
            have i2 : (i : Int) < (acts.length : Int) := by omega
            clear hcells ha k1
            by_cases c1 : q < mn
            · go_wp2_with fail
              refine (awake_calls HT.out).mono ?_
              rintro e w' ⟨rfl, hf⟩
              have HF := Aside0.mk hf
              clear hf
              go_wp2
              go_ret
              exact ⟨rfl, HF.out⟩
            · have hq2 : q + 2048 < 18446744073709551616 := (HOK.out _ (List.mem_of_getElem? HAI.out)).2.2.1
              have e1 : IntKind.u64.wrap (q - mn) = q - mn := by rw [IntKind.wrap_u64]; omega
              have e2 : 0 ≤ q - mn := by omega
              by_cases c2 : mn % 2048 = 0
              · have d1 : (mn % 2048 != 0) = false := by simp [c2]
                have HC2 := Aside0.mk c2
                clear c2
                go_wp2
                go_roundg (acts.length - (i + 1))
                case measure => have := HK.out; omega
                case rel => exact ⟨i + 1, by omega, rfl, rfl, ⟨Nat.le_refl _, fun j a hj hlt => by
                  rcases Nat.lt_or_ge j i with h' | h'
                  · exact HRI.out j a hj h'
                  · have : j = i := by omega
                    subst this
                    rw [HAI.out] at hj
                    injection hj with hj
                    subst hj
                    exact ⟨by omega, .inl HC2.out⟩⟩⟩
              · have d1 : (mn % 2048 != 0) = true := by simp [c2]
                clear c2
                by_cases c3 : 2048 ≤ q - mn
                · go_wp2_with fail
                  refine (awake_calls HT.out).mono ?_
                  rintro e w' ⟨rfl, hf⟩
                  have HF := Aside0.mk hf
                  clear hf
                  go_wp2
                  go_ret
                  exact ⟨rfl, HF.out⟩
                · go_wp2
                  go_roundg (acts.length - (i + 1))
                  case measure => have := HK.out; omega
                  case rel => exact ⟨i + 1, by omega, rfl, rfl, ⟨Nat.le_refl _, fun j a hj hlt => by
                    rcases Nat.lt_or_ge j i with h' | h'
                    · exact HRI.out j a hj h'
                    · have : j = i := by omega
                      subst this
                      rw [HAI.out] at hj
                      injection hj with hj
                      subst hj
                      exact ⟨by omega, .inr (by simp only; omega)⟩⟩⟩
          · have he : i = acts.length := by omega
            subst he
            go_wp2_with fail
            refine (spec_read HA.out HOK.out (by omega)).mono ?_
            rintro e w1 ⟨B, d, v5, rfl, hr, hf⟩
            have HR := Aside0.mk hr
            have HF1 := Aside0.mk hf
            clear hr hf
            have HMX := Aside0.mk (plays_max hlen)
            obtain ⟨mo, hmo, hsf⟩ : ∃ mo, (∀ a ∈ acts, okDeed mo a) ∧ ∀ id, Safe mo (told id mn) := by
              by_cases c2 : mn % 2048 = 0
              · exact ⟨none, HOK.out, fun id => .inl (fun p hp => by
                  rcases List.mem_singleton.1 hp with rfl
                  exact c2)⟩
              · refine ⟨some mn, fun a ha => ?_, fun id => .inr ⟨id, zeros, mn, rfl, rfl⟩⟩
                obtain ⟨h1, h2, h3, -⟩ := HOK.out a ha
                obtain ⟨j, hj, hja⟩ := List.mem_iff_getElem.1 ha
                have hg : acts[j]? = some a := by rw [List.getElem?_eq_getElem hj, hja]
                obtain ⟨k1, k2⟩ := HRI.out j a hg hj
                refine ⟨h1, h2, h3, fun m hm => ?_⟩
                injection hm with hm
                subst hm
                rcases k2 with k2 | k2
                · exact absurd k2 c2
                · exact ⟨k1, k2⟩
            have HMO := Aside0.mk hmo
            have HSF := Aside0.mk hsf
            clear hmo hsf
            obtain ⟨L, hL⟩ : ∃ L, L = plays [] acts := ⟨_, rfl⟩
            have HL := Aside0.mk hL
            rw [← hL] at HMX HR ⊢
            clear hL
            dsimp only
            go_wp2_with fail
            refine (setFrom_calls mo (HA.out.fr HF1.out (fun _ _ h => h)) HMO.out HSF.out (by omega) hq0 (by omega) (HT.out.fr HF1.out (fun h => h))).mono ?_
            rintro e w2 ⟨v, rfl, h⟩
            rw [← HL.out] at h
            obtain ⟨D, d2, rfl, -, hr⟩ := ownsRow_read h.own rfl
            have HF2 := Aside0.mk (HF1.out.trans h.fr (fun _ _ h => h))
            have HR2 := Aside0.mk (HR.out.fr h.fr (fun _ _ h => h))
            have HRD := Aside0.mk hr
            clear h hr HR
            dsimp only
            go_wp2_with fail
            refine (same_calls HRD.out HR2.out HMX.out HMX.out).mono ?_
            rintro e w3 ⟨rfl, hf⟩
            have HF3 := Aside0.mk (HF2.out.trans hf (fun _ _ h => h))
            have HR3 := Aside0.mk (HR2.out.fr hf (fun _ _ h => h))
            clear hf
            rw [decide_eq_true (rfl : L = L)]
            have HG3 : Aside0 (w3.cell? ⟨0, 0, none⟩ = some (.iface ty (.pointer a))) := ⟨(World.cell?_of_block (HF3.out.block 0 (World.block_lt_of_cell? _ _ HG.out) (fun h => h))).trans HG.out⟩
            go_wp2_with fail
            refine (setLate_calls (HA.out.fr HF3.out (fun _ _ h => h)) HOK.out (by omega) hq0 (by omega) HG3.out).mono ?_
            rintro e w4 ⟨rfl, hf⟩
            have HF4 := Aside0.mk (HF3.out.trans hf (fun _ _ h => h))
            clear hf
            rw [← HL.out]
            cases hLc : L with
            | nil =>
              rw [if_pos rfl]
              go_wp2_with fail
              refine (awake_calls (HT.out.fr HF4.out (fun h => h))).mono ?_
              rintro e w' ⟨rfl, hf⟩
              have HF := Aside0.mk (HF4.out.trans hf (fun _ _ h => h))
              clear hf
              go_wp2
              go_ret
              exact ⟨rfl, HF.out⟩
            | cons x L' =>
              rw [if_neg (by simp)]
              go_wp2_with fail
              refine (awake_calls (HT.out.fr HF4.out (fun h => h))).mono ?_
              rintro e w' ⟨rfl, hf⟩
              have HF := Aside0.mk (HF4.out.trans hf (fun _ _ h => h))
              clear hf
              go_wp2
              go_ret
              exact ⟨rfl, HF.out⟩
end Go.Proofs.YtebgaedalbdhaaaDoor.Av
