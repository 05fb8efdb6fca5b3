/- The set is awake: laws.awakeSet; laws.FnSetRun, laws.FnSetExists. -/
import Derived.Test.YtebgaedalbdhaaaDoorSaC
namespace Go.Proofs.YtebgaedalbdhaaaDoor.Av
open Go.RowKit Go.Proofs.YtebgaedalbdhaaaDoorW.PrintWords Go.Proofs.YtebgaedalbdhaaaDoorW.PrintLast Go.Proofs.YtebgaedalbdhaaaDoorW.PrintMore
set_option linter.unusedVariables false
set_option linter.unusedSimpArgs false

theorem acts_one (w : World) : ActsR (w.alloc (.cells #[.int .i64 0, .int .u64 7] 37)) (some ⟨w.heap.size, 0, none⟩) [(0, 7)] := by
  intro _
  refine ⟨_, rfl, fun i a hi => ?_⟩
  cases i with
  | zero =>
    injection hi with hi
    subst hi
    exact ⟨cell_at (heap_alloc_new w _), cell_at (heap_alloc_new w _)⟩
  | succ i => simp at hi
theorem plays_one : (plays [] [((0, 7) : Deed)]).take 2 = [7] := by decide
set_option maxHeartbeats 4000000 in
set_option maxRecDepth 100000 in
theorem awake_calls {w : World} (hT : TabAt w) : Calls Tryd.prog 13 #[] w fun e w' => e = .returned (.bool true) ∧ Fr (fun _ => False) w w' := by
  have HT := Aside0.mk hT
  clear hT
  go_enter Tryd.func13, Tryd.ntmps13
  go_wp2_with fail
  have HF := Aside0.mk ((Fr.refl (fun _ => False) w).alloc (.cells #[.int .i64 0, .int .u64 7] 37))
  refine (first_calls (n := 2) (acts_one w) (fun a ha => ?_) (by decide) (HT.out.fr HF.out (fun h => h)) (by omega)).mono ?_
  · rcases List.mem_singleton.1 ha with rfl
    exact ⟨.inl rfl, by decide, by decide, fits_none _⟩
  rintro e w1 ⟨v, rfl, h⟩
  rw [plays_one] at h
  obtain ⟨A, c, rfl, hc, hr⟩ := ownsRow_read h.own rfl
  have HF2 := Aside0.mk (HF.out.trans h.fr (fun _ _ h => h))
  obtain ⟨ad, rfl, hcc⟩ := hr (by decide)
  have k1 : w1.cell? ad = some (.int .u64 7) := hcc 0 7 rfl
  clear h hr hcc HF
  dsimp only [List.length_cons, List.length_nil]
  go_wp2
  go_ret
  exact ⟨rfl, HF2.out⟩
/-- Answers that are read. -/
def BoolsR (w : World) (A : Option Addr) (L : List Bool) : Prop := 0 < L.length → ∃ ad, A = some ad ∧ ∀ (i : Nat) x, L[i]? = some x → w.cell? (ad.add i) = some (.bool x)
theorem BoolsR.fr {F : Nat → Prop} {w w1 : World} {A : Option Addr} {L : List Bool} (h : BoolsR w A L) (hf : Fr F w w1) (hn : ∀ ad, A = some ad → ¬ F ad.block) : BoolsR w1 A L := by
  intro h0
  obtain ⟨ad, rfl, hc⟩ := h h0
  refine ⟨ad, rfl, fun i a hi => ?_⟩
  have c1 := hc i a hi
  have hlt := World.block_lt_of_cell? w _ c1
  rw [add_block] at hlt
  exact (World.cell?_of_block (by rw [add_block]; exact hf.block ad.block hlt (hn ad rfl))).trans c1
theorem ownsRow_bools {w : World} {base : Nat} {e : TypeId} {v : Value} {n : Nat} {L : List Bool} (h : w.ownsRow base e 1 v n (L.map Value.bool)) (hn : n = L.length) : ∃ A c, v = .slice A L.length c ∧ BoolsR w A L := by
  rcases h.2 with ⟨rfl, h0⟩ | ⟨g, cap, cur, rfl, hb, hg, h1, h2, h3, h4⟩
  · have : L = [] := List.length_eq_zero_iff.1 (by omega)
    subst this
    exact ⟨none, 0, rfl, fun h => by simp at h⟩
  · subst hn
    refine ⟨some ⟨g, 0, none⟩, cap, rfl, fun h0 => ⟨_, rfl, fun i x hi => ?_⟩⟩
    have : (L.map Value.bool)[i]? = some (.bool x) := by rw [List.getElem?_map, hi]; rfl
    exact h.cells rfl i _ this
theorem Fr.below {w w' : World} (h : Fr (fun _ => False) w w') : Below w.heap.size w w' := ⟨h.os, h.tape, h.output, h.size, fun k hk => h.block k hk (fun h => h)⟩
set_option maxHeartbeats 4000000 in
set_option maxRecDepth 100000 in
theorem run_law {w : World} {A : Option Addr} {acts : List Deed} {c : Nat} (hA : ActsR w A acts) (hp : ∀ a ∈ acts, 0 ≤ a.2) (hn : acts.length ≤ maxLen) (hT : TabAt w) :
    Calls Tryd.prog 4 #[.slice A acts.length c] w fun e w' => e = .returned (.bool true) ∧ Fr (fun _ => False) w w' := by
  have HA := Aside0.mk hA
  have HP := Aside0.mk hp
  have HN := Aside0.mk hn
  have HT := Aside0.mk hT
  clear hA hp hn hT
  by_cases hbig : 2147483647 < (acts.length : Int)
  · go_enter Tryd.func4, Tryd.ntmps4
    go_wp2
    go_ret
    exact ⟨rfl, Fr.refl _ _⟩
  · go_enter Tryd.func4, Tryd.ntmps4
    go_wp2_with fail
    refine (acts_calls HA.out HN.out).mono ?_
    rintro e w' ⟨rfl, hw⟩
    subst w'
    cases hok : actsOk acts with
    | false =>
      clear hok
      go_wp2_with fail
      refine (awake_calls HT.out).mono ?_
      rintro e w' ⟨rfl, hf⟩
      have HF := Aside0.mk hf
      clear hf
      go_wp2
      go_ret
      exact ⟨rfl, HF.out⟩
    | true =>
      have HOK := Aside0.mk (actsOk_deed hok HP.out)
      have hlen : acts.length ≤ 60 := by
        unfold actsOk at hok
        rw [Bool.and_eq_true] at hok
        simpa using hok.1
      clear hok
      go_wp2_with fail
      refine (spec_calls HA.out HOK.out (by omega)).mono ?_
      rintro e w1 ⟨v4, v5, rfl, h1⟩
      unfold SIn at h1
      rw [List.take_length] at h1
      obtain ⟨A5, c5, rfl, hr5⟩ := ownsRow_bools h1.was rfl
      have HR5 := Aside0.mk hr5
      have HF1 := Aside0.mk h1.fr
      clear h1 hr5
      dsimp only
      go_wp2_with fail
      refine (setRun_calls (HA.out.fr HF1.out (fun _ _ h => h)) HOK.out (by omega)).mono ?_
      rintro e w2 ⟨v, rfl, ho, hf⟩
      obtain ⟨L, hL⟩ : ∃ L, L = wases [] acts := ⟨_, rfl⟩
      have hll : L.length = acts.length := hL ▸ wases_len acts []
      rw [← hL] at ho HR5 ⊢
      obtain ⟨A6, c6, rfl, hr6⟩ := ownsRow_bools ho hll.symm
      have HR6 := Aside0.mk hr6
      have HR5b := Aside0.mk (HR5.out.fr hf (fun _ _ h => h))
      have HF2 := Aside0.mk (HF1.out.trans hf (fun _ _ h => h))
      have hLs : L.length ≤ 60 := by omega
      clear hf hr6 HR5 HF1 ho hL hll
      dsimp only
      go_wp2
      go_loopg [6] L.length (fun k v w' => ∃ i : Nat, i ≤ L.length ∧ v = .int .i64 i ∧ Aside0 (Fr (fun _ => False) w2 w' ∧ L.length - i ≤ k))
      case atStart => exact ⟨0, Nat.zero_le _, rfl, ⟨Fr.refl _ _, Nat.le_refl _⟩⟩
      case round =>
        obtain ⟨i, hi, rfl, HU⟩ := hrel
        have HF := Aside0.mk HU.out.1
        have HK := Aside0.mk HU.out.2
        clear HU
        by_cases hlt : i < L.length
        · obtain ⟨x, hx⟩ : ∃ x, L[i]? = some x := ⟨_, List.getElem?_eq_getElem hlt⟩
          obtain ⟨ad, rfl, hca⟩ := (HR5b.out.fr HF.out (fun _ _ h => h)) (by omega)
          obtain ⟨bd, rfl, hcb⟩ := (HR6.out.fr HF.out (fun _ _ h => h)) (by omega)
          have k1 := hca i x hx
          have k2 := hcb i x hx
          have i1 : (0 : Int) ≤ (i : Int) := by omega
          have i2 : (i : Int) < (L.length : Int) := by omega
          clear hca hcb hx
          go_upto_region 12 with (fail)
          refine Rg.region_text (by kernel_rfl) (by kernel_rfl) (fun wd hwd K hK => ?_)
          have HF3 : Aside0 (Fr (fun _ => False) w2 wd) := ⟨by rw [hwd.out]; exact HF.out.drew⟩
          replace k1 : wd.cell? (ad.add i) = some (.bool x) := by rw [hwd.out]; exact k1
          replace k2 : wd.cell? (bd.add i) = some (.bool x) := by rw [hwd.out]; exact k2
          clear hwd HF
          go_wp2_with (with_reducible refine Rg.only_nil ?_)
          go_roundg (L.length - (i + 1))
          case measure => have := HK.out; omega
          case rel => exact ⟨i + 1, by omega, rfl, ⟨HF3.out, Nat.le_refl _⟩⟩
        · have he : i = L.length := by omega
          subst he
          have HF4 := Aside0.mk (HF2.out.trans HF.out (fun _ _ h => h))
          go_wp2_with fail
          refine (awake_calls (HT.out.fr HF4.out (fun h => h))).mono ?_
          rintro e w' ⟨rfl, hf⟩
          have HF5 := Aside0.mk (HF4.out.trans hf (fun _ _ h => h))
          clear hf
          go_wp2
          go_ret
          exact ⟨rfl, HF5.out⟩
end Go.Proofs.YtebgaedalbdhaaaDoor.Av
