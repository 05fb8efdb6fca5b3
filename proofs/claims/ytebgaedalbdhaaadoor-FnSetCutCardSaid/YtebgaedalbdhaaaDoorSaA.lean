/- Deeds that are in order: laws.acts. -/
import Derived.Test.YtebgaedalbdhaaaDoorAvW
namespace Go.Proofs.YtebgaedalbdhaaaDoor.Av
open Go.RowKit Go.Proofs.YtebgaedalbdhaaaDoorW.PrintWords Go.Proofs.YtebgaedalbdhaaaDoorW.PrintLast Go.Proofs.YtebgaedalbdhaaaDoorW.PrintMore
set_option linter.unusedVariables false
set_option linter.unusedSimpArgs false

def okD (a : Deed) : Bool := decide (0 ≤ a.1) && decide (a.1 ≤ 1) && decide (a.2 < 18446744073709549568)
def actsOk (l : List Deed) : Bool := decide (l.length ≤ 60) && l.all okD
theorem okD_iff {a : Deed} : okD a = true ↔ 0 ≤ a.1 ∧ a.1 ≤ 1 ∧ a.2 < 18446744073709549568 := by
  unfold okD; simp [and_assoc]
theorem actsOk_deed {l : List Deed} (h : actsOk l = true) (hp : ∀ a ∈ l, 0 ≤ a.2) : ∀ a ∈ l, okDeed none a := by
  unfold actsOk at h
  rw [Bool.and_eq_true, List.all_eq_true] at h
  intro a ha
  obtain ⟨h1, h2, h3⟩ := okD_iff.1 (h.2 a ha)
  have := hp a ha
  exact ⟨by omega, this, by omega, fits_none _⟩
theorem all_step {l : List Deed} {i : Nat} {a : Deed} (h : l[i]? = some a) : (l.drop i).all okD = (okD a && (l.drop (i + 1)).all okD) := by
  have hlt := (List.getElem?_eq_some_iff.1 h).1
  rw [List.drop_eq_getElem_cons hlt, (List.getElem?_eq_some_iff.1 h).2]
  rfl
set_option maxHeartbeats 4000000 in
set_option maxRecDepth 100000 in
theorem acts_calls {w : World} {A : Option Addr} {acts : List Deed} {c : Nat} (hA : ActsR w A acts) (hn : acts.length ≤ maxLen) :
    Calls Tryd.prog 12 #[.slice A acts.length c] w fun e w' => e = .returned (.bool (actsOk acts)) ∧ w = w' := by
  have HA := Aside0.mk hA
  clear hA
  unfold maxLen at hn
  by_cases h60 : acts.length ≤ 60
  · have hlen : (acts.length : Int) ≤ 60 := by omega
    have HR : Aside0 (actsOk acts = (acts.drop 0).all okD) := ⟨by unfold actsOk; rw [decide_eq_true h60]; rfl⟩
    obtain ⟨R, hR⟩ : ∃ R, R = actsOk acts := ⟨_, rfl⟩
    rw [← hR] at HR ⊢
    clear hR h60
    go_enter Tryd.func12, Tryd.ntmps12
    go_wp2
    go_loopg [3] acts.length (fun k v w' => ∃ i : Nat, i ≤ acts.length ∧ v = .int .i64 i ∧ w' = w ∧ Aside0 (acts.length - i ≤ k ∧ R = (acts.drop i).all okD))
    case atStart => exact ⟨0, Nat.zero_le _, rfl, rfl, ⟨Nat.le_refl _, HR.out⟩⟩
    case round =>
      obtain ⟨i, hi, rfl, rfl, HU⟩ := hrel
      have HK := Aside0.mk HU.out.1
      have HRI := Aside0.mk HU.out.2
      clear HU HR
      by_cases hlt : i < acts.length
      · obtain ⟨ad, hAd, hcells⟩ := HA.out (by omega)
        subst hAd
        obtain ⟨a, ha⟩ : ∃ a, acts[i]? = some a := ⟨_, List.getElem?_eq_getElem hlt⟩
        obtain ⟨k1, k2⟩ := hcells i a ha
        replace k2 : wr.cell? ⟨(ad.add (i * 2)).block, (ad.add (i * 2)).off + 1, none⟩ = some (.int .u64 a.2) := by
          rw [← k2, ← add_add']
          rfl
        have HRA := HRI.out
        rw [all_step ha] at HRA
        obtain ⟨op, q⟩ := a
        dsimp only at k1 k2 HRA
        replace HRA := Aside0.mk HRA
        have i1 : (0 : Int) ≤ (i : Int) := by omega
        have i2 : (i : Int) < (acts.length : Int) := by omega
        clear hcells ha HRI
        by_cases c1 : op < 0
        · have h2 : R = false := by rw [HRA.out]; unfold okD; rw [decide_eq_false (by dsimp only; omega)]; rfl
          subst h2
          clear HRA
          go_wp2
          go_ret
          exact ⟨rfl, rfl⟩
        · by_cases c2 : 1 < op
          · have h2 : R = false := by rw [HRA.out]; unfold okD; rw [decide_eq_false (p := op ≤ 1) (by omega), Bool.and_false]; rfl
            subst h2
            clear HRA
            go_wp2
            go_ret
            exact ⟨rfl, rfl⟩
          · by_cases c3 : 18446744073709549568 ≤ q
            · have h2 : R = false := by rw [HRA.out]; unfold okD; rw [decide_eq_false (p := q < 18446744073709549568) (by omega), Bool.and_false]; rfl
              subst h2
              clear HRA
              go_wp2
              go_ret
              exact ⟨rfl, rfl⟩
            · have h2 : R = (acts.drop (i + 1)).all okD := by
                rw [HRA.out, okD_iff.2 ⟨by dsimp only; omega, by dsimp only; omega, by dsimp only; omega⟩]; rfl
              replace h2 := Aside0.mk h2
              clear HRA
              go_wp2
              go_roundg (acts.length - (i + 1))
              case measure => have := HK.out; omega
              case rel => exact ⟨i + 1, by omega, rfl, rfl, ⟨Nat.le_refl _, h2.out⟩⟩
      · have he : i = acts.length := by omega
        have h2 := HRI.out
        rw [he, List.drop_length] at h2
        subst h2
        subst he
        clear HRI
        go_wp2
        go_ret
        exact ⟨rfl, rfl⟩
  · have hR : actsOk acts = false := by unfold actsOk; rw [decide_eq_false h60]; rfl
    rw [hR]
    have hlen : (60 : Int) < (acts.length : Int) := by omega
    clear h60 hR
    go_enter Tryd.func12, Tryd.ntmps12
    go_wp2
    go_ret
    exact ⟨rfl, rfl⟩
end Go.Proofs.YtebgaedalbdhaaaDoor.Av
