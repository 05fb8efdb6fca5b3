/- Numbers in a slice: spec.at, spec.In, spec.SameSet. -/
import Derived.Test.YtebgaedalbdhaaaDoorSaA
namespace Go.Proofs.YtebgaedalbdhaaaDoor.Av
open Go.RowKit Go.Proofs.YtebgaedalbdhaaaDoorW.PrintWords Go.Proofs.YtebgaedalbdhaaaDoorW.PrintLast Go.Proofs.YtebgaedalbdhaaaDoorW.PrintMore
set_option linter.unusedVariables false
set_option linter.unusedSimpArgs false

/-- Cells that hold values one behind the other. -/
def CellsR (w : World) (A : Option Addr) (L : List Value) : Prop := 0 < L.length → ∃ ad, A = some ad ∧ ∀ (i : Nat) (x : Value), L[i]? = some x → w.cell? (ad.add i) = some x
/-- Numbers that are read. -/
def NumsR (w : World) (A : Option Addr) (L : List Int) : Prop := 0 < L.length → ∃ ad, A = some ad ∧ ∀ (i : Nat) x, L[i]? = some x → w.cell? (ad.add i) = some (.int .u64 x)
theorem add_block (a : Addr) (k : Nat) : (a.add k).block = a.block := by unfold Addr.add; split <;> rfl
theorem NumsR.fr {F : Nat → Prop} {w w1 : World} {A : Option Addr} {L : List Int} (h : NumsR w A L) (hf : Fr F w w1) (hn : ∀ ad, A = some ad → ¬ F ad.block) : NumsR w1 A L := by
  intro h0
  obtain ⟨ad, rfl, hc⟩ := h h0
  refine ⟨ad, rfl, fun i a hi => ?_⟩
  have c1 := hc i a hi
  have hlt := World.block_lt_of_cell? w _ c1
  rw [add_block] at hlt
  exact (World.cell?_of_block (by rw [add_block]; exact hf.block ad.block hlt (hn ad rfl))).trans c1
theorem ownsRow_read {w : World} {base : Nat} {e : TypeId} {v : Value} {n : Nat} {L : List Int} (h : w.ownsRow base e 1 v n (L.map (Value.int .u64))) (hn : n = L.length) : ∃ A c, v = .slice A L.length c ∧ L.length ≤ c ∧ NumsR w A L := by
  rcases h.2 with ⟨rfl, h0⟩ | ⟨g, cap, cur, rfl, hb, hg, h1, h2, h3, h4⟩
  · have : L = [] := List.length_eq_zero_iff.1 (by omega)
    subst this
    exact ⟨none, 0, rfl, Nat.le_refl _, fun h => by simp at h⟩
  · subst hn
    refine ⟨some ⟨g, 0, none⟩, cap, rfl, h1, fun h0 => ⟨_, rfl, fun i x hi => ?_⟩⟩
    have : (L.map (Value.int .u64))[i]? = some (.int .u64 x) := by rw [List.getElem?_map, hi]; rfl
    exact h.cells rfl i _ this
/-- Where a number stands. -/
structure AtR (L : List Int) (n : Int) (k : Nat) (b : Bool) : Prop where
  le : k ≤ L.length
  low : ∀ (j : Nat) x, L[j]? = some x → j < k → x < n
  here : ∀ x, L[k]? = some x → n ≤ x ∧ b = decide (x = n)
  off : k = L.length → b = false
def AtPost (w : World) (L : List Int) (n : Int) (e : Ending) (w' : World) : Prop := ∃ (k : Nat) (b : Bool), e = .returned (.tuple #[.int .i64 k, .bool b]) ∧ AtR L n k b ∧ Fr (fun _ => False) w w'
set_option maxHeartbeats 4000000 in
set_option maxRecDepth 100000 in
theorem at_calls (n : Int) {w : World} {A : Option Addr} {L : List Int} {c : Nat} (hA : NumsR w A L) (hn : L.length ≤ maxLen) :
    Calls Tryd.prog 29 #[.slice A L.length c, .int .u64 n] w (AtPost w L n) := by
  have HA := Aside0.mk hA
  clear hA
  unfold maxLen at hn
  go_enter Tryd.func29, Tryd.ntmps29
  go_wp2
  go_loopg [6] L.length (fun k v w' => ∃ i : Nat, i ≤ L.length ∧ v = .int .i64 i ∧ w' = w ∧ Aside0 (L.length - i ≤ k ∧ ∀ (j : Nat) x, L[j]? = some x → j < i → x < n))
  case atStart => exact ⟨0, Nat.zero_le _, rfl, rfl, ⟨Nat.le_refl _, fun _ _ _ h => by omega⟩⟩
  case round =>
    obtain ⟨i, hi, rfl, rfl, HU⟩ := hrel
    have HK := Aside0.mk HU.out.1
    have HRI := Aside0.mk HU.out.2
    clear HU
    by_cases hlt : i < L.length
    · obtain ⟨ad, hAd, hcells⟩ := HA.out (by omega)
      subst hAd
      obtain ⟨x, hx⟩ : ∃ x, L[i]? = some x := ⟨_, List.getElem?_eq_getElem hlt⟩
      have k1 := hcells i x hx
      have HX := Aside0.mk hx
      have i1 : (0 : Int) ≤ (i : Int) := by omega
      have i2 : (i : Int) < (L.length : Int) := by omega
      clear hcells hx
      by_cases hc : n ≤ x
      · go_upto_region 5 with (fail)
        refine Rg.region_text (by kernel_rfl) (by kernel_rfl) (fun wd hwd K hK => ?_)
        have HF : Aside0 (Fr (fun _ => False) wr wd) := ⟨by rw [hwd.out]; exact (Fr.refl _ _).drew⟩
        replace k1 : wd.cell? (ad.add i) = some (.int .u64 x) := by rw [hwd.out]; exact k1
        clear hwd
        go_wp2_with (with_reducible refine Rg.only_nil ?_)
        refine bodyPost_ret (results_list (rs := [.tmp 4, .tmp 5]) rfl (by simp) (.tmp (.tmp .nil))) rfl ?_
        refine ⟨i, _, rfl, ⟨hi, HRI.out, fun y hy => ?_, fun h => by omega⟩, HF.out⟩
        rw [HX.out] at hy
        injection hy with hy
        subst hy
        exact ⟨hc, by rfl⟩
      · have hcc : x < n := by omega
        have HRJ : Aside0 (∀ (j : Nat) y, L[j]? = some y → j < i + 1 → y < n) := ⟨fun j y hy hj => by
          by_cases h : j < i
          · exact HRI.out j y hy h
          · obtain rfl : j = i := by omega
            rw [HX.out] at hy
            injection hy with hy
            omega⟩
        clear HRI hc
        go_wp2
        go_roundg (L.length - (i + 1))
        case measure => have := HK.out; omega
        case rel => exact ⟨i + 1, by omega, rfl, rfl, ⟨Nat.le_refl _, HRJ.out⟩⟩
    · have he : i = L.length := by omega
      subst he
      go_wp2
      refine bodyPost_ret (results_list (rs := [.tmp 4, .tmp 5]) rfl (by simp) (.tmp (.tmp .nil))) rfl ?_
      exact ⟨L.length, false, rfl, ⟨Nat.le_refl _, HRI.out, fun x hx => (by rw [List.getElem?_eq_none (Nat.le_refl _)] at hx; cases hx), fun _ => rfl⟩, Fr.refl _ _⟩
section
variable {L : List Int} {n : Int} {k : Nat} {b : Bool}
theorem AtR.mem (h : AtR L n k b) (hs : L.Pairwise (· < ·)) : b = decide (n ∈ L) := by
  rcases Nat.lt_or_ge k L.length with hk | hk
  · obtain ⟨h1, h2⟩ := h.here _ (List.getElem?_eq_getElem hk)
    rw [h2]
    congr 1
    refine propext ⟨fun e => e ▸ List.getElem_mem hk, fun hm => ?_⟩
    obtain ⟨j, hj, e⟩ := List.mem_iff_getElem.1 hm
    rcases Nat.lt_trichotomy j k with h' | h' | h'
    · have := h.low j _ (List.getElem?_eq_getElem hj) h'
      omega
    · subst h'; exact e
    · have := List.pairwise_iff_getElem.1 hs k j hk hj h'
      omega
  · have he := h.le
    rw [h.off (by omega)]
    symm
    rw [decide_eq_false_iff_not]
    intro hm
    obtain ⟨j, hj, e⟩ := List.mem_iff_getElem.1 hm
    have := h.low j _ (List.getElem?_eq_getElem hj) (by omega)
    omega
theorem filter_take {p : Int → Bool} : ∀ {L : List Int} {k : Nat}, (∀ (j : Nat) x, L[j]? = some x → j < k → p x = true) → (∀ (j : Nat) x, L[j]? = some x → k ≤ j → p x = false) → L.filter p = L.take k
  | [], k, _, _ => by simp
  | a :: L, 0, _, h2 => by
    rw [List.take_zero, List.filter_eq_nil_iff]
    intro x hx
    obtain ⟨j, hj, e⟩ := List.mem_iff_getElem.1 hx
    rw [h2 j x (by rw [List.getElem?_eq_getElem hj, e]) (Nat.zero_le _)]
    decide
  | a :: L, k + 1, h1, h2 => by
    rw [List.take_succ_cons, List.filter_cons_of_pos (h1 0 a rfl (by omega)), filter_take (k := k) (fun j x hx hj => h1 (j + 1) x (by simpa using hx) (by omega)) (fun j x hx hj => h2 (j + 1) x (by simpa using hx) (by omega))]
theorem filter_drop {p : Int → Bool} : ∀ {L : List Int} {k : Nat}, (∀ (j : Nat) x, L[j]? = some x → j < k → p x = false) → (∀ (j : Nat) x, L[j]? = some x → k ≤ j → p x = true) → L.filter p = L.drop k
  | [], k, _, _ => by simp
  | a :: L, 0, _, h2 => by
    rw [List.drop_zero, List.filter_eq_self]
    intro x hx
    obtain ⟨j, hj, e⟩ := List.mem_iff_getElem.1 hx
    exact h2 j x (by rw [List.getElem?_eq_getElem hj, e]) (Nat.zero_le _)
  | a :: L, k + 1, h1, h2 => by
    rw [List.drop_succ_cons, List.filter_cons_of_neg (by rw [h1 0 a rfl (by omega)]; decide), filter_drop (k := k) (fun j x hx hj => h1 (j + 1) x (by simpa using hx) (by omega)) (fun j x hx hj => h2 (j + 1) x (by simpa using hx) (by omega))]
theorem AtR.above (h : AtR L n k b) (hs : L.Pairwise (· < ·)) : ∀ (j : Nat) x, L[j]? = some x → k ≤ j → n ≤ x ∧ (k < j → n < x) := by
  intro j x hx hj
  obtain ⟨hjl, e⟩ := List.getElem?_eq_some_iff.1 hx
  have hk : k < L.length := by omega
  have h1 := (h.here _ (List.getElem?_eq_getElem hk)).1
  rcases Nat.lt_or_ge k j with h' | h'
  · have := List.pairwise_iff_getElem.1 hs k j hk hjl h'
    exact ⟨by omega, fun _ => by omega⟩
  · obtain rfl : k = j := by omega
    exact ⟨by omega, fun h => by omega⟩
theorem AtR.lows (h : AtR L n k b) (hs : L.Pairwise (· < ·)) : L.filter (· < n) = L.take k :=
  filter_take (fun j x hx hj => by simpa using h.low j x hx hj) (fun j x hx hj => by have := (h.above hs j x hx hj).1; simp; omega)
theorem AtR.ins (h : AtR L n k b) (hs : L.Pairwise (· < ·)) (hb : b = false) : insS n L = L.take k ++ n :: L.drop k := by
  unfold insS
  rw [h.lows hs, filter_drop (k := k) (fun j x hx hj => by have := h.low j x hx hj; simp; omega) (fun j x hx hj => ?_)]
  have h1 := (h.above hs j x hx hj)
  rcases Nat.lt_or_ge k j with h' | h'
  · simpa using h1.2 h'
  · obtain rfl : k = j := by omega
    have h2 := (h.here x hx).2
    rw [hb] at h2
    have h3 : ¬ x = n := by
      intro e
      rw [decide_eq_true e] at h2
      cases h2
    simp
    omega
theorem AtR.del (h : AtR L n k b) (hs : L.Pairwise (· < ·)) (hb : b = true) : k < L.length ∧ delS n L = L.take k ++ L.drop (k + 1) := by
  have hk : k < L.length := by
    rcases Nat.lt_or_ge k L.length with h' | h'
    · exact h'
    · have := h.off (Nat.le_antisymm h.le h')
      rw [hb] at this
      cases this
  refine ⟨hk, ?_⟩
  have hx := List.getElem?_eq_getElem hk
  have h2 := (h.here _ hx).2
  rw [hb] at h2
  have h3 : L[k] = n := by simpa using h2.symm
  have e : L = L.take k ++ n :: L.drop (k + 1) := by
    conv => lhs; rw [← List.take_append_drop k L, List.drop_eq_getElem_cons hk, h3]
  unfold delS
  conv => lhs; rw [e]
  rw [List.filter_append, List.filter_cons_of_neg (by simp)]
  congr 1
  · rw [List.filter_eq_self]
    intro x hx
    obtain ⟨j, hj, e⟩ := List.mem_iff_getElem.1 hx
    rw [List.length_take] at hj
    have := h.low j x (by rw [List.getElem?_eq_getElem (by omega), ← e, List.getElem_take]) (by omega)
    simp
    omega
  · rw [List.filter_eq_self]
    intro x hx
    obtain ⟨j, hj, e⟩ := List.mem_iff_getElem.1 hx
    rw [List.length_drop] at hj
    have := (h.above hs (k + 1 + j) x (by rw [List.getElem?_eq_getElem (by omega), ← e, List.getElem_drop]) (by omega)).2 (by omega)
    simp
    omega
end
set_option maxHeartbeats 4000000 in
set_option maxRecDepth 100000 in
theorem in_calls (n : Int) {w : World} {A : Option Addr} {L : List Int} {c : Nat} (hA : NumsR w A L) (hn : L.length ≤ maxLen) (hs : L.Pairwise (· < ·)) :
    Calls Tryd.prog 16 #[.slice A L.length c, .int .u64 n] w fun e w' => e = .returned (.bool (decide (n ∈ L))) ∧ Fr (fun _ => False) w w' := by
  have HA := Aside0.mk hA
  have HS := Aside0.mk hs
  have HN := Aside0.mk hn
  clear hA hs hn
  go_enter Tryd.func16, Tryd.ntmps16
  go_wp2_with fail
  refine (at_calls n HA.out HN.out).mono ?_
  rintro e w' ⟨k, b, rfl, h, hf⟩
  have hb := h.mem HS.out
  subst hb
  have HF := Aside0.mk hf
  clear h hf
  go_wp2
  go_ret
  exact ⟨rfl, HF.out⟩
set_option maxHeartbeats 4000000 in
set_option maxRecDepth 100000 in
theorem same_calls {w : World} {A B : Option Addr} {L M : List Int} {c d : Nat} (hA : NumsR w A L) (hB : NumsR w B M) (hn : L.length ≤ maxLen) (hm : M.length ≤ maxLen) :
    Calls Tryd.prog 18 #[.slice A L.length c, .slice B M.length d] w fun e w' => e = .returned (.bool (decide (L = M))) ∧ Fr (fun _ => False) w w' := by
  have HA := Aside0.mk hA
  have HB := Aside0.mk hB
  clear hA hB
  unfold maxLen at hn hm
  by_cases hl : L.length = M.length
  · obtain ⟨R, hR⟩ : ∃ R, R = decide (L = M) := ⟨_, rfl⟩
    have HR : Aside0 (R = decide (L.drop 0 = M.drop 0)) := ⟨hR⟩
    rw [← hR]
    clear hR
    have HL := Aside0.mk hl
    rw [← hl]
    clear hm hl
    go_enter Tryd.func18, Tryd.ntmps18
    go_wp2
    go_loopg [5] L.length (fun k v w' => ∃ i : Nat, i ≤ L.length ∧ v = .int .i64 i ∧ Aside0 (Fr (fun _ => False) w w' ∧ L.length - i ≤ k ∧ R = decide (L.drop i = M.drop i)))
    case atStart => exact ⟨0, Nat.zero_le _, rfl, ⟨Fr.refl _ _, Nat.le_refl _, HR.out⟩⟩
    case round =>
      obtain ⟨i, hi, rfl, HU⟩ := hrel
      have HF := Aside0.mk HU.out.1
      have HK := Aside0.mk HU.out.2.1
      have HRI := Aside0.mk HU.out.2.2
      clear HU HR
      by_cases hlt : i < L.length
      · obtain ⟨x, hx⟩ : ∃ x, L[i]? = some x := ⟨_, List.getElem?_eq_getElem hlt⟩
        obtain ⟨y, hy⟩ : ∃ y, M[i]? = some y := ⟨_, List.getElem?_eq_getElem (by have := HL.out; omega)⟩
        have HX : Aside0 (L.drop i = x :: L.drop (i + 1)) := ⟨by rw [List.drop_eq_getElem_cons hlt, (List.getElem?_eq_some_iff.1 hx).2]⟩
        have HY : Aside0 (M.drop i = y :: M.drop (i + 1)) := ⟨by rw [List.drop_eq_getElem_cons (by have := HL.out; omega), (List.getElem?_eq_some_iff.1 hy).2]⟩
        obtain ⟨ad, rfl, hca⟩ := HA.out (by omega)
        obtain ⟨bd, rfl, hcb⟩ := HB.out (by have := HL.out; omega)
        obtain ⟨ad', ea, hca'⟩ := (HA.out.fr HF.out (fun _ _ h => h)) (by omega)
        injection ea with ea
        subst ea
        obtain ⟨bd', eb, hcb'⟩ := (HB.out.fr HF.out (fun _ _ h => h)) (by have := HL.out; omega)
        injection eb with eb
        subst eb
        have k1 := hca' i x hx
        have k2 := hcb' i y hy
        have i1 : (0 : Int) ≤ (i : Int) := by omega
        have i2 : (i : Int) < (L.length : Int) := by omega
        clear hca hca' hcb hcb' hx hy
        go_upto_region 6 with (fail)
        refine Rg.region_text (by kernel_rfl) (by kernel_rfl) (fun wd hwd K hK => ?_)
        have HF2 : Aside0 (Fr (fun _ => False) w wd) := ⟨by rw [hwd.out]; exact HF.out.drew⟩
        replace k1 : wd.cell? (ad.add i) = some (.int .u64 x) := by rw [hwd.out]; exact k1
        replace k2 : wd.cell? (bd.add i) = some (.int .u64 y) := by rw [hwd.out]; exact k2
        clear hwd HF
        by_cases hc : x = y
        · subst hc
          have h2 : R = decide (L.drop (i + 1) = M.drop (i + 1)) := by
            rw [HRI.out, HX.out, HY.out]
            simp
          replace h2 := Aside0.mk h2
          clear HRI HX HY
          go_wp2_with (with_reducible refine Rg.only_nil ?_)
          go_roundg (L.length - (i + 1))
          case measure => have := HK.out; omega
          case rel => exact ⟨i + 1, by omega, rfl, ⟨HF2.out, Nat.le_refl _, h2.out⟩⟩
        · have h2 : R = false := by
            rw [HRI.out, HX.out, HY.out, decide_eq_false_iff_not]
            intro e
            injection e with e1 _
            exact hc e1
          subst h2
          clear HRI HX HY
          have hcb : (x != y) = true := by simpa using hc
          go_wp2_with (with_reducible refine Rg.only_nil ?_)
          go_ret
          exact ⟨rfl, HF2.out⟩
      · have he : i = L.length := by omega
        have h2 := HRI.out
        rw [he, List.drop_length, HL.out, List.drop_length] at h2
        subst h2
        subst he
        clear HRI
        go_wp2
        go_ret
        exact ⟨rfl, HF.out⟩
  · have hR : decide (L = M) = false := by
      rw [decide_eq_false_iff_not]
      intro e
      exact hl (congrArg List.length e)
    rw [hR]
    have hne : ((L.length : Int) != (M.length : Int)) = true := by simp; omega
    clear hR
    go_enter Tryd.func18, Tryd.ntmps18
    go_wp2
    go_ret
    exact ⟨rfl, Fr.refl _ _⟩
end Go.Proofs.YtebgaedalbdhaaaDoor.Av
