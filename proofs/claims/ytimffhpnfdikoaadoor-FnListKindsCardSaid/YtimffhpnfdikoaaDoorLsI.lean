/- A list's node is pruned. -/
import Derived.Test.YtimffhpnfdikoaaDoorLsH
import Derived.LaidEqlPtr
namespace Go.Proofs.YtimffhpnfdikoaaDoor.Ls
open Go.RowKit Go.Maps Go.Proofs.YtimffhpnfdikoaaDoor.Bs Go.Proofs.YtimffhpnfdikoaaDoorW.PrintWords Go.Proofs.YtimffhpnfdikoaaDoorW.PrintLast Go.Proofs.YtimffhpnfdikoaaDoorW.PrintMore
set_option linter.unusedVariables false
set_option linter.unusedSimpArgs false
section
variable {w w' : World} {B L K : Nat} {nd lv : Pm} {sub : Path → Int → Option ByteArray} {E : Path → Prop} {ex : Prop} {a c cnt : Int}
theorem inf95 : (Tryd.prog.info? 95).map (fun i => i.size) = some 2 := by kernel_rfl
theorem under83 : Tryd.prog.underlying 83 = some (.pointer 95) := Tryd.underlying83
set_option maxRecDepth 100000 in
theorem eql_self (w : World) (g : Nat) : (binOp .eql 83 (.pointer (some ⟨g, 0, none⟩)) (.pointer (some ⟨g, 0, none⟩))).run Tryd.prog w = .ok (.bool true) w := by
  obtain ⟨i, hi, hc⟩ := Option.map_eq_some_iff.1 inf95
  exact run_eql_ptr_same w _ under83 hi
set_option maxRecDepth 100000 in
theorem eql_other {w : World} {g b : Nat} (hne : g ≠ b) {cs cs' : List Value} (h1 : Blk w g 95 cs) (h2 : Blk w b 95 cs') : (binOp .eql 83 (.pointer (some ⟨g, 0, none⟩)) (.pointer (some ⟨b, 0, none⟩))).run Tryd.prog w = .ok (.bool false) w := by
  obtain ⟨i, hi, hc⟩ := Option.map_eq_some_iff.1 inf95
  refine run_eql_ptr_other w (a := ⟨g, 0, none⟩) (b := ⟨b, 0, none⟩) under83 hi (by rw [hc]; decide) (fun e => ?_) h1.blk h2.blk
  injection e with e
  exact hne e
structure PrunePost (w : World) (nd : Pm) (K : Nat) (p : Path) (t : ByteArray) (x : Nat × Nat) (e : Ending) (w' : World) : Prop where
  ret : e = .returned (.tuple #[])
  lev : Blk w' x.1 85 [.map (some x.2), ptrA (kid (del nd (p ++ [t])) p star), ptrA (kid (del nd (p ++ [t])) p full)]
  map : Mp VN w' x.2 K (kids (del nd (p ++ [t])) p)
  fr : Fr (fun k => k = x.1 ∨ k = x.2) w w'
theorem star_full : star ≠ full := by decide
set_option maxRecDepth 100000 in
theorem kid_ne (h : Tri w B K nd lv sub) {p : Path} {t u : ByteArray} {y : Nat × Nat} (hy : nd (p ++ [t]) = some y) (hu : u ≠ t) {z : Nat} (hz : kid nd p u = some z) : (binOp .eql 83 (.pointer (some ⟨y.1, 0, none⟩)) (.pointer (some ⟨z, 0, none⟩))).run Tryd.prog w = .ok (.bool false) w := by
  unfold kid at hz
  cases hq : nd (p ++ [u]) with
  | none => rw [hq] at hz; cases hz
  | some q =>
    rw [hq] at hz
    injection hz with hz
    subst hz
    obtain ⟨-, -, b1, -⟩ := h.node _ _ hy
    obtain ⟨-, -, b2, -⟩ := h.node _ _ hq
    refine eql_other (fun e => ?_) b1 b2
    have := h.ninj _ _ _ _ hy hq (.inl e)
    have := List.append_inj_right' this rfl
    injection this with this
    exact hu this.symm
set_option maxHeartbeats 4000000 in
set_option maxRecDepth 100000 in
theorem prune_calls (h : Tri w B K nd lv sub) {p : Path} {t : ByteArray} {x y : Nat × Nat} (hx : lv p = some x) (hy : nd (p ++ [t]) = some y) (ht : t.size ≤ maxLen) : Calls Tryd.prog 85 #[.pointer (some ⟨x.1, 0, none⟩), .pointer (some ⟨y.1, 0, none⟩), .string t] w (PrunePost w nd K p t x) := by
  obtain ⟨-, -, hB, hM⟩ := h.lev p x hx
  have HM := Aside0.mk hM
  have HB := Aside0.mk hB
  have HT := Aside0.mk ht
  have HN : Aside0 (∀ u, u ≠ t → ∀ z, kid nd p u = some z → (binOp .eql 83 (.pointer (some ⟨y.1, 0, none⟩)) (.pointer (some ⟨z, 0, none⟩))).run Tryd.prog w = .ok (.bool false) w) := ⟨fun u hu z hz => kid_ne h hy hu hz⟩
  have hself := eql_self w y.1
  have hk : kid nd p t = some y.1 := by unfold kid; rw [hy]; rfl
  have HK := Aside0.mk hk
  have c0 := hB.cell 0 rfl
  have c1 := hB.cell 1 rfl
  have c2 := hB.cell 2 rfl
  have z1 := hB.free 1
  have z2 := hB.free 2
  have hne : x.1 ≠ x.2 := map_ne hB hM
  have HNE := Aside0.mk hne
  clear h hx hy hB hM ht hne
  by_cases hf : t = full
  · subst hf
    simp only [hk, ptrA] at c2
    clear hk
    go_enter Tryd.func85, Tryd.ntmps85
    go_wp2_with fail
    go_end0
    have hb := HB.out.set 2 (by simp) (.pointer none)
    have hf := fr_set1 (F := fun k => k = x.1 ∨ k = x.2) (o := 2) (Fr.refl _ w) (.inl rfl) (.pointer none)
    refine ⟨rfl, ?_, ?_, hf⟩
    · rw [kid_gone, kid_kept _ star_full]
      exact hb
    · exact (HM.out.fr (fr_set1 (F := fun k => k = x.1) (o := 2) (Fr.refl _ w) rfl (.pointer none)) (fun e => HNE.out e.symm)).congr (kids_unsign p (.inr rfl))
  · have hfu := HN.out full (fun e => hf e.symm)
    by_cases hs : t = star
    · subst hs
      simp only [hk, ptrA] at c1
      clear hk
      have fin : PrunePost w nd K p star x (.returned (.tuple #[])) (w.setCell ⟨x.1, 1, none⟩ (.pointer none)) := by
        have hb := HB.out.set 1 (by simp) (.pointer none)
        have hf := fr_set1 (F := fun k => k = x.1 ∨ k = x.2) (o := 1) (Fr.refl _ w) (.inl rfl) (.pointer none)
        refine ⟨rfl, ?_, ?_, hf⟩
        · rw [kid_gone, kid_kept _ (fun e => star_full e.symm)]
          exact hb
        · exact (HM.out.fr (fr_set1 (F := fun k => k = x.1) (o := 1) (Fr.refl _ w) rfl (.pointer none)) (fun e => HNE.out e.symm)).congr (kids_unsign p (.inl rfl))
      have FIN := Aside0.mk fin
      clear fin
      cases hz : kid nd p full with
      | none =>
        simp only [hz, ptrA] at c2
        clear hz hfu
        go_enter Tryd.func85, Tryd.ntmps85
        go_wp2_with fail
        go_end0
        exact FIN.out
      | some z =>
        simp only [hz, ptrA] at c2
        have hyz := hfu z hz
        clear hz hfu
        go_enter Tryd.func85, Tryd.ntmps85
        go_wp2_with fail
        go_end0
        exact FIN.out
    · have hsu := HN.out star (fun e => hs e.symm)
      have fin : ∀ w8, Mp VN w8 x.2 K (del (kids nd p) t) → Fr (fun k => k = x.2) w w8 → PrunePost w nd K p t x (.returned (.tuple #[])) w8 := fun w8 hM8 hf8 => by
        refine ⟨rfl, ?_, hM8.congr (kids_rem p hs hf), hf8.mono (fun k h => .inr h)⟩
        rw [kid_kept _ (fun e => hf e.symm), kid_kept _ (fun e => hs e.symm)]
        exact HB.out.fr hf8 HNE.out
      have FIN := Aside0.mk fin
      clear fin hk hf hs
      cases hz : kid nd p full with
      | none =>
        simp only [hz, ptrA] at c2
        clear hz hfu
        cases hq : kid nd p star with
        | none =>
          simp only [hq, ptrA] at c1
          clear hq hsu
          go_enter Tryd.func85, Tryd.ntmps85
          go_wp2_with (first | (at_delete; refine wpList_mp_delete rfl _ _ rfl rfl HM.out HT.out rfl ?_; intro w8 hM8 hf8; have HZ := Aside0.mk (And.intro hM8 hf8); clear hM8 hf8) | fail)
          go_end0
          exact FIN.out _ HZ.out.1 HZ.out.2
        | some q =>
          simp only [hq, ptrA] at c1
          have hyq := hsu q hq
          clear hq hsu
          go_enter Tryd.func85, Tryd.ntmps85
          go_wp2_with (first | (at_delete; refine wpList_mp_delete rfl _ _ rfl rfl HM.out HT.out rfl ?_; intro w8 hM8 hf8; have HZ := Aside0.mk (And.intro hM8 hf8); clear hM8 hf8) | fail)
          go_end0
          exact FIN.out _ HZ.out.1 HZ.out.2
      | some z =>
        simp only [hz, ptrA] at c2
        have hyz := hfu z hz
        clear hz hfu
        cases hq : kid nd p star with
        | none =>
          simp only [hq, ptrA] at c1
          clear hq hsu
          go_enter Tryd.func85, Tryd.ntmps85
          go_wp2_with (first | (at_delete; refine wpList_mp_delete rfl _ _ rfl rfl HM.out HT.out rfl ?_; intro w8 hM8 hf8; have HZ := Aside0.mk (And.intro hM8 hf8); clear hM8 hf8) | fail)
          go_end0
          exact FIN.out _ HZ.out.1 HZ.out.2
        | some q =>
          simp only [hq, ptrA] at c1
          have hyq := hsu q hq
          clear hq hsu
          go_enter Tryd.func85, Tryd.ntmps85
          go_wp2_with (first | (at_delete; refine wpList_mp_delete rfl _ _ rfl rfl HM.out HT.out rfl ?_; intro w8 hM8 hf8; have HZ := Aside0.mk (And.intro hM8 hf8); clear hM8 hf8) | fail)
          go_end0
          exact FIN.out _ HZ.out.1 HZ.out.2
end
end Go.Proofs.YtimffhpnfdikoaaDoor.Ls
