/- Rows without gaps: spec.SpanEnd, impl.SetSpan, the laws FnSetSpan, FnSetSpanMeans. -/
import Derived.Test.YtebgaedalbdhaaaDoorSaK
import Derived.Test.YtebgaedalbdhaaaDoorSaE
import Derived.Deep.QuietTactic
import Derived.BigQuiet
namespace Go.Proofs.YtebgaedalbdhaaaDoor.Av
open Go.RowKit Go.Proofs.YtebgaedalbdhaaaDoorW.PrintWords Go.Proofs.YtebgaedalbdhaaaDoorW.PrintLast Go.Proofs.YtebgaedalbdhaaaDoorW.PrintMore
set_option linter.unusedVariables false
set_option linter.unusedSimpArgs false

theorem span_ext {L : List Int} {n x : Int} (h : n ≤ x) (h1 : ∀ y, n ≤ y → y ≤ x → y ∈ L) (h2 : x + 1 ∈ L) : n ≤ x + 1 ∧ ∀ y, n ≤ y → y ≤ x + 1 → y ∈ L :=
  ⟨by omega, fun y a b => by
    rcases Int.lt_or_le x y with hy | hy
    · have : y = x + 1 := by omega
      exact this ▸ h2
    · exact h1 y a hy⟩
theorem gap_in {L : List Int} {j : Nat} {x : Int} (hs : L.Pairwise (· < ·)) (hx : L[j]? = some x) (hn : ∀ y, L[j + 1]? = some y → y ≠ x + 1) : x + 1 ∉ L := fun hm => by
  obtain ⟨hj, e⟩ := List.getElem?_eq_some_iff.1 hx
  obtain ⟨i, hi, ei⟩ := List.mem_iff_getElem.1 hm
  rcases Nat.lt_trichotomy i j with h | h | h
  · have := List.pairwise_iff_getElem.1 hs i j hi hj h
    omega
  · subst h; omega
  · rcases Nat.lt_or_ge (j + 1) i with h' | h'
    · have h1 := List.pairwise_iff_getElem.1 hs j (j + 1) hj (by omega) (by omega)
      have h2 := List.pairwise_iff_getElem.1 hs (j + 1) i (by omega) hi h'
      omega
    · obtain rfl : i = j + 1 := by omega
      exact hn _ (List.getElem?_eq_getElem hi) ei
set_option maxHeartbeats 1000000 in
set_option maxRecDepth 100000 in
theorem sexists_wide (q : Int) (hq0 : 0 ≤ q) (hq1 : q < 18446744073709551616) {w : World} {g : Nat} {t : T} {sz nd : Int} (h : SetIs w g t sz nd) :
    Calls Tryd.prog 31 #[.pointer (some ⟨g, 0, none⟩), .int .u64 q] w fun e w' => e = .returned (.bool (t.has q)) ∧ w = w' := by
  have f0 := h.set.c0
  have HL := Aside0.mk h.lies
  have HW := Aside0.mk h.wf
  clear h
  obtain ⟨r, hr⟩ : ∃ r, r = t.has q := ⟨_, rfl⟩
  have HR := Aside0.mk hr
  rw [← hr]
  clear hr
  go_enter Tryd.func31, Tryd.ntmps31
  go_wp2
  clear f0
  go_loopg [5] t.flat.length (fun k n w' => ∃ u : T, n = .pointer (ptrA u.ptr) ∧ w' = w ∧ Aside0 (Lies w u ∧ u.wf ∧ r = u.has q ∧ u.flat.length ≤ k))
  case atStart => exact ⟨t, rfl, rfl, ⟨HL.out, HW.out, HR.out, Nat.le_refl _⟩⟩
  case round =>
    obtain ⟨u, rfl, rfl, HU⟩ := hrel
    clear HL HW HR
    cases u with
    | nil =>
      have hr : r = false := HU.out.2.2.1
      subst hr
      clear HU
      rw [show ptrA T.nil.ptr = none from rfl]
      go_wp2
      go_ret
      exact ⟨rfl, rfl⟩
    | node b x s lt rt =>
      have N0 := Aside0.mk HU.out.1.1
      have LL := Aside0.mk HU.out.1.2.1
      have LR := Aside0.mk HU.out.1.2.2
      have WF := Aside0.mk (T.wf_node.1 HU.out.2.1)
      have HH := HU.out.2.2.1
      have HK := HU.out.2.2.2
      rw [flat_len_node] at HK
      rw [T.has] at HH
      replace HH := Aside0.mk HH
      replace HK := Aside0.mk HK
      have hx0 : 0 ≤ x := WF.out.2.1.1
      have hx1 : x + 2048 < 18446744073709551616 := WF.out.2.1.2.1
      have f0 := N0.out.c0
      have f33 := N0.out.cl
      have f34 := N0.out.cr
      clear HU
      rw [show ptrA (T.node b x s lt rt).ptr = some ⟨b, 0, none⟩ from rfl]
      by_cases c1 : q < x
      · have hh := HH.out
        rw [if_pos c1] at hh
        have HH2 := Aside0.mk hh
        clear hh HH
        go_wp2
        go_roundg lt.flat.length
        case measure => have := HK.out; omega
        case rel => exact ⟨lt, rfl, rfl, ⟨LL.out, WF.out.1, HH2.out, Nat.le_refl _⟩⟩
      · have c1n : x ≤ q := by omega
        by_cases c2 : x + 2048 ≤ q
        · have hh := HH.out
          rw [if_neg c1, if_pos c2] at hh
          have HH2 := Aside0.mk hh
          clear hh HH c1
          go_wp2
          go_roundg rt.flat.length
          case measure => have := HK.out; omega
          case rel => exact ⟨rt, rfl, rfl, ⟨LR.out, WF.out.2.2, HH2.out, Nat.le_refl _⟩⟩
        · have hh := HH.out
          rw [if_neg c1, if_neg c2] at hh
          have HH2 := Aside0.mk hh
          have c2n : q < x + 2048 := by omega
          clear hh HH c1 c2
          go_wp2_with fail
          refine (exists_calls N0.out hx0 c1n c2n (by omega)).mono ?_
          rintro e w' ⟨rfl, rfl⟩
          rw [← HH2.out]
          go_wp2
          go_ret
          exact ⟨rfl, rfl⟩
set_option maxHeartbeats 4000000 in
set_option maxRecDepth 100000 in
theorem setExists_wide (q : Int) (hq0 : 0 ≤ q) (hq1 : q < 18446744073709551616) {w : World} {A : Option Addr} {acts : List Deed} {c : Nat} (hA : ActsR w A acts) (hok : ∀ a ∈ acts, okDeed none a) (hn : acts.length ≤ 1000) :
    Calls Tryd.prog 15 #[.slice A acts.length c, .int .u64 q] w fun e w' => e = .returned (.bool (decide (q ∈ plays [] acts))) ∧ Fr (fun _ => False) w w' := by
  have HA := Aside0.mk hA
  have HOK := Aside0.mk hok
  clear hA hok
  go_enter Tryd.func15, Tryd.ntmps15
  go_wp2_with fail
  refine (made_calls HA.out HOK.out hn).mono ?_
  rintro e w1 ⟨g, t, sz, nd, rfl, h⟩
  have H := Aside0.mk h
  clear h
  go_wp2_with fail
  refine (sexists_wide q hq0 hq1 H.out.is).mono ?_
  rintro e w2 ⟨rfl, hw⟩
  subst w2
  go_wp2
  go_ret
  exact ⟨by rw [H.out.rep.has H.out.is.wf]; rfl, H.out.fr⟩
set_option maxHeartbeats 4000000 in
set_option maxRecDepth 100000 in
theorem specSpan_calls (n : Int) {w : World} {A : Option Addr} {L : List Int} {c : Nat} (hA : NumsR w A L) (hn : L.length ≤ maxLen) (hs : L.Pairwise (· < ·)) (hb : ∀ x ∈ L, 0 ≤ x ∧ x + 2048 < 18446744073709551616) :
    Calls Tryd.prog 24 #[.slice A L.length c, .int .u64 n] w (SpanPost w L n) := by
  have HA := Aside0.mk hA
  have HN := Aside0.mk hn
  have HS := Aside0.mk hs
  have HBD := Aside0.mk hb
  clear hA hs hb
  unfold maxLen at hn
  go_enter Tryd.func24, Tryd.ntmps24
  go_wp2_with fail
  refine (at_calls n HA.out HN.out).mono ?_
  rintro e w1 ⟨k, b, rfl, h, hf⟩
  have HF1 := Aside0.mk hf
  have HA1 := Aside0.mk (HA.out.fr hf (fun _ _ h => h))
  have HAT := Aside0.mk h
  clear h hf
  dsimp only
  cases b with
  | false =>
    go_wp2
    refine bodyPost_ret (results_list (rs := [.tmp 4, .tmp 5]) rfl (by simp) (.tmp (.tmp .nil))) rfl ?_
    refine ⟨_, rfl, .inl ⟨?_, rfl⟩, HF1.out⟩
    have := HAT.out.mem HS.out
    simpa using this.symm
  | true =>
    have hk := (HAT.out.del HS.out rfl).1
    have HKX : Aside0 (L[k]? = some n) := ⟨by
      have h2 := (HAT.out.here _ (List.getElem?_eq_getElem hk)).2
      rw [List.getElem?_eq_getElem hk]
      congr 1
      simpa using h2.symm⟩
    go_wp2
    go_loopg [6] L.length (fun m v w' => ∃ j : Nat, j < L.length ∧ v = .int .i64 j ∧ Aside0 (L.length - j ≤ m ∧ Fr (fun _ => False) w w' ∧ ∃ x, L[j]? = some x ∧ n ≤ x ∧ ∀ y, n ≤ y → y ≤ x → y ∈ L))
    case atStart => exact ⟨k, hk, rfl, ⟨by omega, HF1.out, n, HKX.out, Int.le_refl _, fun y h1 h2 => by
      have : y = n := by omega
      exact this ▸ List.mem_of_getElem? HKX.out⟩⟩
    case round =>
      obtain ⟨j, hj, rfl, HU⟩ := hrel
      obtain ⟨hm, hf, x, hx, h1, h2⟩ := HU.out
      have HM := Aside0.mk hm
      have HF := Aside0.mk hf
      have HX := Aside0.mk hx
      have H1 := Aside0.mk h1
      have H2 := Aside0.mk h2
      have hb := HBD.out x (List.mem_of_getElem? hx)
      have hx0 : 0 ≤ x := hb.1
      have hx1 : x + 2048 < 18446744073709551616 := hb.2
      clear HU hm hf h1 h2 hb HKX HAT HF1
      obtain ⟨ad, rfl, hc⟩ := (HA.out.fr HF.out (fun _ _ h => h)) (by omega)
      have k1 := hc j x hx
      have i1 : (0 : Int) ≤ (j : Int) := by omega
      have i2 : (j : Int) < (L.length : Int) := by omega
      have i3 : (0 : Int) ≤ (j : Int) + 1 := by omega
      have i4 : ((j : Int) + 1).toNat = j + 1 := by omega
      have i5 : (j : Int).toNat = j := by omega
      by_cases hl : j + 1 < L.length
      · obtain ⟨y, hy⟩ : ∃ y, L[j + 1]? = some y := ⟨_, List.getElem?_eq_getElem hl⟩
        have k2 := hc (j + 1) y hy
        replace k2 : wr.cell? ⟨ad.block, ad.off + (j + 1), none⟩ = some (.int .u64 y) := by simpa [Addr.add] using k2
        have HY := Aside0.mk hy
        have i6 : (j : Int) + 1 < (L.length : Int) := by omega
        have hb := HBD.out y (List.mem_of_getElem? hy)
        have hy0 : 0 ≤ y := hb.1
        have hy1 : y + 2048 < 18446744073709551616 := hb.2
        clear hc hx hy hb
        have e1 : IntKind.i64.wrap ((j : Int) + 1) = (j : Int) + 1 := by rw [IntKind.wrap_i64]; omega
        have e2 : IntKind.u64.wrap (x + 1) = x + 1 := by rw [IntKind.wrap_u64]; omega
        have e3 : decide ((j : Int) + 1 < (L.length : Int)) = true := by simpa using i6
        go_upto_region 4 with (fail)
        go_quiet (fail)
        have HF2 := Aside0.mk (HF.out.drewN nq)
        clear HF e1 e2 e3
        by_cases he : y = x + 1
        · subst he
          have hsp := span_ext H1.out H2.out (List.mem_of_getElem? HY.out)
          replace hsp := Aside0.mk hsp
          go_wp2
          go_roundg (L.length - (j + 1))
          case measure => have := HM.out; omega
          case rel => exact ⟨j + 1, hl, rfl, ⟨Nat.le_refl _, HF2.out, _, HY.out, hsp.out⟩⟩
        · have hg : Aside0 (Span L n x) := ⟨H1.out, H2.out, gap_in HS.out HX.out (fun y' hy' e => by rw [HY.out] at hy'; injection hy' with hy'; omega)⟩
          have hne : (y == x + 1) = false := by simpa using he
          clear he
          go_wp2
          refine bodyPost_ret (results_list (rs := [.tmp 4, .tmp 5]) rfl (by simp) (.tmp (.tmp .nil))) rfl ?_
          exact ⟨_, rfl, .inr ⟨x, hg.out, rfl⟩, HF2.out⟩
      · have hg : Aside0 (Span L n x) := ⟨H1.out, H2.out, gap_in HS.out HX.out (fun y' hy' e => by
          have := (List.getElem?_eq_some_iff.1 hy').1
          omega)⟩
        have i6 : ¬ (j : Int) + 1 < (L.length : Int) := by omega
        clear hc hx
        have e1 : IntKind.i64.wrap ((j : Int) + 1) = (j : Int) + 1 := by rw [IntKind.wrap_i64]; omega
        have e3 : decide ((j : Int) + 1 < (L.length : Int)) = false := by simpa using i6
        go_upto_region 4 with (fail)
        go_quiet (fail)
        have HF2 := Aside0.mk (HF.out.drewN nq)
        clear HF e1 e3
        go_wp2
        refine bodyPost_ret (results_list (rs := [.tmp 4, .tmp 5]) rfl (by simp) (.tmp (.tmp .nil))) rfl ?_
        exact ⟨_, rfl, .inr ⟨x, hg.out, rfl⟩, HF2.out⟩
set_option maxHeartbeats 4000000 in
set_option maxRecDepth 100000 in
theorem setSpan_calls (n : Int) (h0 : 0 ≤ n) (h1 : n + 2048 < 18446744073709551616) {w : World} {A : Option Addr} {acts : List Deed} {c : Nat} (hA : ActsR w A acts) (hok : ∀ a ∈ acts, okDeed none a) (hn : acts.length ≤ 1000) (hT : TabAt w) :
    Calls Tryd.prog 25 #[.slice A acts.length c, .int .u64 n] w (SpanPost w (plays [] acts) n) := by
  have HA := Aside0.mk hA
  have HOK := Aside0.mk hok
  have HT := Aside0.mk hT
  clear hA hok hT
  go_enter Tryd.func25, Tryd.ntmps25
  go_wp2_with fail
  refine (made_calls HA.out HOK.out hn).mono ?_
  rintro e w1 ⟨g, t, sz, nd, rfl, h⟩
  have H := Aside0.mk h
  clear h
  go_wp2_with fail
  refine (spanEnd_calls H.out.is H.out.rep.ord (by have := H.out.rep.len; omega) h0 h1 (HT.out.fr H.out.fr (fun h => h))).mono ?_
  rintro e w2 ⟨v, rfl, hs, hf⟩
  have HF := Aside0.mk (H.out.fr.trans hf (fun _ _ h => h))
  rw [H.out.rep.nums] at hs
  have HS := Aside0.mk hs
  clear hf hs
  rcases HS.out with ⟨-, e⟩ | ⟨E, -, e⟩
  · subst e
    go_wp2
    refine bodyPost_ret (results_list (rs := [.tmp 4, .tmp 5]) rfl (by simp) (.tmp (.tmp .nil))) rfl ?_
    exact ⟨_, rfl, HS.out, HF.out⟩
  · subst e
    go_wp2
    refine bodyPost_ret (results_list (rs := [.tmp 4, .tmp 5]) rfl (by simp) (.tmp (.tmp .nil))) rfl ?_
    exact ⟨_, rfl, HS.out, HF.out⟩
set_option maxHeartbeats 4000000 in
set_option maxRecDepth 100000 in
theorem span_law (q : Int) {w : World} {A : Option Addr} {acts : List Deed} {c : Nat} (hA : ActsR w A acts) (hp : ∀ a ∈ acts, 0 ≤ a.2) (hn : acts.length ≤ maxLen) (hq : (Lit.int .u64 q).wf = true) (hT : TabAt w) :
    Calls Tryd.prog 9 #[.slice A acts.length c, .int .u64 q] w fun e w' => e = .returned (.bool true) ∧ Fr (fun _ => False) w w' := by
  have HA := Aside0.mk hA
  have HP := Aside0.mk hp
  have HN := Aside0.mk hn
  have HT := Aside0.mk hT
  have hq0 : 0 ≤ q := by
    have hm : IntKind.u64.min = 0 := by decide
    simp only [Lit.wf, Bool.and_eq_true, decide_eq_true_eq, hm] at hq
    exact hq.1
  clear hA hp hn hT hq
  by_cases hbig : 2147483647 < (acts.length : Int)
  · go_enter Tryd.func9, Tryd.ntmps9
    go_wp2
    go_ret
    exact ⟨rfl, Fr.refl _ _⟩
  · go_enter Tryd.func9, Tryd.ntmps9
    go_wp2_with fail
    refine (acts_calls HA.out HN.out).mono ?_
    rintro e w' ⟨rfl, hw⟩
    subst w'
    cases hok : actsOk acts with
    | false =>
      clear hok
      go_wp2_with fail
      refine (awake_calls HT.out).mono ?_
      rintro e w' ⟨rfl, hf⟩
      have HF := Aside0.mk hf
      clear hf
      go_wp2
      go_ret
      exact ⟨rfl, HF.out⟩
    | true =>
      have HOK := Aside0.mk (actsOk_deed hok HP.out)
      have hlen := ok_len hok
      clear hok
      by_cases hmost : 18446744073709549568 ≤ q
      · go_wp2_with fail
        refine (awake_calls HT.out).mono ?_
        rintro e w' ⟨rfl, hf⟩
        have HF := Aside0.mk hf
        clear hf
        go_wp2
        go_ret
        exact ⟨rfl, HF.out⟩
      · go_wp2_with fail
        refine (spec_read HA.out HOK.out (by omega)).mono ?_
        rintro e w1 ⟨B, d, v5, rfl, hr, hf⟩
        have HR := Aside0.mk hr
        have HF1 := Aside0.mk hf
        clear hr hf
        have HS : Aside0 ((plays [] acts).Pairwise (· < ·)) := ⟨plays_sorted _ _ .nil⟩
        have HM := Aside0.mk (plays_max hlen)
        have HBD := Aside0.mk (deeds_bound HOK.out)
        obtain ⟨L, hL⟩ : ∃ L, L = plays [] acts := ⟨_, rfl⟩
        have HL := Aside0.mk hL
        rw [← hL] at HS HM HR HBD ⊢
        clear hL
        dsimp only
        go_wp2_with fail
        refine (specSpan_calls q HR.out HM.out HS.out HBD.out).mono ?_
        rintro e w2 ⟨v, rfl, hs, hf⟩
        have HF2 := Aside0.mk (HF1.out.trans hf (fun _ _ h => h))
        have HV := Aside0.mk hs
        clear hf hs
        rcases HV.out with ⟨hno, e⟩ | ⟨E, hE, e⟩
        · subst e
          have HNO := Aside0.mk hno
          clear hno HV
          go_wp2_with fail
          refine (setSpan_calls q hq0 (by omega) (HA.out.fr HF2.out (fun _ _ h => h)) HOK.out (by omega) (HT.out.fr HF2.out (fun h => h))).mono ?_
          rintro e w3 ⟨v, rfl, hs, hf⟩
          rw [← HL.out] at hs
          have HF3 := Aside0.mk (HF2.out.trans hf (fun _ _ h => h))
          clear hf
          rcases hs with ⟨-, e⟩ | ⟨E, hE, e⟩
          · subst e
            go_wp2_with fail
            refine (awake_calls (HT.out.fr HF3.out (fun h => h))).mono ?_
            rintro e w' ⟨rfl, hf⟩
            have HF := Aside0.mk (HF3.out.trans hf (fun _ _ h => h))
            clear hf
            go_wp2
            go_ret
            exact ⟨rfl, HF.out⟩
          · exact absurd (hE.2.1 q (Int.le_refl _) hE.1) HNO.out
        · subst e
          have HE := Aside0.mk hE
          clear hE HV
          go_wp2_with fail
          refine (setSpan_calls q hq0 (by omega) (HA.out.fr HF2.out (fun _ _ h => h)) HOK.out (by omega) (HT.out.fr HF2.out (fun h => h))).mono ?_
          rintro e w3 ⟨v, rfl, hs, hf⟩
          rw [← HL.out] at hs
          have HF3 := Aside0.mk (HF2.out.trans hf (fun _ _ h => h))
          clear hf
          rcases hs with ⟨hno, -⟩ | ⟨E', hE', e⟩
          · exact absurd (HE.out.2.1 q (Int.le_refl _) HE.out.1) hno
          · have := hE'.uniq HE.out
            subst this
            subst e
            clear hE'
            go_wp2_with fail
            refine (awake_calls (HT.out.fr HF3.out (fun h => h))).mono ?_
            rintro e w' ⟨rfl, hf⟩
            have HF := Aside0.mk (HF3.out.trans hf (fun _ _ h => h))
            clear hf
            go_wp2
            go_ret
            exact ⟨rfl, HF.out⟩
end Go.Proofs.YtebgaedalbdhaaaDoor.Av
