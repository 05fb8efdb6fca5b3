/- laws.turns. -/
import Derived.Test.YtlbpbbfhfgacaaaDoorWhL
namespace Go.Proofs.YtlbpbbfhfgacaaaDoor.Wh
open Go.RowKit Go.Maps Go.Proofs.YtlbpbbfhfgacaaaDoor.Bs Go.Proofs.YtlbpbbfhfgacaaaDoorW.PrintWords Go.Proofs.YtlbpbbfhfgacaaaDoorW.PrintLast Go.Proofs.YtlbpbbfhfgacaaaDoorW.PrintMore Go.Proofs.YtlbpbbfhfgacaaaDoor.GFnWheelParts
set_option linter.unusedVariables false
set_option linter.unusedSimpArgs false
def TimesT (T : List S30) (n : Nat) : Prop := ∀ j t, j < n → T[j]? = some t → 0 ≤ t.f2 ∧ t.f2 ≤ 36028797018963968 ∧ 0 ≤ t.f3 ∧ t.f3 ≤ 36028797018963968
def TrueT (T : List S30) (n : Nat) : Prop := ∀ j t, j < n → T[j]? = some t → (t.f0 = 1 ∨ t.f0 = 2) → ∀ e, fAt (T.take j) t.f1 = some e → e = t.f2
structure GoodT (T : List S30) : Prop where
  len : T.length ≤ 40
  times : TimesT T T.length
  fresh : FreshT T T.length
  true_ : TrueT T T.length
def TurnsPost (W : World) (T : List S30) (en : Ending) (w' : World) : Prop := ∃ r, en = .returned (.bool r) ∧ (r = true → GoodT T) ∧ Same W w'
theorem turns_no {W w' : World} {T : List S30} (h : Same W w') : TurnsPost W T (.returned (.bool false)) w' := ⟨false, rfl, fun h => (by cases h), h⟩
set_option maxHeartbeats 8000000 in
set_option maxRecDepth 100000 in
theorem turns_calls {W : World} {A0 : Option Addr} {c0 : Nat} {T : List S30} (hT : Kd.C k30 W A0 T.length T) (hc0 : T.length ≤ c0) (hu : ∀ t ∈ T, 0 ≤ t.f1) :
    Calls Tryd.prog 5 #[.slice A0 T.length c0] W (TurnsPost W T) := by
  have HT := Aside0.mk hT
  have HC := Aside0.mk hc0
  have HU := Aside0.mk hu
  clear hT hc0 hu
  go_enter Tryd.func5, Tryd.ntmps5
  by_cases hn : T.length ≤ 40
  · have hn1 : decide ((T.length : Int) > 40) = false := decide_eq_false (by omega)
    have hn2 : decide ((40 : Int) < (T.length : Int)) = false := decide_eq_false (by omega)
    have HN := Aside0.mk hn
    clear hn
    go_wp2
    go_loopg [3] T.length (fun kq v3 wr => ∃ i : Nat, v3 = .int .i64 (i : Int) ∧ Aside0 (kq + i = T.length ∧ i ≤ T.length) ∧ Aside0 (TimesT T i) ∧ Aside0 (Same W wr))
    case atStart => exact ⟨0, rfl, ⟨by omega⟩, ⟨fun j t h => by omega⟩, ⟨Fr.refl _ _⟩⟩
    case round =>
      clear hn1 hn2
      obtain ⟨i, rfl, HI, HF, HS⟩ := hrel
      have i0 : (0 : Int) ≤ (i : Int) := by omega
      by_cases hlt : i < T.length
      · have i1 : (i : Int) < (T.length : Int) := by omega
        have i2 : decide ((i : Int) < (T.length : Int)) = true := decide_eq_true i1
        obtain ⟨t, ht⟩ : ∃ t, T[i]? = some t := ⟨_, List.getElem?_eq_getElem hlt⟩
        have HTI := Aside0.mk ht
        obtain ⟨ad, rfl, t0, t1, t2, t3, -⟩ := at_T30 (Kd.C_below HT.out (below_of_fr HS.out)) (i : Int) (by omega) (by omega)
        rw [Int.toNat_natCast, rd30_at HTI.out] at t0 t1 t2 t3
        clear ht
        by_cases c1 : t.f0 < 0
        · have e1 : decide (t.f0 < 0) = true := decide_eq_true c1
          go_wp2
          go_ret
          exact turns_no HS.out
        · have e1 : decide (t.f0 < 0) = false := decide_eq_false c1
          by_cases c2 : t.f0 > 3
          · have e2 : decide (t.f0 > 3) = true := decide_eq_true c2
            have e2' : decide (3 < t.f0) = true := decide_eq_true c2
            go_wp2
            go_ret
            exact turns_no HS.out
          · have e2 : decide (t.f0 > 3) = false := decide_eq_false c2
            have e2' : decide (3 < t.f0) = false := decide_eq_false c2
            by_cases c3 : t.f2 < 0
            · have e3 : decide (t.f2 < 0) = true := decide_eq_true c3
              go_wp2
              go_ret
              exact turns_no HS.out
            · have e3 : decide (t.f2 < 0) = false := decide_eq_false c3
              by_cases c4 : t.f2 > 36028797018963968
              · have e4 : decide (t.f2 > 36028797018963968) = true := decide_eq_true c4
                have e4' : decide (36028797018963968 < t.f2) = true := decide_eq_true c4
                go_wp2
                go_ret
                exact turns_no HS.out
              · have e4 : decide (t.f2 > 36028797018963968) = false := decide_eq_false c4
                have e4' : decide (36028797018963968 < t.f2) = false := decide_eq_false c4
                by_cases c5 : t.f3 < 0
                · have e5 : decide (t.f3 < 0) = true := decide_eq_true c5
                  go_wp2
                  go_ret
                  exact turns_no HS.out
                · have e5 : decide (t.f3 < 0) = false := decide_eq_false c5
                  by_cases c6 : t.f3 > 36028797018963968
                  · have e6 : decide (t.f3 > 36028797018963968) = true := decide_eq_true c6
                    have e6' : decide (36028797018963968 < t.f3) = true := decide_eq_true c6
                    go_wp2
                    go_ret
                    exact turns_no HS.out
                  · have e6 : decide (t.f3 > 36028797018963968) = false := decide_eq_false c6
                    have e6' : decide (36028797018963968 < t.f3) = false := decide_eq_false c6
                    have HB : Aside0 (0 ≤ t.f2 ∧ t.f2 ≤ 36028797018963968 ∧ 0 ≤ t.f3 ∧ t.f3 ≤ 36028797018963968) := ⟨by omega⟩
                    have i5 : IntKind.i64.wrap ((i : Int) + 1) = ((i + 1 : Nat) : Int) := by rw [IntKind.wrap_i64]; have := HI.out; have := HN.out; omega
                    go_wp2
                    go_roundg (T.length - (i + 1))
                    case measure => have := HI.out; omega
                    case rel =>
                      refine ⟨i + 1, rfl, ⟨by have := HI.out; omega⟩, ⟨fun j t' hj ht' => ?_⟩, HS⟩
                      rcases Nat.lt_or_ge j i with h | h
                      · exact HF.out j t' h ht'
                      · obtain rfl : j = i := by omega
                        rw [HTI.out] at ht'
                        injection ht' with ht'
                        rw [← ht']
                        exact HB.out
      · have hiT : i = T.length := by have := HI.out.2; omega
        have i1 : ¬ (i : Int) < (T.length : Int) := by omega
        have i2 : decide ((i : Int) < (T.length : Int)) = false := decide_eq_false i1
        have HTM : Aside0 (TimesT T T.length) := ⟨by rw [← hiT]; exact HF.out⟩
        have PF : Aside0 (Calls Tryd.prog 13 #[.slice A0 T.length c0] wr (FreshPost wr T)) := ⟨fresh_calls (Kd.C_below HT.out (below_of_fr HS.out)) HC.out HN.out HU.out⟩
        clear hiT HF HI
        go_wp2_with fail
        refine PF.out.mono ?_
        rintro e w2 ⟨r, rfl, hr, hs2⟩
        have HS2 : Aside0 (Same W w2) := ⟨HS.out.trans hs2 (fun _ _ h => h)⟩
        have HR := Aside0.mk hr
        clear hr hs2 PF HS
        cases r with
        | false =>
          go_wp2
          go_ret
          exact turns_no HS2.out
        | true =>
          have HFT := Aside0.mk (HR.out rfl)
          clear HR i0 i1 i2 hlt
          go_wp2
          go_loopg [4] T.length (fun kq v4 wn => ∃ i : Nat, v4 = .int .i64 (i : Int) ∧ Aside0 (kq + i = T.length ∧ i ≤ T.length) ∧ Aside0 (TrueT T i) ∧ Aside0 (Same W wn))
          case atStart => exact ⟨0, rfl, ⟨by omega⟩, ⟨fun j t h => by omega⟩, HS2⟩
          case round =>
            clear HS2
            obtain ⟨i, rfl, HI, HF, HS⟩ := hrel
            have i0 : (0 : Int) ≤ (i : Int) := by omega
            by_cases hlt : i < T.length
            · have i1 : (i : Int) < (T.length : Int) := by omega
              have i2 : decide ((i : Int) < (T.length : Int)) = true := decide_eq_true i1
              have i3 : (i : Int) ≤ (T.length : Int) := by omega
              have i4 : (i : Int) ≤ (c0 : Int) := by have := HC.out; omega
              have i5 : IntKind.i64.wrap ((i : Int) + 1) = ((i + 1 : Nat) : Int) := by rw [IntKind.wrap_i64]; have := HI.out; have := HN.out; omega
              obtain ⟨t, ht⟩ : ∃ t, T[i]? = some t := ⟨_, List.getElem?_eq_getElem hlt⟩
              have HTI := Aside0.mk ht
              have HTC := Aside0.mk (Kd.C_below HT.out (below_of_fr HS.out))
              have PW : Aside0 (Calls Tryd.prog 10 #[.slice A0 i c0] wr (WheelPost wr (T.take i))) := ⟨wheel_take HTC.out HC.out HN.out HU.out HI.out.2⟩
              clear ht
              go_wp2_with fail
              refine PW.out.mono ?_
              rintro e w2 ⟨v, L, v2, rfl, hO, hR, hLn, hS⟩
              have hL40 : L.length ≤ 40 := by rw [List.length_take] at hLn; have := HN.out; omega
              obtain ⟨A, c, rfl, hlc, hC⟩ := ot_C hO (by omega)
              have HCL := Aside0.mk hC
              have HR := Aside0.mk hR
              have HL40 := Aside0.mk hL40
              have HLC := Aside0.mk hlc
              have HS2 : Aside0 (Same W w2) := ⟨HS.out.trans hS (fun _ _ h => h)⟩
              clear hO hR hLn hS hlc hC hL40 PW
              obtain ⟨wo, hwo⟩ : ∃ wo, wo = w2 := ⟨_, rfl⟩
              subst hwo
              go_wp2
              go_loopg [7] L.length (fun kq v7 wn => ∃ k : Nat, v7 = .int .i64 (k : Int) ∧ Aside0 (kq + k = L.length ∧ k ≤ L.length) ∧ Aside0 (∀ j x, j < k → L[j]? = some x → x.f0 = t.f1 → x.f1 = t.f2) ∧ Aside0 (Same wo wn))
              case atStart => exact ⟨0, rfl, ⟨by omega⟩, ⟨fun j x h => by omega⟩, ⟨Fr.refl _ _⟩⟩
              case round =>
                obtain ⟨k, rfl, HJ, HG, HS3⟩ := hrel
                have HS4 : Aside0 (Same W wr) := ⟨HS2.out.trans HS3.out (fun _ _ h => h)⟩
                obtain ⟨ad, rfl, t0, t1, t2, -, -⟩ := at_T30 (Kd.C_below HT.out (below_of_fr HS4.out)) (i : Int) (by omega) (by omega)
                rw [Int.toNat_natCast, rd30_at HTI.out] at t0 t1 t2
                have k0 : (0 : Int) ≤ (k : Int) := by omega
                -- the round is done with this prefix
                have HDONE : Aside0 (((t.f0 = 1 ∨ t.f0 = 2) → k = L.length) → TrueT T (i + 1)) := ⟨fun hk j t' hj ht' hop e he => by
                  rcases Nat.lt_or_ge j i with h | h
                  · exact HF.out j t' h ht' hop e he
                  · obtain rfl : j = i := by omega
                    rw [HTI.out] at ht'
                    injection ht' with ht'
                    rw [← ht'] at hop he ⊢
                    have hm := (HR.out.mem t.f1 e).1 he
                    obtain ⟨j2, hj2⟩ := List.getElem?_of_mem hm
                    have := (List.getElem?_eq_some_iff.1 hj2).1
                    exact HG.out j2 _ (by rw [hk hop]; exact this) hj2 rfl⟩
                by_cases hk : k < L.length
                · have k1 : (k : Int) < (L.length : Int) := by omega
                  have k2 : decide ((k : Int) < (L.length : Int)) = true := decide_eq_true k1
                  have k5 : IntKind.i64.wrap ((k : Int) + 1) = ((k + 1 : Nat) : Int) := by rw [IntKind.wrap_i64]; have := HJ.out; have := HL40.out; omega
                  by_cases hop : t.f0 = 1 ∨ t.f0 = 2
                  · obtain ⟨x, hx⟩ : ∃ x, L[k]? = some x := ⟨_, List.getElem?_eq_getElem hk⟩
                    have HX := Aside0.mk hx
                    obtain ⟨ad2, e2, x0, x1⟩ := at_T42 (Kd.C_below HCL.out (below_of_fr HS3.out)) (k : Int) k0 k1
                    subst e2
                    rw [Int.toNat_natCast, rd_at HX.out] at x0 x1
                    clear hx
                    have hb : (t.f0 == 1) = true ∨ ((t.f0 == 1) = false ∧ (t.f0 == 2) = true) := by
                      rcases hop with h | h
                      · exact .inl (by simpa using h)
                      · exact .inr ⟨by simp [h], by simpa using h⟩
                    clear hop
                    rcases hb with y1 | ⟨y1, y2⟩
                    all_goals (
                      go_upto_region 17 with (fail)
                      by_cases hs : x.f0 = t.f1
                      · have hs1 : (x.f0 == t.f1) = true := by simpa using hs
                        have HSS := Aside0.mk hs
                        clear hs
                        by_cases he : x.f1 = t.f2
                        · have he1 : (x.f1 != t.f2) = false := by simpa using he
                          have HE := Aside0.mk he
                          clear he
                          go_quiet (fail)
                          go_wp2
                          go_roundg (L.length - (k + 1))
                          case measure => have := HJ.out; omega
                          case rel =>
                            refine ⟨k + 1, rfl, ⟨by have := HJ.out; omega⟩, ⟨fun j x' hj hx' hs' => ?_⟩, ⟨by first | exact HS3.out | exact HS3.out.drew | exact HS3.out.drewN _⟩⟩
                            rcases Nat.lt_or_ge j k with h | h
                            · exact HG.out j x' h hx' hs'
                            · obtain rfl : j = k := by omega
                              rw [HX.out] at hx'
                              injection hx' with hx'
                              rw [← hx']
                              exact HE.out
                        · have he1 : (x.f1 != t.f2) = true := by simpa using he
                          go_quiet (fail)
                          go_wp2
                          go_ret
                          exact turns_no (by first | exact HS4.out | exact HS4.out.drew | exact HS4.out.drewN _)
                      · have hs1 : (x.f0 == t.f1) = false := by simpa using hs
                        have HSS := Aside0.mk hs
                        clear hs
                        go_quiet (fail)
                        go_wp2
                        go_roundg (L.length - (k + 1))
                        case measure => have := HJ.out; omega
                        case rel =>
                          refine ⟨k + 1, rfl, ⟨by have := HJ.out; omega⟩, ⟨fun j x' hj hx' hs' => ?_⟩, ⟨by first | exact HS3.out | exact HS3.out.drew | exact HS3.out.drewN _⟩⟩
                          rcases Nat.lt_or_ge j k with h | h
                          · exact HG.out j x' h hx' hs'
                          · obtain rfl : j = k := by omega
                            rw [HX.out] at hx'
                            injection hx' with hx'
                            rw [← hx'] at hs'
                            exact absurd hs' HSS.out)
                  · have y1 : (t.f0 == 1) = false := by
                      rw [beq_eq_false_iff_ne]
                      exact fun h => hop (.inl h)
                    have y2 : (t.f0 == 2) = false := by
                      rw [beq_eq_false_iff_ne]
                      exact fun h => hop (.inr h)
                    have HD := Aside0.mk (HDONE.out (fun h => absurd h hop))
                    clear hop HDONE
                    go_wp2
                    go_roundg (T.length - (i + 1))
                    case measure => have := HI.out; omega
                    case rel => exact ⟨i + 1, rfl, ⟨by have := HI.out; omega⟩, HD, HS4⟩
                · have HD := Aside0.mk (HDONE.out (fun h => by have := HJ.out; omega))
                  have k1 : ¬ (k : Int) < (L.length : Int) := by omega
                  have k2 : decide ((k : Int) < (L.length : Int)) = false := decide_eq_false k1
                  clear HDONE
                  go_wp2
                  go_roundg (T.length - (i + 1))
                  case measure => have := HI.out; omega
                  case rel => exact ⟨i + 1, rfl, ⟨by have := HI.out; omega⟩, HD, HS4⟩
            · have hiT : i = T.length := by have := HI.out.2; omega
              have i1 : ¬ (i : Int) < (T.length : Int) := by omega
              have i2 : decide ((i : Int) < (T.length : Int)) = false := decide_eq_false i1
              have HIT := Aside0.mk hiT
              clear hiT
              go_wp2
              go_ret
              exact ⟨true, rfl, fun _ => ⟨HN.out, HTM.out, HFT.out, by rw [← HIT.out]; exact HF.out⟩, HS.out⟩
  · have hn1 : decide ((T.length : Int) > 40) = true := decide_eq_true (by omega)
    have hn2 : decide ((40 : Int) < (T.length : Int)) = true := decide_eq_true (by omega)
    go_wp2
    go_ret
    exact turns_no (Fr.refl _ _)
end Go.Proofs.YtlbpbbfhfgacaaaDoor.Wh
