/- spec.Fresh, laws.turns. -/
import Derived.Test.YtlbpbbfhfgacaaaDoorWhK
namespace Go.Proofs.YtlbpbbfhfgacaaaDoor.Wh
open Go.RowKit Go.Maps Go.Proofs.YtlbpbbfhfgacaaaDoor.Bs Go.Proofs.YtlbpbbfhfgacaaaDoorW.PrintWords Go.Proofs.YtlbpbbfhfgacaaaDoorW.PrintLast Go.Proofs.YtlbpbbfhfgacaaaDoorW.PrintMore Go.Proofs.YtlbpbbfhfgacaaaDoor.GFnWheelParts
set_option linter.unusedVariables false
set_option linter.unusedSimpArgs false
theorem kc_take {w : World} {A : Option Addr} {T : List S30} (h : Kd.C k30 w A T.length T) (i : Nat) : Kd.C k30 w A (T.take i).length (T.take i) := by
  obtain ⟨h1, h2, h3⟩ := h
  refine ⟨rfl, by rw [List.length_take]; omega, fun hn => ?_⟩
  rw [List.length_take] at hn
  obtain ⟨ad, e, hc⟩ := h3 (by omega)
  refine ⟨ad, e, fun j p hj => hc j p ?_⟩
  rw [List.getElem?_take] at hj
  split at hj
  · exact hj
  · cases hj
theorem wheel_take {W : World} {A0 : Option Addr} {c0 : Nat} {T : List S30} (hT : Kd.C k30 W A0 T.length T) (hc0 : T.length ≤ c0) (hn : T.length ≤ 40) (hu : ∀ t ∈ T, 0 ≤ t.f1) {i : Nat} (hi : i ≤ T.length) :
    Calls Tryd.prog 10 #[.slice A0 i c0] W (WheelPost W (T.take i)) := by
  have e : (T.take i).length = i := by rw [List.length_take]; omega
  have h := wheel_calls (kc_take hT i) (c0 := c0) (by omega) (by omega) (fun t ht => hu t (List.mem_of_mem_take ht))
  rw [e] at h
  exact h
def FreshT (T : List S30) (n : Nat) : Prop := ∀ j t, j < n → T[j]? = some t → t.f0 = 0 → fAt (T.take j) t.f1 = none
def FreshPost (W : World) (T : List S30) (en : Ending) (w' : World) : Prop := ∃ r, en = .returned (.bool r) ∧ (r = true → FreshT T T.length) ∧ Same W w'
set_option maxHeartbeats 8000000 in
set_option maxRecDepth 100000 in
theorem fresh_calls {W : World} {A0 : Option Addr} {c0 : Nat} {T : List S30} (hT : Kd.C k30 W A0 T.length T) (hc0 : T.length ≤ c0) (hn : T.length ≤ 40) (hu : ∀ t ∈ T, 0 ≤ t.f1) :
    Calls Tryd.prog 13 #[.slice A0 T.length c0] W (FreshPost W T) := by
  have HT := Aside0.mk hT
  have HN := Aside0.mk hn
  have HC := Aside0.mk hc0
  have HU := Aside0.mk hu
  clear hT hc0 hu hn
  go_enter Tryd.func13, Tryd.ntmps13
  go_wp2
  go_loopg [3] T.length (fun kq v3 wr => ∃ i : Nat, v3 = .int .i64 (i : Int) ∧ Aside0 (kq + i = T.length ∧ i ≤ T.length) ∧ Aside0 (FreshT T i) ∧ Aside0 (Same W wr))
  case atStart => exact ⟨0, rfl, ⟨by omega⟩, ⟨fun j t h => by omega⟩, ⟨Fr.refl _ _⟩⟩
  case round =>
    obtain ⟨i, rfl, HI, HF, HS⟩ := hrel
    have i0 : (0 : Int) ≤ (i : Int) := by omega
    by_cases hlt : i < T.length
    · have i1 : (i : Int) < (T.length : Int) := by omega
      have i2 : decide ((i : Int) < (T.length : Int)) = true := decide_eq_true i1
      have i3 : (i : Int) ≤ (T.length : Int) := by omega
      have i4 : (i : Int) ≤ (c0 : Int) := by have := HC.out; omega
      have i5 : IntKind.i64.wrap ((i : Int) + 1) = ((i + 1 : Nat) : Int) := by rw [IntKind.wrap_i64]; have := HI.out; have := HN.out; omega
      obtain ⟨t, ht⟩ : ∃ t, T[i]? = some t := ⟨_, List.getElem?_eq_getElem hlt⟩
      have HTI := Aside0.mk ht
      have HTC := Aside0.mk (Kd.C_below HT.out (below_of_fr HS.out))
      have PW : Aside0 (Calls Tryd.prog 10 #[.slice A0 i c0] wr (WheelPost wr (T.take i))) := ⟨wheel_take HTC.out HC.out HN.out HU.out HI.out.2⟩
      clear ht
      go_wp2_with fail
      refine PW.out.mono ?_
      rintro e w2 ⟨v, L, v2, rfl, hO, hR, hLn, hS⟩
      obtain ⟨A, c, rfl, hlc, hC⟩ := ot_C hO (by rw [List.length_take] at hLn; have := HN.out; omega)
      have hL1000 : L.length ≤ 1000 := by rw [List.length_take] at hLn; have := HN.out; omega
      obtain ⟨ks, r, hsf, hsi⟩ := seat_f t.f1 hL1000
      have HSE := Aside0.mk (hR.seat hsi)
      have PS : Aside0 (Calls Tryd.prog 18 #[.slice A L.length c, .int .u64 t.f1] w2 (fun e w' => e = .returned (.int .i64 r) ∧ Drawn0 w2 w')) := ⟨spec_seat.calls ks A c L t.f1 r w2 hC hlc hsf⟩
      have HS2 : Aside0 (Same W w2) := ⟨HS.out.trans hS (fun _ _ h => h)⟩
      obtain ⟨ad, rfl, t0, t1, -⟩ := at_T30 (Kd.C_below HT.out (below_of_fr HS2.out)) (i : Int) (by omega) (by omega)
      rw [Int.toNat_natCast, rd30_at HTI.out] at t0 t1
      clear hO hR hLn hS hlc hC hL1000 hsf hsi PW
      by_cases z0 : t.f0 = 0
      · have y0 : (t.f0 == 0) = true := by simpa using z0
        have HZ := Aside0.mk z0
        clear z0
        go_wp2_with fail
        refine PS.out.mono ?_
        rintro e w3 ⟨rfl, hd⟩
        have HS3 : Aside0 (Same W w3) := ⟨HS2.out.trans (drawn_same hd) (fun _ _ h => h)⟩
        clear hd
        by_cases hr : 0 ≤ r
        · have hr1 : decide (0 ≤ r) = true := decide_eq_true hr
          have hr2 : decide (r ≥ 0) = true := decide_eq_true hr
          go_wp2
          go_ret
          exact ⟨false, rfl, fun h => (by cases h), HS3.out⟩
        · have hr1 : decide (0 ≤ r) = false := decide_eq_false hr
          have hr2 : decide (r ≥ 0) = false := decide_eq_false hr
          have HNO : Aside0 (fAt (T.take i) t.f1 = none) := ⟨by
            rcases HSE.out with ⟨j, x, h1, -⟩ | ⟨-, h⟩
            · omega
            · exact h⟩
          go_wp2
          go_roundg (T.length - (i + 1))
          case measure => have := HI.out; omega
          case rel =>
            refine ⟨i + 1, rfl, ⟨by have := HI.out; omega⟩, ⟨fun j t' hj ht' h0 => ?_⟩, HS3⟩
            rcases Nat.lt_or_ge j i with h | h
            · exact HF.out j t' h ht' h0
            · obtain rfl : j = i := by omega
              rw [HTI.out] at ht'
              injection ht' with ht'
              rw [← ht']
              exact HNO.out
      · have y0 : (t.f0 == 0) = false := by simpa using z0
        have HZ := Aside0.mk z0
        clear z0
        go_wp2
        go_roundg (T.length - (i + 1))
        case measure => have := HI.out; omega
        case rel =>
          refine ⟨i + 1, rfl, ⟨by have := HI.out; omega⟩, ⟨fun j t' hj ht' h0 => ?_⟩, HS2⟩
          rcases Nat.lt_or_ge j i with h | h
          · exact HF.out j t' h ht' h0
          · obtain rfl : j = i := by omega
            rw [HTI.out] at ht'
            injection ht' with ht'
            rw [← ht'] at h0
            exact absurd h0 HZ.out
    · have hiT : i = T.length := by have := HI.out.2; omega
      have i1 : ¬ (i : Int) < (T.length : Int) := by omega
      have i2 : decide ((i : Int) < (T.length : Int)) = false := decide_eq_false i1
      have HIT := Aside0.mk hiT
      clear hiT
      go_wp2
      go_ret
      exact ⟨true, rfl, fun _ => (by rw [← HIT.out]; exact HF.out), HS.out⟩
end Go.Proofs.YtlbpbbfhfgacaaaDoor.Wh
