/- The law FnWheelNext. -/
import Derived.Test.YtlbpbbfhfgacaaaDoorWhP
import Derived.Test.YtlbpbbfhfgacaaaDoorWhPb
namespace Go.Proofs.YtlbpbbfhfgacaaaDoor.Wh
open Go.RowKit Go.Maps Go.Proofs.YtlbpbbfhfgacaaaDoor.Bs Go.Proofs.YtlbpbbfhfgacaaaDoorW.PrintWords Go.Proofs.YtlbpbbfhfgacaaaDoorW.PrintLast Go.Proofs.YtlbpbbfhfgacaaaDoorW.PrintMore Go.Proofs.YtlbpbbfhfgacaaaDoor.GFnWheelParts
set_option linter.unusedVariables false
set_option linter.unusedSimpArgs false
theorem stays_l0 {T : List S30} (hT : T.length ≤ 1000) : ∀ n j, j + n = T.length → (∀ i t, i < j → T[i]? = some t → t.f0 ≠ 1 ∧ t.f0 ≠ 2) → ∃ r, (r = true → ∀ t ∈ T, t.f0 ≠ 1 ∧ t.f0 ≠ 2) ∧ laws_stays.l0 (n + 1) T (j : Int) = some r
  | 0, j, hj, hb => ⟨true, fun _ t ht => by
      obtain ⟨i, hi⟩ := List.getElem?_of_mem ht
      have := (List.getElem?_eq_some_iff.1 hi).1
      exact hb i t (by omega) hi, by
      unfold laws_stays.l0
      rw [if_neg (by omega)]⟩
  | n + 1, j, hj, hb => by
    have hjl : j < T.length := by omega
    have hx := List.getElem?_eq_getElem hjl
    by_cases h1 : (T[j]).f0 = 1
    · refine ⟨false, fun h => (by cases h), ?_⟩
      unfold laws_stays.l0
      rw [if_pos (by omega), if_pos (by omega), rd30_at hx, if_pos h1]
    · by_cases h2 : (T[j]).f0 = 2
      · refine ⟨false, fun h => (by cases h), ?_⟩
        unfold laws_stays.l0
        rw [if_pos (by omega), if_pos (by omega), rd30_at hx, if_neg h1, if_pos h2]
      · obtain ⟨r, h3, h4⟩ := stays_l0 hT n (j + 1) (by omega) (fun i t hi hti => by
          rcases Nat.lt_or_ge i j with h | h
          · exact hb i t h hti
          · obtain rfl : i = j := by omega
            rw [hx] at hti
            injection hti with hti
            rw [← hti]
            exact ⟨h1, h2⟩)
        refine ⟨r, h3, ?_⟩
        unfold laws_stays.l0
        rw [if_pos (by omega), if_pos (by omega), rd30_at hx, if_neg h1, if_neg h2, w64n (by omega)]
        exact h4
theorem stays_f {T : List S30} (hT : T.length ≤ 1000) : ∃ k r, laws_stays.f k T = some r ∧ (r = true → ∀ t ∈ T, t.f0 ≠ 1 ∧ t.f0 ≠ 2) := by
  obtain ⟨r, h1, h2⟩ := stays_l0 hT T.length 0 (by omega) (fun i t hi => by omega)
  exact ⟨_, r, h2, h1⟩
def NL (M : List S42) (before r : Int) : Prop := (r = maxI ∧ ∀ x ∈ M, before ≤ x.f1) ∨ (r < before ∧ (∃ x ∈ M, x.f1 = r) ∧ ∀ x ∈ M, r ≤ x.f1)
theorem next_l0 {L : List S42} {before : Int} (hL : L.length ≤ 1000) (hb : before < 2 ^ 62) : ∀ n j least, j + n = L.length → NL (L.take j) before least → ∃ r, NL L before r ∧ spec_Next.l0 (n + 1) L before least (j : Int) = some r
  | 0, j, least, hj, h => ⟨least, by
      rw [List.take_of_length_le (by omega)] at h
      exact h, by
      unfold spec_Next.l0
      rw [if_neg (by omega)]⟩
  | n + 1, j, least, hj, h => by
    have hjl : j < L.length := by omega
    have hx := List.getElem?_eq_getElem hjl
    have htk : L.take (j + 1) = L.take j ++ [L[j]] := by rw [List.take_add_one, hx]; rfl
    have hm : maxI = 9223372036854775807 := rfl
    have mem : ∀ x, x ∈ L.take (j + 1) ↔ x ∈ L.take j ∨ x = L[j] := fun x => by rw [htk, List.mem_append, List.mem_singleton]
    by_cases h1 : (L[j]).f1 < before
    · by_cases h2 : (L[j]).f1 < least
      · obtain ⟨r, h3, h4⟩ := next_l0 hL hb n (j + 1) (L[j]).f1 (by omega) (.inr ⟨h1, ⟨_, (mem _).2 (.inr rfl), rfl⟩, fun x hx' => by
          rcases (mem x).1 hx' with h5 | h5
          · rcases h with ⟨h6, h7⟩ | ⟨h6, h7, h8⟩
            · have := h7 x h5
              omega
            · have := h8 x h5
              omega
          · rw [h5]
            exact Int.le_refl _⟩)
        refine ⟨r, h3, ?_⟩
        unfold spec_Next.l0
        rw [if_pos (by omega), if_pos (by omega), rd_at hx, if_pos h1, if_pos h2, w64n (by omega)]
        exact h4
      · obtain ⟨r, h3, h4⟩ := next_l0 hL hb n (j + 1) least (by omega) (by
          rcases h with ⟨h6, h7⟩ | ⟨h6, ⟨y, h7, h9⟩, h8⟩
          · omega
          · refine .inr ⟨h6, ⟨y, (mem y).2 (.inl h7), h9⟩, fun x hx' => ?_⟩
            rcases (mem x).1 hx' with h5 | h5
            · exact h8 x h5
            · rw [h5]
              omega)
        refine ⟨r, h3, ?_⟩
        unfold spec_Next.l0
        rw [if_pos (by omega), if_pos (by omega), rd_at hx, if_pos h1, if_neg h2, w64n (by omega)]
        exact h4
    · obtain ⟨r, h3, h4⟩ := next_l0 hL hb n (j + 1) least (by omega) (by
        rcases h with ⟨h6, h7⟩ | ⟨h6, ⟨y, h7, h9⟩, h8⟩
        · refine .inl ⟨h6, fun x hx' => ?_⟩
          rcases (mem x).1 hx' with h5 | h5
          · exact h7 x h5
          · rw [h5]
            omega
        · refine .inr ⟨h6, ⟨y, (mem y).2 (.inl h7), h9⟩, fun x hx' => ?_⟩
          rcases (mem x).1 hx' with h5 | h5
          · exact h8 x h5
          · rw [h5]
            omega)
      refine ⟨r, h3, ?_⟩
      unfold spec_Next.l0
      rw [if_pos (by omega), if_pos (by omega), rd_at hx, if_neg h1, w64n (by omega)]
      exact h4
theorem next_f {L : List S42} {f : Fm} {before : Int} (hr : Rep L f) (hL : L.length ≤ 1000) (hb : before < 2 ^ 62) : ∃ k r, spec_Next.f k L before = some r ∧ NextIs f before r := by
  obtain ⟨r, h1, h2⟩ := next_l0 hL hb L.length 0 9223372036854775807 (by omega) (.inl ⟨rfl, fun x hx => by simp at hx⟩)
  refine ⟨_, r, h2, ?_⟩
  rcases h1 with ⟨h3, h4⟩ | ⟨h3, ⟨x, h4, h5⟩, h6⟩
  · exact .inl ⟨h3, fun s e he => h4 _ ((hr.mem s e).1 he)⟩
  · exact .inr ⟨h3, ⟨x.f0, by rw [← h5]; exact (hr.mem _ _).2 h4⟩, fun s e he => h6 _ ((hr.mem s e).1 he)⟩
theorem next_one {f : Fm} {before r r' : Int} (h : NextIs f before r) (h' : NextIs f before r') : r = r' := by
  rcases h with ⟨h1, h2⟩ | ⟨h1, ⟨s, h2⟩, h3⟩
  · rcases h' with ⟨g1, g2⟩ | ⟨g1, ⟨s', g2⟩, g3⟩
    · rw [h1, g1]
    · have := h2 _ _ g2
      omega
  · rcases h' with ⟨g1, g2⟩ | ⟨g1, ⟨s', g2⟩, g3⟩
    · have := g2 _ _ h2
      omega
    · have := h3 _ _ g2
      have := g3 _ _ h2
      omega
theorem goodR {T : List S30} (h : GoodT T) (hu : ∀ t ∈ T, U64 t.f1) : GoodR T := by
  refine ⟨Nat.le_trans h.len (by decide), fun i t ht => ?_⟩
  have hi := (List.getElem?_eq_some_iff.1 ht).1
  obtain ⟨h1, h2, h3, h4⟩ := h.times i t hi ht
  exact ⟨hu t (List.mem_of_getElem? ht), fun h0 => ⟨h1, by omega, h.fresh i t hi ht h0⟩, fun h0 => ⟨h1, by omega, h3, by omega, h.true_ i t hi ht h0⟩⟩
theorem u64_nn {s : Int} (h : U64 s) : 0 ≤ s := (bounds_u64 h).1
def LawPost (W : World) (en : Ending) (w' : World) : Prop := en = .returned (.bool true) ∧ Same W w'
set_option maxHeartbeats 8000000 in
set_option maxRecDepth 100000 in
theorem next_law {W : World} {A0 : Option Addr} {c0 : Nat} {T : List S30} {before : Int} (h0 : 0 < W.heap.size) (hT : Kd.C k30 W A0 T.length T) (hc0 : T.length ≤ c0) (hu : ∀ t ∈ T, U64 t.f1) (hg : Gl W) :
    Calls Tryd.prog 4 #[.slice A0 T.length c0, .int .i64 before] W (LawPost W) := by
  have PT : Aside0 (Calls Tryd.prog 5 #[.slice A0 T.length c0] W (TurnsPost W T)) := ⟨turns_calls hT hc0 (fun t ht => u64_nn (hu t ht))⟩
  have PA : Aside0 (∀ w, Same W w → Calls Tryd.prog 6 #[] w (AwakePost w)) := ⟨fun w hs => awake_calls (Nat.lt_of_lt_of_le h0 hs.size) (hg.fr hs (fun h => h))⟩
  have HT := Aside0.mk hT
  have HC := Aside0.mk hc0
  have HU := Aside0.mk hu
  have HG := Aside0.mk hg
  have H0 := Aside0.mk h0
  clear hT hc0 hu hg h0
  go_enter Tryd.func4, Tryd.ntmps4
  by_cases hbig : (T.length : Int) > 2147483647
  · have hb1 : decide ((T.length : Int) > 2147483647) = true := decide_eq_true hbig
    have hb2 : decide ((2147483647 : Int) < (T.length : Int)) = true := decide_eq_true hbig
    go_wp2
    go_ret
    exact ⟨rfl, Fr.refl _ _⟩
  · have hb1 : decide ((T.length : Int) > 2147483647) = false := decide_eq_false hbig
    have hb2 : decide ((2147483647 : Int) < (T.length : Int)) = false := decide_eq_false hbig
    go_wp2_with fail
    refine PT.out.mono ?_
    rintro e w1 ⟨r, rfl, hr, hs1⟩
    have HR := Aside0.mk hr
    have HS1 := Aside0.mk hs1
    have PA1 := Aside0.mk (PA.out w1 hs1)
    clear hr hs1 PT hbig
    cases r with
    | false =>
      go_wp2_with fail
      refine PA1.out.mono ?_
      rintro e w2 ⟨rfl, hs2⟩
      have HS2 := Aside0.mk hs2
      clear hs2
      go_wp2
      go_ret
      exact ⟨rfl, HS1.out.trans HS2.out (fun _ _ h => h)⟩
    | true =>
      have HGT := Aside0.mk (HR.out rfl)
      obtain ⟨k, rs, hk, hst⟩ := stays_f (T := T) (Nat.le_trans HGT.out.len (by decide))
      have PS : Aside0 (Calls Tryd.prog 9 #[.slice A0 T.length c0] w1 (fun e w' => e = .returned (.bool rs) ∧ Drawn0 w1 w')) := ⟨laws_stays.calls k A0 c0 T rs w1 (Kd.C_below HT.out (below_of_fr HS1.out)) HC.out hk⟩
      have HST := Aside0.mk hst
      clear hk hst HR
      go_wp2_with fail
      refine PS.out.mono ?_
      rintro e w2 ⟨rfl, hd⟩
      have HS2 : Aside0 (Same W w2) := ⟨HS1.out.trans (drawn_same hd) (fun _ _ h => h)⟩
      have PA2 := Aside0.mk (PA.out w2 HS2.out)
      clear hd PS PA1
      cases rs with
      | false =>
        go_wp2_with fail
        refine PA2.out.mono ?_
        rintro e w3 ⟨rfl, hs3⟩
        have HS3 := Aside0.mk hs3
        clear hs3
        go_wp2
        go_ret
        exact ⟨rfl, HS2.out.trans HS3.out (fun _ _ h => h)⟩
      | true =>
        have HSY := Aside0.mk (HST.out rfl)
        clear HST
        by_cases hb0 : before < 0
        · have e0 : decide (before < 0) = true := decide_eq_true hb0
          go_wp2_with fail
          refine PA2.out.mono ?_
          rintro e w3 ⟨rfl, hs3⟩
          have HS3 := Aside0.mk hs3
          clear hs3
          go_wp2
          go_ret
          exact ⟨rfl, HS2.out.trans HS3.out (fun _ _ h => h)⟩
        · have e0 : decide (before < 0) = false := decide_eq_false hb0
          by_cases hb6 : before > 72057594037927936
          · have e6 : decide (before > 72057594037927936) = true := decide_eq_true hb6
            have e7 : decide (72057594037927936 < before) = true := decide_eq_true hb6
            go_wp2_with fail
            refine PA2.out.mono ?_
            rintro e w3 ⟨rfl, hs3⟩
            have HS3 := Aside0.mk hs3
            clear hs3
            go_wp2
            go_ret
            exact ⟨rfl, HS2.out.trans HS3.out (fun _ _ h => h)⟩
          · have e6 : decide (before > 72057594037927936) = false := decide_eq_false hb6
            have e7 : decide (72057594037927936 < before) = false := decide_eq_false hb6
            have HBB : Aside0 (before < 2 ^ 62) := ⟨by omega⟩
            have PW : Aside0 (Calls Tryd.prog 10 #[.slice A0 T.length c0] w2 (WheelPost w2 T)) := ⟨wheel_calls (Kd.C_below HT.out (below_of_fr HS2.out)) HC.out HGT.out.len (fun t ht => u64_nn (HU.out t ht))⟩
            clear PA2
            go_wp2_with fail
            refine PW.out.mono ?_
            rintro e w3 ⟨v, L, v2, rfl, hO, hR, hLn, hs3⟩
            have hL40 : L.length ≤ 40 := Nat.le_trans hLn HGT.out.len
            obtain ⟨A, c, rfl, hlc, hC⟩ := ot_C hO (by omega)
            obtain ⟨kn, rn, hkn, hnx⟩ := next_f hR (by omega) HBB.out
            have HNX := Aside0.mk hnx
            have HS3 : Aside0 (Same W w3) := ⟨HS2.out.trans hs3 (fun _ _ h => h)⟩
            have PN : Aside0 (Calls Tryd.prog 11 #[.slice A0 T.length c0, .int .i64 before] w3 (WNextPost w3 T before)) := ⟨wnext_calls (Nat.lt_of_lt_of_le H0.out HS3.out.size) (Kd.C_below HT.out (below_of_fr HS3.out)) (HG.out.fr HS3.out (fun h => h)) (goodR HGT.out HU.out) HSY.out HBB.out⟩
            have PX : Aside0 (∀ w, Same w3 w → Calls Tryd.prog 12 #[.slice A L.length c, .int .i64 before] w (fun e w' => e = .returned (.int .i64 rn) ∧ Drawn0 w w')) := ⟨fun w hs => spec_Next.calls kn A c L before rn w (Kd.C_below hC (below_of_fr hs)) hlc hkn⟩
            clear hO hR hLn hs3 hL40 hlc hC hkn hnx PW
            go_wp2_with fail
            refine PN.out.mono ?_
            rintro e w4 ⟨rw_, rfl, hnw, hs4⟩
            obtain rfl : rw_ = rn := next_one hnw HNX.out
            have PX4 := Aside0.mk (PX.out w4 hs4)
            have HS4 : Aside0 (Same W w4) := ⟨HS3.out.trans hs4 (fun _ _ h => h)⟩
            clear hnw hs4 PN PX
            go_wp2_with fail
            refine PX4.out.mono ?_
            rintro e w5 ⟨rfl, hd5⟩
            have HS5 : Aside0 (Same W w5) := ⟨HS4.out.trans (drawn_same hd5) (fun _ _ h => h)⟩
            have PA5 := Aside0.mk (PA.out w5 HS5.out)
            clear hd5 PX4
            have eb : (rw_ == rw_) = true := by simp
            go_wp2_with fail
            refine PA5.out.mono ?_
            rintro e w6 ⟨rfl, hs6⟩
            have HS6 := Aside0.mk hs6
            clear hs6
            go_wp2
            go_ret
            exact ⟨rfl, HS5.out.trans HS6.out (fun _ _ h => h)⟩
end Go.Proofs.YtlbpbbfhfgacaaaDoor.Wh
