/- The law FnWheelParts. -/
import Derived.Test.YtlbpbbfhfgacaaaDoorWhU
import Derived.Test.YtlbpbbfhfgacaaaDoorWhR
namespace Go.Proofs.YtlbpbbfhfgacaaaDoor.Wh
open Go.RowKit Go.Maps Go.Proofs.YtlbpbbfhfgacaaaDoor.Bs Go.Proofs.YtlbpbbfhfgacaaaDoorW.PrintWords Go.Proofs.YtlbpbbfhfgacaaaDoorW.PrintLast Go.Proofs.YtlbpbbfhfgacaaaDoorW.PrintMore Go.Proofs.YtlbpbbfhfgacaaaDoor.GFnWheelParts
set_option linter.unusedVariables false
set_option linter.unusedSimpArgs false
theorem kc42_of_rg {w : World} {A : Option Addr} {L : List S42} (h : ReadG w A L.length 2 (tcS L)) (hL : L.length ≤ 1000000) : Kd.C k42 w A L.length L := by
  refine ⟨rfl, by omega, fun hn => ?_⟩
  obtain ⟨ad, e2, hcell⟩ := h.read (by rw [h.len]; omega)
  refine ⟨ad, e2, fun j p hj => ⟨[.int .u64 p.f0, .int .i64 p.f1], rfl, k42_mk w p, fun i u hu => ?_⟩⟩
  obtain ⟨g1, g2⟩ := tcS_get hj
  show w.cell? (ad.add (j * 2 + i)) = some u
  rcases i with _ | _ | i
  · injection hu with hu
    rw [← hu]
    exact hcell _ _ g1
  · injection hu with hu
    rw [← hu]
    exact hcell _ _ g2
  · simp at hu
set_option maxHeartbeats 8000000 in
set_option maxRecDepth 100000 in
theorem parts_law {W : World} {A0 : Option Addr} {c0 : Nat} {T : List S30} {first second : Int} (h0 : 0 < W.heap.size) (hT : Kd.C k30 W A0 T.length T) (hc0 : T.length ≤ c0) (hu : ∀ t ∈ T, U64 t.f1) (hg : Gl W) :
    Calls Tryd.prog 3 #[.slice A0 T.length c0, .int .i64 first, .int .i64 second] W (LawPost W) := by
  obtain ⟨i30, hK30⟩ := ek30
  obtain ⟨i42, hK42⟩ := ek42
  have HK30 := Aside0.mk hK30
  have HK42 := Aside0.mk hK42
  have PT : Aside0 (Calls Tryd.prog 5 #[.slice A0 T.length c0] W (TurnsPost W T)) := ⟨turns_calls hT hc0 (fun t ht => u64_nn (hu t ht))⟩
  have PA : Aside0 (∀ w, Same W w → Calls Tryd.prog 6 #[] w (AwakePost w)) := ⟨fun w hs => awake_calls (Nat.lt_of_lt_of_le h0 hs.size) (hg.fr hs (fun h => h))⟩
  have HT := Aside0.mk hT
  have HC := Aside0.mk hc0
  have HU := Aside0.mk hu
  have HG := Aside0.mk hg
  have H0 := Aside0.mk h0
  clear hT hc0 hu hg h0 hK30 hK42
  go_enter Tryd.func3, Tryd.ntmps3
  by_cases hbig : (T.length : Int) > 2147483647
  · have hb1 : decide ((T.length : Int) > 2147483647) = true := decide_eq_true hbig
    have hb2 : decide ((2147483647 : Int) < (T.length : Int)) = true := decide_eq_true hbig
    go_wp2
    go_ret
    exact ⟨rfl, Fr.refl _ _⟩
  · have hb1 : decide ((T.length : Int) > 2147483647) = false := decide_eq_false hbig
    have hb2 : decide ((2147483647 : Int) < (T.length : Int)) = false := decide_eq_false hbig
    go_wp2_with fail
    refine PT.out.mono ?_
    rintro e w1 ⟨r, rfl, hr, hs1⟩
    have HR := Aside0.mk hr
    have HS1 := Aside0.mk hs1
    have PA1 := Aside0.mk (PA.out w1 hs1)
    clear hr hs1 PT hbig hb1 hb2
    have HAW : Aside0 (∀ w2 : World, Same w1 w2 → LawPost W (.returned (.bool true)) w2) := ⟨fun w2 h => ⟨rfl, HS1.out.trans h (fun _ _ h => h)⟩⟩
    cases r with
    | false =>
      go_wp2_with fail
      refine PA1.out.mono ?_
      rintro e w2 ⟨rfl, hs2⟩
      have HS2 := Aside0.mk hs2
      clear hs2
      go_wp2
      go_ret
      exact HAW.out _ HS2.out
    | true =>
      have HGT := Aside0.mk (HR.out rfl)
      clear HR
      by_cases d1 : first < 0
      · have e1 : decide (first < 0) = true := decide_eq_true d1
        go_wp2_with fail
        refine PA1.out.mono ?_
        rintro e w2 ⟨rfl, hs2⟩
        have HS2 := Aside0.mk hs2
        clear hs2
        go_wp2
        go_ret
        exact HAW.out _ HS2.out
      · have e1 : decide (first < 0) = false := decide_eq_false d1
        by_cases d2 : second < first
        · have e2 : decide (second < first) = true := decide_eq_true d2
          go_wp2_with fail
          refine PA1.out.mono ?_
          rintro e w2 ⟨rfl, hs2⟩
          have HS2 := Aside0.mk hs2
          clear hs2
          go_wp2
          go_ret
          exact HAW.out _ HS2.out
        · have e2 : decide (second < first) = false := decide_eq_false d2
          by_cases d3 : second > 72057594037927936
          · have e3_ : decide (second > 72057594037927936) = true := decide_eq_true d3
            have e4 : decide (72057594037927936 < second) = true := decide_eq_true d3
            go_wp2_with fail
            refine PA1.out.mono ?_
            rintro e w2 ⟨rfl, hs2⟩
            have HS2 := Aside0.mk hs2
            clear hs2
            go_wp2
            go_ret
            exact HAW.out _ HS2.out
          · have e3_ : decide (second > 72057594037927936) = false := decide_eq_false d3
            have e4 : decide (72057594037927936 < second) = false := decide_eq_false d3
            have HFS : Aside0 (first ≤ second) := ⟨by omega⟩
            go_upto_region 5 with (fail)
            obtain ⟨Ta, hTa⟩ : ∃ Ta, Ta = T ++ [e3 first, e3 first, e3 second] := ⟨_, rfl⟩
            obtain ⟨Tb, hTb⟩ : ∃ Tb, Tb = T ++ [e3 second] := ⟨_, rfl⟩
            have HTA : Aside0 (Ta = T ++ [e3 first, e3 first, e3 second] ∧ Ta.length = T.length + 3 ∧ GoodR Ta ∧ c30 Ta = [] ++ c30 T ++ [.int .i64 3, .int .u64 0, .int .i64 first, .int .i64 0, .bool false, .int .i64 3, .int .u64 0, .int .i64 first, .int .i64 0, .bool false, .int .i64 3, .int .u64 0, .int .i64 second, .int .i64 0, .bool false]) :=
              ⟨hTa, by rw [hTa]; simp, by rw [hTa]; exact good_more HGT.out HU.out (by simp) (fun t ht => by simp only [List.mem_cons, List.not_mem_nil, or_false] at ht; rcases ht with rfl | rfl | rfl <;> exact ⟨_, rfl⟩), by rw [hTa, c30_app]; rfl⟩
            have HTB : Aside0 (Tb = T ++ [e3 second] ∧ Tb.length = T.length + 1 ∧ GoodR Tb ∧ c30 Tb = [] ++ c30 T ++ [.int .i64 3, .int .u64 0, .int .i64 second, .int .i64 0, .bool false]) :=
              ⟨hTb, by rw [hTb]; simp, by rw [hTb]; exact good_more HGT.out HU.out (by simp) (fun t ht => by simp only [List.mem_cons, List.not_mem_nil, or_false] at ht; exact ⟨_, ht⟩), by rw [hTb, c30_app]; rfl⟩
            have HRT : Aside0 (∀ w : World, Same W w → ReadG w A0 T.length 5 (c30 T)) := ⟨fun w hs => rg_of_kc (Kd.C_below HT.out (below_of_fr hs))⟩
            clear hTa hTb d1 d2 d3 e1 e2 e3_ e4 PA1
            have HE1 : Aside0 ((w1.alloc (.cells #[] 30)).ownsRow w1.heap.size 30 5 (.slice (some ⟨w1.heap.size, 0, none⟩) 0 0) 0 []) := ⟨(row_g0 (w2 := w1) (W := w1) (e := 30) (size := 5) (Fr.refl _ _)).own⟩
            have HX1 : Aside0 (Same W (w1.alloc (.cells #[] 30)) ∧ w1.heap.size ≤ (w1.alloc (.cells #[] 30)).heap.size ∧ 0 + T.length ≤ 1000000) := ⟨HS1.out.alloc _, by simp, by have := HGT.out.len; omega⟩
            go_wp2_with (first
              | (at_builtin; refine wpList_ownG HK30.out rfl (.tmp 33) (.tmp 34) rfl (v := .slice (some ⟨w1.heap.size, 0, none⟩) 0 0) (n := 0) (m := T.length) (xs := []) (ys := c30 T) rfl HE1.out HX1.out.2.1 rfl (HRT.out _ HX1.out.1) HX1.out.2.2 ?_; intro v3 w3 ho3 hg3 hat3)
              | (at_builtin; refine wpList_ownG HK30.out rfl (.tmp 35) (.tmp 42) rfl (v := v3) (n := 0 + T.length) (m := 3) (xs := [] ++ c30 T) (ys := [.int .i64 3, .int .u64 0, .int .i64 first, .int .i64 0, .bool false, .int .i64 3, .int .u64 0, .int .i64 first, .int .i64 0, .bool false, .int .i64 3, .int .u64 0, .int .i64 second, .int .i64 0, .bool false]) rfl (ho3.alloc _) (Nat.le_trans HX1.out.2.1 (Nat.le_trans hg3.size (by simp))) rfl (read_newG (by rfl) (by intro u hu; simp only [List.mem_cons, List.not_mem_nil, or_false] at hu; rcases hu with rfl | rfl | rfl | rfl | rfl | rfl | rfl | rfl | rfl | rfl | rfl | rfl | rfl | rfl | rfl <;> rfl)) (by have := HGT.out.len; omega) ?_; intro v4 w4 ho4 hg4 hat4; rw [← HTA.out.2.2.2, show 0 + T.length + 3 = Ta.length by rw [HTA.out.2.1]; omega] at ho4; obtain ⟨A4, c4, hv4, hl4, hr4⟩ := read_own (w := w4) (W := w4) ho4 (c30_one Ta); subst hv4)
              | fail)
            have hs4 : Same w1 w4 := by
              have f3 : Fr (fun k => (Value.slice (some ⟨w1.heap.size, 0, none⟩) 0 0).ownBlock = some k) w1 w3 := (((Fr.refl (fun _ => False) w1).alloc _).mono (fun _ h => h.elim)).trans (Fr.grown hg3) (fun _ _ h => h)
              have f4 : Fr (fun k => v3.ownBlock = some k) w3 w4 := (((Fr.refl (fun _ => False) w3).alloc _).mono (fun _ h => h.elim)).trans (Fr.grown hg4) (fun _ _ h => h)
              refine ⟨f4.os.trans f3.os, f4.tape.trans f3.tape, f4.output.trans f3.output, Nat.le_trans f3.size f4.size, fun k hk _ => ?_⟩
              have e1 := f3.block k hk (fun e => by
                have : w1.heap.size = k := by simpa [Value.ownBlock] using e
                omega)
              refine (f4.block k (Nat.lt_of_lt_of_le hk f3.size) (fun e => ?_)).trans e1
              have := (own_base ho3 e).1
              omega
            have HS4 : Aside0 (Same W w4) := ⟨HS1.out.trans hs4 (fun _ _ h => h)⟩
            have PR : Aside0 (Calls Tryd.prog 7 #[.slice A4 Ta.length c4] w4 (RunPost w4 Ta)) := ⟨run_calls (Nat.lt_of_lt_of_le H0.out HS4.out.size) (kc_of_rg hr4 (by have := HTA.out.2.1; have := HGT.out.len; omega)) (HG.out.fr HS4.out (fun h => h)) HTA.out.2.2.1⟩
            clear ho3 hg3 hat3 ho4 hg4 hat4 hr4 hl4 HE1 HX1 hs4
            refine PR.out.mono ?_
            rintro e w5 ⟨va, As, ca, La, rfl, hOa, hla, hca, hs5⟩
            have HOa := Aside0.mk hOa
            have HCa := Aside0.mk hca
            have HLa : Aside0 (As.length = T.length + 3) := ⟨by rw [hla]; exact HTA.out.2.1⟩
            have HS5 : Aside0 (Same W w5) := ⟨HS4.out.trans hs5 (fun _ _ h => h)⟩
            have HB45 : Aside0 (w4.heap.size ≤ w5.heap.size) := ⟨hs5.size⟩
            obtain ⟨ga, cpa, hva, hcpa, hata⟩ := out_at hOa (by rw [hla, HTA.out.2.1]; omega)
            subst hva
            rw [HLa.out] at hcpa ⊢
            have HATA := Aside0.mk hata
            have HCPA := Aside0.mk hcpa
            clear hOa hla hca hs5 PR hata hcpa
            go_upto_region 6 with (fail)
            have HE1 : Aside0 ((w5.alloc (.cells #[] 30)).ownsRow w5.heap.size 30 5 (.slice (some ⟨w5.heap.size, 0, none⟩) 0 0) 0 []) := ⟨(row_g0 (w2 := w5) (W := w5) (e := 30) (size := 5) (Fr.refl _ _)).own⟩
            have HX1 : Aside0 (Same W (w5.alloc (.cells #[] 30)) ∧ w5.heap.size ≤ (w5.alloc (.cells #[] 30)).heap.size ∧ 0 + T.length ≤ 1000000) := ⟨HS5.out.alloc _, by simp, by have := HGT.out.len; omega⟩
            go_wp2_with (first
              | (at_builtin; refine wpList_ownG HK30.out rfl (.tmp 48) (.tmp 49) rfl (v := .slice (some ⟨w5.heap.size, 0, none⟩) 0 0) (n := 0) (m := T.length) (xs := []) (ys := c30 T) rfl HE1.out HX1.out.2.1 rfl (HRT.out _ HX1.out.1) HX1.out.2.2 ?_; intro v6 w6 ho6 hg6 hat6)
              | (at_builtin; refine wpList_ownG HK30.out rfl (.tmp 50) (.tmp 53) rfl (v := v6) (n := 0 + T.length) (m := 1) (xs := [] ++ c30 T) (ys := [.int .i64 3, .int .u64 0, .int .i64 second, .int .i64 0, .bool false]) rfl (ho6.alloc _) (Nat.le_trans HX1.out.2.1 (Nat.le_trans hg6.size (by simp))) rfl (read_newG (by rfl) (by intro u hu; simp only [List.mem_cons, List.not_mem_nil, or_false] at hu; rcases hu with rfl | rfl | rfl | rfl | rfl <;> rfl)) (by have := HGT.out.len; omega) ?_; intro v7 w7 ho7 hg7 hat7; rw [← HTB.out.2.2.2, show 0 + T.length + 1 = Tb.length by rw [HTB.out.2.1]; omega] at ho7; obtain ⟨A7, c7, hv7, hl7, hr7⟩ := read_own (w := w7) (W := w7) ho7 (c30_one Tb); subst hv7)
              | fail)
            have hs7 : Same w5 w7 := by
              have f3 : Fr (fun k => (Value.slice (some ⟨w5.heap.size, 0, none⟩) 0 0).ownBlock = some k) w5 w6 := (((Fr.refl (fun _ => False) w5).alloc _).mono (fun _ h => h.elim)).trans (Fr.grown hg6) (fun _ _ h => h)
              have f4 : Fr (fun k => v6.ownBlock = some k) w6 w7 := (((Fr.refl (fun _ => False) w6).alloc _).mono (fun _ h => h.elim)).trans (Fr.grown hg7) (fun _ _ h => h)
              refine ⟨f4.os.trans f3.os, f4.tape.trans f3.tape, f4.output.trans f3.output, Nat.le_trans f3.size f4.size, fun k hk _ => ?_⟩
              have e1 := f3.block k hk (fun e => by
                have : w5.heap.size = k := by simpa [Value.ownBlock] using e
                omega)
              refine (f4.block k (Nat.lt_of_lt_of_le hk f3.size) (fun e => ?_)).trans e1
              have := (own_base ho6 e).1
              omega
            have HS57 := Aside0.mk hs7
            have HS7 : Aside0 (Same W w7) := ⟨HS5.out.trans hs7 (fun _ _ h => h)⟩
            have PR : Aside0 (Calls Tryd.prog 7 #[.slice A7 Tb.length c7] w7 (RunPost w7 Tb)) := ⟨run_calls (Nat.lt_of_lt_of_le H0.out HS7.out.size) (kc_of_rg hr7 (by have := HTB.out.2.1; have := HGT.out.len; omega)) (HG.out.fr HS7.out (fun h => h)) HTB.out.2.2.1⟩
            clear ho6 hg6 hat6 ho7 hg7 hat7 hr7 hl7 HE1 HX1 hs7
            refine PR.out.mono ?_
            rintro e w8 ⟨vb, Bs, cb, Lb, rfl, hOb, hlb, hcb, hs8⟩
            have HOb := Aside0.mk hOb
            have HLb : Aside0 (Bs.length = T.length + 1) := ⟨by rw [hlb]; exact HTB.out.2.1⟩
            have HS58 : Aside0 (Same w5 w8) := ⟨HS57.out.trans hs8 (fun _ _ h => h)⟩
            have HS8 : Aside0 (Same W w8) := ⟨HS7.out.trans hs8 (fun _ _ h => h)⟩
            obtain rfl : ca = cb := count_of HFS.out (by rw [← HTA.out.1]; exact HCa.out) (by rw [← HTB.out.1]; exact hcb)
            obtain ⟨gb, cpb, hvb, hcpb, hatb⟩ := out_at hOb (by rw [hlb, HTB.out.2.1]; omega)
            subst hvb
            rw [HLb.out] at hcpb ⊢
            -- the answers
            obtain ⟨a1, ha1⟩ : ∃ a, As[T.length]? = some a := ⟨_, List.getElem?_eq_getElem (by have := HLa.out; omega)⟩
            obtain ⟨a2, ha2⟩ : ∃ a, As[T.length + 1]? = some a := ⟨_, List.getElem?_eq_getElem (by have := HLa.out; omega)⟩
            obtain ⟨a3, ha3⟩ : ∃ a, As[T.length + 2]? = some a := ⟨_, List.getElem?_eq_getElem (by have := HLa.out; omega)⟩
            obtain ⟨b1, hb1⟩ : ∃ a, Bs[T.length]? = some a := ⟨_, List.getElem?_eq_getElem (by have := HLb.out; omega)⟩
            obtain ⟨⟨r1, o1⟩, ⟨r2, o2⟩, ⟨r3, o3⟩⟩ := And.intro (HOa.out.ans _ _ ha1) (And.intro (HOa.out.ans _ _ ha2) (HOa.out.ans _ _ ha3))
            obtain ⟨rY, oY⟩ := hOb.ans _ _ hb1
            rw [HTA.out.1] at o1 o2 o3
            rw [HTB.out.1] at oY
            have HAN := Aside0.mk (ansd_of o1 o2 o3 oY)
            obtain ⟨LF, hLF, hLFl⟩ := rep_ex _ T rfl
            have HLF : Aside0 (Rep LF (fAt T) ∧ LF.length ≤ 40) := ⟨hLF, Nat.le_trans hLFl HGT.out.len⟩
            have q1 := (HS58.out.cell (HATA.out _ _ ha1))
            have q2 := (HS58.out.cell (HATA.out _ _ ha2))
            have q3 := (HS58.out.cell (HATA.out _ _ ha3))
            have qY := hatb _ _ hb1
            obtain ⟨k1, v1, X1⟩ := a1
            obtain ⟨k2, v2, X2⟩ := a2
            obtain ⟨k3, v3, X3⟩ := a3
            obtain ⟨kb, vY, Y⟩ := b1
            dsimp only at r1 r2 r3 rY q1 q2 q3 qY HAN
            obtain rfl : X2 = [] := HAN.out.empty
            replace r1 := ownsRow_fr r1 HS58.out (fun _ _ h => h)
            replace r2 := ownsRow_fr r2 HS58.out (fun _ _ h => h)
            replace r3 := ownsRow_fr r3 HS58.out (fun _ _ h => h)
            obtain ⟨A1, cc1, hv1, hl1, hr1⟩ := read_own (w := w8) (W := w8) r1 (tcells_one X1)
            obtain ⟨A2, cc2, hv2, hl2, hr2⟩ := read_own (w := w8) (W := w8) r2 (tcells_one [])
            obtain ⟨A3, cc3, hv3, hl3, hr3⟩ := read_own (w := w8) (W := w8) r3 (tcells_one X3)
            obtain ⟨AY, ccY, hvY, hlY, hrY⟩ := read_own (w := w8) (W := w8) rY (tcells_one Y)
            subst hv1 hv2 hv3 hvY
            have HR1 := Aside0.mk (And.intro hr1 hl1)
            have HR3 := Aside0.mk (And.intro hr3 hl3)
            have HRY := Aside0.mk (And.intro hrY hlY)
            have HQ := Aside0.mk (And.intro q1 (And.intro q3 qY))
            have t40 : (T.length : Int) ≤ 40 := by have := HGT.out.len; omega
            have tnn : (0 : Int) ≤ (T.length : Int) := by omega
            have ww1 : IntKind.i64.wrap ((T.length : Int) + 1) = (T.length : Int) + 1 := by rw [IntKind.wrap_i64]; omega
            have ww2 : IntKind.i64.wrap ((T.length : Int) + 2) = (T.length : Int) + 2 := by rw [IntKind.wrap_i64]; omega
            have ww3 : IntKind.i64.wrap ((T.length : Int) + 3) = (T.length : Int) + 3 := by rw [IntKind.wrap_i64]; omega
            have tt1 : (T.length : Int) + 1 < (T.length : Int) + 3 := by omega
            have tt0 : (0 : Int) ≤ (T.length : Int) + 1 := by omega
            clear hOb hlb hcb hs8 PR hatb ha1 ha2 ha3 hb1 r1 r2 r3 rY o1 o2 o3 oY hLF hLFl hr1 hr2 hr3 hrY hl1 hl2 hl3 hlY hcpb q1 q3 qY
            go_upto_region 9 with (fail)
            have HKS : Aside0 (∀ B : World, Same w8 B → Same w8 B ∧ B.cell? ⟨ga, T.length * 2 + 1, none⟩ = some (.slice A1 X1.length cc1) ∧ B.cell? ⟨ga, ((T.length : Int) + 2).toNat * 2 + 1, none⟩ = some (.slice A3 X3.length cc3)) := ⟨fun B hb => ⟨hb, hb.cell HQ.out.1, by rw [show ((T.length : Int) + 2).toNat = T.length + 2 by omega]; exact hb.cell HQ.out.2.1⟩⟩
            have HN1 : Aside0 (0 + X1.length ≤ 1000000 ∧ 0 + X1.length + X3.length ≤ 1000000) := ⟨by have := HAN.out.l1 HLF.out.1 HLF.out.2; have := HAN.out.l3 HLF.out.1 HLF.out.2; omega⟩
            have tt2 : (T.length : Int) < (T.length : Int) + 3 := by omega
            have tt3 : (T.length : Int) + 2 < (T.length : Int) + 3 := by omega
            have tt4 : (0 : Int) ≤ (T.length : Int) + 2 := by omega
            go_region_held3 (fun B => Same w8 B ∧ B.cell? ⟨ga, T.length * 2 + 1, none⟩ = some (.slice A1 X1.length cc1) ∧ B.cell? ⟨ga, ((T.length : Int) + 2).toNat * 2 + 1, none⟩ = some (.slice A3 X3.length cc3))
              (first | exact HKS.out _ (Fr.refl _ _).drew | exact HKS.out _ ((Fr.refl _ _).drew.alloc _) | exact HKS.out _ (((Fr.refl _ _).alloc _).drew) | exact HKS.out _ ((Fr.refl _ _).alloc _) | exact HKS.out _ (Fr.refl _ _) | exact HKS.out _ hr10.fr | exact HKS.out _ hr10.fr.drew | exact HKS.out _ hr9.fr | exact HKS.out _ hr9.fr.drew)
              (first
                | (refine step_rowG HK42.out (by rfl) (.tmp 88) (.tmp 94) (by rfl) (w2 := w8) (n := 0) (m := X1.length) (xs := []) (ys := tcells X1) (by rfl) (by first | exact row_g1 | exact row_g0 (Fr.refl _ _) | exact row_g0 (Fr.refl _ _).drew | exact (row_g0 (Fr.refl _ _)).drew) (by rfl) (fun hf => HR1.out.1.fr hf (fun _ _ h => h)) HN1.out.1 ?_; intro v9 w9 hr9 hg9 ha9)
                | (refine step_rowG HK42.out (by rfl) (.tmp 95) (.tmp 102) (by rfl) (w2 := w8) (n := 0 + X1.length) (m := X3.length) (xs := [] ++ tcells X1) (ys := tcells X3) (by rfl) (by first | exact hr9 | exact hr9.drew) (by rfl) (fun hf => HR3.out.1.fr hf (fun _ _ h => h)) HN1.out.2 ?_; intro v10 w10 hr10 hg10 ha10))
            obtain ⟨M1, hM1⟩ : ∃ M1, M1 = (X1 ++ X3).map mk42 := ⟨_, rfl⟩
            obtain ⟨M2, hM2⟩ : ∃ M2, M2 = Y.map mk42 := ⟨_, rfl⟩
            have hl1 : M1.length = 0 + X1.length + X3.length := by rw [hM1]; simp
            have hl2 : M2.length = Y.length := by rw [hM2]; simp
            have hot : OT w10 w8.heap.size v10 M1 := by
              show w10.ownsRow w8.heap.size 42 2 v10 M1.length (tcS M1)
              have e : tcS M1 = [] ++ tcells X1 ++ tcells X3 := by
                rw [hM1, tcS_mk]
                simp [tcells]
              rw [e, hl1]
              exact hr10.own
            obtain ⟨kS, hkS⟩ := HAN.out.same HFS.out HLF.out.1 HLF.out.2
            rw [← hM1, ← hM2] at hkS
            obtain ⟨A10, c10, hv10, hlc10, hC10⟩ := ot_C hot (by rw [hl1]; exact HN1.out.2)
            subst hv10
            have hCY : Kd.C k42 w10 AY M2.length M2 := by
              refine kc42_of_rg ?_ (by rw [hl2]; have := HAN.out.lY HLF.out.1 HLF.out.2; omega)
              rw [hl2, hM2, tcS_mk]
              exact HRY.out.1.fr hr10.fr (fun _ _ h => h)
            have PS : Aside0 (Calls Tryd.prog 8 #[.slice A10 M1.length c10, .slice AY M2.length ccY] w10 (fun e w' => e = .returned (.bool true) ∧ Below w10.heap.size w10 w')) := ⟨laws_sameTasks.calls kS A10 c10 M1 AY ccY M2 true w10 hC10 hlc10 hCY (by rw [hl2]; exact HRY.out.2) hkS⟩
            have HLY := Aside0.mk hl2
            rw [hl2] at PS
            have HS10 : Aside0 (Same W w10) := ⟨HS8.out.trans hr10.fr (fun _ _ h => h)⟩
            have qY10 := Same.cell hr10.fr HQ.out.2.2
            clear hM1 hM2 hl1 hl2 hot hkS hlc10 hC10 hCY hr9 hg9 ha9 hr10 hg10 ha10 q2
            have tt5 : (T.length : Int) < (T.length : Int) + 1 := by omega
            go_wp2_with fail
            refine PS.out.mono ?_
            rintro e w11 ⟨rfl, hb11⟩
            have HS11 : Aside0 (Same W w11) := ⟨HS10.out.trans (fr_of_below hb11) (fun _ _ h => h)⟩
            have PA11 := Aside0.mk (PA.out w11 HS11.out)
            clear hb11 PS qY10
            go_wp2_with fail
            refine PA11.out.mono ?_
            rintro e w12 ⟨rfl, hs12⟩
            have HS12 := Aside0.mk hs12
            clear hs12
            go_wp2
            go_ret
            exact ⟨rfl, HS11.out.trans HS12.out (fun _ _ h => h)⟩
theorem parts_row {W : World} {A0 : Option Addr} {c0 : Nat} {T : List S30} {first second : Int} (h0 : 0 < W.heap.size) (hT : Kd.C k30 W A0 T.length T) (hc0 : T.length ≤ c0) (hu : ∀ t ∈ T, U64 t.f1) (hg : Gl W) :
    Calls Tryd.prog 3 #[.slice A0 T.length c0, .int .i64 first, .int .i64 second] W (fun e w' => e = .returned (.bool true) ∧ Below W.heap.size W w') := (parts_law h0 hT hc0 hu hg).mono (fun e w' h => ⟨h.1, below_of_fr h.2⟩)
end Go.Proofs.YtlbpbbfhfgacaaaDoor.Wh
