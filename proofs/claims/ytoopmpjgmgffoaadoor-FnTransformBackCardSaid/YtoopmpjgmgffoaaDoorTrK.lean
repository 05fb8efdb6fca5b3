/- awakeTransform, the law FnTransformBack. -/
import Derived.Test.YtoopmpjgmgffoaaDoorPlTq
namespace Go.Proofs.YtoopmpjgmgffoaaDoor.Tr
open Go.RowKit Go.Proofs.YtoopmpjgmgffoaaDoor.Pl Go.Proofs.YtoopmpjgmgffoaaDoor.Bs Go.Proofs.YtoopmpjgmgffoaaDoorW.PrintWords Go.Proofs.YtoopmpjgmgffoaaDoorW.PrintLast Go.Proofs.YtoopmpjgmgffoaaDoorW.PrintMore Go.Proofs.YtoopmpjgmgffoaaDoor.GFnTransformBack Go.Proofs.YtoopmpjgmgffoaaDoor.PlFnTransformBack
set_option linter.unusedVariables false
set_option linter.unusedSimpArgs false
def awL : List S42 := [⟨0, ba [98], 0, 0, []⟩, ⟨2, ⟨#[]⟩, 1, 0, []⟩]
theorem aw_ready : Ready [97, 46, 42] [97, 46, 99] awL [98, 46, 99] := by
  have hs : ∀ p ∈ awL, SizeP p := by
    intro p hp
    simp only [awL, List.mem_cons, List.not_mem_nil, or_false] at hp
    rcases hp with rfl | rfl <;> exact ⟨by decide, by decide⟩
  have hk : ∀ p ∈ awL, p.f0 = 0 ∨ p.f0 = 11 ∨ wildK p := by
    intro p hp
    simp only [awL, List.mem_cons, List.not_mem_nil, or_false] at hp
    rcases hp with rfl | rfl
    · exact .inl rfl
    exact .inr (.inr (.inr rfl))
  have hM : MapF [97, 46, 42] awL := by
    refine ⟨by decide, by decide, by decide, by decide, by decide, fun j p hp => ?_, ⟨by decide, fun p hp => ?_, fun p hp => ?_⟩⟩
    · match j with
      | 0 =>
        injection hp with hp
        subst hp
        exact ⟨by decide, by decide, by decide, ⟨by decide, by simp⟩, fun _ => ⟨by decide, by decide⟩, fun e => absurd e (by decide), fun e => absurd e (by decide), fun e => absurd e (by decide), fun e => absurd e (by decide)⟩
      | 1 =>
        injection hp with hp
        subst hp
        exact ⟨by decide, by decide, by decide, ⟨by decide, by simp⟩, fun e => absurd e (by decide), fun e => absurd e (by decide), fun e => absurd e (by decide), fun e => absurd e (by decide), fun e => absurd e (by decide)⟩
      | j + 2 => simp [awL] at hp
    · have hp : (⟨2, ⟨#[]⟩, 1, 0, []⟩ : S42) = p := Option.some.inj hp
      subst hp
      decide
    simp only [awL, List.mem_cons, List.not_mem_nil, or_false] at hp
    rcases hp with rfl | rfl
    · exact ⟨fun e => absurd rfl e, fun e => absurd e (by decide)⟩
    exact ⟨fun _ _ _ => by decide, fun e => absurd e (by decide)⟩
  have hF : Fits (toks [97, 46, 42]) (toks [97, 46, 99]) := by
    refine ⟨by decide, by decide, fun t ht => ?_, by decide, by decide⟩
    have ht : t ∈ ([[97], [99]] : List (List UInt8)) := ht
    simp only [List.mem_cons, List.not_mem_nil, or_false] at ht
    rcases ht with rfl | rfl <;> exact ⟨by decide, by decide, by decide, by decide, by decide⟩
  have := ready hM hs hk hF (by decide)
  exact this
def AwPost (w : World) (e : Ending) (w' : World) : Prop := e = .returned (.bool true) ∧ Same w w'
section
set_option maxHeartbeats 8000000
set_option maxRecDepth 100000
theorem awake_calls (w : World) : Calls Tryd.prog 9 #[] w (AwPost w) := by
  obtain ⟨P, hP1, hP2⟩ := aw_ready.out
  have HP1 := Aside0.mk hP1
  have HP2 := Aside0.mk hP2
  clear hP1 hP2
  go_enter Tryd.func9, Tryd.ntmps9
  go_wp2_with fail
  have HS : Aside0 (Same w (w.alloc (.cells #[.int .i64 0, .string ⟨#[98]⟩, .int .i64 0, .int .i64 0, .slice none 0 0, .int .i64 2, .string ⟨#[]⟩, .int .i64 1, .int .i64 0, .slice none 0 0] 42))) := ⟨(Fr.refl _ w).alloc _⟩
  have HC : Aside0 (Kd.C k42 (w.alloc (.cells #[.int .i64 0, .string ⟨#[98]⟩, .int .i64 0, .int .i64 0, .slice none 0 0, .int .i64 2, .string ⟨#[]⟩, .int .i64 1, .int .i64 0, .slice none 0 0] 42)) (some ⟨w.heap.size, 0, none⟩) awL.length awL) := ⟨by
    have hb := Blk.new w 42 [.int .i64 0, .string ⟨#[98]⟩, .int .i64 0, .int .i64 0, .slice none 0 0, .int .i64 2, .string ⟨#[]⟩, .int .i64 1, .int .i64 0, .slice none 0 0]
    refine ⟨rfl, by decide, fun _ => ⟨⟨w.heap.size, 0, none⟩, rfl, fun j p hj => ?_⟩⟩
    match j with
    | 0 =>
      injection hj with hj
      subst hj
      refine ⟨_, rfl, k42_mk _ ⟨0, ba [98], 0, 0, []⟩ (A4 := none) (c4 := 0) (by decide) ⟨rfl, by decide, fun h => absurd h (by decide)⟩, fun i u hu => ?_⟩
      match i with
      | 0 => injection hu with hu; subst hu; exact hb.cell 0 rfl
      | 1 => injection hu with hu; subst hu; exact hb.cell 1 rfl
      | 2 => injection hu with hu; subst hu; exact hb.cell 2 rfl
      | 3 => injection hu with hu; subst hu; exact hb.cell 3 rfl
      | 4 => injection hu with hu; subst hu; exact hb.cell 4 rfl
      | i + 5 => simp at hu
    | 1 =>
      injection hj with hj
      subst hj
      refine ⟨_, rfl, k42_mk _ ⟨2, ⟨#[]⟩, 1, 0, []⟩ (A4 := none) (c4 := 0) (by decide) ⟨rfl, by decide, fun h => absurd h (by decide)⟩, fun i u hu => ?_⟩
      match i with
      | 0 => injection hu with hu; subst hu; exact hb.cell 5 rfl
      | 1 => injection hu with hu; subst hu; exact hb.cell 6 rfl
      | 2 => injection hu with hu; subst hu; exact hb.cell 7 rfl
      | 3 => injection hu with hu; subst hu; exact hb.cell 8 rfl
      | 4 => injection hu with hu; subst hu; exact hb.cell 9 rfl
      | i + 5 => simp at hu
    | j + 2 => simp [awL] at hj⟩
  generalize w.alloc (.cells #[.int .i64 0, .string ⟨#[98]⟩, .int .i64 0, .int .i64 0, .slice none 0 0, .int .i64 2, .string ⟨#[]⟩, .int .i64 1, .int .i64 0, .slice none 0 0] 42) = w1 at HS HC ⊢
  generalize w.heap.size = g at HC ⊢
  refine (HP1.out w1 _ 2 HC.out (by decide)).mono ?_
  rintro e w2 ⟨⟨v, rfl, hv⟩, hs2⟩
  have HV := Aside0.mk hv
  have HS2 := Aside0.mk hs2
  clear hv hs2
  go_wp2_with fail
  refine (HP2.out w2 v HV.out).mono ?_
  rintro e w3 ⟨rfl, hs3⟩
  have HX : Aside0 (Same w w3) := ⟨(HS.out.trans HS2.out (fun _ _ h => h)).trans hs3 (fun _ _ h => h)⟩
  clear hs3
  have y1 : ((ba [98, 46, 99]).toList == ([98, 46, 99] : List UInt8)) = true := by rw [ba_toList]; rfl
  go_wp2_with fail
  go_ret
  exact ⟨rfl, HX.out⟩
theorem law_calls {w : World} {sl ul : List UInt8} {L : List S42} {A : Option Addr} {c : Nat} (hC : Kd.C k42 w A L.length L) (hc : L.length ≤ c) :
    Calls Tryd.prog 4 #[.string (ba sl), .slice A L.length c, .string (ba ul)] w fun e w' => e = .returned (.bool true) ∧ Below w.heap.size w w' := by
  have HSw : Aside0 (Same w w) := ⟨Fr.refl _ _⟩
  have HCF : Aside0 (∀ w1 : World, Same w w1 → Kd.C k42 w1 A L.length L) := ⟨fun w1 h => Kd.C_below hC (below_of_fr h)⟩
  have HCC := Aside0.mk hc
  clear hC hc
  by_cases c1 : ((ba sl).size : Int) > 2147483647
  · have c1b0 : decide (2147483647 < ((ba sl).size : Int)) = true := decide_eq_true c1
    have c1b1 : decide (2147483647 < (ba sl).size) = true := decide_eq_true (by omega)
    clear c1
    go_enter Tryd.func4, Tryd.ntmps4
    go_wp2_with fail
    go_ret
    exact ⟨rfl, below_of_fr HSw.out⟩
  have c1b0 : decide (2147483647 < ((ba sl).size : Int)) = false := decide_eq_false c1
  have c1b1 : decide (2147483647 < (ba sl).size) = false := decide_eq_false (by omega)
  have HSL : Aside0 (sl.length ≤ 2147483647) := ⟨by have : (ba sl).size = sl.length := rfl; omega⟩
  clear c1
  obtain ⟨bf, hf, hfi⟩ := fits_said L
  obtain ⟨kf, hkf⟩ := hf.rounds
  have HF := Aside0.mk hkf
  have HFI := Aside0.mk hfi
  clear hf hkf hfi
  cases bf with
  | false =>
    go_enter Tryd.func4, Tryd.ntmps4
    go_wp2_with fail
    refine (laws_zzFits10.calls kf A c L false w (HCF.out w HSw.out) HCC.out HF.out).mono ?_
    rintro e w1 ⟨rfl, hbw1⟩
    have HSw1 : Aside0 (Same w w1) := ⟨HSw.out.trans (fr_of_below hbw1) (fun _ _ h => h)⟩
    clear hbw1
    go_wp2_with fail
    go_ret
    exact ⟨rfl, below_of_fr HSw1.out⟩
  | true =>
  by_cases c2 : ((ba ul).size : Int) > 2147483647
  · have c2b0 : decide (2147483647 < ((ba ul).size : Int)) = true := decide_eq_true c2
    have c2b1 : decide (2147483647 < (ba ul).size) = true := decide_eq_true (by omega)
    clear c2
    go_enter Tryd.func4, Tryd.ntmps4
    go_wp2_with fail
    refine (laws_zzFits10.calls kf A c L true w (HCF.out w HSw.out) HCC.out HF.out).mono ?_
    rintro e w1 ⟨rfl, hbw1⟩
    have HSw1 : Aside0 (Same w w1) := ⟨HSw.out.trans (fr_of_below hbw1) (fun _ _ h => h)⟩
    clear hbw1
    go_wp2_with fail
    go_ret
    exact ⟨rfl, below_of_fr HSw1.out⟩
  have c2b0 : decide (2147483647 < ((ba ul).size : Int)) = false := decide_eq_false c2
  have c2b1 : decide (2147483647 < (ba ul).size) = false := decide_eq_false (by omega)
  have HUL : Aside0 (ul.length ≤ 2147483647) := ⟨by have : (ba ul).size = ul.length := rfl; omega⟩
  clear c2
  have HZ := Aside0.mk (HFI.out rfl)
  obtain ⟨bm, hm, hmi⟩ := mapping_said sl L HZ.out.2
  obtain ⟨km, hkm⟩ := hm.rounds
  have HM := Aside0.mk hkm
  have HMI := Aside0.mk hmi
  clear hm hkm hmi
  cases bm with
  | false =>
    go_enter Tryd.func4, Tryd.ntmps4
    go_wp2_with fail
    refine (laws_zzFits10.calls kf A c L true w (HCF.out w HSw.out) HCC.out HF.out).mono ?_
    rintro e w1 ⟨rfl, hbw1⟩
    have HSw1 : Aside0 (Same w w1) := ⟨HSw.out.trans (fr_of_below hbw1) (fun _ _ h => h)⟩
    clear hbw1
    go_wp2_with fail
    refine (laws_mapping.calls km (ba sl) A c L false w1 (HCF.out w1 HSw1.out) HCC.out HM.out).mono ?_
    rintro e w2 ⟨rfl, hbw2⟩
    have HSw2 : Aside0 (Same w w2) := ⟨HSw1.out.trans (fr_of_below hbw2) (fun _ _ h => h)⟩
    clear hbw2
    go_wp2_with fail
    refine (awake_calls w2).mono ?_
    rintro e wz ⟨rfl, hbwz⟩
    have HSwz : Aside0 (Same w wz) := ⟨HSw2.out.trans hbwz (fun _ _ h => h)⟩
    clear hbwz
    go_wp2_with fail
    go_ret
    exact ⟨rfl, below_of_fr HSwz.out⟩
  | true =>
  obtain ⟨bp, hp, hpi⟩ := plain_ev ul (by have := HUL.out; omega)
  obtain ⟨kp, hkp⟩ := hp.rounds
  have HP := Aside0.mk hkp
  have HPI := Aside0.mk hpi
  clear hp hkp hpi
  cases bp with
  | false =>
    go_enter Tryd.func4, Tryd.ntmps4
    go_wp2_with fail
    refine (laws_zzFits10.calls kf A c L true w (HCF.out w HSw.out) HCC.out HF.out).mono ?_
    rintro e w1 ⟨rfl, hbw1⟩
    have HSw1 : Aside0 (Same w w1) := ⟨HSw.out.trans (fr_of_below hbw1) (fun _ _ h => h)⟩
    clear hbw1
    go_wp2_with fail
    refine (laws_mapping.calls km (ba sl) A c L true w1 (HCF.out w1 HSw1.out) HCC.out HM.out).mono ?_
    rintro e w2 ⟨rfl, hbw2⟩
    have HSw2 : Aside0 (Same w w2) := ⟨HSw1.out.trans (fr_of_below hbw2) (fun _ _ h => h)⟩
    clear hbw2
    go_wp2_with fail
    refine (laws_plain.calls kp (ba ul) false w2 HP.out).mono ?_
    rintro e w3 ⟨rfl, hbw3⟩
    have HSw3 : Aside0 (Same w w3) := ⟨HSw2.out.trans (fr_of_below hbw3) (fun _ _ h => h)⟩
    clear hbw3
    go_wp2_with fail
    refine (awake_calls w3).mono ?_
    rintro e wz ⟨rfl, hbwz⟩
    have HSwz : Aside0 (Same w wz) := ⟨HSw3.out.trans hbwz (fun _ _ h => h)⟩
    clear hbwz
    go_wp2_with fail
    go_ret
    exact ⟨rfl, below_of_fr HSwz.out⟩
  | true =>
  have HMF := Aside0.mk (HMI.out rfl)
  obtain ⟨br, hr, hri⟩ := Rev_said sl HMF.out.size L HMF.out.len
  obtain ⟨kr, hkr⟩ := hr.rounds
  have HR := Aside0.mk hkr
  have HRI := Aside0.mk hri
  clear hr hkr hri
  cases br with
  | false =>
    go_enter Tryd.func4, Tryd.ntmps4
    go_wp2_with fail
    refine (laws_zzFits10.calls kf A c L true w (HCF.out w HSw.out) HCC.out HF.out).mono ?_
    rintro e w1 ⟨rfl, hbw1⟩
    have HSw1 : Aside0 (Same w w1) := ⟨HSw.out.trans (fr_of_below hbw1) (fun _ _ h => h)⟩
    clear hbw1
    go_wp2_with fail
    refine (laws_mapping.calls km (ba sl) A c L true w1 (HCF.out w1 HSw1.out) HCC.out HM.out).mono ?_
    rintro e w2 ⟨rfl, hbw2⟩
    have HSw2 : Aside0 (Same w w2) := ⟨HSw1.out.trans (fr_of_below hbw2) (fun _ _ h => h)⟩
    clear hbw2
    go_wp2_with fail
    refine (laws_plain.calls kp (ba ul) true w2 HP.out).mono ?_
    rintro e w3 ⟨rfl, hbw3⟩
    have HSw3 : Aside0 (Same w w3) := ⟨HSw2.out.trans (fr_of_below hbw3) (fun _ _ h => h)⟩
    clear hbw3
    go_wp2_with fail
    refine (spec_Reversible.calls kr (ba sl) A c L false w3 (HCF.out w3 HSw3.out) HCC.out HR.out).mono ?_
    rintro e w4 ⟨rfl, hbw4⟩
    have HSw4 : Aside0 (Same w w4) := ⟨HSw3.out.trans (fr_of_below hbw4) (fun _ _ h => h)⟩
    clear hbw4
    go_wp2_with fail
    refine (awake_calls w4).mono ?_
    rintro e wz ⟨rfl, hbwz⟩
    have HSwz : Aside0 (Same w wz) := ⟨HSw4.out.trans hbwz (fun _ _ h => h)⟩
    clear hbwz
    go_wp2_with fail
    go_ret
    exact ⟨rfl, below_of_fr HSwz.out⟩
  | true =>
  obtain ⟨bx, hbx⟩ : ∃ bx, matchT (toks ul) (toks sl) = bx := ⟨_, rfl⟩
  have hx := spec_Match_ev ul sl (by have := HUL.out; omega) (by have := HSL.out; omega)
  rw [hbx] at hx
  obtain ⟨kx, hkx⟩ := hx.rounds
  have HX := Aside0.mk hkx
  have HBX := Aside0.mk hbx
  clear hx hkx hbx
  cases bx with
  | false =>
    go_enter Tryd.func4, Tryd.ntmps4
    go_wp2_with fail
    refine (laws_zzFits10.calls kf A c L true w (HCF.out w HSw.out) HCC.out HF.out).mono ?_
    rintro e w1 ⟨rfl, hbw1⟩
    have HSw1 : Aside0 (Same w w1) := ⟨HSw.out.trans (fr_of_below hbw1) (fun _ _ h => h)⟩
    clear hbw1
    go_wp2_with fail
    refine (laws_mapping.calls km (ba sl) A c L true w1 (HCF.out w1 HSw1.out) HCC.out HM.out).mono ?_
    rintro e w2 ⟨rfl, hbw2⟩
    have HSw2 : Aside0 (Same w w2) := ⟨HSw1.out.trans (fr_of_below hbw2) (fun _ _ h => h)⟩
    clear hbw2
    go_wp2_with fail
    refine (laws_plain.calls kp (ba ul) true w2 HP.out).mono ?_
    rintro e w3 ⟨rfl, hbw3⟩
    have HSw3 : Aside0 (Same w w3) := ⟨HSw2.out.trans (fr_of_below hbw3) (fun _ _ h => h)⟩
    clear hbw3
    go_wp2_with fail
    refine (spec_Reversible.calls kr (ba sl) A c L true w3 (HCF.out w3 HSw3.out) HCC.out HR.out).mono ?_
    rintro e w4 ⟨rfl, hbw4⟩
    have HSw4 : Aside0 (Same w w4) := ⟨HSw3.out.trans (fr_of_below hbw4) (fun _ _ h => h)⟩
    clear hbw4
    go_wp2_with fail
    refine (spec_Match.calls kx (ba ul) (ba sl) false w4 HX.out).mono ?_
    rintro e w5 ⟨rfl, hbw5⟩
    have HSw5 : Aside0 (Same w w5) := ⟨HSw4.out.trans (fr_of_below hbw5) (fun _ _ h => h)⟩
    clear hbw5
    go_wp2_with fail
    refine (awake_calls w5).mono ?_
    rintro e wz ⟨rfl, hbwz⟩
    have HSwz : Aside0 (Same w wz) := ⟨HSw5.out.trans hbwz (fun _ _ h => h)⟩
    clear hbwz
    go_wp2_with fail
    go_ret
    exact ⟨rfl, below_of_fr HSwz.out⟩
  | true =>
  have HPF := Aside0.mk (HPI.out.1 rfl)
  have HRF := Aside0.mk (HRI.out rfl)
  have HFT : Aside0 (Fits (toks sl) (toks ul)) := ⟨fits_plain HMF.out HPF.out HBX.out⟩
  obtain ⟨fl, hfl⟩ : ∃ fl, fl = join (L.map fw) := ⟨_, rfl⟩
  obtain ⟨M, hM⟩ : ∃ M, M = oth (toks sl) (bk L (List.replicate (stars sl + 1) 0) 0) 0 := ⟨_, rfl⟩
  have HFL := Aside0.mk (And.intro hfl hM)
  have hbk := back_ev sl HMF.out.size L HMF.out.len (back_len HMF.out HZ.out.2 HRF.out.kinds) HMF.out.sound.snd HRF.out.kinds
  rw [← hfl, ← hM] at hbk
  obtain ⟨kb, hkb⟩ := hbk.rounds
  have HBK := Aside0.mk hkb
  clear hbk hkb hfl hM
  obtain ⟨bm2, hm2, hmi2⟩ := mapping_said fl M (by rw [HFL.out.2]; exact oth_size HMF.out)
  obtain ⟨km2, hkm2⟩ := hm2.rounds
  have HM2 := Aside0.mk hkm2
  have HMI2 := Aside0.mk hmi2
  clear hm2 hkm2 hmi2
  cases bm2 with
  | false =>
    go_enter Tryd.func4, Tryd.ntmps4
    go_wp2_with fail
    refine (laws_zzFits10.calls kf A c L true w (HCF.out w HSw.out) HCC.out HF.out).mono ?_
    rintro e w1 ⟨rfl, hbw1⟩
    have HSw1 : Aside0 (Same w w1) := ⟨HSw.out.trans (fr_of_below hbw1) (fun _ _ h => h)⟩
    clear hbw1
    go_wp2_with fail
    refine (laws_mapping.calls km (ba sl) A c L true w1 (HCF.out w1 HSw1.out) HCC.out HM.out).mono ?_
    rintro e w2 ⟨rfl, hbw2⟩
    have HSw2 : Aside0 (Same w w2) := ⟨HSw1.out.trans (fr_of_below hbw2) (fun _ _ h => h)⟩
    clear hbw2
    go_wp2_with fail
    refine (laws_plain.calls kp (ba ul) true w2 HP.out).mono ?_
    rintro e w3 ⟨rfl, hbw3⟩
    have HSw3 : Aside0 (Same w w3) := ⟨HSw2.out.trans (fr_of_below hbw3) (fun _ _ h => h)⟩
    clear hbw3
    go_wp2_with fail
    refine (spec_Reversible.calls kr (ba sl) A c L true w3 (HCF.out w3 HSw3.out) HCC.out HR.out).mono ?_
    rintro e w4 ⟨rfl, hbw4⟩
    have HSw4 : Aside0 (Same w w4) := ⟨HSw3.out.trans (fr_of_below hbw4) (fun _ _ h => h)⟩
    clear hbw4
    go_wp2_with fail
    refine (spec_Match.calls kx (ba ul) (ba sl) true w4 HX.out).mono ?_
    rintro e w5 ⟨rfl, hbw5⟩
    have HSw5 : Aside0 (Same w w5) := ⟨HSw4.out.trans (fr_of_below hbw5) (fun _ _ h => h)⟩
    clear hbw5
    go_wp2_with fail
    refine (laws_back.calls kb (ba sl) A c L (ba fl) M w5 (HCF.out w5 HSw5.out) HCC.out HBK.out).mono ?_
    rintro e w6 ⟨vM, rfl, hSM, hb6⟩
    obtain ⟨AM, cM, rfl, hlM, hCM⟩ := Kd.R_reads (Kd.S_R hSM)
    have HSw6 : Aside0 (Same w w6) := ⟨HSw5.out.trans (fr_of_below hb6) (fun _ _ h => h)⟩
    have HCM := Aside0.mk hCM
    have HLM := Aside0.mk hlM
    clear hb6 hSM hlM hCM
    go_wp2_with fail
    refine (laws_mapping.calls km2 (ba fl) AM cM M false w6 HCM.out HLM.out HM2.out).mono ?_
    rintro e w7 ⟨rfl, hbw7⟩
    have HSw7 : Aside0 (Same w w7) := ⟨HSw6.out.trans (fr_of_below hbw7) (fun _ _ h => h)⟩
    have HQw7 : Aside0 (Same w6 w7) := ⟨fr_of_below hbw7⟩
    clear hbw7
    go_wp2_with fail
    refine (awake_calls w7).mono ?_
    rintro e wz ⟨rfl, hbwz⟩
    have HSwz : Aside0 (Same w wz) := ⟨HSw7.out.trans hbwz (fun _ _ h => h)⟩
    clear hbwz
    go_wp2_with fail
    go_ret
    exact ⟨rfl, below_of_fr HSwz.out⟩
  | true =>
  obtain ⟨r1, hr1⟩ : ∃ r1, r1 = join (outT (toks sl) (toks ul) L) := ⟨_, rfl⟩
  have HFIN : Aside0 (Ready sl ul L r1 ∧ Ready fl r1 M ul ∧ (∃ k, impl_Publish.f k (ba r1) = some true) ∧ ∃ k, impl_Matches.f k (ba r1) (ba fl) = some true) := ⟨by
    rw [hr1]
    exact back_all HMF.out HZ.out.2 HPF.out HFT.out HRF.out HFL.out.1 HFL.out.2 (HMI2.out rfl)⟩
  obtain ⟨⟨P1, hp1, ht1⟩, ⟨P2, hp2, ht2⟩, ⟨kpu, hpu⟩, kma, hma⟩ := HFIN.out
  have HP1 := Aside0.mk hp1
  have HT1 := Aside0.mk ht1
  have HP2 := Aside0.mk hp2
  have HT2 := Aside0.mk ht2
  have HPU := Aside0.mk hpu
  have HMA := Aside0.mk hma
  clear hp1 ht1 hp2 ht2 hpu hma hr1
  have y1 : ((ba ul).toList == (ba ul).toList) = true := by simp
  go_enter Tryd.func4, Tryd.ntmps4
  go_wp2_with fail
  refine (laws_zzFits10.calls kf A c L true w (HCF.out w HSw.out) HCC.out HF.out).mono ?_
  rintro e w1 ⟨rfl, hbw1⟩
  have HSw1 : Aside0 (Same w w1) := ⟨HSw.out.trans (fr_of_below hbw1) (fun _ _ h => h)⟩
  clear hbw1
  go_wp2_with fail
  refine (laws_mapping.calls km (ba sl) A c L true w1 (HCF.out w1 HSw1.out) HCC.out HM.out).mono ?_
  rintro e w2 ⟨rfl, hbw2⟩
  have HSw2 : Aside0 (Same w w2) := ⟨HSw1.out.trans (fr_of_below hbw2) (fun _ _ h => h)⟩
  clear hbw2
  go_wp2_with fail
  refine (laws_plain.calls kp (ba ul) true w2 HP.out).mono ?_
  rintro e w3 ⟨rfl, hbw3⟩
  have HSw3 : Aside0 (Same w w3) := ⟨HSw2.out.trans (fr_of_below hbw3) (fun _ _ h => h)⟩
  clear hbw3
  go_wp2_with fail
  refine (spec_Reversible.calls kr (ba sl) A c L true w3 (HCF.out w3 HSw3.out) HCC.out HR.out).mono ?_
  rintro e w4 ⟨rfl, hbw4⟩
  have HSw4 : Aside0 (Same w w4) := ⟨HSw3.out.trans (fr_of_below hbw4) (fun _ _ h => h)⟩
  clear hbw4
  go_wp2_with fail
  refine (spec_Match.calls kx (ba ul) (ba sl) true w4 HX.out).mono ?_
  rintro e w5 ⟨rfl, hbw5⟩
  have HSw5 : Aside0 (Same w w5) := ⟨HSw4.out.trans (fr_of_below hbw5) (fun _ _ h => h)⟩
  clear hbw5
  go_wp2_with fail
  refine (laws_back.calls kb (ba sl) A c L (ba fl) M w5 (HCF.out w5 HSw5.out) HCC.out HBK.out).mono ?_
  rintro e w6 ⟨vM, rfl, hSM, hb6⟩
  obtain ⟨AM, cM, rfl, hlM, hCM⟩ := Kd.R_reads (Kd.S_R hSM)
  have HSw6 : Aside0 (Same w w6) := ⟨HSw5.out.trans (fr_of_below hb6) (fun _ _ h => h)⟩
  have HCM := Aside0.mk hCM
  have HLM := Aside0.mk hlM
  clear hb6 hSM hlM hCM
  go_wp2_with fail
  refine (laws_mapping.calls km2 (ba fl) AM cM M true w6 HCM.out HLM.out HM2.out).mono ?_
  rintro e w7 ⟨rfl, hbw7⟩
  have HSw7 : Aside0 (Same w w7) := ⟨HSw6.out.trans (fr_of_below hbw7) (fun _ _ h => h)⟩
  have HQw7 : Aside0 (Same w6 w7) := ⟨fr_of_below hbw7⟩
  clear hbw7
  go_wp2_with fail
  refine (HP1.out w7 A c (HCF.out w7 HSw7.out) HCC.out).mono ?_
  rintro e w8 ⟨⟨vw8, rfl, hvw8⟩, hbw8⟩
  have HSw8 : Aside0 (Same w w8) := ⟨HSw7.out.trans hbw8 (fun _ _ h => h)⟩
  have HVw8 := Aside0.mk hvw8
  have HQw8 : Aside0 (Same w6 w8) := ⟨HQw7.out.trans (hbw8) (fun _ _ h => h)⟩
  clear hbw8 hvw8
  go_wp2_with fail
  refine (HT1.out w8 vw8 HVw8.out).mono ?_
  rintro e w9 ⟨rfl, hbw9⟩
  have HSw9 : Aside0 (Same w w9) := ⟨HSw8.out.trans hbw9 (fun _ _ h => h)⟩
  have HQw9 : Aside0 (Same w6 w9) := ⟨HQw8.out.trans (hbw9) (fun _ _ h => h)⟩
  clear hbw9
  go_wp2_with fail
  refine (impl_Publish.calls kpu (ba r1) true w9 HPU.out).mono ?_
  rintro e w10 ⟨rfl, hbw10⟩
  have HSw10 : Aside0 (Same w w10) := ⟨HSw9.out.trans (fr_of_below hbw10) (fun _ _ h => h)⟩
  have HQw10 : Aside0 (Same w6 w10) := ⟨HQw9.out.trans (fr_of_below hbw10) (fun _ _ h => h)⟩
  clear hbw10
  go_wp2_with fail
  refine (impl_Matches.calls kma (ba r1) (ba fl) true w10 HMA.out).mono ?_
  rintro e w11 ⟨rfl, hbw11⟩
  have HSw11 : Aside0 (Same w w11) := ⟨HSw10.out.trans (fr_of_below hbw11) (fun _ _ h => h)⟩
  have HQw11 : Aside0 (Same w6 w11) := ⟨HQw10.out.trans (fr_of_below hbw11) (fun _ _ h => h)⟩
  clear hbw11
  go_wp2_with fail
  have HCM11 : Aside0 (Kd.C k42 w11 AM M.length M) := ⟨Kd.C_below HCM.out (below_of_fr HQw11.out)⟩
  refine (HP2.out w11 AM cM HCM11.out HLM.out).mono ?_
  rintro e w12 ⟨⟨vw12, rfl, hvw12⟩, hbw12⟩
  have HSw12 : Aside0 (Same w w12) := ⟨HSw11.out.trans hbw12 (fun _ _ h => h)⟩
  have HVw12 := Aside0.mk hvw12
  clear hbw12 hvw12
  go_wp2_with fail
  refine (HT2.out w12 vw12 HVw12.out).mono ?_
  rintro e w13 ⟨rfl, hbw13⟩
  have HSw13 : Aside0 (Same w w13) := ⟨HSw12.out.trans hbw13 (fun _ _ h => h)⟩
  clear hbw13
  go_wp2_with fail
  refine (awake_calls w13).mono ?_
  rintro e wz ⟨rfl, hbwz⟩
  have HSwz : Aside0 (Same w wz) := ⟨HSw13.out.trans hbwz (fun _ _ h => h)⟩
  clear hbwz
  go_wp2_with fail
  go_ret
  exact ⟨rfl, below_of_fr HSwz.out⟩
end
end Go.Proofs.YtoopmpjgmgffoaaDoor.Tr
