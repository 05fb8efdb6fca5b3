/- The law FnTransform. -/
import Derived.Test.YtoopmpjgmgffoaaDoorPlXg
namespace Go.Proofs.YtoopmpjgmgffoaaDoor.Tr
open Go.RowKit Go.Proofs.YtoopmpjgmgffoaaDoor.Pl Go.Proofs.YtoopmpjgmgffoaaDoor.Bs Go.Proofs.YtoopmpjgmgffoaaDoorW.PrintWords Go.Proofs.YtoopmpjgmgffoaaDoorW.PrintLast Go.Proofs.YtoopmpjgmgffoaaDoorW.PrintMore Go.Proofs.YtoopmpjgmgffoaaDoor.GFnTransformBack Go.Proofs.YtoopmpjgmgffoaaDoor.PlFnTransformBack
set_option linter.unusedVariables false
set_option linter.unusedSimpArgs false
def awxL : List S42 := [⟨0, ba [98], 0, 0, []⟩, ⟨2, ⟨#[]⟩, 1, 0, []⟩]
theorem awx_ready : Ready [97, 46, 42] [97, 46, 99] awxL [98, 46, 99] := by
 have hs : ∀ p ∈ awxL, SizeP p := by
  intro p hp
  simp only [awxL, List.mem_cons, List.not_mem_nil, or_false] at hp
  rcases hp with rfl | rfl <;> exact ⟨by decide, by decide⟩
 have hM : MapF [97, 46, 42] awxL := by
  refine ⟨by decide, by decide, by decide, by decide, by decide, fun j p hp => ?_, ⟨by decide, fun p hp => ?_, fun p hp => ?_⟩⟩
  ·
   match j with
   | 0 =>
    injection hp with hp
    subst hp
    exact ⟨by decide, by decide, by decide, ⟨by decide, by simp⟩, fun _ => ⟨by decide, by decide⟩, fun e => absurd e (by decide), fun e => absurd e (by decide), fun e => absurd e (by decide), fun e => absurd e (by decide)⟩
   | 1 =>
    injection hp with hp
    subst hp
    exact ⟨by decide, by decide, by decide, ⟨by decide, by simp⟩, fun e => absurd e (by decide), fun e => absurd e (by decide), fun e => absurd e (by decide), fun e => absurd e (by decide), fun e => absurd e (by decide)⟩
   | j + 2 => simp [awxL] at hp
  ·
   have hp : (⟨2, ⟨#[]⟩, 1, 0, []⟩ : S42) = p := Option.some.inj hp
   subst hp
   decide
  simp only [awxL, List.mem_cons, List.not_mem_nil, or_false] at hp
  rcases hp with rfl | rfl
  ·
   exact ⟨fun e => absurd rfl e, fun e => absurd e (by decide)⟩
  exact ⟨fun _ _ _ => by decide, fun e => absurd e (by decide)⟩
 have hF : Fits (toks [97, 46, 42]) (toks [97, 46, 99]) := by
  refine ⟨by decide, by decide, fun t ht => ?_, by decide, by decide⟩
  have ht : t ∈ ([[97], [99]] : List (List UInt8)) := ht
  simp only [List.mem_cons, List.not_mem_nil, or_false] at ht
  rcases ht with rfl | rfl <;> exact ⟨by decide, by decide, by decide, by decide, by decide⟩
 have := readyX hM hs hF (fun p hp e => by
  simp only [awxL, List.mem_cons, List.not_mem_nil, or_false] at hp
  rcases hp with rfl | rfl <;> exact absurd e (by decide)) (by decide)
 exact this
def AwxPost (w : World) (e : Ending) (w' : World) : Prop := e = .returned (.bool true) ∧ Same w w'
section
set_option maxHeartbeats 8000000
set_option maxRecDepth 100000
theorem awakex_calls (w : World) : Calls Tryd.prog 9 #[] w (AwxPost w) := by
 obtain ⟨P, hP1, hP2⟩ := awx_ready.out
 have HP1 := Aside0.mk hP1
 have HP2 := Aside0.mk hP2
 clear hP1 hP2
 go_enter Tryd.func9, Tryd.ntmps9
 go_wp2_with fail
 have HS : Aside0 (Same w (w.alloc (.cells #[.int .i64 0, .string ⟨#[98]⟩, .int .i64 0, .int .i64 0, .slice none 0 0, .int .i64 2, .string ⟨#[]⟩, .int .i64 1, .int .i64 0, .slice none 0 0] 42))) := ⟨(Fr.refl _ w).alloc _⟩
 have HC : Aside0 (Kd.C k42 (w.alloc (.cells #[.int .i64 0, .string ⟨#[98]⟩, .int .i64 0, .int .i64 0, .slice none 0 0, .int .i64 2, .string ⟨#[]⟩, .int .i64 1, .int .i64 0, .slice none 0 0] 42)) (some ⟨w.heap.size, 0, none⟩) awxL.length awxL) := ⟨by
  have hb := Blk.new w 42 [.int .i64 0, .string ⟨#[98]⟩, .int .i64 0, .int .i64 0, .slice none 0 0, .int .i64 2, .string ⟨#[]⟩, .int .i64 1, .int .i64 0, .slice none 0 0]
  refine ⟨rfl, by decide, fun _ => ⟨⟨w.heap.size, 0, none⟩, rfl, fun j p hj => ?_⟩⟩
  match j with
  | 0 =>
   injection hj with hj
   subst hj
   refine ⟨_, rfl, k42_mk _ ⟨0, ba [98], 0, 0, []⟩ (A4 := none) (c4 := 0) (by decide) ⟨rfl, by decide, fun h => absurd h (by decide)⟩, fun i u hu => ?_⟩
   match i with
   | 0 => injection hu with hu; subst hu; exact hb.cell 0 rfl
   | 1 => injection hu with hu; subst hu; exact hb.cell 1 rfl
   | 2 => injection hu with hu; subst hu; exact hb.cell 2 rfl
   | 3 => injection hu with hu; subst hu; exact hb.cell 3 rfl
   | 4 => injection hu with hu; subst hu; exact hb.cell 4 rfl
   | i + 5 => simp at hu
  | 1 =>
   injection hj with hj
   subst hj
   refine ⟨_, rfl, k42_mk _ ⟨2, ⟨#[]⟩, 1, 0, []⟩ (A4 := none) (c4 := 0) (by decide) ⟨rfl, by decide, fun h => absurd h (by decide)⟩, fun i u hu => ?_⟩
   match i with
   | 0 => injection hu with hu; subst hu; exact hb.cell 5 rfl
   | 1 => injection hu with hu; subst hu; exact hb.cell 6 rfl
   | 2 => injection hu with hu; subst hu; exact hb.cell 7 rfl
   | 3 => injection hu with hu; subst hu; exact hb.cell 8 rfl
   | 4 => injection hu with hu; subst hu; exact hb.cell 9 rfl
   | i + 5 => simp at hu
  | j + 2 => simp [awxL] at hj⟩
 generalize w.alloc (.cells #[.int .i64 0, .string ⟨#[98]⟩, .int .i64 0, .int .i64 0, .slice none 0 0, .int .i64 2, .string ⟨#[]⟩, .int .i64 1, .int .i64 0, .slice none 0 0] 42) = w1 at HS HC ⊢
 generalize w.heap.size = g at HC ⊢
 refine (HP1.out w1 _ 2 HC.out (by decide)).mono ?_
 rintro e w2 ⟨⟨v, rfl, hv⟩, hs2⟩
 have HV := Aside0.mk hv
 have HS2 := Aside0.mk hs2
 clear hv hs2
 go_wp2_with fail
 refine (HP2.out w2 v HV.out).mono ?_
 rintro e w3 ⟨rfl, hs3⟩
 have HX : Aside0 (Same w w3) := ⟨(HS.out.trans HS2.out (fun _ _ h => h)).trans hs3 (fun _ _ h => h)⟩
 clear hs3
 have y1 : ((ba [98, 46, 99]).toList == ([98, 46, 99] : List UInt8)) = true := by rw [ba_toList]; rfl
 go_wp2_with fail
 go_ret
 exact ⟨rfl, HX.out⟩
theorem lawx_calls {w : World} {sl ul : List UInt8} {L : List S42} {A : Option Addr} {c : Nat} (hC : Kd.C k42 w A L.length L) (hc : L.length ≤ c) (hgl : GlT w) :
  Calls Tryd.prog 3 #[.string (ba sl), .slice A L.length c, .string (ba ul)] w fun e w' => e = .returned (.bool true) ∧ Below w.heap.size w w' := by
 have HSw : Aside0 (Same w w) := ⟨Fr.refl _ _⟩
 have HCF : Aside0 (∀ w1 : World, Same w w1 → Kd.C k42 w1 A L.length L) := ⟨fun w1 h => Kd.C_below hC (below_of_fr h)⟩
 have HCC := Aside0.mk hc
 have HGL := Aside0.mk hgl
 clear hC hc hgl
 by_cases c1 : ((ba sl).size : Int) > 2147483647
 ·
  have c1b0 : decide (2147483647 < ((ba sl).size : Int)) = true := decide_eq_true c1
  have c1b1 : decide (2147483647 < (ba sl).size) = true := decide_eq_true (by omega)
  clear c1
  go_enter Tryd.func3, Tryd.ntmps3
  go_wp2_with fail
  go_ret
  exact ⟨rfl, below_of_fr HSw.out⟩
 have c1b0 : decide (2147483647 < ((ba sl).size : Int)) = false := decide_eq_false c1
 have c1b1 : decide (2147483647 < (ba sl).size) = false := decide_eq_false (by omega)
 have HSL : Aside0 (sl.length ≤ 2147483647) := ⟨by have : (ba sl).size = sl.length := rfl; omega⟩
 clear c1
 obtain ⟨bf, hf, hfi⟩ := fits_said L
 obtain ⟨kf, hkf⟩ := hf.rounds
 have HF := Aside0.mk hkf
 have HFI := Aside0.mk hfi
 clear hf hkf hfi
 cases bf with
 | false =>
  go_enter Tryd.func3, Tryd.ntmps3
  go_wp2_with fail
  refine (laws_zzFits10.calls kf A c L false w (HCF.out w HSw.out) HCC.out HF.out).mono ?_
  rintro e w1 ⟨rfl, hbw1⟩
  have HSw1 : Aside0 (Same w w1) := ⟨HSw.out.trans (fr_of_below hbw1) (fun _ _ h => h)⟩
  clear hbw1
  go_wp2_with fail
  go_ret
  exact ⟨rfl, below_of_fr HSw1.out⟩
 | true =>
 by_cases c2 : ((ba ul).size : Int) > 2147483647
 ·
  have c2b0 : decide (2147483647 < ((ba ul).size : Int)) = true := decide_eq_true c2
  have c2b1 : decide (2147483647 < (ba ul).size) = true := decide_eq_true (by omega)
  clear c2
  go_enter Tryd.func3, Tryd.ntmps3
  go_wp2_with fail
  refine (laws_zzFits10.calls kf A c L true w (HCF.out w HSw.out) HCC.out HF.out).mono ?_
  rintro e w1 ⟨rfl, hbw1⟩
  have HSw1 : Aside0 (Same w w1) := ⟨HSw.out.trans (fr_of_below hbw1) (fun _ _ h => h)⟩
  clear hbw1
  go_wp2_with fail
  go_ret
  exact ⟨rfl, below_of_fr HSw1.out⟩
 have c2b0 : decide (2147483647 < ((ba ul).size : Int)) = false := decide_eq_false c2
 have c2b1 : decide (2147483647 < (ba ul).size) = false := decide_eq_false (by omega)
 have HUL : Aside0 (ul.length ≤ 2147483647) := ⟨by have : (ba ul).size = ul.length := rfl; omega⟩
 clear c2
 have HZ := Aside0.mk (HFI.out rfl)
 obtain ⟨bm, hm, hmi⟩ := mapping_said sl L HZ.out.2
 obtain ⟨km, hkm⟩ := hm.rounds
 have HM := Aside0.mk hkm
 have HMI := Aside0.mk hmi
 clear hm hkm hmi
 cases bm with
 | false =>
  go_enter Tryd.func3, Tryd.ntmps3
  go_wp2_with fail
  refine (laws_zzFits10.calls kf A c L true w (HCF.out w HSw.out) HCC.out HF.out).mono ?_
  rintro e w1 ⟨rfl, hbw1⟩
  have HSw1 : Aside0 (Same w w1) := ⟨HSw.out.trans (fr_of_below hbw1) (fun _ _ h => h)⟩
  clear hbw1
  go_wp2_with fail
  refine (laws_mapping.calls km (ba sl) A c L false w1 (HCF.out w1 HSw1.out) HCC.out HM.out).mono ?_
  rintro e w2 ⟨rfl, hbw2⟩
  have HSw2 : Aside0 (Same w w2) := ⟨HSw1.out.trans (fr_of_below hbw2) (fun _ _ h => h)⟩
  clear hbw2
  go_wp2_with fail
  refine (awakex_calls w2).mono ?_
  rintro e wz ⟨rfl, hbwz⟩
  have HSwz : Aside0 (Same w wz) := ⟨HSw2.out.trans hbwz (fun _ _ h => h)⟩
  clear hbwz
  go_wp2_with fail
  go_ret
  exact ⟨rfl, below_of_fr HSwz.out⟩
 | true =>
 obtain ⟨bp, hp, hpi⟩ := plain_ev ul (by have := HUL.out; omega)
 obtain ⟨kp, hkp⟩ := hp.rounds
 have HP := Aside0.mk hkp
 have HPI := Aside0.mk hpi
 clear hp hkp hpi
 cases bp with
 | false =>
  go_enter Tryd.func3, Tryd.ntmps3
  go_wp2_with fail
  refine (laws_zzFits10.calls kf A c L true w (HCF.out w HSw.out) HCC.out HF.out).mono ?_
  rintro e w1 ⟨rfl, hbw1⟩
  have HSw1 : Aside0 (Same w w1) := ⟨HSw.out.trans (fr_of_below hbw1) (fun _ _ h => h)⟩
  clear hbw1
  go_wp2_with fail
  refine (laws_mapping.calls km (ba sl) A c L true w1 (HCF.out w1 HSw1.out) HCC.out HM.out).mono ?_
  rintro e w2 ⟨rfl, hbw2⟩
  have HSw2 : Aside0 (Same w w2) := ⟨HSw1.out.trans (fr_of_below hbw2) (fun _ _ h => h)⟩
  clear hbw2
  go_wp2_with fail
  refine (laws_plain.calls kp (ba ul) false w2 HP.out).mono ?_
  rintro e w3 ⟨rfl, hbw3⟩
  have HSw3 : Aside0 (Same w w3) := ⟨HSw2.out.trans (fr_of_below hbw3) (fun _ _ h => h)⟩
  clear hbw3
  go_wp2_with fail
  refine (awakex_calls w3).mono ?_
  rintro e wz ⟨rfl, hbwz⟩
  have HSwz : Aside0 (Same w wz) := ⟨HSw3.out.trans hbwz (fun _ _ h => h)⟩
  clear hbwz
  go_wp2_with fail
  go_ret
  exact ⟨rfl, below_of_fr HSwz.out⟩
 | true =>
 have HMF := Aside0.mk (HMI.out rfl)
 have HPF := Aside0.mk (HPI.out.1 rfl)
 have HTC := Aside0.mk (toks_count ul HPF.out.1.1.1)
 obtain ⟨bs, hs, hsi⟩ := splits_said L (by have := HMF.out.len; omega) ul (by have := HPF.out.1.1.1; omega) (fun t ht => by have := HTC.out.2 t ht; omega) (fun p hp h3 => by
  obtain ⟨j, hj⟩ := mem_at hp
  rcases (HMF.out.known j p hj).split h3 with e | e | e <;> rw [e] <;> simp)
 obtain ⟨ks, hks⟩ := hs.rounds
 have HSP := Aside0.mk hks
 have HSI := Aside0.mk hsi
 clear hs hks hsi
 cases bs with
 | false =>
  go_enter Tryd.func3, Tryd.ntmps3
  go_wp2_with fail
  refine (laws_zzFits10.calls kf A c L true w (HCF.out w HSw.out) HCC.out HF.out).mono ?_
  rintro e w1 ⟨rfl, hbw1⟩
  have HSw1 : Aside0 (Same w w1) := ⟨HSw.out.trans (fr_of_below hbw1) (fun _ _ h => h)⟩
  clear hbw1
  go_wp2_with fail
  refine (laws_mapping.calls km (ba sl) A c L true w1 (HCF.out w1 HSw1.out) HCC.out HM.out).mono ?_
  rintro e w2 ⟨rfl, hbw2⟩
  have HSw2 : Aside0 (Same w w2) := ⟨HSw1.out.trans (fr_of_below hbw2) (fun _ _ h => h)⟩
  clear hbw2
  go_wp2_with fail
  refine (laws_plain.calls kp (ba ul) true w2 HP.out).mono ?_
  rintro e w3 ⟨rfl, hbw3⟩
  have HSw3 : Aside0 (Same w w3) := ⟨HSw2.out.trans (fr_of_below hbw3) (fun _ _ h => h)⟩
  clear hbw3
  go_wp2_with fail
  refine (laws_splits.calls ks A c L (ba ul) false w3 (HCF.out w3 HSw3.out) HCC.out HSP.out).mono ?_
  rintro e w4 ⟨rfl, hbw4⟩
  have HSw4 : Aside0 (Same w w4) := ⟨HSw3.out.trans (fr_of_below hbw4) (fun _ _ h => h)⟩
  clear hbw4
  go_wp2_with fail
  refine (awakex_calls w4).mono ?_
  rintro e wz ⟨rfl, hbwz⟩
  have HSwz : Aside0 (Same w wz) := ⟨HSw4.out.trans hbwz (fun _ _ h => h)⟩
  clear hbwz
  go_wp2_with fail
  go_ret
  exact ⟨rfl, below_of_fr HSwz.out⟩
 | true =>
 obtain ⟨bx, hbx⟩ : ∃ bx, matchT (toks ul) (toks sl) = bx := ⟨_, rfl⟩
 have hx := spec_Match_ev ul sl (by have := HUL.out; omega) (by have := HSL.out; omega)
 rw [hbx] at hx
 obtain ⟨kx, hkx⟩ := hx.rounds
 have HX := Aside0.mk hkx
 have HBX := Aside0.mk hbx
 clear hx hkx hbx
 cases bx with
 | false =>
  obtain ⟨P1, hp1, ht1⟩ := (readyN HMF.out HZ.out.2 (pub_plain HPF.out) HBX.out (by have := HPF.out.1.1.1; omega)).out
  have HP1 := Aside0.mk hp1
  have HT1 := Aside0.mk ht1
  clear hp1 ht1
  go_enter Tryd.func3, Tryd.ntmps3
  go_wp2_with fail
  refine (laws_zzFits10.calls kf A c L true w (HCF.out w HSw.out) HCC.out HF.out).mono ?_
  rintro e w1 ⟨rfl, hbw1⟩
  have HSw1 : Aside0 (Same w w1) := ⟨HSw.out.trans (fr_of_below hbw1) (fun _ _ h => h)⟩
  clear hbw1
  go_wp2_with fail
  refine (laws_mapping.calls km (ba sl) A c L true w1 (HCF.out w1 HSw1.out) HCC.out HM.out).mono ?_
  rintro e w2 ⟨rfl, hbw2⟩
  have HSw2 : Aside0 (Same w w2) := ⟨HSw1.out.trans (fr_of_below hbw2) (fun _ _ h => h)⟩
  clear hbw2
  go_wp2_with fail
  refine (laws_plain.calls kp (ba ul) true w2 HP.out).mono ?_
  rintro e w3 ⟨rfl, hbw3⟩
  have HSw3 : Aside0 (Same w w3) := ⟨HSw2.out.trans (fr_of_below hbw3) (fun _ _ h => h)⟩
  clear hbw3
  go_wp2_with fail
  refine (laws_splits.calls ks A c L (ba ul) true w3 (HCF.out w3 HSw3.out) HCC.out HSP.out).mono ?_
  rintro e w4 ⟨rfl, hbw4⟩
  have HSw4 : Aside0 (Same w w4) := ⟨HSw3.out.trans (fr_of_below hbw4) (fun _ _ h => h)⟩
  clear hbw4
  go_wp2_with fail
  refine (HP1.out w4 A c (HCF.out w4 HSw4.out) HCC.out).mono ?_
  rintro e w5 ⟨⟨v5, rfl, hv⟩, hb⟩
  have HSw5 : Aside0 (Same w w5) := ⟨HSw4.out.trans hb (fun _ _ h => h)⟩
  have HV5 := Aside0.mk hv
  clear hb hv
  go_wp2_with fail
  refine (HT1.out w5 v5 HV5.out (HGL.out.same HSw5.out)).mono ?_
  rintro e w6 ⟨rfl, hb⟩
  have HSw6 : Aside0 (Same w w6) := ⟨HSw5.out.trans hb (fun _ _ h => h)⟩
  clear hb
  go_wp2_with fail
  refine (spec_Match.calls kx (ba ul) (ba sl) false w6 HX.out).mono ?_
  rintro e w7 ⟨rfl, hbw7⟩
  have HSw7 : Aside0 (Same w w7) := ⟨HSw6.out.trans (fr_of_below hbw7) (fun _ _ h => h)⟩
  clear hbw7
  go_wp2_with fail
  refine (awakex_calls w7).mono ?_
  rintro e wz ⟨rfl, hbwz⟩
  have HSwz : Aside0 (Same w wz) := ⟨HSw7.out.trans hbwz (fun _ _ h => h)⟩
  clear hbwz
  go_wp2_with fail
  go_ret
  exact ⟨rfl, below_of_fr HSwz.out⟩
 | true =>
 have HFT : Aside0 (Fits (toks sl) (toks ul)) := ⟨fits_plain HMF.out HPF.out HBX.out⟩
 obtain ⟨r1, hr1⟩ : ∃ r1, r1 = join (L.flatMap (outM (takW (toks sl) (toks ul)) (takR (toks sl) (toks ul)))) := ⟨_, rfl⟩
 obtain ⟨P1, hp1, ht1⟩ := (readyX HMF.out HZ.out.2 HFT.out (HSI.out rfl) (by have := HPF.out.1.1.1; omega)).out
 have hd := mapped_ev HMF.out HZ.out.2 HFT.out (by have := HPF.out.1.1.1; omega)
 rw [← hr1] at ht1 hd
 obtain ⟨kd, hkd⟩ := hd.rounds
 have HD := Aside0.mk hkd
 have HP1 := Aside0.mk hp1
 have HT1 := Aside0.mk ht1
 clear hp1 ht1 hd hkd hr1
 have y1 : ((ba r1).toList == (ba r1).toList) = true := by simp
 go_enter Tryd.func3, Tryd.ntmps3
 go_wp2_with fail
 refine (laws_zzFits10.calls kf A c L true w (HCF.out w HSw.out) HCC.out HF.out).mono ?_
 rintro e w1 ⟨rfl, hbw1⟩
 have HSw1 : Aside0 (Same w w1) := ⟨HSw.out.trans (fr_of_below hbw1) (fun _ _ h => h)⟩
 clear hbw1
 go_wp2_with fail
 refine (laws_mapping.calls km (ba sl) A c L true w1 (HCF.out w1 HSw1.out) HCC.out HM.out).mono ?_
 rintro e w2 ⟨rfl, hbw2⟩
 have HSw2 : Aside0 (Same w w2) := ⟨HSw1.out.trans (fr_of_below hbw2) (fun _ _ h => h)⟩
 clear hbw2
 go_wp2_with fail
 refine (laws_plain.calls kp (ba ul) true w2 HP.out).mono ?_
 rintro e w3 ⟨rfl, hbw3⟩
 have HSw3 : Aside0 (Same w w3) := ⟨HSw2.out.trans (fr_of_below hbw3) (fun _ _ h => h)⟩
 clear hbw3
 go_wp2_with fail
 refine (laws_splits.calls ks A c L (ba ul) true w3 (HCF.out w3 HSw3.out) HCC.out HSP.out).mono ?_
 rintro e w4 ⟨rfl, hbw4⟩
 have HSw4 : Aside0 (Same w w4) := ⟨HSw3.out.trans (fr_of_below hbw4) (fun _ _ h => h)⟩
 clear hbw4
 go_wp2_with fail
 refine (HP1.out w4 A c (HCF.out w4 HSw4.out) HCC.out).mono ?_
 rintro e w5 ⟨⟨v5, rfl, hv⟩, hb⟩
 have HSw5 : Aside0 (Same w w5) := ⟨HSw4.out.trans hb (fun _ _ h => h)⟩
 have HV5 := Aside0.mk hv
 clear hb hv
 go_wp2_with fail
 refine (HT1.out w5 v5 HV5.out).mono ?_
 rintro e w6 ⟨rfl, hb⟩
 have HSw6 : Aside0 (Same w w6) := ⟨HSw5.out.trans hb (fun _ _ h => h)⟩
 clear hb
 go_wp2_with fail
 refine (spec_Match.calls kx (ba ul) (ba sl) true w6 HX.out).mono ?_
 rintro e w7 ⟨rfl, hbw7⟩
 have HSw7 : Aside0 (Same w w7) := ⟨HSw6.out.trans (fr_of_below hbw7) (fun _ _ h => h)⟩
 clear hbw7
 go_wp2_with fail
 refine (spec_Mapped.calls kd (ba sl) A c L (ba ul) (ba r1) w7 (HCF.out w7 HSw7.out) HCC.out HD.out).mono ?_
 rintro e w8 ⟨rfl, hbw8⟩
 have HSw8 : Aside0 (Same w w8) := ⟨HSw7.out.trans (fr_of_below hbw8) (fun _ _ h => h)⟩
 clear hbw8
 go_wp2_with fail
 refine (awakex_calls w8).mono ?_
 rintro e wz ⟨rfl, hbwz⟩
 have HSwz : Aside0 (Same w wz) := ⟨HSw8.out.trans hbwz (fun _ _ h => h)⟩
 clear hbwz
 go_wp2_with fail
 go_ret
 exact ⟨rfl, below_of_fr HSwz.out⟩
end
end Go.Proofs.YtoopmpjgmgffoaaDoor.Tr
