/- The walk of laws.puts. -/
import Derived.Test.YtimffhpnfdikoaaDoorLsMe
namespace Go.Proofs.YtimffhpnfdikoaaDoor.Ls
open Go.RowKit Go.Maps Go.Proofs.YtimffhpnfdikoaaDoor.Pl Go.Proofs.YtimffhpnfdikoaaDoor.Bs Go.Proofs.YtimffhpnfdikoaaDoorW.PrintWords Go.Proofs.YtimffhpnfdikoaaDoorW.PrintLast Go.Proofs.YtimffhpnfdikoaaDoorW.PrintMore Go.Proofs.YtimffhpnfdikoaaDoor.GFnListKinds Go.Proofs.YtimffhpnfdikoaaDoor.PlFnListKinds
set_option linter.unusedVariables false
set_option linter.unusedSimpArgs false
/-- Puts alone, of subjects, each value once: as far as n. -/
structure PutN (ds : List S46) (n : Nat) : Prop where
  puts : ∀ i d, i < n → ds[i]? = some d → d.f0 = 0 ∧ validB d.f1.data.toList = true
  vals : ∀ i j d e, i < j → j < n → ds[i]? = some d → ds[j]? = some e → d.f2 ≠ e.f2
structure PutsOk (ds : List S46) : Prop where
  good : Good ds
  all : PutN ds ds.length
structure PutsPost (w0 : World) (ds : List S46) (e : Ending) (w' : World) : Prop where
  out : ∃ b, e = .returned (.bool b) ∧ (b = true → PutsOk ds)
  same : Same w0 w'
theorem PutN.zero (ds : List S46) : PutN ds 0 := ⟨fun i d h => absurd h (Nat.not_lt_zero _), fun i j d e h1 h2 => absurd h2 (Nat.not_lt_zero _)⟩
theorem PutN.next {ds : List S46} {i : Nat} {d : S46} (h : PutN ds i) (ht : ds[i]? = some d) (h0 : d.f0 = 0) (hv : validB d.f1.data.toList = true) (hk : ∀ k e, k < i → ds[k]? = some e → e.f2 ≠ d.f2) : PutN ds (i + 1) := by
  refine ⟨fun j e hj he => ?_, fun a b e f hab hb he hf => ?_⟩
  · by_cases hji : j < i
    · exact h.puts j e hji he
    · obtain rfl : j = i := by omega
      rw [ht] at he
      injection he with he
      subst he
      exact ⟨h0, hv⟩
  · by_cases hbi : b < i
    · exact h.vals a b e f hab hbi he hf
    · obtain rfl : b = i := by omega
      rw [ht] at hf
      injection hf with hf
      subst hf
      exact hk a e hab he
section
set_option maxHeartbeats 8000000
set_option maxRecDepth 100000
theorem puts_calls {W : World} {A0 : Option Addr} {c0 : Nat} {ds : List S46} (hS : Scr W A0 ds) (hc : ds.length ≤ c0) : Calls Tryd.prog 21 #[.slice A0 ds.length c0] W (PutsPost W ds) := by
  have HS := Aside0.mk hS
  have HC := Aside0.mk hc
  obtain ⟨bd, hed, hbd⟩ := deeds_ev ds
  obtain ⟨kd, hkd⟩ := Ev.rounds hed
  have HKD := Aside0.mk hkd
  have HBD := Aside0.mk hbd
  clear hS hc hed hkd hbd
  go_enter Tryd.func21, Tryd.ntmps21
  go_wp2_with fail
  refine (laws_deeds.calls kd A0 c0 ds bd W HS.out.row HC.out HKD.out).mono ?_
  rintro e w3 ⟨rfl, hf⟩
  have H3 : Aside0 (Same W w3) := ⟨fr_of_below hf⟩
  clear hf
  cases bd with
  | false =>
    go_wp2_with fail
    go_ret
    exact ⟨⟨false, rfl, fun h => by cases h⟩, H3.out⟩
  | true =>
    have HD := Aside0.mk (HBD.out rfl)
    have HG := Aside0.mk (HS.out.good HD.out)
    go_wp2_with fail
    refine (twice_calls (HS.out.fr H3.out).row HC.out HG.out).mono ?_
    rintro e w4 ⟨⟨r, rfl, hr⟩, hf⟩
    have H4 : Aside0 (Same W w4) := ⟨H3.out.trans hf (fun _ _ h => h)⟩
    have HR := Aside0.mk hr
    clear hf hr H3
    cases r with
    | true =>
      go_wp2_with fail
      go_ret
      exact ⟨⟨false, rfl, fun h => by cases h⟩, H4.out⟩
    | false =>
      have HO := Aside0.mk (HR.out rfl)
      clear HR
      go_wp2_with fail
      go_loopg [3, 4] ds.length (fun kq v3 v4 wr => ∃ (i : Nat), v3 = .int .i64 (i : Int) ∧ Aside0 (kq + i = ds.length ∧ i ≤ ds.length) ∧ Aside0 (PutN ds i) ∧ Aside0 (Same W wr))
      case atStart => exact ⟨0, rfl, ⟨by omega⟩, ⟨PutN.zero ds⟩, H4⟩
      case round =>
        clear H4
        obtain ⟨i, rfl, HI, HP, HSW⟩ := hrel
        have i0 : (0 : Int) ≤ (i : Int) := by omega
        by_cases hlt : i < ds.length
        · have i1 : (i : Int) < (ds.length : Int) := by omega
          have i2 : decide ((i : Int) < (ds.length : Int)) = true := decide_eq_true i1
          have i5 : IntKind.i64.wrap ((i : Int) + 1) = ((i + 1 : Nat) : Int) := by rw [IntKind.wrap_i64]; have := HI.out; have := HD.out.1; omega
          obtain ⟨d, ht⟩ : ∃ d, ds[i]? = some d := ⟨_, List.getElem?_eq_getElem hlt⟩
          have HTI := Aside0.mk ht
          have HIK : Aside0 (i + 1 ≤ ds.length) := ⟨hlt⟩
          have HDD := Aside0.mk (HD.out.2 d (List.mem_of_getElem? ht))
          obtain ⟨ad, rfl, t0, t1, t2⟩ := at_T46 (HS.out.fr HSW.out).row (i : Int) (by omega) (by omega)
          rw [Int.toNat_natCast, rd46_at HTI.out] at t0 t1 t2
          clear ht
          by_cases z0 : d.f0 = 0
          · have y0 : (d.f0 != 0) = false := by simpa using z0
            obtain ⟨kv, hkv⟩ := Ev.rounds (valid_evs d.f1 (by have := HDD.out.2.1; omega))
            have HKV := Aside0.mk hkv
            have HZ := Aside0.mk z0
            clear z0 hkv
            go_wp2_with fail
            refine (spec_Valid.calls kv d.f1 _ wr HKV.out).mono ?_
            rintro e w5 ⟨rfl, hf⟩
            have H5 : Aside0 (Same W w5) := ⟨HSW.out.trans (fr_of_below hf) (fun _ _ h => h)⟩
            clear hf t0 t1 t2
            cases hv : validB d.f1.data.toList with
            | false =>
              go_wp2_with fail
              go_ret
              exact ⟨⟨false, rfl, fun h => by cases h⟩, H5.out⟩
            | true =>
              have HV := Aside0.mk hv
              clear hv
              go_wp2_with fail
              go_loopg [4] i (fun kq2 v4 wq => ∃ (k : Nat), v4 = .int .i64 (k : Int) ∧ Aside0 (kq2 + k = i ∧ k ≤ i) ∧ Aside0 (∀ k' e, k' < k → ds[k']? = some e → e.f2 ≠ d.f2) ∧ Aside0 (Same W wq))
              case atStart => exact ⟨0, rfl, ⟨by omega⟩, ⟨fun k' e h => absurd h (Nat.not_lt_zero _)⟩, H5⟩
              case round =>
                clear H5
                obtain ⟨k, rfl, HK, HKN, HSQ⟩ := hrel
                have k0 : (0 : Int) ≤ (k : Int) := by omega
                by_cases hki : k < i
                · have k1 : (k : Int) < (i : Int) := by omega
                  have k2 : decide ((k : Int) < (i : Int)) = true := decide_eq_true k1
                  have k3 : (k : Int) < (ds.length : Int) := by omega
                  have k5 : IntKind.i64.wrap ((k : Int) + 1) = ((k + 1 : Nat) : Int) := by rw [IntKind.wrap_i64]; have := HI.out; have := HD.out.1; omega
                  obtain ⟨f, hft⟩ : ∃ f, ds[k]? = some f := ⟨_, List.getElem?_eq_getElem (by omega)⟩
                  have HFT := Aside0.mk hft
                  have HKI : Aside0 (k + 1 ≤ i) := ⟨hki⟩
                  obtain ⟨ad2, e2, s0, s1, s2⟩ := at_T46 (HS.out.fr HSQ.out).row (k : Int) (by omega) (by omega)
                  injection e2 with e2
                  subst e2
                  rw [Int.toNat_natCast, rd46_at HFT.out] at s0 s1 s2
                  obtain ⟨ad2, e2, t0, t1, t2⟩ := at_T46 (HS.out.fr HSQ.out).row (i : Int) (by omega) (by omega)
                  injection e2 with e2
                  subst e2
                  rw [Int.toNat_natCast, rd46_at HTI.out] at t0 t1 t2
                  clear hft
                  by_cases hq : f.f2 = d.f2
                  · have y2 : (f.f2 == d.f2) = true := by simpa using hq
                    go_upto_region 11 with (fail)
                    go_quiet (fail)
                    have H6 : Aside0 (Same W (wr.drewN nq)) := ⟨HSQ.out.drewN nq⟩
                    go_wp2_with fail
                    go_ret
                    exact ⟨⟨false, rfl, fun h => by cases h⟩, H6.out⟩
                  · have y2 : (f.f2 == d.f2) = false := by simpa using hq
                    have HQ := Aside0.mk hq
                    clear hq
                    go_upto_region 11 with (fail)
                    go_quiet (fail)
                    have H6 : Aside0 (Same W (wr.drewN nq)) := ⟨HSQ.out.drewN nq⟩
                    go_wp2_with fail
                    go_roundg (i - (k + 1))
                    case measure => have := HK.out; have := HKI.out; omega
                    case rel => exact ⟨k + 1, rfl, ⟨by have := HKI.out; omega⟩, ⟨fun k' e hk' he => by
                      by_cases hkk : k' < k
                      · exact HKN.out k' e hkk he
                      · obtain rfl : k' = k := by omega
                        rw [HFT.out] at he
                        injection he with he
                        rw [← he]
                        exact HQ.out⟩, H6⟩
                · have hke : k = i := by have := HK.out; omega
                  subst hke
                  have k2 : decide ((k : Int) < (k : Int)) = false := decide_eq_false (by omega)
                  go_wp2_with fail
                  go_roundg (ds.length - (k + 1))
                  case measure => have := HI.out; have := HIK.out; omega
                  case rel => exact ⟨k + 1, rfl, ⟨by have := HIK.out; omega⟩, ⟨HP.out.next HTI.out HZ.out HV.out HKN.out⟩, HSQ⟩
          · have y0 : (d.f0 != 0) = true := by simpa using z0
            go_wp2_with fail
            go_ret
            exact ⟨⟨false, rfl, fun h => by cases h⟩, HSW.out⟩
        · have hie : i = ds.length := by have := HI.out; omega
          subst hie
          have i2 : decide ((ds.length : Int) < (ds.length : Int)) = false := decide_eq_false (by omega)
          have HPO : Aside0 (PutsPost W ds (.returned (.bool true)) wr) := ⟨⟨⟨true, rfl, fun _ => ⟨⟨HD.out, HO.out, fun i d hi hd _ => (HP.out.puts i d hi hd).2⟩, HP.out⟩⟩, HSW.out⟩⟩
          go_wp2_with fail
          go_ret
          exact HPO.out
end
def ent (d : S46) : S35 := ⟨d.f1, d.f2⟩
theorem runS_puts {ds : List S46} (h : PutsOk ds) : ∀ i, i ≤ ds.length → (runS (ds.take i)).l = (ds.take i).map ent
  | 0, _ => rfl
  | i + 1, hi => by
    have ht : ds[i]? = some (ds[i]'hi) := List.getElem?_eq_getElem hi
    obtain ⟨h0, hv⟩ := h.all.puts i _ hi ht
    have ih := runS_puts h i (by omega)
    rw [runS_take ht]
    unfold stepS
    rw [if_pos ⟨h0, valid_ok hv⟩, if_pos (h.good.once i _ hi ht h0), ih, List.take_add_one, List.getElem?_eq_getElem hi, Option.toList_some, List.map_append]
    rfl
theorem runS_ents {ds : List S46} (h : PutsOk ds) : (runS ds).l = ds.map ent := by
  have := runS_puts h ds.length (Nat.le_refl _)
  rwa [List.take_length] at this
theorem val_inj {ds : List S46} (h : PutsOk ds) {d e : S46} (hd : d ∈ ds) (he : e ∈ ds) (hv : d.f2 = e.f2) : d = e := by
  obtain ⟨i, hi, rfl⟩ := List.getElem_of_mem hd
  obtain ⟨j, hj, rfl⟩ := List.getElem_of_mem he
  rcases Nat.lt_trichotomy i j with hij | rfl | hij
  · exact absurd hv (h.all.vals i j _ _ hij hj (List.getElem?_eq_getElem hi) (List.getElem?_eq_getElem hj))
  · rfl
  · exact absurd hv.symm (h.all.vals j i _ _ hij hi (List.getElem?_eq_getElem hj) (List.getElem?_eq_getElem hi))
end Go.Proofs.YtimffhpnfdikoaaDoor.Ls
