/- The walk of laws.puts. The law FnListMeans, walked. -/
import Derived.Test.YtimffhpnfdikoaaDoorLsMe
import Derived.Test.YtimffhpnfdikoaaDoorPlListD
namespace Go.Proofs.YtimffhpnfdikoaaDoor.Ls
open Go.RowKit Go.Maps Go.Proofs.YtimffhpnfdikoaaDoor.Pl Go.Proofs.YtimffhpnfdikoaaDoor.Bs Go.Proofs.YtimffhpnfdikoaaDoorW.PrintWords Go.Proofs.YtimffhpnfdikoaaDoorW.PrintLast Go.Proofs.YtimffhpnfdikoaaDoorW.PrintMore Go.Proofs.YtimffhpnfdikoaaDoor.GFnListKinds Go.Proofs.YtimffhpnfdikoaaDoor.PlFnListKinds
set_option linter.unusedVariables false
set_option linter.unusedSimpArgs false
/-- Puts alone, of subjects, each value once: as far as n. -/
structure PutN (ds : List S46) (n : Nat) : Prop where
  puts : ∀ i d, i < n → ds[i]? = some d → d.f0 = 0 ∧ validB d.f1.data.toList = true
  vals : ∀ i j d e, i < j → j < n → ds[i]? = some d → ds[j]? = some e → d.f2 ≠ e.f2
structure PutsOk (ds : List S46) : Prop where
  good : Good ds
  all : PutN ds ds.length
structure PutsPost (w0 : World) (ds : List S46) (e : Ending) (w' : World) : Prop where
  out : ∃ b, e = .returned (.bool b) ∧ (b = true → PutsOk ds)
  same : Same w0 w'
theorem PutN.zero (ds : List S46) : PutN ds 0 := ⟨fun i d h => absurd h (Nat.not_lt_zero _), fun i j d e h1 h2 => absurd h2 (Nat.not_lt_zero _)⟩
theorem PutN.next {ds : List S46} {i : Nat} {d : S46} (h : PutN ds i) (ht : ds[i]? = some d) (h0 : d.f0 = 0) (hv : validB d.f1.data.toList = true) (hk : ∀ k e, k < i → ds[k]? = some e → e.f2 ≠ d.f2) : PutN ds (i + 1) := by
  refine ⟨fun j e hj he => ?_, fun a b e f hab hb he hf => ?_⟩
  · by_cases hji : j < i
    · exact h.puts j e hji he
    · obtain rfl : j = i := by omega
      rw [ht] at he
      injection he with he
      subst he
      exact ⟨h0, hv⟩
  · by_cases hbi : b < i
    · exact h.vals a b e f hab hbi he hf
    · obtain rfl : b = i := by omega
      rw [ht] at hf
      injection hf with hf
      subst hf
      exact hk a e hab he
section
set_option maxHeartbeats 8000000
set_option maxRecDepth 100000
theorem puts_calls {W : World} {A0 : Option Addr} {c0 : Nat} {ds : List S46} (hS : Scr W A0 ds) (hc : ds.length ≤ c0) : Calls Tryd.prog 21 #[.slice A0 ds.length c0] W (PutsPost W ds) := by
  have HS := Aside0.mk hS
  have HC := Aside0.mk hc
  obtain ⟨bd, hed, hbd⟩ := deeds_ev ds
  obtain ⟨kd, hkd⟩ := Ev.rounds hed
  have HKD := Aside0.mk hkd
  have HBD := Aside0.mk hbd
  clear hS hc hed hkd hbd
  go_enter Tryd.func21, Tryd.ntmps21
  go_wp2_with fail
  refine (laws_deeds.calls kd A0 c0 ds bd W HS.out.row HC.out HKD.out).mono ?_
  rintro e w3 ⟨rfl, hf⟩
  have H3 : Aside0 (Same W w3) := ⟨fr_of_below hf⟩
  clear hf
  cases bd with
  | false =>
    go_wp2_with fail
    go_ret
    exact ⟨⟨false, rfl, fun h => by cases h⟩, H3.out⟩
  | true =>
    have HD := Aside0.mk (HBD.out rfl)
    have HG := Aside0.mk (HS.out.good HD.out)
    go_wp2_with fail
    refine (twice_calls (HS.out.fr H3.out).row HC.out HG.out).mono ?_
    rintro e w4 ⟨⟨r, rfl, hr⟩, hf⟩
    have H4 : Aside0 (Same W w4) := ⟨H3.out.trans hf (fun _ _ h => h)⟩
    have HR := Aside0.mk hr
    clear hf hr H3
    cases r with
    | true =>
      go_wp2_with fail
      go_ret
      exact ⟨⟨false, rfl, fun h => by cases h⟩, H4.out⟩
    | false =>
      have HO := Aside0.mk (HR.out rfl)
      clear HR
      go_wp2_with fail
      go_loopg [3, 4] ds.length (fun kq v3 v4 wr => ∃ (i : Nat), v3 = .int .i64 (i : Int) ∧ Aside0 (kq + i = ds.length ∧ i ≤ ds.length) ∧ Aside0 (PutN ds i) ∧ Aside0 (Same W wr))
      case atStart => exact ⟨0, rfl, ⟨by omega⟩, ⟨PutN.zero ds⟩, H4⟩
      case round =>
        clear H4
        obtain ⟨i, rfl, HI, HP, HSW⟩ := hrel
        have i0 : (0 : Int) ≤ (i : Int) := by omega
        by_cases hlt : i < ds.length
        · have i1 : (i : Int) < (ds.length : Int) := by omega
          have i2 : decide ((i : Int) < (ds.length : Int)) = true := decide_eq_true i1
          have i5 : IntKind.i64.wrap ((i : Int) + 1) = ((i + 1 : Nat) : Int) := by rw [IntKind.wrap_i64]; have := HI.out; have := HD.out.1; omega
          obtain ⟨d, ht⟩ : ∃ d, ds[i]? = some d := ⟨_, List.getElem?_eq_getElem hlt⟩
          have HTI := Aside0.mk ht
          have HIK : Aside0 (i + 1 ≤ ds.length) := ⟨hlt⟩
          have HDD := Aside0.mk (HD.out.2 d (List.mem_of_getElem? ht))
          obtain ⟨ad, rfl, t0, t1, t2⟩ := at_T46 (HS.out.fr HSW.out).row (i : Int) (by omega) (by omega)
          rw [Int.toNat_natCast, rd46_at HTI.out] at t0 t1 t2
          clear ht
          by_cases z0 : d.f0 = 0
          · have y0 : (d.f0 != 0) = false := by simpa using z0
            obtain ⟨kv, hkv⟩ := Ev.rounds (valid_evs d.f1 (by have := HDD.out.2.1; omega))
            have HKV := Aside0.mk hkv
            have HZ := Aside0.mk z0
            clear z0 hkv
            go_wp2_with fail
            refine (spec_Valid.calls kv d.f1 _ wr HKV.out).mono ?_
            rintro e w5 ⟨rfl, hf⟩
            have H5 : Aside0 (Same W w5) := ⟨HSW.out.trans (fr_of_below hf) (fun _ _ h => h)⟩
            clear hf t0 t1 t2
            cases hv : validB d.f1.data.toList with
            | false =>
              go_wp2_with fail
              go_ret
              exact ⟨⟨false, rfl, fun h => by cases h⟩, H5.out⟩
            | true =>
              have HV := Aside0.mk hv
              clear hv
              go_wp2_with fail
              go_loopg [4] i (fun kq2 v4 wq => ∃ (k : Nat), v4 = .int .i64 (k : Int) ∧ Aside0 (kq2 + k = i ∧ k ≤ i) ∧ Aside0 (∀ k' e, k' < k → ds[k']? = some e → e.f2 ≠ d.f2) ∧ Aside0 (Same W wq))
              case atStart => exact ⟨0, rfl, ⟨by omega⟩, ⟨fun k' e h => absurd h (Nat.not_lt_zero _)⟩, H5⟩
              case round =>
                clear H5
                obtain ⟨k, rfl, HK, HKN, HSQ⟩ := hrel
                have k0 : (0 : Int) ≤ (k : Int) := by omega
                by_cases hki : k < i
                · have k1 : (k : Int) < (i : Int) := by omega
                  have k2 : decide ((k : Int) < (i : Int)) = true := decide_eq_true k1
                  have k3 : (k : Int) < (ds.length : Int) := by omega
                  have k5 : IntKind.i64.wrap ((k : Int) + 1) = ((k + 1 : Nat) : Int) := by rw [IntKind.wrap_i64]; have := HI.out; have := HD.out.1; omega
                  obtain ⟨f, hft⟩ : ∃ f, ds[k]? = some f := ⟨_, List.getElem?_eq_getElem (by omega)⟩
                  have HFT := Aside0.mk hft
                  have HKI : Aside0 (k + 1 ≤ i) := ⟨hki⟩
                  obtain ⟨ad2, e2, s0, s1, s2⟩ := at_T46 (HS.out.fr HSQ.out).row (k : Int) (by omega) (by omega)
                  injection e2 with e2
                  subst e2
                  rw [Int.toNat_natCast, rd46_at HFT.out] at s0 s1 s2
                  obtain ⟨ad2, e2, t0, t1, t2⟩ := at_T46 (HS.out.fr HSQ.out).row (i : Int) (by omega) (by omega)
                  injection e2 with e2
                  subst e2
                  rw [Int.toNat_natCast, rd46_at HTI.out] at t0 t1 t2
                  clear hft
                  by_cases hq : f.f2 = d.f2
                  · have y2 : (f.f2 == d.f2) = true := by simpa using hq
                    go_upto_region 11 with (fail)
                    go_quiet (fail)
                    have H6 : Aside0 (Same W (wr.drewN nq)) := ⟨HSQ.out.drewN nq⟩
                    go_wp2_with fail
                    go_ret
                    exact ⟨⟨false, rfl, fun h => by cases h⟩, H6.out⟩
                  · have y2 : (f.f2 == d.f2) = false := by simpa using hq
                    have HQ := Aside0.mk hq
                    clear hq
                    go_upto_region 11 with (fail)
                    go_quiet (fail)
                    have H6 : Aside0 (Same W (wr.drewN nq)) := ⟨HSQ.out.drewN nq⟩
                    go_wp2_with fail
                    go_roundg (i - (k + 1))
                    case measure => have := HK.out; have := HKI.out; omega
                    case rel => exact ⟨k + 1, rfl, ⟨by have := HKI.out; omega⟩, ⟨fun k' e hk' he => by
                      by_cases hkk : k' < k
                      · exact HKN.out k' e hkk he
                      · obtain rfl : k' = k := by omega
                        rw [HFT.out] at he
                        injection he with he
                        rw [← he]
                        exact HQ.out⟩, H6⟩
                · have hke : k = i := by have := HK.out; omega
                  subst hke
                  have k2 : decide ((k : Int) < (k : Int)) = false := decide_eq_false (by omega)
                  go_wp2_with fail
                  go_roundg (ds.length - (k + 1))
                  case measure => have := HI.out; have := HIK.out; omega
                  case rel => exact ⟨k + 1, rfl, ⟨by have := HIK.out; omega⟩, ⟨HP.out.next HTI.out HZ.out HV.out HKN.out⟩, HSQ⟩
          · have y0 : (d.f0 != 0) = true := by simpa using z0
            go_wp2_with fail
            go_ret
            exact ⟨⟨false, rfl, fun h => by cases h⟩, HSW.out⟩
        · have hie : i = ds.length := by have := HI.out; omega
          subst hie
          have i2 : decide ((ds.length : Int) < (ds.length : Int)) = false := decide_eq_false (by omega)
          have HPO : Aside0 (PutsPost W ds (.returned (.bool true)) wr) := ⟨⟨⟨true, rfl, fun _ => ⟨⟨HD.out, HO.out, fun i d hi hd _ => (HP.out.puts i d hi hd).2⟩, HP.out⟩⟩, HSW.out⟩⟩
          go_wp2_with fail
          go_ret
          exact HPO.out
end
end Go.Proofs.YtimffhpnfdikoaaDoor.Ls
namespace Go.Proofs.YtimffhpnfdikoaaDoor.Ls
open Go.RowKit Go.Maps Go.Proofs.YtimffhpnfdikoaaDoor.Pl Go.Proofs.YtimffhpnfdikoaaDoor.Bs Go.Proofs.YtimffhpnfdikoaaDoorW.PrintWords Go.Proofs.YtimffhpnfdikoaaDoorW.PrintLast Go.Proofs.YtimffhpnfdikoaaDoorW.PrintMore Go.Proofs.YtimffhpnfdikoaaDoor.GFnListKinds Go.Proofs.YtimffhpnfdikoaaDoor.PlFnListKinds
set_option linter.unusedVariables false
set_option linter.unusedSimpArgs false
def ent (d : S46) : S35 := ⟨d.f1, d.f2⟩
theorem runS_puts {ds : List S46} (h : PutsOk ds) : ∀ i, i ≤ ds.length → (runS (ds.take i)).l = (ds.take i).map ent
  | 0, _ => rfl
  | i + 1, hi => by
    have ht : ds[i]? = some (ds[i]'hi) := List.getElem?_eq_getElem hi
    obtain ⟨h0, hv⟩ := h.all.puts i _ hi ht
    have ih := runS_puts h i (by omega)
    rw [runS_take ht]
    unfold stepS
    rw [if_pos ⟨h0, valid_ok hv⟩, if_pos (h.good.once i _ hi ht h0), ih, List.take_add_one, List.getElem?_eq_getElem hi, Option.toList_some, List.map_append]
    rfl
theorem runS_ents {ds : List S46} (h : PutsOk ds) : (runS ds).l = ds.map ent := by
  have := runS_puts h ds.length (Nat.le_refl _)
  rwa [List.take_length] at this
theorem val_inj {ds : List S46} (h : PutsOk ds) {d e : S46} (hd : d ∈ ds) (he : e ∈ ds) (hv : d.f2 = e.f2) : d = e := by
  obtain ⟨i, hi, rfl⟩ := List.getElem_of_mem hd
  obtain ⟨j, hj, rfl⟩ := List.getElem_of_mem he
  rcases Nat.lt_trichotomy i j with hij | rfl | hij
  · exact absurd hv (h.all.vals i j _ _ hij hj (List.getElem?_eq_getElem hi) (List.getElem?_eq_getElem hj))
  · rfl
  · exact absurd hv.symm (h.all.vals j i _ _ hij hi (List.getElem?_eq_getElem hj) (List.getElem?_eq_getElem hi))
/-- A value is handed on just if its own subject matches. -/
theorem got_iff {ds : List S46} (h : PutsOk ds) {s : ByteArray} {M : List (Path × Int)} (hM : ∀ x, x ∈ M ↔ InH (runL ds).sub [] (tk s) x) {d : S46} (hd : d ∈ ds) : d.f2 ∈ M.map Prod.snd ↔ mt (tk s) (tk d.f1) = true := by
  have he := h.good.eqv
  rw [List.mem_map]
  constructor
  · rintro ⟨x, hx, hx2⟩
    obtain ⟨⟨q, e1, e2⟩, e3⟩ := (hM x).1 hx
    obtain ⟨t, ht⟩ := Option.isSome_iff_exists.1 e3
    obtain ⟨g1, g2⟩ := (he.sub _ _ _).1 ht
    rw [runS_ents h] at g1
    obtain ⟨e, hed, hee⟩ := List.mem_map.1 g1
    unfold ent at hee
    injection hee with k1 k2
    have := val_inj h hed hd (by rw [k2, hx2])
    subst this
    rw [List.nil_append] at e1
    rw [k1, ← g2, e1]
    exact e2
  · intro hm
    refine ⟨(tk d.f1, d.f2), (hM _).2 ⟨⟨tk d.f1, rfl, hm⟩, ?_⟩, rfl⟩
    have : (runL ds).sub (tk d.f1) d.f2 = some d.f1 := (he.sub _ _ _).2 ⟨by rw [runS_ents h]; exact List.mem_map.2 ⟨d, hd, rfl⟩, rfl⟩
    show ((runL ds).sub (tk d.f1) d.f2).isSome = true
    rw [this]
    rfl
theorem got_pos {ds : List S46} {s : ByteArray} {M : List (Path × Int)} (hM : ∀ x, x ∈ M ↔ InH (runL ds).sub [] (tk s) x) : 0 < M.length ↔ HitP (runL ds).sub [] (tk s) := by
  rw [List.length_pos_iff_exists_mem]
  constructor
  · rintro ⟨x, hx⟩
    obtain ⟨⟨q, e1, e2⟩, e3⟩ := (hM x).1 hx
    obtain ⟨t, ht⟩ := Option.isSome_iff_exists.1 e3
    rw [e1] at ht
    exact ⟨q, x.2, t, ht, e2⟩
  · rintro ⟨q, v, t, h1, h2⟩
    exact ⟨([] ++ q, v), (hM _).2 ⟨⟨q, rfl, h2⟩, by show ((runL ds).sub ([] ++ q) v).isSome = true; rw [h1]; rfl⟩⟩
/-- A plain subject, as impl.Matches wants it. -/
structure PlainS (s : ByteArray) : Prop where
  lits : Lits s
  formed : formedB (toks s.data.toList) = true
  tame : (toks s.data.toList).all tameT = true
  lit : (toks s.data.toList).all litT = true
theorem plain_evs2 (s : ByteArray) (hs : s.size ≤ 2147483647) : ∃ b, Ev (fun k => laws_plain.f k s) b ∧ (b = true → PlainS s) := by
  obtain ⟨b, h1, h2⟩ := plain_ev s.data.toList (by show s.size < _; omega)
  refine ⟨b, h1, fun e => ?_⟩
  have h := h2.1 e
  refine ⟨plain_lits h, ?_, h.1.2.2, h.2⟩
  have := h.1.2.1
  unfold validB at this
  rw [Bool.and_eq_true] at this
  exact this.1
theorem matches_ev {s t : ByteArray} (hs : PlainS s) (ht : t.size ≤ 80) (hf : formedB (toks t.data.toList) = true) (hta : (toks t.data.toList).all tameT = true) : Ev (fun k => impl_Matches.f k s t) (mt (tk s) (tk t)) := by
  have := impl_Matches_ev s.data.toList t.data.toList (by show s.size < _; have := hs.lits.size; omega) (by show t.size < _; omega) hs.formed hf hs.tame hta
  rw [mt_tk, ← subT_lit _ _ hs.lit]
  exact this
section
set_option maxHeartbeats 8000000
set_option maxRecDepth 100000
theorem means_law {W : World} {A0 : Option Addr} {c0 : Nat} {ds : List S46} {s : ByteArray} (hS : Scr W A0 ds) (hc : ds.length ≤ c0) : Calls Tryd.prog 7 #[.slice A0 ds.length c0, .string s] W (LawPost W) := by
  have HS := Aside0.mk hS
  have HC := Aside0.mk hc
  obtain ⟨b5, he5, hb5⟩ := fits5_ev ds
  obtain ⟨k5, hk5⟩ := Ev.rounds he5
  have HK5 := Aside0.mk hk5
  clear hS hc he5 hb5 hk5
  go_enter Tryd.func7, Tryd.ntmps7
  go_wp2_with fail
  refine (laws_zzFits5.calls k5 A0 c0 ds b5 W HS.out.row HC.out HK5.out).mono ?_
  rintro e w1 ⟨rfl, hf⟩
  have H1 : Aside0 (Same W w1) := ⟨fr_of_below hf⟩
  clear hf
  cases b5 with
  | false =>
    go_wp2
    go_ret
    exact ⟨rfl, H1.out⟩
  | true =>
    by_cases hbig : (s.size : Int) > 2147483647
    · have hd : decide ((s.size : Int) > 2147483647) = true := decide_eq_true hbig
      have hd2 : 2147483647 < s.size := by omega
      go_wp2
      go_ret
      exact ⟨rfl, H1.out⟩
    · have hd : decide ((s.size : Int) > 2147483647) = false := decide_eq_false hbig
      have hd2 : ¬ 2147483647 < s.size := by omega
      have HSZ : Aside0 (s.size ≤ 2147483647) := ⟨by omega⟩
      clear hbig
      go_wp2_with fail
      refine (awake_calls (HS.out.fr H1.out).gl).mono ?_
      rintro e w2 ⟨rfl, hf⟩
      have H2 : Aside0 (Same W w2) := ⟨H1.out.trans hf (fun _ _ h => h)⟩
      clear hf H1 hd hd2
      go_wp2_with fail
      refine (puts_calls (HS.out.fr H2.out) HC.out).mono ?_
      rintro e w3 ⟨⟨b, rfl, hb⟩, hf⟩
      have H3 : Aside0 (Same W w3) := ⟨H2.out.trans hf (fun _ _ h => h)⟩
      have HB := Aside0.mk hb
      clear hf hb H2
      cases b with
      | false =>
        go_wp2
        go_ret
        exact ⟨rfl, H3.out⟩
      | true =>
        have HP := Aside0.mk (HB.out rfl)
        obtain ⟨bp, hep, hbp⟩ := plain_evs2 s HSZ.out
        obtain ⟨kp, hkp⟩ := Ev.rounds hep
        have HKP := Aside0.mk hkp
        have HBP := Aside0.mk hbp
        clear HB hep hkp hbp
        go_wp2_with fail
        refine (laws_plain.calls kp s bp w3 HKP.out).mono ?_
        rintro e w4 ⟨rfl, hf⟩
        have H4 : Aside0 (Same W w4) := ⟨H3.out.trans (fr_of_below hf) (fun _ _ h => h)⟩
        clear hf
        cases bp with
        | false =>
          go_wp2
          go_ret
          exact ⟨rfl, H4.out⟩
        | true =>
          have HL := Aside0.mk (HBP.out rfl)
          have HLE : Aside0 (ds.length ≤ 40) := ⟨HP.out.good.deeds.1⟩
          have HSS : Aside0 ((runS ds).l.length ≤ ds.length) := ⟨(run_sizes ds).1⟩
          clear HBP HKP HK5
          go_wp2_with fail
          refine (lmatch_calls (HS.out.fr H4.out) (HS.out.good HP.out.good.deeds) HP.out.good.clean HP.out.good.forms (fun M h1 h2 => by have := hits_le HP.out.good.eqv h1 h2; have := HLE.out; have := HSS.out; omega) HL.out.lits).mono ?_
          rintro e w5 ⟨⟨v, M, rfl, hr, hn, hm⟩, hf⟩
          have H5 : Aside0 (Same W w5) := ⟨H4.out.trans hf (fun _ _ h => h)⟩
          have hml := hits_le HP.out.good.eqv hn (fun x hx => ((hm x).1 hx).2)
          obtain ⟨Ag, cg, rfl, hcg, hCg⟩ := ints_C hr rfl (by rw [List.length_map]; have := HLE.out; have := HSS.out; omega)
          have HMM := Aside0.mk hm
          have HCG := Aside0.mk (And.intro hcg hCg)
          obtain ⟨G, hG⟩ : ∃ G, M.map Prod.snd = G := ⟨_, rfl⟩
          have HGL : Aside0 (G.length = M.length ∧ G.length ≤ ds.length) := ⟨by rw [← hG, List.length_map]; have := HSS.out; omega⟩
          have HGI : Aside0 (∀ d ∈ ds, (d.f2 ∈ G ↔ mt (tk s) (tk d.f1) = true)) := ⟨fun d hd => by rw [← hG]; exact got_iff HP.out hm hd⟩
          rw [hG] at HCG ⊢
          clear hr hn hm hf hml hcg hCg hG
          go_wp2_with fail
          go_loopg [6] ds.length (fun kq v6 wr => ∃ (i : Nat), v6 = .int .i64 (i : Int) ∧ Aside0 (kq + i = ds.length ∧ i ≤ ds.length) ∧ Aside0 (Same w5 wr))
          case atStart => exact ⟨0, rfl, ⟨by omega⟩, ⟨Fr.refl _ _⟩⟩
          case round =>
            obtain ⟨i, rfl, HI, HSW⟩ := hrel
            have HWW : Aside0 (Same W wr) := ⟨H5.out.trans HSW.out (fun _ _ h => h)⟩
            have i0 : (0 : Int) ≤ (i : Int) := by omega
            by_cases hlt : i < ds.length
            · have i1 : (i : Int) < (ds.length : Int) := by omega
              have i2 : decide ((i : Int) < (ds.length : Int)) = true := decide_eq_true i1
              have i5 : IntKind.i64.wrap ((i : Int) + 1) = ((i + 1 : Nat) : Int) := by rw [IntKind.wrap_i64]; have := HI.out; have := HLE.out; omega
              obtain ⟨d, ht⟩ : ∃ d, ds[i]? = some d := ⟨_, List.getElem?_eq_getElem hlt⟩
              have HTI := Aside0.mk ht
              have HIK : Aside0 (i + 1 ≤ ds.length) := ⟨hlt⟩
              have hmem := List.mem_of_getElem? ht
              have HDD := Aside0.mk (HP.out.good.deeds.2 d hmem)
              have HPV := Aside0.mk (HP.out.all.puts i d hlt ht)
              have HGD := Aside0.mk (HGI.out d hmem)
              obtain ⟨ad, rfl, t0, t1, t2⟩ := at_T46 (HS.out.fr HWW.out).row (i : Int) (by omega) (by omega)
              rw [Int.toNat_natCast, rd46_at HTI.out] at t0 t1 t2
              obtain ⟨kh, hkh⟩ := Ev.rounds (hasInt_ev G (by have := HGL.out; have := HLE.out; omega) d.f2)
              obtain ⟨km, hkm⟩ := Ev.rounds (matches_ev HL.out HDD.out.2.1 (by have := HPV.out.2; unfold validB at this; rw [Bool.and_eq_true] at this; exact this.1) HDD.out.2.2.1)
              have hbb : decide (d.f2 ∈ G) = mt (tk s) (tk d.f1) := by rw [Bool.eq_iff_iff, decide_eq_true_iff]; exact HGD.out
              rw [hbb] at hkh
              have HHI : Aside0 (∀ B, Same w5 B → Calls Tryd.prog 25 #[.slice Ag G.length cg, .int .i64 d.f2] B (fun e w' => e = .returned (.bool (mt (tk s) (tk d.f1))) ∧ Same B w')) := ⟨fun B hB => (laws_hasInt.calls kh Ag cg G d.f2 _ B (Kd.C_below HCG.out.2 (below_of_fr hB)) HCG.out.1 hkh).mono (fun e w' h => ⟨h.1, fr_of_below h.2.below⟩)⟩
              have HMT : Aside0 (∀ B, Calls Tryd.prog 26 #[.string s, .string d.f1] B (fun e w' => e = .returned (.bool (mt (tk s) (tk d.f1))) ∧ Same B w')) := ⟨fun B => (impl_Matches.calls km s d.f1 _ B hkm).mono (fun e w' h => ⟨h.1, fr_of_below h.2⟩)⟩
              have HKS : Aside0 (∀ B B' : World, (Same wr B ∧ B.cell? ⟨(ad.add (i * 3)).block, (ad.add (i * 3)).off + 1, none⟩ = some (.string d.f1) ∧ B.cell? ⟨(ad.add (i * 3)).block, (ad.add (i * 3)).off + 2, none⟩ = some (.int .i64 d.f2)) → Same B B' → (Same wr B' ∧ B'.cell? ⟨(ad.add (i * 3)).block, (ad.add (i * 3)).off + 1, none⟩ = some (.string d.f1) ∧ B'.cell? ⟨(ad.add (i * 3)).block, (ad.add (i * 3)).off + 2, none⟩ = some (.int .i64 d.f2))) := ⟨fun B B' h hb => ⟨h.1.trans hb (fun _ _ h => h), hb.cell h.2.1, hb.cell h.2.2⟩⟩
              have hS0 : Same wr wr.drew ∧ wr.drew.cell? ⟨(ad.add (i * 3)).block, (ad.add (i * 3)).off + 1, none⟩ = some (.string d.f1) ∧ wr.drew.cell? ⟨(ad.add (i * 3)).block, (ad.add (i * 3)).off + 2, none⟩ = some (.int .i64 d.f2) := ⟨(Fr.refl _ wr).drew, t1, t2⟩
              obtain ⟨mb, hmb⟩ : ∃ mb, mt (tk s) (tk d.f1) = mb := ⟨_, rfl⟩
              rw [hmb] at HHI HMT
              clear ht hmem hlt hkh hkm hbb hmb t0
              go_upto_region 11 with (fail)
              go_region_held3 (fun B => Same wr B ∧ B.cell? ⟨(ad.add (i * 3)).block, (ad.add (i * 3)).off + 1, none⟩ = some (.string d.f1) ∧ B.cell? ⟨(ad.add (i * 3)).block, (ad.add (i * 3)).off + 2, none⟩ = some (.int .i64 d.f2)) (first | exact hS0 | exact hS6 | exact hS5)
                (first
                  | (go_at_call 25; refine (HHI.out _ (HSW.out.trans (show Same wr _ by first | exact hS0.1 | (have hh := hS; exact hh.1)) (fun _ _ h => h))).mono ?_; rintro e w6 ⟨rfl, hb5⟩; have hS5 := HKS.out _ _ (by first | exact hS0 | exact hS) hb5)
                  | (go_at_call 26; refine (HMT.out _).mono ?_; rintro e w7 ⟨rfl, hb6⟩; have hS6 := HKS.out _ _ (by first | exact hS5 | exact hS) hb6))
              have H7 : Aside0 (Same w5 w7) := ⟨HSW.out.trans hS6.1 (fun _ _ h => h)⟩
              clear hS0 hS5 hS6 hb5 hb6 t1 t2
              cases mb
              all_goals (
                go_wp2_with fail
                go_roundg (ds.length - (i + 1))
                case measure => have := HI.out; have := HIK.out; omega
                case rel => exact ⟨i + 1, rfl, ⟨by have := HIK.out; omega⟩, H7⟩)
            · have hie : i = ds.length := by have := HI.out; omega
              subst hie
              have i2 : decide ((ds.length : Int) < (ds.length : Int)) = false := decide_eq_false (by omega)
              have hpos := got_pos HMM.out
              have h2 := hit_vals HP.out.good s
              have hvv : decide (0 < (valsP s (runS ds).l).length) = decide (0 < G.length) := by
                rw [decide_eq_decide, ← h2, ← hpos, HGL.out.1]
              have p1 : decide ((G.length : Int) ≤ (ds.length : Int)) = true := decide_eq_true (by have := HGL.out; omega)
              have p2 : G.length ≤ ds.length := HGL.out.2
              have HVV := Aside0.mk hvv
              clear hpos h2 hvv
              go_wp2_with fail
              refine (lhas_calls (HS.out.fr HWW.out) HP.out.good HL.out.lits).mono ?_
              rintro e w6 ⟨rfl, hf⟩
              have H6 : Aside0 (Same W w6) := ⟨HWW.out.trans hf (fun _ _ h => h)⟩
              rw [HVV.out]
              clear hf
              by_cases p0 : 0 < G.length
              · rw [decide_eq_true p0]
                go_wp2
                go_ret
                exact ⟨rfl, H6.out⟩
              · rw [decide_eq_false p0]
                go_wp2
                go_ret
                exact ⟨rfl, H6.out⟩
theorem means_row {W : World} {A0 : Option Addr} {c0 : Nat} {ds : List S46} {s : ByteArray} (hT : Kd.C k46 W A0 ds.length ds) (hw : ∀ d ∈ ds, (Lit.int .i64 d.f2).wf = true) (hc : ds.length ≤ c0) (hG : GlL W) :
    Calls Tryd.prog 7 #[.slice A0 ds.length c0, .string s] W (fun e w' => e = .returned (.bool true) ∧ Below W.heap.size W w') := (means_law ⟨hT, hw, hG⟩ hc).mono (fun e w' h => ⟨h.1, below_of_fr h.2⟩)
end
end Go.Proofs.YtimffhpnfdikoaaDoor.Ls
