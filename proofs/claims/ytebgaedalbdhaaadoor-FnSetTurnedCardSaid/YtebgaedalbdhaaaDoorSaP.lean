/- The law FnSetTurned. -/
import Derived.Test.YtebgaedalbdhaaaDoorSaO
import Derived.Deep.RegionHeld3
import Derived.OwnWalk
namespace Go.Proofs.YtebgaedalbdhaaaDoor.Av
open Go.RowKit Go.Proofs.YtebgaedalbdhaaaDoorW.PrintWords Go.Proofs.YtebgaedalbdhaaaDoorW.PrintLast Go.Proofs.YtebgaedalbdhaaaDoorW.PrintMore
set_option linter.unusedVariables false
set_option linter.unusedSimpArgs false

set_option maxHeartbeats 4000000 in
set_option maxRecDepth 100000 in
theorem numbers_calls {w : World} {A : Option Addr} {acts : List Deed} {c : Nat} (hA : ActsR w A acts) (hok : ∀ a ∈ acts, okDeed none a) (hn : acts.length ≤ 1000) (hT : TabAt w) :
    Calls Tryd.prog 21 #[.slice A acts.length c] w fun e w' => ∃ v, e = .returned v ∧ NumRow w w' v (plays [] acts) := by
  have HA := Aside0.mk hA
  have HOK := Aside0.mk hok
  have HT := Aside0.mk hT
  have HE : Aside0 ((plays [] acts).take 1000 = plays [] acts) := ⟨List.take_of_length_le (by have := plays_len acts []; simp at this; omega)⟩
  clear hA hok hT
  go_enter Tryd.func21, Tryd.ntmps21
  go_wp2_with fail
  refine (first_calls (n := 1000) HA.out HOK.out hn HT.out (by omega)).mono ?_
  rintro e w1 ⟨v, rfl, h⟩
  rw [HE.out] at h
  have H := Aside0.mk h
  clear h
  go_wp2
  go_ret
  exact ⟨_, rfl, H.out⟩
/-- The rows that the law makes: each one, what it reads as. -/
structure DeedRow (w2 W : World) (v : Value) (es : List Deed) : Prop where
  row : RowG w2 W 37 2 v es.length (actC es)
theorem DeedRow.read {w2 W : World} {v : Value} {es : List Deed} (h : DeedRow w2 W v es) : ∃ A c, v = .slice A es.length c ∧ es.length ≤ c ∧ ReadG W A es.length 2 (actC es) := read_own (W := W) h.row.own (actC_one es)
theorem DeedRow.app {w2 W : World} {v : Value} {n m : Nat} {es bs : List Deed} (h : RowG w2 W 37 2 v (n + m) (actC es ++ actC bs)) (hn : n = es.length) (hm : m = bs.length) : DeedRow w2 W v (es ++ bs) := ⟨by
  subst hn hm
  rw [List.length_append, actC_append]
  exact h⟩
theorem puts_take (es : List Deed) {i : Nat} {a : Deed} (h : es[i]? = some a) : puts (es.take i) ++ [(0, a.2)] = puts (es.take (i + 1)) := by
  rw [take_snoc h]
  simp [puts]
theorem puts_ok {es : List Deed} (h : ∀ a ∈ es, okDeed none a) : ∀ a ∈ puts es, okDeed none a := fun a ha => by
  obtain ⟨b, hb, rfl⟩ := List.mem_map.1 ha
  obtain ⟨h1, h2, h3, h4⟩ := h b hb
  exact ⟨.inl rfl, h2, h3, h4⟩
theorem puts_len (es : List Deed) : (puts es).length = es.length := by simp [puts]
set_option maxHeartbeats 16000000 in
set_option maxRecDepth 100000 in
theorem turned_law (turn n : Int) {w : World} {A : Option Addr} {acts : List Deed} {c : Nat} (hA : ActsR w A acts) (hp : ∀ a ∈ acts, 0 ≤ a.2) (hn : acts.length ≤ maxLen) (ht : (Lit.int .i64 turn).wf = true) (hq : (Lit.int .u64 n).wf = true) (hT : TabAt w) :
    Calls Tryd.prog 7 #[.slice A acts.length c, .int .i64 turn, .int .u64 n] w fun e w' => e = .returned (.bool true) ∧ Fr (fun _ => False) w w' := by
  obtain ⟨i0, hK⟩ := elem37
  have K37 := Aside0.mk hK
  have HA := Aside0.mk hA
  have HP := Aside0.mk hp
  have HN := Aside0.mk hn
  have HT := Aside0.mk hT
  have hq0 : 0 ≤ n := by
    have hm : IntKind.u64.min = 0 := by decide
    simp only [Lit.wf, Bool.and_eq_true, decide_eq_true_eq, hm] at hq
    exact hq.1
  clear hA hp hn hT hq hK ht
  by_cases hbig : 2147483647 < (acts.length : Int)
  · go_enter Tryd.func7, Tryd.ntmps7
    go_wp2
    go_ret
    exact ⟨rfl, Fr.refl _ _⟩
  · go_enter Tryd.func7, Tryd.ntmps7
    go_wp2_with fail
    refine (acts_calls HA.out HN.out).mono ?_
    rintro e w' ⟨rfl, hw⟩
    subst w'
    cases hok : actsOk acts with
    | false =>
      clear hok
      go_wp2_with fail
      refine (awake_calls HT.out).mono ?_
      rintro e w' ⟨rfl, hf⟩
      have HF := Aside0.mk hf
      clear hf
      go_wp2
      go_ret
      exact ⟨rfl, HF.out⟩
    | true =>
      have HOK := Aside0.mk (actsOk_deed hok HP.out)
      have hlen := ok_len hok
      clear hok
      by_cases h0 : acts.length = 0
      · have hz : ((acts.length : Int) == 0) = true := by simp [h0]
        go_wp2_with fail
        refine (awake_calls HT.out).mono ?_
        rintro e w' ⟨rfl, hf⟩
        have HF := Aside0.mk hf
        clear hf
        go_wp2
        go_ret
        exact ⟨rfl, HF.out⟩
      · have hz : ((acts.length : Int) == 0) = false := by rw [beq_eq_false_iff_ne]; omega
        by_cases hmost : 18446744073709549568 ≤ n
        · go_wp2_with fail
          refine (awake_calls HT.out).mono ?_
          rintro e w' ⟨rfl, hf⟩
          have HF := Aside0.mk hf
          clear hf
          go_wp2
          go_ret
          exact ⟨rfl, HF.out⟩
        · go_wp2
          go_loopg [7, 8] acts.length (fun k v7 v8 w' => ∃ i : Nat, i ≤ acts.length ∧ v8 = .int .i64 i ∧ Aside0 (acts.length - i ≤ k ∧ DeedRow w w' v7 (puts (acts.take i))))
          case atStart => exact ⟨0, Nat.zero_le _, rfl, ⟨Nat.le_refl _, ⟨⟨rfl, .inl ⟨rfl, rfl⟩⟩, Fr.refl _ _⟩⟩⟩
          case round =>
            obtain ⟨i, hi, rfl, HU⟩ := hrel
            have HK := Aside0.mk HU.out.1
            have HR := Aside0.mk HU.out.2
            clear HU
            by_cases hlt : i < acts.length
            · obtain ⟨a, ha⟩ : ∃ a, acts[i]? = some a := ⟨_, List.getElem?_eq_getElem hlt⟩
              obtain ⟨ad, rfl, hc2⟩ := (HA.out.fr HR.out.row.fr (fun _ _ h => h)) (by omega)
              obtain ⟨k1, k2⟩ := hc2 i a ha
              replace k2 : wr.cell? ⟨(ad.add (i * 2)).block, (ad.add (i * 2)).off + 1, none⟩ = some (.int .u64 a.2) := by
                rw [← k2, ← add_add']
                rfl
              have i1 : (0 : Int) ≤ (i : Int) := by omega
              have i2 : (i : Int) < (acts.length : Int) := by omega
              have HAI := Aside0.mk ha
              clear hc2 k1 ha
              have HL : Aside0 ((puts (acts.take i)).length = i) := ⟨by rw [puts_len, List.length_take]; omega⟩
              go_upto_region 9 with (fail)
              go_upto_region 8 with (at_builtin; refine wpList_rowG K37.out rfl (.tmp 34) (.tmp 41) rfl (m := 1) (ys := actC [(0, a.2)]) rfl (HR.out.row.alloc _) rfl (fun _ => read_newG rfl (actC_one [(0, a.2)])) (by have := HL.out; omega) (fun v' w2 h1 _ _ => ?_))
              have HR2 : Aside0 (DeedRow w w2 v' (puts (acts.take (i + 1)))) := ⟨by rw [← puts_take _ HAI.out]; exact DeedRow.app h1 rfl rfl⟩
              clear h1 k2
              go_wp2
              go_roundg (acts.length - (i + 1))
              case measure => have := HK.out; omega
              case rel => exact ⟨i + 1, by omega, rfl, ⟨Nat.le_refl _, HR2.out⟩⟩
            · have he : i = acts.length := by omega
              subst he
              have hr := HR.out
              rw [List.take_length] at hr
              have HPO := Aside0.mk (puts_ok HOK.out)
              have HPZ := Aside0.mk (@puts_zero acts)
              have HPL := Aside0.mk (puts_len acts)
              obtain ⟨es, hes⟩ : ∃ es, es = puts acts := ⟨_, rfl⟩
              rw [← hes] at hr HPO HPZ HPL
              have HRP := Aside0.mk hr
              obtain ⟨B, d, e7, hcap, hrd⟩ := hr.read
              have HRD := Aside0.mk hrd
              have e8 : u7 = .slice B acts.length d := by rw [e7, HPL.out]
              have hcap' : acts.length ≤ d := by have := HPL.out; omega
              clear hr hrd hes e7 hcap HR
              subst e8
              go_upto_region 11 with (fail)
              obtain ⟨k, hk, hkn⟩ : ∃ k : Nat, wrap64 ((IntKind.u64.wrap turn).tmod (acts.length : Int)) = (k : Int) ∧ k < acts.length := by
                refine ⟨(IntKind.u64.wrap turn).toNat % acts.length, ?_, Nat.mod_lt _ (by omega)⟩
                have h1 : 0 ≤ IntKind.u64.wrap turn := by rw [IntKind.wrap_u64]; omega
                obtain ⟨m, hm⟩ : ∃ m : Nat, IntKind.u64.wrap turn = (m : Int) := ⟨(IntKind.u64.wrap turn).toNat, by omega⟩
                have h2 := Nat.mod_lt m (show 0 < acts.length by omega)
                have h3 : ((m : Int)).tmod (acts.length : Int) = ((m % acts.length : Nat) : Int) := (Int.ofNat_tmod _ _).symm
                rw [hm, Int.toNat_natCast, h3]
                unfold wrap64
                omega
              rw [hk]
              clear hk
              have j0 : (0 : Int) ≤ (k : Int) := by omega
              have j1 : (k : Int) ≤ (acts.length : Int) := by omega
              have j2 : (acts.length : Int) ≤ (d : Int) := by omega
              have j3 : (k : Int) ≤ (d : Int) := by omega
              have HPL2 : Aside0 (es.length = acts.length) := ⟨HPL.out⟩
              have HSZ : Aside0 (0 + (acts.length - k) ≤ 1000000 ∧ 0 + (acts.length - k) + k ≤ 1000000) := ⟨by omega⟩
              have HR0 : Aside0 (ReadG wr B acts.length 2 (actC es)) := ⟨by have := HRD.out; rw [HPL.out] at this; exact this⟩
              have HRT : Aside0 (∀ W, Fr (fun _ => False) wr W → ReadG W B k 2 (actC (es.take k))) := ⟨fun W hf => by rw [← actC_take]; exact (HR0.out.take k (by omega)).fr hf (fun _ _ h => h)⟩
              have HRX : Aside0 (∀ W, Fr (fun _ => False) wr W → ReadG W (if d = k then B else Option.map (fun x => x.add (k * 2)) B) (acts.length - k) 2 (actC (es.drop k))) := ⟨fun W hf => by rw [← actC_drop]; exact (HR0.out.drop k (by omega) hcap').fr hf (fun _ _ h => h)⟩
              go_region_held3 (fun w' => True) (first | go_keep | trivial)
                (first
                  | (refine step_rowG K37.out (by rfl) (.tmp 50) (.tmp 53) (by rfl) (w2 := wr) (n := 0) (xs := []) (m := acts.length - k) (ys := actC (es.drop k)) (by rfl) row_g1 (by rfl) (HRX.out _) HSZ.out.1 ?_; intro v1 w1 hr1 hg1 ha1)
                  | (refine step_rowG K37.out (by rfl) (.tmp 54) (.tmp 57) (by rfl) (w2 := wr) (m := k) (ys := actC (es.take k)) (by rfl) hr1 (by rfl) (HRT.out _) HSZ.out.2 ?_; intro v3 w4 hr3 hg3 ha3))
              generalize (if d = k then B else Option.map (fun x => x.add (k * 2)) B) = X9
              have HF4 : Aside0 (Fr (fun _ => False) w w4) := ⟨HRP.out.row.fr.trans hr3.fr (fun _ _ h => h)⟩
              have HFW : Aside0 (Fr (fun _ => False) wr w4) := ⟨hr3.fr⟩
              have hq : DeedRow wr w4 v3 (es.drop k ++ es.take k) := DeedRow.app (n := 0 + (acts.length - k)) (m := k) hr3 (by rw [List.length_drop, HPL.out]; omega) (by rw [List.length_take, HPL.out]; omega)
              have HQO : Aside0 (∀ a ∈ es.drop k ++ es.take k, okDeed none a) := ⟨fun a ha => HPO.out a (by
                rcases List.mem_append.1 ha with h | h
                · exact List.mem_of_mem_drop h
                · exact List.mem_of_mem_take h)⟩
              have HQP : Aside0 (plays [] (es.drop k ++ es.take k) = plays [] es) := ⟨plays_turn es k HPZ.out⟩
              have HQL : Aside0 ((es.drop k ++ es.take k).length = acts.length) := ⟨by rw [List.length_append, List.length_drop, List.length_take, HPL.out]; omega⟩
              clear hr1 hg1 ha1 hr3 hg3 ha3 HRT HRX HSZ HRD HPL2 HPZ
              generalize es.drop k ++ es.take k = qs at *
              have HQ := Aside0.mk hq
              obtain ⟨C, d2, e9, hcap2, hrq⟩ := hq.read
              rw [HQL.out] at e9 hcap2 hrq
              have HRQ := Aside0.mk hrq.acts
              have HRE : Aside0 (ActsR w4 B es) := ⟨(HR0.out.fr HFW.out (fun _ _ h => h)).acts⟩
              clear hq hrq j0 j1 j2 j3 hkn
              subst e9
              have EQ1 := setEqual_calls (c := d) (d := d2) HRE.out HRQ.out HPO.out HQO.out (by have := HPL.out; omega) (by have := HQL.out; omega) (HT.out.fr HF4.out (fun h => h))
              rw [HPL.out, HQL.out, HQP.out, decide_eq_true (rfl : plays [] es = plays [] es)] at EQ1
              replace EQ1 := Aside0.mk EQ1
              have HML : Aside0 ((plays [] es).length ≤ maxLen) := ⟨plays_max (by have := HPL.out; omega)⟩
              go_wp2_with fail
              refine EQ1.out.mono ?_
              rintro e w5 ⟨rfl, hf⟩
              have HF5 := Aside0.mk (HF4.out.trans hf (fun _ _ h => h))
              have HFW5 := Aside0.mk (HFW.out.trans hf (fun _ _ h => h))
              have HRE5 := Aside0.mk (HRE.out.fr hf (fun _ _ h => h))
              have HRQ5 := Aside0.mk (HRQ.out.fr hf (fun _ _ h => h))
              have HQ5 : Aside0 (RowG wr w5 37 2 (.slice C acts.length d2) acts.length (actC qs)) := ⟨by have := HQ.out.row.fr0 hf; rw [HQL.out] at this; exact this⟩
              clear hf EQ1 HRE HRQ HQ HF4 HFW
              have NU1 := numbers_calls (c := d) HRE5.out HPO.out (by have := HPL.out; omega) (HT.out.fr HF5.out (fun h => h))
              rw [HPL.out] at NU1
              replace NU1 := Aside0.mk NU1
              go_wp2_with fail
              refine NU1.out.mono ?_
              rintro e w6 ⟨v, rfl, h⟩
              have hf := h.fr
              obtain ⟨D, c3, rfl, -, hrn⟩ := ownsRow_read h.own rfl
              have HRN := Aside0.mk hrn
              have HF6 := Aside0.mk (HF5.out.trans hf (fun _ _ h => h))
              have HFW6 := Aside0.mk (HFW5.out.trans hf (fun _ _ h => h))
              have HRE6 := Aside0.mk (HRE5.out.fr hf (fun _ _ h => h))
              have HRQ6 := Aside0.mk (HRQ5.out.fr hf (fun _ _ h => h))
              have HQ6 := Aside0.mk (HQ5.out.fr0 hf)
              clear hf h hrn NU1 HRE5 HRQ5 HQ5 HF5 HFW5
              have NU2 := numbers_calls (c := d2) HRQ6.out HQO.out (by have := HQL.out; omega) (HT.out.fr HF6.out (fun h => h))
              rw [HQL.out, HQP.out] at NU2
              replace NU2 := Aside0.mk NU2
              go_wp2_with fail
              refine NU2.out.mono ?_
              rintro e w7 ⟨v, rfl, h⟩
              have hf := h.fr
              obtain ⟨D2, c4, rfl, -, hrn⟩ := ownsRow_read h.own rfl
              have HRN2 := Aside0.mk hrn
              have HRN1 := Aside0.mk (HRN.out.fr hf (fun _ _ h => h))
              have HF7 := Aside0.mk (HF6.out.trans hf (fun _ _ h => h))
              have HFW7 := Aside0.mk (HFW6.out.trans hf (fun _ _ h => h))
              have HRE7 := Aside0.mk (HRE6.out.fr hf (fun _ _ h => h))
              have HQ7 := Aside0.mk (HQ6.out.fr0 hf)
              clear hf h hrn NU2 HRE6 HRQ6 HQ6 HF6 HFW6 HRN
              go_wp2_with fail
              refine (same_calls HRN1.out HRN2.out HML.out HML.out).mono ?_
              rintro e w8 ⟨rfl, hf⟩
              rw [decide_eq_true (rfl : plays [] es = plays [] es)]
              have HF8 := Aside0.mk (HF7.out.trans hf (fun _ _ h => h))
              have HFW8 := Aside0.mk (HFW7.out.trans hf (fun _ _ h => h))
              have HRE8 := Aside0.mk (HRE7.out.fr hf (fun _ _ h => h))
              have HQ8 := Aside0.mk (HQ7.out.fr0 hf)
              clear hf HRE7 HQ7 HF7 HFW7 HRN1 HRN2
              have EX := setExists_calls (c := d) n hq0 (by omega) HRE8.out HPO.out (by have := HPL.out; omega)
              rw [HPL.out] at EX
              replace EX := Aside0.mk EX
              go_wp2_with fail
              refine EX.out.mono ?_
              rintro e w9 ⟨rfl, hf⟩
              have HF9 := Aside0.mk (HF8.out.trans hf (fun _ _ h => h))
              have HFW9 := Aside0.mk (HFW8.out.trans hf (fun _ _ h => h))
              have HRE9 := Aside0.mk (HRE8.out.fr hf (fun _ _ h => h))
              have HQ9 := Aside0.mk (HQ8.out.fr0 hf)
              clear hf HRE8 HQ8 HF8 HFW8 EX
              by_cases hin : n ∈ plays [] es
              · rw [decide_eq_true hin]
                clear hin
                go_wp2_with fail
                refine (awake_calls (HT.out.fr HF9.out (fun h => h))).mono ?_
                rintro e w' ⟨rfl, hf⟩
                have HF := Aside0.mk (HF9.out.trans hf (fun _ _ h => h))
                clear hf
                go_wp2
                go_ret
                exact ⟨rfl, HF.out⟩
              · rw [decide_eq_false hin]
                have HIN := Aside0.mk hin
                clear hin
                go_upto_region 17 with (at_builtin; refine wpList_rowG K37.out rfl (.tmp 75) (.tmp 80) rfl (m := 2) (ys := actC [(0, n), (1, n)]) rfl (HQ9.out.alloc _) rfl (fun _ => read_newG rfl (actC_one [(0, n), (1, n)])) (by omega) (fun v' w10 h1 _ _ => ?_))
                have HF10 : Aside0 (Fr (fun _ => False) w w10) := ⟨HRP.out.row.fr.trans h1.fr (fun _ _ h => h)⟩
                have HFW10 : Aside0 (Fr (fun _ => False) wr w10) := ⟨h1.fr⟩
                have hb : DeedRow wr w10 v' (qs ++ [(0, n), (1, n)]) := DeedRow.app h1 HQL.out.symm rfl
                obtain ⟨G, d3, e10, -, hrb⟩ := hb.read
                have HBO : Aside0 (∀ a ∈ qs ++ [(0, n), (1, n)], okDeed none a) := ⟨fun a ha => by
                  rcases List.mem_append.1 ha with h | h
                  · exact HQO.out a h
                  · simp only [List.mem_cons, List.not_mem_nil, or_false] at h
                    rcases h with rfl | rfl
                    · exact ⟨.inl rfl, hq0, by omega, fits_none _⟩
                    · exact ⟨.inr rfl, hq0, by omega, fits_none _⟩⟩
                have HBL : Aside0 ((qs ++ [((0 : Int), n), (1, n)]).length = acts.length + 2) := ⟨by rw [List.length_append, HQL.out]; rfl⟩
                have HRB := Aside0.mk hrb.acts
                rw [HBL.out] at e10
                have HRE10 : Aside0 (ActsR w10 B es) := ⟨(HR0.out.fr HFW10.out (fun _ _ h => h)).acts⟩
                clear hb hrb h1 HRE9 HQ9 HF9 HFW9
                subst e10
                have EQ2 := setEqual_calls (c := d) (d := d3) HRE10.out HRB.out HPO.out HBO.out (by have := HPL.out; omega) (by have := HBL.out; omega) (HT.out.fr HF10.out (fun h => h))
                rw [HPL.out, HBL.out, plays_back qs n (by rw [HQP.out]; exact HIN.out), HQP.out, decide_eq_true (rfl : plays [] es = plays [] es)] at EQ2
                replace EQ2 := Aside0.mk EQ2
                clear HRB HBO HBL
                go_wp2_with fail
                refine EQ2.out.mono ?_
                rintro e w11 ⟨rfl, hf⟩
                have HF11 := Aside0.mk (HF10.out.trans hf (fun _ _ h => h))
                have HFW11 := Aside0.mk (HFW10.out.trans hf (fun _ _ h => h))
                clear hf EQ2 HRE10 HF10 HFW10
                have HR11 : Aside0 (∀ W, Fr (fun _ => False) w11 W → ReadG W B acts.length 2 (actC es)) := ⟨fun W hf => HR0.out.fr (HFW11.out.trans hf (fun _ _ h => h)) (fun _ _ h => h)⟩
                go_wp2_with (first
                  | (at_builtin; refine wpList_rowG K37.out (by rfl) (.tmp 87) (.tmp 88) rfl (w2 := w11) (n := 0) (xs := []) (m := acts.length) (ys := actC es) rfl (row_g0 (Fr.refl _ _)) rfl (HR11.out _) (by omega) (fun v1' w12 h12 _ _ => ?_))
                  | (at_builtin; refine wpList_rowG K37.out (by rfl) (.tmp 89) (.tmp 92) rfl (w2 := w11) (m := 1) (ys := actC [(0, n)]) rfl (h12.alloc _) rfl (fun _ => read_newG rfl (actC_one [(0, n)])) (by omega) (fun v2' w13 h13 _ _ => ?_); obtain ⟨L, c13, e13, -, HRL⟩ := (DeedRow.app (es := es) (bs := [(0, n)]) h13 (by have := HPL.out; omega) rfl : DeedRow w11 w13 v2' (es ++ [(0, n)])).read; rw [show (es ++ [((0 : Int), n)]).length = acts.length + 1 by rw [List.length_append, HPL.out]; rfl] at e13; subst e13))
                have HF13 : Aside0 (Fr (fun _ => False) w w13) := ⟨HF11.out.trans h13.fr (fun _ _ h => h)⟩
                have HRL2 := Aside0.mk (show ActsR w13 L (es ++ [(0, n)]) from HRL.acts)
                have HRE13 : Aside0 (ActsR w13 B es) := ⟨(HR11.out _ h13.fr).acts⟩
                have HLO : Aside0 (∀ a ∈ es ++ [((0 : Int), n)], okDeed none a) := ⟨fun a ha => by
                  rcases List.mem_append.1 ha with h | h
                  · exact HPO.out a h
                  · rcases List.mem_singleton.1 h with rfl
                    exact ⟨.inl rfl, hq0, by omega, fits_none _⟩⟩
                have EQ3 := setEqual_calls (c := d) (d := c13) HRE13.out HRL2.out HPO.out HLO.out (by have := HPL.out; omega) (by rw [List.length_append, HPL.out]; simp; omega) (HT.out.fr HF13.out (fun h => h))
                rw [HPL.out, List.length_append, HPL.out, show [((0 : Int), n)].length = 1 from rfl, decide_eq_false (plays_more es n HIN.out)] at EQ3
                replace EQ3 := Aside0.mk EQ3
                clear h12 h13 HRL HRL2 HRE13 HLO HF11 HFW11 HR11
                refine EQ3.out.mono ?_
                rintro e w14 ⟨rfl, hf⟩
                have HF14 := Aside0.mk (HF13.out.trans hf (fun _ _ h => h))
                clear hf EQ3
                go_wp2_with fail
                refine (awake_calls (HT.out.fr HF14.out (fun h => h))).mono ?_
                rintro e w' ⟨rfl, hf⟩
                have HF := Aside0.mk (HF14.out.trans hf (fun _ _ h => h))
                clear hf
                go_wp2
                go_ret
                exact ⟨rfl, HF.out⟩
end Go.Proofs.YtebgaedalbdhaaaDoor.Av
