/- TransformTokenizedSubject. -/
import Derived.Test.YtoopmpjgmgffoaaDoorTrH
namespace Go.Proofs.YtoopmpjgmgffoaaDoor.Tr
open Go.RowKit Go.Proofs.YtoopmpjgmgffoaaDoor.Pl Go.Proofs.YtoopmpjgmgffoaaDoor.Bs Go.Proofs.YtoopmpjgmgffoaaDoorW.PrintWords Go.Proofs.YtoopmpjgmgffoaaDoorW.PrintLast Go.Proofs.YtoopmpjgmgffoaaDoorW.PrintMore Go.Proofs.YtoopmpjgmgffoaaDoor.GFnTransformBack Go.Proofs.YtoopmpjgmgffoaaDoor.PlFnTransformBack
set_option linter.unusedVariables false
set_option linter.unusedSimpArgs false
/-- A mapping. -/
structure MapAt (W : World) (m : Nat) (P : PlanL) : Prop where
  out : ∃ Ad cd As cs Ak ck Ap cp An cn At ct, Blk W m 69 [.string P.src, .string P.dest, .slice Ad P.dt.length cd, .slice As P.st.length cs, .slice Ak P.ks.length ck, .slice Ap P.ps.length cp, .slice An P.ns.length cn, .slice At P.ts.length ct] ∧
    Kd.C Kd.string W Ad P.dt.length P.dt ∧ Kd.C Kd.string W As P.st.length P.st ∧ Kd.C (Kd.int .i16) W Ak P.ks.length P.ks ∧ Kd.C (Kd.slice 3 (Kd.int .i64)) W Ap P.ps.length P.ps ∧ Kd.C (Kd.int .i32) W An P.ns.length P.ns ∧ Kd.C Kd.string W At P.ts.length P.ts
/-- A token of the destination, and what becomes of it. -/
structure Tok (P : PlanL) (toks : List ByteArray) (i : Nat) (pc : ByteArray) : Prop where
  out : (P.ks[i]? = some 0 ∧ P.dt[i]? = some pc ∧ pc ≠ ⟨#[62]⟩) ∨ (P.ks[i]? = some 0 ∧ P.dt[i]? = some ⟨#[62]⟩ ∧ i + 1 = P.ks.length ∧ pc = ⟨#[]⟩) ∨
    (P.ks[i]? = some 3 ∧ ∃ q : Nat, P.ps[i]? = some [(q : Int)] ∧ toks[q]? = some pc)
def accB (n : Nat) (pc : Nat → ByteArray) : Nat → List UInt8
  | 0 => []
  | i + 1 => accB n pc i ++ ((pc i).data.toList ++ (if i + 1 < n then [46] else []))
def restB (toks : List ByteArray) (from_ : Nat) : Nat → List UInt8
  | 0 => []
  | k + 1 => restB toks from_ k ++ ((toks[from_ + k]?.getD ByteArray.empty).data.toList ++ (if from_ + k + 1 < toks.length then [46] else []))
structure Good (P : PlanL) (toks : List ByteArray) (pc : Nat → ByteArray) : Prop where
  n1 : 1 ≤ P.ks.length ∧ P.ks.length ≤ 1000
  dt : P.dt.length = P.ks.length
  ps : P.ps.length = P.ks.length
  ns : P.ns.length = P.ks.length
  ts : P.ts.length = P.ks.length
  st : 1 ≤ P.st.length ∧ P.st.length ≤ 1000
  lens : 1 ≤ toks.length ∧ toks.length ≤ 1000 ∧ ∀ t ∈ toks, t.size ≤ 1000
  pcs : ∀ i, (pc i).size ≤ 2147483647
  tok : ∀ i, i < P.ks.length → Tok P toks i (pc i)
/-- What is made of the tokens. -/
def madeB (P : PlanL) (toks : List ByteArray) (pc : Nat → ByteArray) : List UInt8 :=
  accB P.ks.length pc P.ks.length ++ (if P.dt.getLast? = some ⟨#[62]⟩ then restB toks (P.st.length - 1) (toks.length - (P.st.length - 1)) else [])
def ToksPost (w : World) (l : List UInt8) (e : Ending) (w' : World) : Prop := e = .returned (.string ⟨l.toArray⟩) ∧ Same w w'
theorem acc_len {n : Nat} {pc : Nat → ByteArray} (h : ∀ i, (pc i).size ≤ 2147483647) : ∀ i, (accB n pc i).length ≤ i * 2147483648
  | 0 => by simp [accB]
  | i + 1 => by
    have := acc_len (n := n) h i
    have h2 := h i
    have h3 : (pc i).data.toList.length = (pc i).size := rfl
    unfold accB
    rw [List.length_append, List.length_append, h3]
    split <;> simp <;> omega
theorem rest_len {toks : List ByteArray} (h : ∀ t ∈ toks, t.size ≤ 1000) (fr : Nat) : ∀ j, (restB toks fr j).length ≤ j * 1001
  | 0 => by simp [restB]
  | j + 1 => by
    have := rest_len h fr j
    have h2 : (toks[fr + j]?.getD ByteArray.empty).data.toList.length ≤ 1000 := by
      cases hq : toks[fr + j]? with
      | none => exact Nat.zero_le _
      | some t => exact h t (List.mem_of_getElem? hq)
    unfold restB
    rw [List.length_append, List.length_append]
    split <;> simp at * <;> omega
/-- The loop's frame. -/
structure LpA (m b n : Nat) (Ak : Option Addr) (ck : Nat) (tv : Value) (i : Nat) (a : Act) : Prop where
  fm : Fm a
  s0 : Sl a 0 = some (.pointer (some ⟨m, 0, none⟩))
  s1 : Sl a 1 = some tv
  s5 : Sl a 5 = some (.pointer (some ⟨b, 0, none⟩))
  s6 : Sl a 6 = some (.int .i64 ((n - 1 : Nat) : Int))
  s59 : Sl a 59 = some (.slice Ak n ck)
  s60 : Sl a 60 = some (.int .i64 (n : Int))
  s61 : Sl a 61 = some (.int .i64 (i : Int))
structure RsA (m b : Nat) (tv : Value) (a : Act) : Prop where
  fm : Fm a
  s0 : Sl a 0 = some (.pointer (some ⟨m, 0, none⟩))
  s1 : Sl a 1 = some tv
  s5 : Sl a 5 = some (.pointer (some ⟨b, 0, none⟩))
section
set_option maxHeartbeats 16000000
set_option maxRecDepth 1000000
theorem trans_calls {w : World} {m g c : Nat} {P : PlanL} {toks : List ByteArray} {pc : Nat → ByteArray} (hM : MapAt w m P) (hT : Kd.C Kd.string w (some ⟨g, 0, none⟩) toks.length toks) (hG : Good P toks pc) (hne : madeB P toks pc ≠ []) :
    Calls Tryd.prog 50 #[.pointer (some ⟨m, 0, none⟩), .slice (some ⟨g, 0, none⟩) toks.length c] w (ToksPost w (madeB P toks pc)) := by
  obtain ⟨Ad, cd, As, cs, Ak, ck, Ap, cp, An, cn, At, ct, hb, hd, hs, hk, hp, hn, ht⟩ := hM.out
  have HB := Aside0.mk hb
  have HD : Aside0 (ReadG w Ad P.dt.length 1 (P.dt.map .string)) := ⟨rg_C _ _ hd⟩
  have HK : Aside0 (ReadG w Ak P.ks.length 1 (P.ks.map (.int .i16))) := ⟨rg_C _ _ hk⟩
  have HT : Aside0 (ReadG w (some ⟨g, 0, none⟩) toks.length 1 (toks.map .string)) := ⟨rg_C _ _ hT⟩
  have HP := Aside0.mk hp
  have HG := Aside0.mk hG
  have HNE := Aside0.mk hne
  have b4 := hb.cell 4 rfl
  have k0 : ((P.ks.length : Int) == 0) = false := by rw [beq_eq_false_iff_ne]; have := hG.n1; omega
  have k1 : IntKind.i64.wrap ((P.ks.length : Int) - 1) = ((P.ks.length - 1 : Nat) : Int) := by rw [IntKind.wrap_i64]; have := hG.n1; omega
  clear hM hb hd hs hk hp hn ht hT hG hne
  go_enter Tryd.func50, Tryd.ntmps50
  go_upto_region 4 with (fail)
  have HS0 : Aside0 (BS w w.heap.size (accB P.ks.length pc 0) (w.alloc (.cells #[.pointer none, .slice none 0 0] 85))) := ⟨Lib.fresh_isBuilder 85 5 w, (Fr.refl _ w).alloc _⟩
  generalize w.alloc (.cells #[.pointer none, .slice none 0 0] 85) = w1 at HS0 ⊢
  generalize hbb : w.heap.size = b at HS0 ⊢
  replace b4 := (HB.out.fr HS0.out.2 (fun h => h)).cell 4 rfl
  go_upto_block 0 with (fail)
  obtain ⟨tv, htv⟩ : ∃ tv, tv = Value.slice (some ⟨g, 0, none⟩) toks.length c := ⟨_, rfl⟩
  have HTV := Aside0.mk htv
  clear htv
  rw [← HTV.out]
  refine wp_cut (fun a' w' => RsA m b tv a' ∧ BS w b (accB P.ks.length pc P.ks.length) w') ?rest ?first
  case first =>
    intro K1 Q1 hK1 hQ1
    go_step
    refine wp_loop_ghost_k (fun k a' w' => ∃ i : Nat, (k + i = P.ks.length ∧ i ≤ P.ks.length) ∧ LpA m b P.ks.length Ak ck tv i a' ∧ BS w b (accB P.ks.length pc i) w') P.ks.length ?_ ?_
    · exact ⟨0, by omega, ⟨⟨rfl, rfl⟩, rfl, rfl, rfl, rfl, rfl, rfl, rfl⟩, HS0.out⟩
    clear b4 k0 k1 HS0
    rintro gk a wr ⟨i, hi, hA, hbs⟩ J2 K2 hJ2 hK2
    have HI := Aside0.mk hi
    have HS := Aside0.mk hbs
    obtain ⟨f, hf, rfl⟩ := hA.fm.lay
    have e0 := hf 0 _ hA.s0
    have e1 := hf 1 _ hA.s1
    have e5 := hf 5 _ hA.s5
    have e6 := hf 6 _ hA.s6
    have e59 := hf 59 _ hA.s59
    have e60 := hf 60 _ hA.s60
    have e61 := hf 61 _ hA.s61
    rw [e0, e1, e5, e6, e59, e60, e61]
    clear e0 e1 e5 e6 e59 e60 e61 hA hf hi hbs
    have hbr := HB.out.fr HS.out.2 (fun h => h)
    have b2 := hbr.cell 2 rfl
    have b5 := hbr.cell 5 rfl
    clear hbr
    by_cases hlt : i < P.ks.length
    · have i0 : (0 : Int) ≤ (i : Int) := by omega
      have i1 : (i : Int) < (P.ks.length : Int) := by omega
      have i2 : decide ((i : Int) < (P.ks.length : Int)) = true := decide_eq_true i1
      have i3 : (i : Int) < (P.dt.length : Int) := by rw [HG.out.dt]; exact i1
      have i4 : (i : Int) < (P.ps.length : Int) := by rw [HG.out.ps]; exact i1
      have i5 : decide ((P.ps.length : Int) < (i : Int)) = false := decide_eq_false (by omega)
      have HLT := Aside0.mk hlt
      obtain ⟨ak, rfl, hka⟩ := (HK.out.fr HS.out.2 (fun _ _ h => h)).read (by simp; omega)
      obtain ⟨ad, rfl, hda⟩ := (HD.out.fr HS.out.2 (fun _ _ h => h)).read (by simp; omega)
      have HTK := Aside0.mk (HG.out.tok i hlt)
      have HLEN : Aside0 ((accB P.ks.length pc i).length + 5000000000 ≤ 140737488355328) := ⟨by
        have := acc_len (n := P.ks.length) HG.out.pcs i
        have := HG.out.n1
        omega⟩
      have HPC := Aside0.mk (HG.out.pcs i)
      clear hlt
      have key : (P.ks[i]? = some 0 ∧ P.dt[i]? = some ⟨#[62]⟩ ∧ i + 1 = P.ks.length ∧ pc i = ⟨#[]⟩) ∨ Aside0 ((P.ks[i]? = some 0 ∧ P.dt[i]? = some (pc i) ∧ pc i ≠ ⟨#[62]⟩) ∨ (P.ks[i]? = some 3 ∧ ∃ q : Nat, P.ps[i]? = some [(q : Int)] ∧ toks[q]? = some (pc i))) := by
        rcases HTK.out.out with h | h | h
        · exact .inr ⟨.inl h⟩
        · exact .inl h
        exact .inr ⟨.inr h⟩
      clear HTK
      rcases key with ⟨h1, h2, h3, h4⟩ | HKEY
      · have vk := hka i (.int .i16 0) (by rw [List.getElem?_map, h1]; rfl)
        have vd := hda i (.string ⟨#[62]⟩) (by rw [List.getElem?_map, h2]; rfl)
        have HX : Aside0 (BS w b (accB P.ks.length pc P.ks.length) wr) := ⟨by
          have e : accB P.ks.length pc (i + 1) = accB P.ks.length pc i := by
            unfold accB
            rw [h4, if_neg (by omega)]
            simp
            cases i <;> rfl
          rw [h3] at e
          rw [e]
          exact HS.out⟩
        clear h1 h2 h3 h4 hka hda
        go_wp2_with fail
        refine Met.intro ?_
        refine hK1 _ _ ⟨⟨⟨rfl, rfl⟩, rfl, rfl, rfl⟩, HX.out⟩
      obtain ⟨kv, hkv⟩ : ∃ kv, P.ks[i]? = some kv := ⟨_, List.getElem?_eq_getElem HLT.out⟩
      have vk := hka i (.int .i16 kv) (by rw [List.getElem?_map, hkv]; rfl)
      rw [hkv] at HKEY
      clear hkv
      go_upto_if 67 with (fail)
      refine wp_cut (fun a' w' => (LpA m b P.ks.length (some ak) ck tv i a' ∧ Sl a' 7 = some (.int .i64 (i : Int))) ∧ BS w b (accB P.ks.length pc i ++ (pc i).data.toList) w') ?rest2 ?first2
      case first2 =>
        intro K3 Q3 hK3 hQ3
        rcases HKEY.out with ⟨h1, h2, h3⟩ | ⟨h1, q, h2, h3⟩
        · obtain rfl := Option.some.inj h1
          have vd := hda i (.string (pc i)) (by rw [List.getElem?_map, h2]; rfl)
          have HPZ := Aside0.mk h3
          obtain ⟨pz, hpz⟩ : ∃ pz, pc i = pz := ⟨_, rfl⟩
          rw [hpz] at vd HPZ HPC
          have HPQ := Aside0.mk hpz
          clear hpz
          clear h2 h3 hka hda HKEY
          have HWS := Aside0.mk (BS.ws HS.out pz (by have := HLEN.out; have := HPC.out; omega))
          by_cases hz : pz.size = 1
          · have hz0 : 0 < pz.size := by omega
            have z1 : ((pz.size : Int) == 1) = true := by rw [hz]; rfl
            have z2 : (((pz[0]'hz0).toNat : Int) == 62) = false := by
              rw [beq_eq_false_iff_ne]
              intro e
              refine HPZ.out ?_
              obtain ⟨⟨l⟩⟩ := pz
              match l, hz with
              | [c], _ =>
                have e : (c.toNat : Int) = 62 := e
                have : c = 62 := UInt8.toNat_inj.1 (by have : (62 : UInt8).toNat = 62 := rfl; omega)
                rw [this]
            clear hz
            go_wp2_with fail
            refine HWS.out.mono ?_
            rintro e w2 ⟨rfl, h2⟩
            go_wp2_with fail
            refine Met.intro ?_
            exact hK3 _ _ ⟨⟨⟨⟨rfl, rfl⟩, rfl, rfl, rfl, rfl, rfl, rfl, rfl⟩, rfl⟩, by rw [HPQ.out]; exact h2⟩
          have z1 : ((pz.size : Int) == 1) = false := by rw [beq_eq_false_iff_ne]; omega
          clear hz
          go_wp2_with fail
          refine HWS.out.mono ?_
          rintro e w2 ⟨rfl, h2⟩
          go_wp2_with fail
          refine Met.intro ?_
          exact hK3 _ _ ⟨⟨⟨⟨rfl, rfl⟩, rfl, rfl, rfl, rfl, rfl, rfl, rfl⟩, rfl⟩, by rw [HPQ.out]; exact h2⟩
        obtain rfl := Option.some.inj h1
        obtain ⟨ap, rfl, hcp⟩ := HP.out.2.2 (by have := HLT.out; rw [HG.out.ps]; omega)
        obtain ⟨cs1, -, ⟨A1, c1, rfl, hl1, hC1⟩, hcell⟩ := hcp i _ h2
        have vp := HS.out.2.cell (hcell 0 _ rfl)
        have hs1 : (Kd.slice 3 (Kd.int .i64)).sz = 1 := rfl
        rw [hs1, Nat.add_zero, Nat.mul_one] at vp
        have hlq := (List.getElem?_eq_some_iff.1 h3).1
        obtain ⟨a1, rfl, hr1⟩ := ((rg_C _ _ hC1).fr HS.out.2 (fun _ _ h => h)).read (by simp)
        obtain ⟨at_, hat, hrt⟩ := (HT.out.fr HS.out.2 (fun _ _ h => h)).read (by simp; omega)
        injection hat with hat
        subst hat
        have v1 := hr1 0 (.int .i64 (q : Int)) rfl
        have v1b : wr.cell? a1 = some (.int .i64 (q : Int)) := v1
        have vt := hrt q (.string (pc i)) (by rw [List.getElem?_map, h3]; rfl)
        rw [Bs.add_at] at vt
        obtain ⟨pz, hpz⟩ : ∃ pz, pc i = pz := ⟨_, rfl⟩
        rw [hpz] at vt HPC
        have HPQ := Aside0.mk hpz
        have HWS := Aside0.mk (BS.ws HS.out pz (by have := HLEN.out; have := HPC.out; omega))
        have q0 : (0 : Int) ≤ (q : Int) := by omega
        have q1 : (q : Int) < (toks.length : Int) := by omega
        have q2 : decide ((toks.length : Int) ≤ (q : Int)) = false := decide_eq_false (by omega)
        have htv := HTV.out
        subst htv
        clear hs1 hpz hcell hC1 hr1 hrt h2 h3 hlq hka hda HKEY
        go_wp2_with fail
        refine HWS.out.mono ?_
        rintro e w2 ⟨rfl, h2⟩
        go_wp2_with fail
        refine Met.intro ?_
        exact hK3 _ _ ⟨⟨⟨⟨rfl, rfl⟩, rfl, rfl, rfl, rfl, rfl, rfl, rfl⟩, rfl⟩, by rw [HPQ.out]; exact h2⟩
      case rest2 =>
        clear b2 b5 hka hda HKEY
        rintro a2 w2 ⟨⟨hA, h7⟩, hbs⟩
        have HS2 := Aside0.mk hbs
        obtain ⟨f2, hf, rfl⟩ := hA.fm.lay
        have e0 := hf 0 _ hA.s0
        have e1 := hf 1 _ hA.s1
        have e5 := hf 5 _ hA.s5
        have e6 := hf 6 _ hA.s6
        have e59 := hf 59 _ hA.s59
        have e60 := hf 60 _ hA.s60
        have e61 := hf 61 _ hA.s61
        have e7 := hf 7 _ h7
        rw [e0, e1, e5, e6, e59, e60, e61, e7]
        clear e0 e1 e5 e6 e7 e59 e60 e61 hA hf hbs h7
        have i6 : IntKind.i64.wrap ((i : Int) + 1) = ((i + 1 : Nat) : Int) := by rw [IntKind.wrap_i64]; have := HLT.out; have := HG.out.n1; omega
        by_cases hl : i < P.ks.length - 1
        · have hi1 : (i : Int) < ((P.ks.length - 1 : Nat) : Int) := by omega
          have hi2 : decide ((i : Int) < ((P.ks.length - 1 : Nat) : Int)) = true := decide_eq_true hi1
          have hi3 : decide (i < P.ks.length - 1) = true := decide_eq_true hl
          have HE : Aside0 (accB P.ks.length pc (i + 1) = accB P.ks.length pc i ++ (pc i).data.toList ++ [46]) := ⟨by
            conv => lhs; unfold accB
            rw [if_pos (by omega), List.append_assoc]⟩
          clear hl hi1
          go_wp2_with fail
          refine (BS.wb HS2.out (by
            have h1 := HLEN.out
            have h2 := HPC.out
            have h3 : (pc i).data.toList.length = (pc i).size := rfl
            rw [List.length_append, h3]
            omega)).mono ?_
          rintro e w3 ⟨rfl, h3⟩
          have HS3 := Aside0.mk h3
          clear h3
          go_wp2_with fail
          refine Handed.intro (P.ks.length - (i + 1)) (by have := HI.out; have := HLT.out; omega) (hJ2 _ _ _ ⟨i + 1, by have := HLT.out; omega, ⟨⟨rfl, rfl⟩, rfl, rfl, rfl, rfl, rfl, rfl, rfl⟩, by rw [HE.out]; exact HS3.out⟩)
        have hi2 : decide ((i : Int) < ((P.ks.length - 1 : Nat) : Int)) = false := decide_eq_false (by omega)
        have hi3 : decide (i < P.ks.length - 1) = false := decide_eq_false hl
        have HE : Aside0 (accB P.ks.length pc (i + 1) = accB P.ks.length pc i ++ (pc i).data.toList) := ⟨by
          conv => lhs; unfold accB
          rw [if_neg (by have := HLT.out; omega), List.append_nil]⟩
        clear hl
        go_wp2_with fail
        refine Handed.intro (P.ks.length - (i + 1)) (by have := HI.out; have := HLT.out; omega) (hJ2 _ _ _ ⟨i + 1, by have := HLT.out; omega, ⟨⟨rfl, rfl⟩, rfl, rfl, rfl, rfl, rfl, rfl, rfl⟩, by rw [HE.out]; exact HS2.out⟩)
    have hie : i = P.ks.length := by have := HI.out; omega
    subst hie
    have i2 : decide ((P.ks.length : Int) < (P.ks.length : Int)) = false := decide_eq_false (by omega)
    have i3 : decide (P.ks.length < P.ks.length) = false := decide_eq_false (by omega)
    clear hlt
    go_wp2_with fail
    refine Met.intro ?_
    exact hK1 _ _ ⟨⟨⟨rfl, rfl⟩, rfl, rfl, rfl⟩, HS.out⟩
  case rest =>
    clear b4 k0 HS0 k1
    rintro a2 w2 ⟨hA, hbs⟩
    have HS2 := Aside0.mk hbs
    obtain ⟨f2, hf, rfl⟩ := hA.fm.lay
    have e0 := hf 0 _ hA.s0
    have e1 := hf 1 _ hA.s1
    have e5 := hf 5 _ hA.s5
    rw [e0, e1, e5]
    clear e0 e1 e5 hA hf hbs
    have b2 := (HB.out.fr HS2.out.2 (fun h => h)).cell 2 rfl
    have b3 := (HB.out.fr HS2.out.2 (fun h => h)).cell 3 rfl
    have n1 : IntKind.i64.wrap ((P.dt.length : Int) - 1) = ((P.ks.length - 1 : Nat) : Int) := by rw [IntKind.wrap_i64, HG.out.dt]; have := HG.out.n1; omega
    have n0 : (0 : Int) ≤ ((P.ks.length - 1 : Nat) : Int) := by omega
    have n2 : ((P.ks.length - 1 : Nat) : Int) < (P.dt.length : Int) := by rw [HG.out.dt]; have := HG.out.n1; omega
    obtain ⟨lt, hlt⟩ : ∃ lt, P.dt[P.ks.length - 1]? = some lt := ⟨_, List.getElem?_eq_getElem (by rw [HG.out.dt]; have := HG.out.n1; omega)⟩
    have HLT : Aside0 (P.dt.getLast? = some lt) := ⟨by rw [List.getLast?_eq_getElem?, HG.out.dt, hlt]⟩
    obtain ⟨ad, rfl, hda⟩ := (HD.out.fr HS2.out.2 (fun _ _ h => h)).read (by simp; have := HG.out.n1; have := HG.out.dt; omega)
    have vd := hda _ (.string lt) (by rw [List.getElem?_map, hlt]; rfl)
    clear hda hlt
    go_upto_region 105 with (fail)
    by_cases hl : lt = ⟨#[62]⟩
    · have y1 : (lt.toList == ([62] : List UInt8)) = true := by rw [hl]; simp
      have HMB : Aside0 (madeB P toks pc = accB P.ks.length pc P.ks.length ++ restB toks (P.st.length - 1) (toks.length - (P.st.length - 1))) := ⟨by
        unfold madeB
        rw [HLT.out, hl, if_pos rfl]⟩
      have htv := HTV.out
      subst htv
      have t1 : IntKind.i64.wrap ((toks.length : Int) - 1) = ((toks.length - 1 : Nat) : Int) := by rw [IntKind.wrap_i64]; have := HG.out.lens; omega
      have t2 : IntKind.i64.wrap ((P.st.length : Int) - 1) = ((P.st.length - 1 : Nat) : Int) := by rw [IntKind.wrap_i64]; have := HG.out.st; omega
      clear hl
      go_quiet (fail)
      have HS3 := Aside0.mk (HS2.out.drewN nq)
      have b3q : (w2.drewN nq).cell? ⟨m, 3, none⟩ = some (.slice As P.st.length cs) := b3
      generalize w2.drewN nq = w2q at HS3 b3q ⊢
      clear b2 b3 vd
      go_upto_region 106 with (fail)
      clear y1 n1 n0 n2
      go_quiet (fail)
      have HS4 := Aside0.mk (HS3.out.drewN nq)
      generalize w2q.drewN nq = w2r at HS4 ⊢
      clear b3q t2
      go_upto_block 12 with (fail)
      go_step
      refine wp_loop_ghost_k (fun k a' w' => ∃ j : Nat, (k + j = toks.length - (P.st.length - 1) ∧ j ≤ toks.length - (P.st.length - 1)) ∧ (Fm a' ∧ Sl a' 1 = some (.slice (some ⟨g, 0, none⟩) toks.length c) ∧ Sl a' 5 = some (.pointer (some ⟨b, 0, none⟩)) ∧ Sl a' 38 = some (.int .i64 ((toks.length - 1 : Nat) : Int)) ∧ Sl a' 39 = some (.int .i64 ((P.st.length - 1 + j : Nat) : Int))) ∧ BS w b (accB P.ks.length pc P.ks.length ++ restB toks (P.st.length - 1) j) w') (toks.length - (P.st.length - 1)) ?_ ?_
      · refine ⟨0, by omega, ⟨⟨rfl, rfl⟩, rfl, rfl, rfl, rfl⟩, ?_⟩
        rw [show restB toks (P.st.length - 1) 0 = [] from rfl, List.append_nil]; exact HS4.out
      clear HS4 HS3
      rintro gk a wr ⟨j, hi, ⟨hfm, s1, s5, s38, s39⟩, hbs⟩ J2 K2 hJ2 hK2
      have HI := Aside0.mk hi
      have HS := Aside0.mk hbs
      obtain ⟨f, hf, rfl⟩ := hfm.lay
      have e1 := hf 1 _ s1
      have e5 := hf 5 _ s5
      have e38 := hf 38 _ s38
      have e39 := hf 39 _ s39
      rw [e1, e5, e38, e39]
      clear e1 e5 e38 e39 hf hi hbs s1 s5 s38 s39 hfm
      obtain ⟨q, hq⟩ : ∃ q, q = P.st.length - 1 + j := ⟨_, rfl⟩
      have HQ := Aside0.mk hq
      rw [← hq]
      clear hq
      by_cases hlt : q < toks.length
      · have q1 : decide ((q : Int) < (toks.length : Int)) = true := decide_eq_true (by omega)
        have q2 : decide (q < toks.length) = true := decide_eq_true hlt
        have q3 : (q : Int) < (toks.length : Int) := by omega
        have q0 : (0 : Int) ≤ (q : Int) := by omega
        have q6 : IntKind.i64.wrap ((q : Int) + 1) = ((q + 1 : Nat) : Int) := by rw [IntKind.wrap_i64]; have := HG.out.lens; omega
        have HLT2 := Aside0.mk hlt
        obtain ⟨tq, htq⟩ : ∃ tq, toks[q]? = some tq := ⟨_, List.getElem?_eq_getElem hlt⟩
        have htz := HG.out.lens.2.2 tq (List.mem_of_getElem? htq)
        have hlen : (restB toks (P.st.length - 1) j).length ≤ j * 1001 := rest_len (fun t ht => HG.out.lens.2.2 t ht) _ _
        have HLEN : Aside0 ((accB P.ks.length pc P.ks.length ++ restB toks (P.st.length - 1) j).length + 5000000000 ≤ 140737488355328) := ⟨by
          have := acc_len (n := P.ks.length) HG.out.pcs P.ks.length
          have := HG.out.n1
          have := HG.out.lens
          have := HI.out
          rw [List.length_append]
          omega⟩
        have HTZ := Aside0.mk htz
        obtain ⟨at_, hat, hrt⟩ := (HT.out.fr HS.out.2 (fun _ _ h => h)).read (by simp; omega)
        injection hat with hat
        subst hat
        have vt := hrt q (.string tq) (by rw [List.getElem?_map, htq]; rfl)
        rw [Bs.add_at] at vt
        have HWS := Aside0.mk (BS.ws HS.out tq (by have := HLEN.out; have := HTZ.out; omega))
        have HE : Aside0 (restB toks (P.st.length - 1) (j + 1) = restB toks (P.st.length - 1) j ++ (tq.data.toList ++ (if q + 1 < toks.length then [46] else []))) := ⟨by
          conv => lhs; unfold restB
          rw [← HQ.out, htq]
          rfl⟩
        clear hrt htq htz hlen hlt
        by_cases hl : q < toks.length - 1
        · have l1 : decide ((q : Int) < ((toks.length - 1 : Nat) : Int)) = true := decide_eq_true (by omega)
          have l2 : decide (q < toks.length - 1) = true := decide_eq_true hl
          have HE2 : Aside0 (restB toks (P.st.length - 1) (j + 1) = restB toks (P.st.length - 1) j ++ tq.data.toList ++ [46]) := ⟨by
            rw [HE.out, if_pos (by omega), List.append_assoc]⟩
          clear hl
          go_wp2_with fail
          refine HWS.out.mono ?_
          rintro e w2' ⟨rfl, h2⟩
          have HS2' := Aside0.mk h2
          clear h2
          go_wp2_with fail
          refine (BS.wb HS2'.out (by
            have h1 := HLEN.out
            have h2 := HTZ.out
            have h3 : tq.data.toList.length = tq.size := rfl
            rw [List.length_append, h3]
            omega)).mono ?_
          rintro e w3 ⟨rfl, h3⟩
          have HS3' := Aside0.mk h3
          clear h3
          go_wp2_with fail
          refine Handed.intro (toks.length - (P.st.length - 1) - (j + 1)) (by have := HI.out; have := HLT2.out; have := HQ.out; omega) (hJ2 _ _ _ ⟨j + 1, by have := HI.out; have := HLT2.out; have := HQ.out; omega, ⟨⟨rfl, rfl⟩, rfl, rfl, rfl, ?_⟩, ?_⟩)
          · have := HQ.out
            rw [show P.st.length - 1 + (j + 1) = q + 1 by omega]
            rfl
          rw [HE2.out, ← List.append_assoc, ← List.append_assoc]
          exact HS3'.out
        have l1 : decide ((q : Int) < ((toks.length - 1 : Nat) : Int)) = false := decide_eq_false (by omega)
        have l2 : decide (q < toks.length - 1) = false := decide_eq_false hl
        have HE2 : Aside0 (restB toks (P.st.length - 1) (j + 1) = restB toks (P.st.length - 1) j ++ tq.data.toList) := ⟨by
          rw [HE.out, if_neg (by omega), List.append_nil]⟩
        clear hl
        go_wp2_with fail
        refine HWS.out.mono ?_
        rintro e w2' ⟨rfl, h2⟩
        have HS2' := Aside0.mk h2
        clear h2
        go_wp2_with fail
        refine Handed.intro (toks.length - (P.st.length - 1) - (j + 1)) (by have := HI.out; have := HLT2.out; have := HQ.out; omega) (hJ2 _ _ _ ⟨j + 1, by have := HI.out; have := HLT2.out; have := HQ.out; omega, ⟨⟨rfl, rfl⟩, rfl, rfl, rfl, ?_⟩, ?_⟩)
        · have := HQ.out
          rw [show P.st.length - 1 + (j + 1) = q + 1 by omega]
          rfl
        rw [HE2.out, ← List.append_assoc]
        exact HS2'.out
      have q1 : decide ((q : Int) < (toks.length : Int)) = false := decide_eq_false (by omega)
      have q2 : decide (q < toks.length) = false := decide_eq_false hlt
      have hj : j = toks.length - (P.st.length - 1) := by have := HI.out; have := HQ.out; omega
      have HX : Aside0 (BS w b (madeB P toks pc) wr) := ⟨by
        rw [HMB.out, ← hj]
        exact HS.out⟩
      clear hlt hj
      go_wp2_with fail
      refine (HX.out.str HNE.out).mono ?_
      rintro e w3 ⟨rfl, h3⟩
      have HY : Aside0 (ToksPost w (madeB P toks pc) (.returned (.string ⟨(madeB P toks pc).toArray⟩)) w3) := ⟨rfl, h3⟩
      clear h3
      go_wp2_with fail
      go_ret
      exact HY.out
    have y1 : (lt.toList == ([62] : List UInt8)) = false := by
      rw [beq_eq_false_iff_ne]
      intro e
      refine hl ?_
      rw [ByteArray.toList_eq] at e
      obtain ⟨⟨l⟩⟩ := lt
      have e : l = [62] := e
      rw [e]
    have HMB : Aside0 (madeB P toks pc = accB P.ks.length pc P.ks.length) := ⟨by
      unfold madeB
      rw [HLT.out, if_neg (by simpa using hl), List.append_nil]⟩
    clear hl
    go_quiet (fail)
    have HS3 := Aside0.mk (HS2.out.drewN nq)
    generalize w2.drewN nq = w2q at HS3 ⊢
    clear b2 b3 vd
    go_wp2_with fail
    refine (HS3.out.str (HMB.out ▸ HNE.out)).mono ?_
    rintro e w3 ⟨rfl, h3⟩
    have HX : Aside0 (ToksPost w (madeB P toks pc) (.returned (.string ⟨(accB P.ks.length pc P.ks.length).toArray⟩)) w3) := ⟨by rw [HMB.out], h3⟩
    clear h3
    go_wp2_with fail
    go_ret
    exact HX.out
end
end Go.Proofs.YtoopmpjgmgffoaaDoor.Tr
