/- TransformTokenizedSubject, all kinds. -/
import Derived.Test.YtoopmpjgmgffoaaDoorTrG
import Derived.Test.YtoopmpjgmgffoaaDoorTrXf
namespace Go.Proofs.YtoopmpjgmgffoaaDoor.Tr
open Go.RowKit Go.Proofs.YtoopmpjgmgffoaaDoor.Pl Go.Proofs.YtoopmpjgmgffoaaDoor.Bs Go.Proofs.YtoopmpjgmgffoaaDoorW.PrintWords Go.Proofs.YtoopmpjgmgffoaaDoorW.PrintLast Go.Proofs.YtoopmpjgmgffoaaDoorW.PrintMore Go.Proofs.YtoopmpjgmgffoaaDoor.GFnTransformBack Go.Proofs.YtoopmpjgmgffoaaDoor.PlFnTransformBack
set_option linter.unusedVariables false
set_option linter.unusedSimpArgs false
def p4 (l : List UInt8) (n : Nat) : List UInt8 := l.take n ++ 46 :: l.drop n
def p5 (l : List UInt8) (n : Nat) : List UInt8 := l.take (l.length - n) ++ 46 :: l.drop (l.length - n)
def dotJ (j : Nat) : List UInt8 := if j = 0 then [] else [46]
theorem dotJ_len (j : Nat) : (dotJ j).length ≤ 1 := by unfold dotJ; split <;> simp
def slL (l : List UInt8) (z : Nat) : Nat → Nat → List UInt8
 | 0, _ => []
 | n + 1, j => if j + z ≤ l.length then (dotJ j ++ (l.take (j + z)).drop j) ++ (if j + z ≠ l.length ∧ j + z + z > l.length then 46 :: l.drop (j + z) else slL l z n (j + z)) else []
def p6 (l : List UInt8) (z : Nat) : List UInt8 := slL l z (l.length + 1) 0
def srL (l : List UInt8) (z : Nat) : Nat → Nat → List UInt8
 | 0, _ => []
 | n + 1, j => if j + z ≤ l.length then ((l.take (j + z)).drop j ++ (if j + z < l.length then [46] else [])) ++ srL l z n (j + z) else []
def p7 (l : List UInt8) (z : Nat) : List UInt8 := (if 0 < l.length % z then l.take (l.length % z) ++ [46] else []) ++ srL l z (l.length + 1) (l.length % z)
def spB (D : List (List UInt8)) : Nat → List UInt8
 | 0 => []
 | j + 1 => spB D j ++ (D.getD j [] ++ (if j + 1 < D.length ∧ D.getD (j + 1) [] ≠ [] ∧ ¬ (j = 0 ∧ D.getD j [] = []) then [46] else []))
def p9 (l : List UInt8) (n : Nat) : List UInt8 := l.take n
def p10 (l : List UInt8) (n : Nat) : List UInt8 := l.drop (l.length - n)
def inX (l : List UInt8) (n : Nat) (x : List UInt8) : List UInt8 := if 0 < n ∧ n < l.length then x else l
theorem BS.below {w0 w w' : World} {b : Nat} {l : List UInt8} (h : BS w0 b l w) (hb : Below w.heap.size w w') : BS w0 b l w' := by
 have key : ∀ p, Lib.BuilderAt 85 5 w0.heap.size b p (Lib.byteCells l) w → Lib.BuilderAt 85 5 w0.heap.size b p (Lib.byteCells l) w' := fun p h1 => by
  have hlt := h1.lt
  obtain ⟨hB, v, hbk, hown, hne⟩ := h1
  exact ⟨hB, v, (hb.block b hlt).trans hbk, ownsRow_block hown (fun k hk => hb.block k (own_base hown hk).2), hne⟩
 exact ⟨h.1.imp (key _) (key _), h.2.trans (fr_of_below hb) (fun _ _ h => h)⟩
theorem ext_bytes (t : ByteArray) (a b : Nat) : (t.extract a b).data.toList = (t.data.toList.take b).drop a := by
 have := ba_extract t.data.toList a b
 exact congrArg (fun s => s.data.toList) this
theorem spB_len (D : List (List UInt8)) (h : ∀ p ∈ D, p.length ≤ 1000) : ∀ j, (spB D j).length ≤ j * 1001
 | 0 => by simp [spB]
 | j + 1 => by
  have := spB_len D h j
  have h2 : (D.getD j []).length ≤ 1000 := by
   rw [List.getD_eq_getElem?_getD]
   cases hq : D[j]? with
   | none => exact Nat.zero_le _
   | some t => exact h t (List.mem_of_getElem? hq)
  rw [spB, List.length_append, List.length_append]
  generalize (D.getD j []).length = x at h2 ⊢
  split <;> simp <;> omega
structure OneX (P : PlanL) (toks : List ByteArray) (i : Nat) (kd : Int) (q n : Nat) (t by_ pc : ByteArray) : Prop where
 ks : P.ks[i]? = some kd
 ps : P.ps[i]? = some [(q : Int)]
 tok : toks[q]? = some t
 ns : P.ns[i]? = some (n : Int)
 n99 : n ≤ 99
 ts : P.ts[i]? = some by_
 out : (kd = 3 ∧ pc = t) ∨ (kd = 4 ∧ pc.data.toList = inX t.data.toList n (p4 t.data.toList n)) ∨ (kd = 5 ∧ pc.data.toList = inX t.data.toList n (p5 t.data.toList n)) ∨ (kd = 6 ∧ pc.data.toList = inX t.data.toList n (p6 t.data.toList n)) ∨
  (kd = 7 ∧ pc.data.toList = inX t.data.toList n (p7 t.data.toList n)) ∨ (kd = 9 ∧ pc.data.toList = inX t.data.toList n (p9 t.data.toList n)) ∨ (kd = 10 ∧ pc.data.toList = inX t.data.toList n (p10 t.data.toList n)) ∨
  (kd = 8 ∧ ∃ (k : Nat) (D : List (List UInt8)), server_zzSplit.f k t by_ = some (D.map ba) ∧ (1 ≤ D.length ∧ D.length ≤ 1001) ∧ (∀ p ∈ D, p.length ≤ 1000) ∧ pc.data.toList = spB D D.length)
def keyQ (toks : List ByteArray) (qs : List Nat) : List UInt8 := qs.flatMap fun q => (toks[q]?.getD ByteArray.empty).data.toList
theorem keyQ_snoc {toks : List ByteArray} {qs : List Nat} {j q : Nat} {t : ByteArray} (h : qs[j]? = some q) (ht : toks[q]? = some t) : keyQ toks (qs.take (j + 1)) = keyQ toks (qs.take j) ++ t.data.toList := by
 unfold keyQ
 rw [List.take_add_one, h]
 simp [List.flatMap_append, ht]
theorem keyQ_len {toks : List ByteArray} (hb : ∀ t ∈ toks, t.size ≤ 1000) : ∀ (qs : List Nat), (keyQ toks qs).length ≤ qs.length * 1000
 | [] => by simp [keyQ]
 | q :: r => by
  have h := keyQ_len hb r
  have e : keyQ toks (q :: r) = (toks[q]?.getD ByteArray.empty).data.toList ++ keyQ toks r := by simp [keyQ]
  have h2 : (toks[q]?.getD ByteArray.empty).data.toList.length ≤ 1000 := by
   cases hq : toks[q]? with
   | none => exact Nat.zero_le _
   | some t => exact hb t (List.mem_of_getElem? hq)
  rw [e, List.length_append, List.length_cons]
  omega
abbrev S5 : TypeId → Prop := fun T => T = 88 ∨ T = 5
theorem AG.reads {S : TypeId → Prop} {w : World} {base g cap : Nat} {l : List UInt8} (h : AG S w base 1 (.slice (some ⟨g, 0, none⟩) l.length cap) l.length (Lib.byteCells l)) : ReadG w (some ⟨g, 0, none⟩) l.length 1 (Lib.byteCells l) :=
 ⟨by rw [byte_len, Nat.mul_one], by intro u hu; unfold Lib.byteCells at hu; obtain ⟨x, -, rfl⟩ := List.mem_map.1 hu; rfl, fun h0 => ⟨_, rfl, fun j u hu => by
  rw [Bs.add_at, h.cell (List.getElem?_eq_some_iff.1 hu).1]
  exact hu⟩⟩
theorem bytes_cells (t : ByteArray) : (bytesOf t).map (Value.int .u8) = Lib.byteCells t.data.toList := by
 unfold bytesOf Lib.byteCells
 rw [List.map_map]
 rfl
theorem numB_len (n : Nat) : (numB n).length ≤ 2 := by unfold numB; split <;> simp
theorem ek76 : ∃ i, ElemK Tryd.prog 76 5 i (.int .u8 0) 1 1 := elem_of Tryd.underlying76 info5b (by decide) (by decide) (by decide)
structure PartX (P : PlanL) (toks : List ByteArray) (i : Nat) (qs : List Nat) (n : Nat) (pc : ByteArray) : Prop where
 ks : P.ks[i]? = some 2
 ps : P.ps[i]? = some (qs.map fun q : Nat => (q : Int))
 ns : P.ns[i]? = some (n : Int)
 n99 : 1 ≤ n ∧ n ≤ 99
 qs0 : 1 ≤ qs.length ∧ qs.length ≤ 5
 tok : ∀ q ∈ qs, ∃ t, toks[q]? = some t ∧ 1 ≤ t.size
 out : pc.data.toList = numB (fnvB (keyQ toks qs) % n)
structure TokX (P : PlanL) (toks : List ByteArray) (i : Nat) (pc : ByteArray) : Prop where
 out : (P.ks[i]? = some 0 ∧ P.dt[i]? = some pc ∧ pc ≠ ⟨#[62]⟩) ∨ (P.ks[i]? = some 0 ∧ P.dt[i]? = some ⟨#[62]⟩ ∧ i + 1 = P.ks.length ∧ pc = ⟨#[]⟩) ∨
  (∃ kd q n t by_, OneX P toks i kd q n t by_ pc) ∨ (∃ qs n, PartX P toks i qs n pc)
structure GoodX (P : PlanL) (toks : List ByteArray) (pc : Nat → ByteArray) : Prop where
 n1 : 1 ≤ P.ks.length ∧ P.ks.length ≤ 1000
 dt : P.dt.length = P.ks.length
 ps : P.ps.length = P.ks.length
 ns : P.ns.length = P.ks.length
 ts : P.ts.length = P.ks.length
 st : 1 ≤ P.st.length ∧ P.st.length ≤ 1000
 lens : 1 ≤ toks.length ∧ toks.length ≤ 1000 ∧ ∀ t ∈ toks, t.size ≤ 1000
 pcs : ∀ i, (pc i).size ≤ 2147483647
 tok : ∀ i, i < P.ks.length → TokX P toks i (pc i)
section
set_option maxHeartbeats 16000000
set_option maxRecDepth 1000000
theorem transx_calls {w : World} {m g c : Nat} {P : PlanL} {toks : List ByteArray} {pc : Nat → ByteArray} (hM : MapAt w m P) (hT : Kd.C Kd.string w (some ⟨g, 0, none⟩) toks.length toks) (hG : GoodX P toks pc) (hne : madeB P toks pc ≠ []) :
  Calls Tryd.prog 50 #[.pointer (some ⟨m, 0, none⟩), .slice (some ⟨g, 0, none⟩) toks.length c] w (ToksPost w (madeB P toks pc)) := by
 obtain ⟨Ad, cd, As, cs, Ak, ck, Ap, cp, An, cn, At, ct, hb, hd, hs, hk, hp, hn, ht⟩ := hM.out
 have HB := Aside0.mk hb
 have HD : Aside0 (ReadG w Ad P.dt.length 1 (P.dt.map .string)) := ⟨rg_C _ _ hd⟩
 have HK : Aside0 (ReadG w Ak P.ks.length 1 (P.ks.map (.int .i16))) := ⟨rg_C _ _ hk⟩
 have HT : Aside0 (ReadG w (some ⟨g, 0, none⟩) toks.length 1 (toks.map .string)) := ⟨rg_C _ _ hT⟩
 have HP := Aside0.mk hp
 have HNS : Aside0 (ReadG w An P.ns.length 1 (P.ns.map (.int .i32))) := ⟨rg_C _ _ hn⟩
 have HTS : Aside0 (ReadG w At P.ts.length 1 (P.ts.map .string)) := ⟨rg_C _ _ ht⟩
 have HG := Aside0.mk hG
 have HNE := Aside0.mk hne
 have b4 := hb.cell 4 rfl
 have k0 : ((P.ks.length : Int) == 0) = false := by rw [beq_eq_false_iff_ne]; have := hG.n1; omega
 have k1 : IntKind.i64.wrap ((P.ks.length : Int) - 1) = ((P.ks.length - 1 : Nat) : Int) := by rw [IntKind.wrap_i64]; have := hG.n1; omega
 clear hM hb hd hs hk hp hn ht hT hG hne
 go_enter Tryd.func50, Tryd.ntmps50
 go_upto_region 4 with (fail)
 have HS0 : Aside0 (BS w w.heap.size (accB P.ks.length pc 0) (w.alloc (.cells #[.pointer none, .slice none 0 0] 85))) := ⟨Lib.fresh_isBuilder 85 5 w, (Fr.refl _ w).alloc _⟩
 generalize w.alloc (.cells #[.pointer none, .slice none 0 0] 85) = w1 at HS0 ⊢
 generalize hbb : w.heap.size = b at HS0 ⊢
 replace b4 := (HB.out.fr HS0.out.2 (fun h => h)).cell 4 rfl
 go_upto_block 0 with (fail)
 obtain ⟨tv, htv⟩ : ∃ tv, tv = Value.slice (some ⟨g, 0, none⟩) toks.length c := ⟨_, rfl⟩
 have HTV := Aside0.mk htv
 clear htv
 rw [← HTV.out]
 refine wp_cut (fun a' w' => RsA m b tv a' ∧ BS w b (accB P.ks.length pc P.ks.length) w') ?rest ?first
 case first =>
  intro K1 Q1 hK1 hQ1
  go_step
  refine wp_loop_ghost_k (fun k a' w' => ∃ i : Nat, (k + i = P.ks.length ∧ i ≤ P.ks.length) ∧ LpA m b P.ks.length Ak ck tv i a' ∧ BS w b (accB P.ks.length pc i) w') P.ks.length ?_ ?_
  ·
   exact ⟨0, by omega, ⟨⟨rfl, rfl⟩, rfl, rfl, rfl, rfl, rfl, rfl, rfl⟩, HS0.out⟩
  clear b4 k0 k1 HS0
  rintro gk a wr ⟨i, hi, hA, hbs⟩ J2 K2 hJ2 hK2
  have HI := Aside0.mk hi
  have HS := Aside0.mk hbs
  obtain ⟨f, hf, rfl⟩ := hA.fm.lay
  have e0 := hf 0 _ hA.s0
  have e1 := hf 1 _ hA.s1
  have e5 := hf 5 _ hA.s5
  have e6 := hf 6 _ hA.s6
  have e59 := hf 59 _ hA.s59
  have e60 := hf 60 _ hA.s60
  have e61 := hf 61 _ hA.s61
  rw [e0, e1, e5, e6, e59, e60, e61]
  clear e0 e1 e5 e6 e59 e60 e61 hA hf hi hbs
  have hbr := HB.out.fr HS.out.2 (fun h => h)
  have b2 := hbr.cell 2 rfl
  have b5 := hbr.cell 5 rfl
  have b6 := hbr.cell 6 rfl
  have b7 := hbr.cell 7 rfl
  clear hbr
  by_cases hlt : i < P.ks.length
  ·
   have i0 : (0 : Int) ≤ (i : Int) := by omega
   have i1 : (i : Int) < (P.ks.length : Int) := by omega
   have i2 : decide ((i : Int) < (P.ks.length : Int)) = true := decide_eq_true i1
   have i3 : (i : Int) < (P.dt.length : Int) := by rw [HG.out.dt]; exact i1
   have i4 : (i : Int) < (P.ps.length : Int) := by rw [HG.out.ps]; exact i1
   have i5 : decide ((P.ps.length : Int) < (i : Int)) = false := decide_eq_false (by omega)
   have HLT := Aside0.mk hlt
   obtain ⟨ak, rfl, hka⟩ := (HK.out.fr HS.out.2 (fun _ _ h => h)).read (by simp; omega)
   obtain ⟨ad, rfl, hda⟩ := (HD.out.fr HS.out.2 (fun _ _ h => h)).read (by simp; omega)
   have HTK := Aside0.mk (HG.out.tok i hlt)
   have HLEN : Aside0 ((accB P.ks.length pc i).length + 5000000000 ≤ 140737488355328) := ⟨by
    have := acc_len (n := P.ks.length) HG.out.pcs i
    have := HG.out.n1
    omega⟩
   have HPC := Aside0.mk (HG.out.pcs i)
   clear hlt
   have key : (P.ks[i]? = some 0 ∧ P.dt[i]? = some ⟨#[62]⟩ ∧ i + 1 = P.ks.length ∧ pc i = ⟨#[]⟩) ∨ Aside0 ((P.ks[i]? = some 0 ∧ P.dt[i]? = some (pc i) ∧ pc i ≠ ⟨#[62]⟩) ∨ (∃ kd q n t by_, OneX P toks i kd q n t by_ (pc i)) ∨ (∃ qs n, PartX P toks i qs n (pc i))) := by
    rcases HTK.out.out with h | h | h | h
    ·
     exact .inr ⟨.inl h⟩
    ·
     exact .inl h
    ·
     exact .inr ⟨.inr (.inl h)⟩
    exact .inr ⟨.inr (.inr h)⟩
   clear HTK
   rcases key with ⟨h1, h2, h3, h4⟩ | HKEY
   ·
    have vk := hka i (.int .i16 0) (by rw [List.getElem?_map, h1]; rfl)
    have vd := hda i (.string ⟨#[62]⟩) (by rw [List.getElem?_map, h2]; rfl)
    have HX : Aside0 (BS w b (accB P.ks.length pc P.ks.length) wr) := ⟨by
     have e : accB P.ks.length pc (i + 1) = accB P.ks.length pc i := by
      unfold accB
      rw [h4, if_neg (by omega)]
      simp
      cases i <;> rfl
     rw [h3] at e
     rw [e]
     exact HS.out⟩
    clear h1 h2 h3 h4 hka hda
    go_wp2_with fail
    refine Met.intro ?_
    refine hK1 _ _ ⟨⟨⟨rfl, rfl⟩, rfl, rfl, rfl⟩, HX.out⟩
   obtain ⟨kv, hkv⟩ : ∃ kv, P.ks[i]? = some kv := ⟨_, List.getElem?_eq_getElem HLT.out⟩
   have vk := hka i (.int .i16 kv) (by rw [List.getElem?_map, hkv]; rfl)
   have HKV := Aside0.mk hkv
   clear hkv
   go_upto_if 67 with (fail)
   refine wp_cut (fun a' w' => (LpA m b P.ks.length (some ak) ck tv i a' ∧ Sl a' 7 = some (.int .i64 (i : Int))) ∧ BS w b (accB P.ks.length pc i ++ (pc i).data.toList) w') ?rest2 ?first2
   case first2 =>
    intro K3 Q3 hK3 hQ3
    rcases HKEY.out with ⟨h1, h2, h3⟩ | hone | hpart
    ·
     obtain rfl : kv = 0 := Option.some.inj (HKV.out.symm.trans h1)
     have vd := hda i (.string (pc i)) (by rw [List.getElem?_map, h2]; rfl)
     have HPZ := Aside0.mk h3
     obtain ⟨pz, hpz⟩ : ∃ pz, pc i = pz := ⟨_, rfl⟩
     rw [hpz] at vd HPZ HPC
     have HPQ := Aside0.mk hpz
     clear hpz
     clear h1 h2 h3 hka hda HKEY
     have HWS := Aside0.mk (BS.ws HS.out pz (by have := HLEN.out; have := HPC.out; omega))
     by_cases hz : pz.size = 1
     ·
      have hz0 : 0 < pz.size := by omega
      have z1 : ((pz.size : Int) == 1) = true := by rw [hz]; rfl
      have z2 : (((pz[0]'hz0).toNat : Int) == 62) = false := by
       rw [beq_eq_false_iff_ne]
       intro e
       refine HPZ.out ?_
       obtain ⟨⟨l⟩⟩ := pz
       match l, hz with
       | [c], _ =>
        have e : (c.toNat : Int) = 62 := e
        have : c = 62 := UInt8.toNat_inj.1 (by have : (62 : UInt8).toNat = 62 := rfl; omega)
        rw [this]
      clear hz
      go_wp2_with fail
      refine HWS.out.mono ?_
      rintro e w2 ⟨rfl, h2⟩
      go_wp2_with fail
      refine Met.intro ?_
      exact hK3 _ _ ⟨⟨⟨⟨rfl, rfl⟩, rfl, rfl, rfl, rfl, rfl, rfl, rfl⟩, rfl⟩, by rw [HPQ.out]; exact h2⟩
     have z1 : ((pz.size : Int) == 1) = false := by rw [beq_eq_false_iff_ne]; omega
     clear hz
     go_wp2_with fail
     refine HWS.out.mono ?_
     rintro e w2 ⟨rfl, h2⟩
     go_wp2_with fail
     refine Met.intro ?_
     exact hK3 _ _ ⟨⟨⟨⟨rfl, rfl⟩, rfl, rfl, rfl, rfl, rfl, rfl, rfl⟩, rfl⟩, by rw [HPQ.out]; exact h2⟩
    ·
     obtain ⟨kd, q, n, t, by_, hX⟩ := hone
     obtain rfl : kv = kd := Option.some.inj (HKV.out.symm.trans hX.ks)
     obtain ⟨ap, rfl, hcp⟩ := HP.out.2.2 (by have := HLT.out; rw [HG.out.ps]; omega)
     obtain ⟨cs1, -, ⟨A1, c1, rfl, hl1, hC1⟩, hcell⟩ := hcp i _ hX.ps
     have vp := HS.out.2.cell (hcell 0 _ rfl)
     have hs1 : (Kd.slice 3 (Kd.int .i64)).sz = 1 := rfl
     rw [hs1, Nat.add_zero, Nat.mul_one] at vp
     have hlq := (List.getElem?_eq_some_iff.1 hX.tok).1
     obtain ⟨a1, rfl, hr1⟩ := ((rg_C _ _ hC1).fr HS.out.2 (fun _ _ h => h)).read (by simp)
     obtain ⟨at_, hat, hrt⟩ := (HT.out.fr HS.out.2 (fun _ _ h => h)).read (by simp; omega)
     obtain ⟨an, rfl, hrn⟩ := (HNS.out.fr HS.out.2 (fun _ _ h => h)).read (by have := HLT.out; have := HG.out.ns; simp; omega)
     obtain ⟨ay, rfl, hry⟩ := (HTS.out.fr HS.out.2 (fun _ _ h => h)).read (by have := HLT.out; have := HG.out.ts; simp; omega)
     injection hat with hat
     subst hat
     have v1 := hr1 0 (.int .i64 (q : Int)) rfl
     have v1b : wr.cell? a1 = some (.int .i64 (q : Int)) := v1
     have vt := hrt q (.string t) (by rw [List.getElem?_map, hX.tok]; rfl)
     rw [Bs.add_at] at vt
     have vn := hrn i (.int .i32 (n : Int)) (by rw [List.getElem?_map, hX.ns]; rfl)
     have vy := hry i (.string by_) (by rw [List.getElem?_map, hX.ts]; rfl)
     have i7 : (i : Int) < (P.ns.length : Int) := by rw [HG.out.ns]; exact i1
     have i8 : (i : Int) < (P.ts.length : Int) := by rw [HG.out.ts]; exact i1
     have q0 : (0 : Int) ≤ (q : Int) := by omega
     have q1 : (q : Int) < (toks.length : Int) := by omega
     have q2 : decide ((toks.length : Int) ≤ (q : Int)) = false := decide_eq_false (by omega)
     have HTZ : Aside0 (t.size ≤ 1000) := ⟨HG.out.lens.2.2 t (List.mem_of_getElem? hX.tok)⟩
     have HN99 : Aside0 (n ≤ 99) := ⟨hX.n99⟩
     have wn : IntKind.i64.wrap (n : Int) = (n : Int) := by rw [IntKind.wrap_i64]; have := HN99.out; omega
     have htv := HTV.out
     subst htv
     have hor := hX.out
     clear hs1 hcell hC1 hr1 hrt hrn hry hlq hka hda HKEY hX
     rcases hor with ⟨rfl, hout⟩ | ⟨rfl, hout⟩ | ⟨rfl, hout⟩ | ⟨rfl, hout⟩ | ⟨rfl, hout⟩ | ⟨rfl, hout⟩ | ⟨rfl, hout⟩ | ⟨rfl, hout⟩
     ·
      have HOUT : Aside0 ((pc i).data.toList = t.data.toList) := ⟨by rw [hout]⟩
      clear hout
      go_wp2_with fail
      refine (BS.ws HS.out t (by have := HLEN.out; have := HTZ.out; omega)).mono ?_
      rintro e w2 ⟨rfl, h2⟩
      go_wp2_with fail
      refine Met.intro ?_
      exact hK3 _ _ ⟨⟨⟨⟨rfl, rfl⟩, rfl, rfl, rfl, rfl, rfl, rfl, rfl⟩, rfl⟩, by rw [HOUT.out]; exact h2⟩
     ·
      by_cases g0 : 0 < n
      ·
       by_cases g1 : n < t.size
       ·
        have y0 : decide ((0 : Int) < (n : Int)) = true := decide_eq_true (by omega)
        have y1 : decide ((n : Int) < (t.size : Int)) = true := decide_eq_true (by omega)
        have y2 : decide (0 < n) = true := decide_eq_true g0
        have y3 : decide (n < t.size) = true := decide_eq_true g1
        rw [inX, if_pos ⟨g0, g1⟩] at hout
        have HG01 := Aside0.mk (And.intro g0 g1)
        have r0 : (0 : Int) ≤ (n : Int) := by omega
        have r1 : (n : Int) ≤ (t.size : Int) := by omega
        clear g0 g1
        have HOUT : Aside0 ((pc i).data.toList = (t.extract 0 n).data.toList ++ ([46] ++ (t.extract n t.size).data.toList)) := ⟨by
         rw [hout, ext_bytes, ext_bytes, p4, List.drop_zero, List.take_of_length_le (show t.data.toList.length ≤ t.size from Nat.le_refl _)]
         rfl⟩
        clear hout
        have HE1 : Aside0 ((t.extract 0 n).size ≤ 1000) := ⟨by have := HTZ.out; rw [ByteArray.size_extract]; omega⟩
        have HE3 : Aside0 ((t.extract n t.size).size ≤ 1000) := ⟨by have := HTZ.out; rw [ByteArray.size_extract]; omega⟩
        go_wp2_with fail
        refine (BS.ws HS.out (t.extract 0 n) (by have := HLEN.out; have := HTZ.out; have := HE1.out; omega)).mono ?_
        rintro e w2 ⟨rfl, h2⟩
        have H2 := Aside0.mk h2
        clear h2
        go_wp2_with fail
        refine (BS.ws H2.out ⟨#[46]⟩ (by have := HLEN.out; have := HTZ.out; have := HE1.out; have hq : (⟨#[46]⟩ : ByteArray).size = 1 := rfl; rw [List.length_append, hq]; show _ + (t.extract 0 n).size + 1 ≤ _; omega)).mono ?_
        rintro e w3 ⟨rfl, h3⟩
        have H3 := Aside0.mk h3
        clear h3
        go_wp2_with fail
        refine (BS.ws H3.out (t.extract n t.size) (by have := HLEN.out; have := HTZ.out; have := HE1.out; have := HE3.out; rw [List.length_append, List.length_append]; show _ + (t.extract 0 n).size + 1 + (t.extract n t.size).size ≤ _; omega)).mono ?_
        rintro e w4 ⟨rfl, h4⟩
        go_wp2_with fail
        refine Met.intro ?_
        exact hK3 _ _ ⟨⟨⟨⟨rfl, rfl⟩, rfl, rfl, rfl, rfl, rfl, rfl, rfl⟩, rfl⟩, by rw [HOUT.out, ← List.append_assoc, ← List.append_assoc]; exact h4⟩
       have y0 : decide ((0 : Int) < (n : Int)) = true := decide_eq_true (by omega)
       have y1 : decide ((n : Int) < (t.size : Int)) = false := decide_eq_false (by omega)
       have y2 : decide (0 < n) = true := decide_eq_true g0
       have y3 : decide (n < t.size) = false := decide_eq_false g1
       rw [inX, if_neg (fun h => g1 h.2)] at hout
       have HOUT := Aside0.mk hout
       clear g0 g1 hout
       go_wp2_with fail
       refine (BS.ws HS.out t (by have := HLEN.out; have := HTZ.out; omega)).mono ?_
       rintro e w2 ⟨rfl, h2⟩
       go_wp2_with fail
       refine Met.intro ?_
       exact hK3 _ _ ⟨⟨⟨⟨rfl, rfl⟩, rfl, rfl, rfl, rfl, rfl, rfl, rfl⟩, rfl⟩, by rw [HOUT.out]; exact h2⟩
      have y0 : decide ((0 : Int) < (n : Int)) = false := decide_eq_false (by omega)
      have y2 : decide (0 < n) = false := decide_eq_false g0
      rw [inX, if_neg (fun h => g0 h.1)] at hout
      have HOUT := Aside0.mk hout
      clear g0 hout
      go_wp2_with fail
      refine (BS.ws HS.out t (by have := HLEN.out; have := HTZ.out; omega)).mono ?_
      rintro e w2 ⟨rfl, h2⟩
      go_wp2_with fail
      refine Met.intro ?_
      exact hK3 _ _ ⟨⟨⟨⟨rfl, rfl⟩, rfl, rfl, rfl, rfl, rfl, rfl, rfl⟩, rfl⟩, by rw [HOUT.out]; exact h2⟩
     ·
      by_cases g0 : 0 < n
      ·
       by_cases g1 : n < t.size
       ·
        have y0 : decide ((0 : Int) < (n : Int)) = true := decide_eq_true (by omega)
        have y1 : decide ((n : Int) < (t.size : Int)) = true := decide_eq_true (by omega)
        have y2 : decide (0 < n) = true := decide_eq_true g0
        have y3 : decide (n < t.size) = true := decide_eq_true g1
        rw [inX, if_pos ⟨g0, g1⟩] at hout
        have HG01 := Aside0.mk (And.intro g0 g1)
        have r0 : (0 : Int) ≤ (n : Int) := by omega
        have r1 : (n : Int) ≤ (t.size : Int) := by omega
        clear g0 g1
        have s1 : IntKind.i64.wrap ((t.size : Int) - (n : Int)) = ((t.size - n : Nat) : Int) := by rw [IntKind.wrap_i64]; have := HG01.out; have := HTZ.out; omega
        have s2 : (0 : Int) ≤ ((t.size - n : Nat) : Int) := by omega
        have s3 : ((t.size - n : Nat) : Int) ≤ (t.size : Int) := by omega
        have HOUT : Aside0 ((pc i).data.toList = (t.extract 0 (t.size - n)).data.toList ++ ([46] ++ (t.extract (t.size - n) t.size).data.toList)) := ⟨by
         rw [hout, ext_bytes, ext_bytes, p5, List.drop_zero, List.take_of_length_le (show t.data.toList.length ≤ t.size from Nat.le_refl _)]
         rfl⟩
        clear hout
        have HE1 : Aside0 ((t.extract 0 (t.size - n)).size ≤ 1000) := ⟨by have := HTZ.out; rw [ByteArray.size_extract]; omega⟩
        have HE3 : Aside0 ((t.extract (t.size - n) t.size).size ≤ 1000) := ⟨by have := HTZ.out; rw [ByteArray.size_extract]; omega⟩
        go_wp2_with fail
        refine (BS.ws HS.out (t.extract 0 (t.size - n)) (by have := HLEN.out; have := HTZ.out; have := HE1.out; omega)).mono ?_
        rintro e w2 ⟨rfl, h2⟩
        have H2 := Aside0.mk h2
        clear h2
        go_wp2_with fail
        refine (BS.ws H2.out ⟨#[46]⟩ (by have := HLEN.out; have := HTZ.out; have := HE1.out; have hq : (⟨#[46]⟩ : ByteArray).size = 1 := rfl; rw [List.length_append, hq]; show _ + (t.extract 0 (t.size - n)).size + 1 ≤ _; omega)).mono ?_
        rintro e w3 ⟨rfl, h3⟩
        have H3 := Aside0.mk h3
        clear h3
        go_wp2_with fail
        refine (BS.ws H3.out (t.extract (t.size - n) t.size) (by have := HLEN.out; have := HTZ.out; have := HE1.out; have := HE3.out; rw [List.length_append, List.length_append]; show _ + (t.extract 0 (t.size - n)).size + 1 + (t.extract (t.size - n) t.size).size ≤ _; omega)).mono ?_
        rintro e w4 ⟨rfl, h4⟩
        go_wp2_with fail
        refine Met.intro ?_
        exact hK3 _ _ ⟨⟨⟨⟨rfl, rfl⟩, rfl, rfl, rfl, rfl, rfl, rfl, rfl⟩, rfl⟩, by rw [HOUT.out, ← List.append_assoc, ← List.append_assoc]; exact h4⟩
       have y0 : decide ((0 : Int) < (n : Int)) = true := decide_eq_true (by omega)
       have y1 : decide ((n : Int) < (t.size : Int)) = false := decide_eq_false (by omega)
       have y2 : decide (0 < n) = true := decide_eq_true g0
       have y3 : decide (n < t.size) = false := decide_eq_false g1
       rw [inX, if_neg (fun h => g1 h.2)] at hout
       have HOUT := Aside0.mk hout
       clear g0 g1 hout
       go_wp2_with fail
       refine (BS.ws HS.out t (by have := HLEN.out; have := HTZ.out; omega)).mono ?_
       rintro e w2 ⟨rfl, h2⟩
       go_wp2_with fail
       refine Met.intro ?_
       exact hK3 _ _ ⟨⟨⟨⟨rfl, rfl⟩, rfl, rfl, rfl, rfl, rfl, rfl, rfl⟩, rfl⟩, by rw [HOUT.out]; exact h2⟩
      have y0 : decide ((0 : Int) < (n : Int)) = false := decide_eq_false (by omega)
      have y2 : decide (0 < n) = false := decide_eq_false g0
      rw [inX, if_neg (fun h => g0 h.1)] at hout
      have HOUT := Aside0.mk hout
      clear g0 hout
      go_wp2_with fail
      refine (BS.ws HS.out t (by have := HLEN.out; have := HTZ.out; omega)).mono ?_
      rintro e w2 ⟨rfl, h2⟩
      go_wp2_with fail
      refine Met.intro ?_
      exact hK3 _ _ ⟨⟨⟨⟨rfl, rfl⟩, rfl, rfl, rfl, rfl, rfl, rfl, rfl⟩, rfl⟩, by rw [HOUT.out]; exact h2⟩
     ·
      by_cases g0 : 0 < n
      ·
       by_cases g1 : n < t.size
       ·
        have y0 : decide ((0 : Int) < (n : Int)) = true := decide_eq_true (by omega)
        have y1 : decide ((n : Int) < (t.size : Int)) = true := decide_eq_true (by omega)
        have y2 : decide (0 < n) = true := decide_eq_true g0
        have y3 : decide (n < t.size) = true := decide_eq_true g1
        rw [inX, if_pos ⟨g0, g1⟩] at hout
        have HG01 := Aside0.mk (And.intro g0 g1)
        have r0 : (0 : Int) ≤ (n : Int) := by omega
        have r1 : (n : Int) ≤ (t.size : Int) := by omega
        clear g0 g1
        have HOUT : Aside0 ((pc i).data.toList = slL t.data.toList n (t.size + 1) 0) := ⟨hout⟩
        clear hout
        have r2 : (n : Int) = ((n : Nat) : Int) := rfl
        go_upto_block 6 with (fail)
        go_step
        refine wp_loop_ghost_k (fun k a' w' => ∃ (j d : Nat) (Wd : List UInt8), (k + j = t.size + 1 ∧ t.size < d + j) ∧ Wd ++ slL t.data.toList n d j = slL t.data.toList n (t.size + 1) 0 ∧ Wd.length ≤ 2 * j ∧ (LpA m b P.ks.length (some ak) ck (.slice (some ⟨g, 0, none⟩) toks.length c) i a' ∧ Sl a' 7 = some (.int .i64 (i : Int)) ∧ Sl a' 19 = some (.string t) ∧ Sl a' 20 = some (.int .i64 (t.size : Int)) ∧ Sl a' 21 = some (.int .i64 (n : Int)) ∧ Sl a' 22 = some (.int .i64 (j : Int))) ∧ BS w b (accB P.ks.length pc i ++ Wd) w') (t.size + 1) ?_ ?_
        ·
         exact ⟨0, t.size + 1, [], by omega, rfl, Nat.le_refl _, ⟨⟨⟨rfl, rfl⟩, rfl, rfl, rfl, rfl, rfl, rfl, rfl⟩, rfl, rfl, rfl, rfl, rfl⟩, by rw [List.append_nil]; exact HS.out⟩
        rintro gk a wq ⟨j, d, Wd, hi, hW, hWl, ⟨hA, h7, z19, z20, z21, z22⟩, hbs⟩ J4 K4 hJ4 hK4
        have HI4 := Aside0.mk hi
        have HW4 := Aside0.mk (And.intro hW hWl)
        have HS4 := Aside0.mk hbs
        obtain ⟨f3, hf, rfl⟩ := hA.fm.lay
        have e0 := hf 0 _ hA.s0
        have e1 := hf 1 _ hA.s1
        have e5 := hf 5 _ hA.s5
        have e6 := hf 6 _ hA.s6
        have e59 := hf 59 _ hA.s59
        have e60 := hf 60 _ hA.s60
        have e61 := hf 61 _ hA.s61
        have e7 := hf 7 _ h7
        have e19 := hf 19 _ z19
        have e20 := hf 20 _ z20
        have e21 := hf 21 _ z21
        have e22 := hf 22 _ z22
        rw [e0, e1, e5, e6, e59, e60, e61, e7, e19, e20, e21, e22]
        clear e0 e1 e5 e6 e59 e60 e61 e7 e19 e20 e21 e22 hA hf h7 z19 z20 z21 z22
        clear hi hW hWl hbs
        have j0 : (0 : Int) ≤ (j : Int) := by omega
        obtain ⟨x1, hx1⟩ : ∃ x1, x1 = j + n := ⟨_, rfl⟩
        obtain ⟨x2, hx2⟩ : ∃ x2, x2 = x1 + n := ⟨_, rfl⟩
        have wz : IntKind.i64.wrap ((j : Int) + (n : Int)) = (x1 : Int) := by rw [IntKind.wrap_i64]; have := HI4.out; have := HN99.out; have := HTZ.out; omega
        have wz2 : IntKind.i64.wrap ((x1 : Int) + (n : Int)) = (x2 : Int) := by rw [IntKind.wrap_i64]; have := HI4.out; have := HN99.out; have := HTZ.out; omega
        have HX12 := Aside0.mk (And.intro hx1 hx2)
        by_cases hlt : x1 ≤ t.size
        ·
         have l0 : decide ((x1 : Int) ≤ (t.size : Int)) = true := decide_eq_true (by omega)
         have l1 : decide (x1 ≤ t.size) = true := decide_eq_true hlt
         have l2 : (j : Int) ≤ (x1 : Int) := by omega
         have l3 : (x1 : Int) ≤ (t.size : Int) := by omega
         obtain ⟨d', hd⟩ : ∃ d', d = d' + 1 := ⟨d - 1, by have := HI4.out; omega⟩
         subst hd
         have HCH : Aside0 (slL t.data.toList n (d' + 1) j = (dotJ j ++ (t.extract j x1).data.toList) ++ (if x1 ≠ t.size ∧ x2 > t.size then 46 :: (t.extract x1 t.size).data.toList else slL t.data.toList n d' x1)) := ⟨by
          rw [slL, ← hx1, ← hx2, if_pos (show x1 ≤ t.data.toList.length from hlt), ext_bytes, ext_bytes, List.take_of_length_le (show t.data.toList.length ≤ t.size from Nat.le_refl _)]
          rfl⟩
         have HXS : Aside0 ((t.extract j x1).size = n ∧ (t.extract x1 t.size).size ≤ 1000) := ⟨by have := HTZ.out; rw [ByteArray.size_extract, ByteArray.size_extract]; omega⟩
         have HLJ := Aside0.mk hlt
         clear hlt hx1 hx2
         by_cases hj0 : j = 0
         ·
          subst hj0
          obtain rfl : n = x1 := by have := HX12.out; omega
          have H2 : Aside0 (BS w b (accB P.ks.length pc i ++ (Wd ++ dotJ 0)) wq) := ⟨by rw [show dotJ 0 = [] from rfl, List.append_nil]; exact HS4.out⟩
          have HL2 : Aside0 ((Wd ++ dotJ 0).length ≤ 2 * 0 + 1) := ⟨by have := HW4.out.2; have := dotJ_len 0; rw [List.length_append]; omega⟩
          go_wp2_with fail
          refine (BS.ws H2.out (t.extract 0 (n)) (by have := HLEN.out; have := HTZ.out; have := HL2.out; have := HI4.out; have := HXS.out; have := HX12.out; rw [List.length_append]; omega)).mono ?_
          rintro e w3 ⟨rfl, h3⟩
          have H3 : Aside0 (BS w b (accB P.ks.length pc i ++ (Wd ++ (dotJ 0 ++ (t.extract 0 (n)).data.toList))) w3) := ⟨by
           rw [← List.append_assoc Wd, ← List.append_assoc]
           exact h3⟩
          clear h3
          by_cases hb1 : n = t.size
          ·
           have m0 : ((n : Int) != (t.size : Int)) = false := by rw [bne_eq_false_iff_eq]; omega
           have m1 : decide (n = t.size) = true := decide_eq_true hb1
           have HC2 : Aside0 (slL t.data.toList n (d' + 1) 0 = (dotJ 0 ++ (t.extract 0 (n)).data.toList) ++ slL t.data.toList n d' (n)) := ⟨by rw [HCH.out, if_neg (fun h => h.1 hb1)]⟩
           clear hb1
           go_wp2_with fail
           refine Handed.intro (gk - n) (by have := HI4.out; have := HG01.out; have := HLJ.out; have := HX12.out; omega) (hJ4 (gk - n) _ _ ⟨n, d', Wd ++ (dotJ 0 ++ (t.extract 0 (n)).data.toList), by have := HI4.out; have := HG01.out; have := HLJ.out; have := HX12.out; omega, ?_, ?_, ⟨⟨⟨rfl, rfl⟩, rfl, rfl, rfl, rfl, rfl, rfl, rfl⟩, rfl, rfl, rfl, rfl, rfl⟩, H3.out⟩)
           ·
            rw [List.append_assoc, ← HC2.out]
            exact HW4.out.1
           have := HL2.out
           have := HXS.out
           have := HG01.out
           have := HX12.out
           rw [← List.append_assoc, List.length_append]
           show _ + (t.extract 0 (n)).size ≤ _
           omega
          have m0 : ((n : Int) != (t.size : Int)) = true := by rw [bne_iff_ne]; omega
          have m1 : decide (n = t.size) = false := decide_eq_false hb1
          by_cases hb2 : x2 > t.size
          ·
           have m2 : decide ((t.size : Int) < (x2 : Int)) = true := decide_eq_true (by omega)
           have m3 : decide (t.size < x2) = true := decide_eq_true hb2
           have l4 : (0 : Int) ≤ (n : Int) := by omega
           have HC2 : Aside0 (slL t.data.toList n (d' + 1) 0 = (dotJ 0 ++ (t.extract 0 (n)).data.toList) ++ 46 :: (t.extract (n) t.size).data.toList) := ⟨by rw [HCH.out, if_pos ⟨hb1, hb2⟩]⟩
           clear hb1 hb2
           go_wp2_with fail
           refine (BS.ws H3.out ⟨#[46]⟩ (by have := HLEN.out; have := HTZ.out; have := HL2.out; have := HI4.out; have := HXS.out; have := HX12.out; have hq : (⟨#[46]⟩ : ByteArray).size = 1 := rfl; rw [List.length_append, hq, ← List.append_assoc, List.length_append (bs := (t.extract 0 (n)).data.toList)]; show _ + (_ + (t.extract 0 (n)).size) + 1 ≤ _; omega)).mono ?_
           rintro e w4 ⟨rfl, h4⟩
           have H4 := Aside0.mk h4
           clear h4
           go_wp2_with fail
           refine (BS.ws H4.out (t.extract (n) t.size) (by have := HLEN.out; have := HTZ.out; have := HL2.out; have := HI4.out; have := HXS.out; have := HX12.out; rw [List.length_append, List.length_append, ← List.append_assoc, List.length_append (bs := (t.extract 0 (n)).data.toList)]; show _ + (_ + (t.extract 0 (n)).size) + 1 + _ ≤ _; omega)).mono ?_
           rintro e w5 ⟨rfl, h5⟩
           have HFIN : Aside0 (BS w b (accB P.ks.length pc i ++ (pc i).data.toList) w5) := ⟨by
            rw [HOUT.out, ← HW4.out.1, HC2.out]
            rw [List.append_assoc, List.append_assoc] at h5
            simpa using h5⟩
           clear h5
           go_wp2_with fail
           refine Met.intro ?_
           exact hK3 _ _ ⟨⟨⟨⟨rfl, rfl⟩, rfl, rfl, rfl, rfl, rfl, rfl, rfl⟩, rfl⟩, HFIN.out⟩
          have m2 : decide ((t.size : Int) < (x2 : Int)) = false := decide_eq_false (by omega)
          have m3 : decide (t.size < x2) = false := decide_eq_false hb2
          have HC2 : Aside0 (slL t.data.toList n (d' + 1) 0 = (dotJ 0 ++ (t.extract 0 (n)).data.toList) ++ slL t.data.toList n d' (n)) := ⟨by rw [HCH.out, if_neg (fun h => hb2 h.2)]⟩
          clear hb1 hb2
          go_wp2_with fail
          refine Handed.intro (gk - n) (by have := HI4.out; have := HG01.out; have := HLJ.out; have := HX12.out; omega) (hJ4 (gk - n) _ _ ⟨n, d', Wd ++ (dotJ 0 ++ (t.extract 0 (n)).data.toList), by have := HI4.out; have := HG01.out; have := HLJ.out; have := HX12.out; omega, ?_, ?_, ⟨⟨⟨rfl, rfl⟩, rfl, rfl, rfl, rfl, rfl, rfl, rfl⟩, rfl, rfl, rfl, rfl, rfl⟩, H3.out⟩)
          ·
           rw [List.append_assoc, ← HC2.out]
           exact HW4.out.1
          have := HL2.out
          have := HXS.out
          have := HG01.out
          have := HX12.out
          rw [← List.append_assoc, List.length_append]
          show _ + (t.extract 0 (n)).size ≤ _
          omega
         have n0 : ((j : Int) != 0) = true := by rw [bne_iff_ne]; omega
         have n1 : decide (j = 0) = false := decide_eq_false hj0
         have HJ0 := Aside0.mk hj0
         clear hj0
         go_wp2_with fail
         refine (BS.ws HS4.out ⟨#[46]⟩ (by have := HLEN.out; have := HTZ.out; have := HW4.out.2; have := HI4.out; have hq : (⟨#[46]⟩ : ByteArray).size = 1 := rfl; rw [List.length_append, hq]; omega)).mono ?_
         rintro e w2 ⟨rfl, h2⟩
         have H2 : Aside0 (BS w b (accB P.ks.length pc i ++ (Wd ++ dotJ j)) w2) := ⟨by rw [show dotJ j = [46] by unfold dotJ; rw [if_neg HJ0.out], ← List.append_assoc]; exact h2⟩
         clear h2
         have HL2 : Aside0 ((Wd ++ dotJ j).length ≤ 2 * j + 1) := ⟨by have := HW4.out.2; have := dotJ_len j; rw [List.length_append]; omega⟩
         go_wp2_with fail
         refine (BS.ws H2.out (t.extract j (x1)) (by have := HLEN.out; have := HTZ.out; have := HL2.out; have := HI4.out; have := HXS.out; have := HX12.out; rw [List.length_append]; omega)).mono ?_
         rintro e w3 ⟨rfl, h3⟩
         have H3 : Aside0 (BS w b (accB P.ks.length pc i ++ (Wd ++ (dotJ j ++ (t.extract j (x1)).data.toList))) w3) := ⟨by
          rw [← List.append_assoc Wd, ← List.append_assoc]
          exact h3⟩
         clear h3
         by_cases hb1 : x1 = t.size
         ·
          have m0 : ((x1 : Int) != (t.size : Int)) = false := by rw [bne_eq_false_iff_eq]; omega
          have m1 : decide (x1 = t.size) = true := decide_eq_true hb1
          have HC2 : Aside0 (slL t.data.toList n (d' + 1) j = (dotJ j ++ (t.extract j (x1)).data.toList) ++ slL t.data.toList n d' (x1)) := ⟨by rw [HCH.out, if_neg (fun h => h.1 hb1)]⟩
          clear hb1
          go_wp2_with fail
          refine Handed.intro (gk - n) (by have := HI4.out; have := HG01.out; have := HLJ.out; have := HX12.out; omega) (hJ4 (gk - n) _ _ ⟨x1, d', Wd ++ (dotJ j ++ (t.extract j (x1)).data.toList), by have := HI4.out; have := HG01.out; have := HLJ.out; have := HX12.out; omega, ?_, ?_, ⟨⟨⟨rfl, rfl⟩, rfl, rfl, rfl, rfl, rfl, rfl, rfl⟩, rfl, rfl, rfl, rfl, rfl⟩, H3.out⟩)
          ·
           rw [List.append_assoc, ← HC2.out]
           exact HW4.out.1
          have := HL2.out
          have := HXS.out
          have := HG01.out
          have := HX12.out
          rw [← List.append_assoc, List.length_append]
          show _ + (t.extract j (x1)).size ≤ _
          omega
         have m0 : ((x1 : Int) != (t.size : Int)) = true := by rw [bne_iff_ne]; omega
         have m1 : decide (x1 = t.size) = false := decide_eq_false hb1
         by_cases hb2 : x2 > t.size
         ·
          have m2 : decide ((t.size : Int) < (x2 : Int)) = true := decide_eq_true (by omega)
          have m3 : decide (t.size < x2) = true := decide_eq_true hb2
          have l4 : (0 : Int) ≤ (x1 : Int) := by omega
          have HC2 : Aside0 (slL t.data.toList n (d' + 1) j = (dotJ j ++ (t.extract j (x1)).data.toList) ++ 46 :: (t.extract (x1) t.size).data.toList) := ⟨by rw [HCH.out, if_pos ⟨hb1, hb2⟩]⟩
          clear hb1 hb2
          go_wp2_with fail
          refine (BS.ws H3.out ⟨#[46]⟩ (by have := HLEN.out; have := HTZ.out; have := HL2.out; have := HI4.out; have := HXS.out; have := HX12.out; have hq : (⟨#[46]⟩ : ByteArray).size = 1 := rfl; rw [List.length_append, hq, ← List.append_assoc, List.length_append (bs := (t.extract j (x1)).data.toList)]; show _ + (_ + (t.extract j (x1)).size) + 1 ≤ _; omega)).mono ?_
          rintro e w4 ⟨rfl, h4⟩
          have H4 := Aside0.mk h4
          clear h4
          go_wp2_with fail
          refine (BS.ws H4.out (t.extract (x1) t.size) (by have := HLEN.out; have := HTZ.out; have := HL2.out; have := HI4.out; have := HXS.out; have := HX12.out; rw [List.length_append, List.length_append, ← List.append_assoc, List.length_append (bs := (t.extract j (x1)).data.toList)]; show _ + (_ + (t.extract j (x1)).size) + 1 + _ ≤ _; omega)).mono ?_
          rintro e w5 ⟨rfl, h5⟩
          have HFIN : Aside0 (BS w b (accB P.ks.length pc i ++ (pc i).data.toList) w5) := ⟨by
           rw [HOUT.out, ← HW4.out.1, HC2.out]
           rw [List.append_assoc, List.append_assoc] at h5
           simpa using h5⟩
          clear h5
          go_wp2_with fail
          refine Met.intro ?_
          exact hK3 _ _ ⟨⟨⟨⟨rfl, rfl⟩, rfl, rfl, rfl, rfl, rfl, rfl, rfl⟩, rfl⟩, HFIN.out⟩
         have m2 : decide ((t.size : Int) < (x2 : Int)) = false := decide_eq_false (by omega)
         have m3 : decide (t.size < x2) = false := decide_eq_false hb2
         have HC2 : Aside0 (slL t.data.toList n (d' + 1) j = (dotJ j ++ (t.extract j (x1)).data.toList) ++ slL t.data.toList n d' (x1)) := ⟨by rw [HCH.out, if_neg (fun h => hb2 h.2)]⟩
         clear hb1 hb2
         go_wp2_with fail
         refine Handed.intro (gk - n) (by have := HI4.out; have := HG01.out; have := HLJ.out; have := HX12.out; omega) (hJ4 (gk - n) _ _ ⟨x1, d', Wd ++ (dotJ j ++ (t.extract j (x1)).data.toList), by have := HI4.out; have := HG01.out; have := HLJ.out; have := HX12.out; omega, ?_, ?_, ⟨⟨⟨rfl, rfl⟩, rfl, rfl, rfl, rfl, rfl, rfl, rfl⟩, rfl, rfl, rfl, rfl, rfl⟩, H3.out⟩)
         ·
          rw [List.append_assoc, ← HC2.out]
          exact HW4.out.1
         have := HL2.out
         have := HXS.out
         have := HG01.out
         have := HX12.out
         rw [← List.append_assoc, List.length_append]
         show _ + (t.extract j (x1)).size ≤ _
         omega
        have l0 : decide ((x1 : Int) ≤ (t.size : Int)) = false := decide_eq_false (by omega)
        have l1 : decide (x1 ≤ t.size) = false := decide_eq_false hlt
        have HFIN : Aside0 (BS w b (accB P.ks.length pc i ++ (pc i).data.toList) wq) := ⟨by
         rw [HOUT.out, ← HW4.out.1]
         have e : slL t.data.toList n d j = [] := by
          cases d with
          | zero => rfl
          | succ d => rw [slL, ← hx1, if_neg (show ¬ x1 ≤ t.data.toList.length from hlt)]
         rw [e, List.append_nil]
         exact HS4.out⟩
        clear hx1 hx2
        clear hlt
        go_wp2_with fail
        refine Met.intro ?_
        exact hK3 _ _ ⟨⟨⟨⟨rfl, rfl⟩, rfl, rfl, rfl, rfl, rfl, rfl, rfl⟩, rfl⟩, HFIN.out⟩
       have y0 : decide ((0 : Int) < (n : Int)) = true := decide_eq_true (by omega)
       have y1 : decide ((n : Int) < (t.size : Int)) = false := decide_eq_false (by omega)
       have y2 : decide (0 < n) = true := decide_eq_true g0
       have y3 : decide (n < t.size) = false := decide_eq_false g1
       rw [inX, if_neg (fun h => g1 h.2)] at hout
       have HOUT := Aside0.mk hout
       clear g0 g1 hout
       go_wp2_with fail
       refine (BS.ws HS.out t (by have := HLEN.out; have := HTZ.out; omega)).mono ?_
       rintro e w2 ⟨rfl, h2⟩
       go_wp2_with fail
       refine Met.intro ?_
       exact hK3 _ _ ⟨⟨⟨⟨rfl, rfl⟩, rfl, rfl, rfl, rfl, rfl, rfl, rfl⟩, rfl⟩, by rw [HOUT.out]; exact h2⟩
      have y0 : decide ((0 : Int) < (n : Int)) = false := decide_eq_false (by omega)
      have y2 : decide (0 < n) = false := decide_eq_false g0
      rw [inX, if_neg (fun h => g0 h.1)] at hout
      have HOUT := Aside0.mk hout
      clear g0 hout
      go_wp2_with fail
      refine (BS.ws HS.out t (by have := HLEN.out; have := HTZ.out; omega)).mono ?_
      rintro e w2 ⟨rfl, h2⟩
      go_wp2_with fail
      refine Met.intro ?_
      exact hK3 _ _ ⟨⟨⟨⟨rfl, rfl⟩, rfl, rfl, rfl, rfl, rfl, rfl, rfl⟩, rfl⟩, by rw [HOUT.out]; exact h2⟩
     ·
      by_cases g0 : 0 < n
      ·
       by_cases g1 : n < t.size
       ·
        have y0 : decide ((0 : Int) < (n : Int)) = true := decide_eq_true (by omega)
        have y1 : decide ((n : Int) < (t.size : Int)) = true := decide_eq_true (by omega)
        have y2 : decide (0 < n) = true := decide_eq_true g0
        have y3 : decide (n < t.size) = true := decide_eq_true g1
        rw [inX, if_pos ⟨g0, g1⟩] at hout
        have HG01 := Aside0.mk (And.intro g0 g1)
        have r0 : (0 : Int) ≤ (n : Int) := by omega
        have r1 : (n : Int) ≤ (t.size : Int) := by omega
        clear g0 g1
        have HOUT : Aside0 ((pc i).data.toList = (if 0 < t.size % n then t.data.toList.take (t.size % n) ++ [46] else []) ++ srL t.data.toList n (t.size + 1) (t.size % n)) := ⟨hout⟩
        clear hout
        obtain ⟨rm, hrm⟩ : ∃ rm, t.size % n = rm := ⟨_, rfl⟩
        rw [hrm] at HOUT
        have HRM : Aside0 (rm < n) := ⟨by rw [← hrm]; exact Nat.mod_lt _ HG01.out.1⟩
        have z0 : Int.tmod (t.size : Int) (n : Int) = (rm : Int) := by rw [Int.tmod_eq_emod_of_nonneg (by omega), ← hrm]; omega
        have z1 : IntKind.i64.wrap (rm : Int) = (rm : Int) := by rw [IntKind.wrap_i64]; have := HN99.out; have := HRM.out; omega
        have z2 : ((n : Int) == 0) = false := by rw [beq_eq_false_iff_ne]; have := HG01.out; omega
        have z3 : ¬ (n : Int) = 0 := by have := HG01.out; omega
        have z4 : ¬ n = 0 := by have := HG01.out; omega
        have z5 : decide ((n : Int) = 0) = false := decide_eq_false z3
        clear hrm
        go_upto_if 386 with (fail)
        refine wp_cut (fun a' w' => (LpA m b P.ks.length (some ak) ck (.slice (some ⟨g, 0, none⟩) toks.length c) i a' ∧ Sl a' 7 = some (.int .i64 (i : Int)) ∧ Sl a' 23 = some (.string t) ∧ Sl a' 24 = some (.int .i64 (t.size : Int)) ∧ Sl a' 25 = some (.int .i64 (n : Int)) ∧ Sl a' 26 = some (.int .i64 (rm : Int))) ∧ BS w b (accB P.ks.length pc i ++ (if 0 < rm then t.data.toList.take rm ++ [46] else [])) w') ?rest4 ?first4
        case first4 =>
         intro K5 Q5 hK5 hQ5
         by_cases hr0 : 0 < rm
         ·
          have d0 : decide ((0 : Int) < (rm : Int)) = true := decide_eq_true (by omega)
          have d1 : decide (0 < rm) = true := decide_eq_true hr0
          have d2 : (0 : Int) ≤ (rm : Int) := by omega
          have d3 : (rm : Int) ≤ (t.size : Int) := by have := HRM.out; have := HG01.out; omega
          have HE1 : Aside0 ((t.extract 0 rm).size ≤ 1000) := ⟨by have := HTZ.out; rw [ByteArray.size_extract]; omega⟩
          have HPR : Aside0 ((if 0 < rm then t.data.toList.take rm ++ [46] else []) = (t.extract 0 rm).data.toList ++ [46]) := ⟨by rw [if_pos hr0, ext_bytes, List.drop_zero]⟩
          go_wp2_with fail
          refine (BS.ws HS.out (t.extract 0 rm) (by have := HLEN.out; have := HE1.out; omega)).mono ?_
          rintro e w2 ⟨rfl, h2⟩
          have H2 := Aside0.mk h2
          clear h2
          go_wp2_with fail
          refine (BS.ws H2.out ⟨#[46]⟩ (by have := HLEN.out; have := HE1.out; have hq : (⟨#[46]⟩ : ByteArray).size = 1 := rfl; rw [List.length_append, hq]; show _ + (t.extract 0 rm).size + 1 ≤ _; omega)).mono ?_
          rintro e w3 ⟨rfl, h3⟩
          go_wp2_with fail
          refine Met.intro ?_
          exact hK5 _ _ ⟨⟨⟨⟨rfl, rfl⟩, rfl, rfl, rfl, rfl, rfl, rfl, rfl⟩, rfl, rfl, rfl, rfl, rfl⟩, by rw [HPR.out, ← List.append_assoc]; exact h3⟩
         have d0 : decide ((0 : Int) < (rm : Int)) = false := decide_eq_false (by omega)
         have d1 : decide (0 < rm) = false := decide_eq_false hr0
         have HPR : Aside0 ((if 0 < rm then t.data.toList.take rm ++ [46] else []) = []) := ⟨if_neg hr0⟩
         go_wp2_with fail
         refine Met.intro ?_
         exact hK5 _ _ ⟨⟨⟨⟨rfl, rfl⟩, rfl, rfl, rfl, rfl, rfl, rfl, rfl⟩, rfl, rfl, rfl, rfl, rfl⟩, by rw [HPR.out, List.append_nil]; exact HS.out⟩
        case rest4 =>
         clear z0 z1 z2 z3 z4 z5
         rintro a3 w3 ⟨⟨hA, h7, z23, z24, z25, z26⟩, hbs⟩
         have HS3 := Aside0.mk hbs
         clear hbs
         obtain ⟨f3, hf, rfl⟩ := hA.fm.lay
         have e0 := hf 0 _ hA.s0
         have e1 := hf 1 _ hA.s1
         have e5 := hf 5 _ hA.s5
         have e6 := hf 6 _ hA.s6
         have e59 := hf 59 _ hA.s59
         have e60 := hf 60 _ hA.s60
         have e61 := hf 61 _ hA.s61
         have e7 := hf 7 _ h7
         have e23 := hf 23 _ z23
         have e24 := hf 24 _ z24
         have e25 := hf 25 _ z25
         have e26 := hf 26 _ z26
         rw [e0, e1, e5, e6, e59, e60, e61, e7, e23, e24, e25, e26]
         clear e0 e1 e5 e6 e59 e60 e61 e7 e23 e24 e25 e26 hA hf h7 z23 z24 z25 z26
         have HPL : Aside0 ((if 0 < rm then t.data.toList.take rm ++ [46] else ([] : List UInt8)).length ≤ 2 * rm) := ⟨by
          split
          ·
           rw [List.length_append, List.length_take]; simp; omega
          simp⟩
         obtain ⟨pre, hpre⟩ : ∃ pre, (if 0 < rm then t.data.toList.take rm ++ [46] else ([] : List UInt8)) = pre := ⟨_, rfl⟩
         rw [hpre] at HOUT HS3 HPL
         clear hpre
         go_upto_block 8 with (fail)
         go_step
         refine wp_loop_ghost_k (fun k a' w' => ∃ (j d : Nat) (Wd : List UInt8), (k + j = t.size + 1 ∧ t.size < d + j) ∧ Wd ++ srL t.data.toList n d j = pre ++ srL t.data.toList n (t.size + 1) rm ∧ Wd.length ≤ 2 * j ∧ (LpA m b P.ks.length (some ak) ck (.slice (some ⟨g, 0, none⟩) toks.length c) i a' ∧ Sl a' 7 = some (.int .i64 (i : Int)) ∧ Sl a' 23 = some (.string t) ∧ Sl a' 24 = some (.int .i64 (t.size : Int)) ∧ Sl a' 25 = some (.int .i64 (n : Int)) ∧ Sl a' 27 = some (.int .i64 (j : Int))) ∧ BS w b (accB P.ks.length pc i ++ Wd) w') (t.size + 1 - rm) ?_ ?_
         ·
          exact ⟨rm, t.size + 1, pre, by have := HRM.out; have := HG01.out; omega, rfl, HPL.out, ⟨⟨⟨rfl, rfl⟩, rfl, rfl, rfl, rfl, rfl, rfl, rfl⟩, rfl, rfl, rfl, rfl, rfl⟩, HS3.out⟩
         rintro gk a wq ⟨j, d, Wd, hi, hW, hWl, ⟨hA, h7, z23, z24, z25, z27⟩, hbs⟩ J4 K4 hJ4 hK4
         have HI4 := Aside0.mk hi
         have HW4 := Aside0.mk (And.intro hW hWl)
         have HS4 := Aside0.mk hbs
         obtain ⟨f4, hf, rfl⟩ := hA.fm.lay
         have e0 := hf 0 _ hA.s0
         have e1 := hf 1 _ hA.s1
         have e5 := hf 5 _ hA.s5
         have e6 := hf 6 _ hA.s6
         have e59 := hf 59 _ hA.s59
         have e60 := hf 60 _ hA.s60
         have e61 := hf 61 _ hA.s61
         have e7 := hf 7 _ h7
         have e23 := hf 23 _ z23
         have e24 := hf 24 _ z24
         have e25 := hf 25 _ z25
         have e27 := hf 27 _ z27
         rw [e0, e1, e5, e6, e59, e60, e61, e7, e23, e24, e25, e27]
         clear e0 e1 e5 e6 e59 e60 e61 e7 e23 e24 e25 e27 hA hf h7 z23 z24 z25 z27
         clear hi hW hWl hbs
         have j0 : (0 : Int) ≤ (j : Int) := by omega
         obtain ⟨x1, hx1⟩ : ∃ x1, x1 = j + n := ⟨_, rfl⟩
         have wz : IntKind.i64.wrap ((j : Int) + (n : Int)) = (x1 : Int) := by rw [IntKind.wrap_i64]; have := HI4.out; have := HN99.out; have := HTZ.out; omega
         have HX1 := Aside0.mk hx1
         by_cases hlt : x1 ≤ t.size
         ·
          have l0 : decide ((x1 : Int) ≤ (t.size : Int)) = true := decide_eq_true (by omega)
          have l1 : decide (x1 ≤ t.size) = true := decide_eq_true hlt
          have l2 : (j : Int) ≤ (x1 : Int) := by omega
          have l3 : (x1 : Int) ≤ (t.size : Int) := by omega
          obtain ⟨d', hd⟩ : ∃ d', d = d' + 1 := ⟨d - 1, by have := HI4.out; omega⟩
          subst hd
          have HCH : Aside0 (srL t.data.toList n (d' + 1) j = ((t.extract j x1).data.toList ++ (if x1 < t.size then [46] else [])) ++ srL t.data.toList n d' x1) := ⟨by
           rw [srL, ← hx1, if_pos (show x1 ≤ t.data.toList.length from hlt), ext_bytes]
           rfl⟩
          have HXS : Aside0 ((t.extract j x1).size = n) := ⟨by rw [ByteArray.size_extract]; omega⟩
          have HLJ := Aside0.mk hlt
          clear hlt hx1
          go_wp2_with fail
          refine (BS.ws HS4.out (t.extract j x1) (by have := HLEN.out; have := HTZ.out; have := HW4.out.2; have := HI4.out; have := HXS.out; have := HN99.out; rw [List.length_append]; omega)).mono ?_
          rintro e w3 ⟨rfl, h3⟩
          have H3 := Aside0.mk h3
          clear h3
          by_cases hb1 : x1 < t.size
          ·
           have m0 : decide ((x1 : Int) < (t.size : Int)) = true := decide_eq_true (by omega)
           have m1 : decide (x1 < t.size) = true := decide_eq_true hb1
           have HC2 : Aside0 (srL t.data.toList n (d' + 1) j = ((t.extract j x1).data.toList ++ [46]) ++ srL t.data.toList n d' x1) := ⟨by rw [HCH.out, if_pos hb1]⟩
           clear hb1
           go_wp2_with fail
           refine (BS.ws H3.out ⟨#[46]⟩ (by have := HLEN.out; have := HTZ.out; have := HW4.out.2; have := HI4.out; have := HXS.out; have := HN99.out; have hq : (⟨#[46]⟩ : ByteArray).size = 1 := rfl; rw [List.length_append, List.length_append, hq]; show _ + _ + (t.extract j x1).size + 1 ≤ _; omega)).mono ?_
           rintro e w4 ⟨rfl, h4⟩
           have H4 := Aside0.mk h4
           clear h4
           go_wp2_with fail
           refine Handed.intro (gk - n) (by have := HI4.out; have := HG01.out; have := HLJ.out; have := HX1.out; omega) (hJ4 (gk - n) _ _ ⟨x1, d', Wd ++ ((t.extract j x1).data.toList ++ [46]), by have := HI4.out; have := HG01.out; have := HLJ.out; have := HX1.out; omega, ?_, ?_, ⟨⟨⟨rfl, rfl⟩, rfl, rfl, rfl, rfl, rfl, rfl, rfl⟩, rfl, rfl, rfl, rfl, rfl⟩, by rw [← List.append_assoc, ← List.append_assoc]; exact H4.out⟩)
           ·
            rw [List.append_assoc, ← HC2.out]
            exact HW4.out.1
           have := HW4.out.2
           have := HXS.out
           have := HG01.out
           have := HX1.out
           rw [List.length_append, List.length_append]
           show _ + ((t.extract j x1).size + 1) ≤ _
           omega
          have m0 : decide ((x1 : Int) < (t.size : Int)) = false := decide_eq_false (by omega)
          have m1 : decide (x1 < t.size) = false := decide_eq_false hb1
          have HC2 : Aside0 (srL t.data.toList n (d' + 1) j = (t.extract j x1).data.toList ++ srL t.data.toList n d' x1) := ⟨by rw [HCH.out, if_neg hb1, List.append_nil]⟩
          clear hb1
          go_wp2_with fail
          refine Handed.intro (gk - n) (by have := HI4.out; have := HG01.out; have := HLJ.out; have := HX1.out; omega) (hJ4 (gk - n) _ _ ⟨x1, d', Wd ++ (t.extract j x1).data.toList, by have := HI4.out; have := HG01.out; have := HLJ.out; have := HX1.out; omega, ?_, ?_, ⟨⟨⟨rfl, rfl⟩, rfl, rfl, rfl, rfl, rfl, rfl, rfl⟩, rfl, rfl, rfl, rfl, rfl⟩, by rw [← List.append_assoc]; exact H3.out⟩)
          ·
           rw [List.append_assoc, ← HC2.out]
           exact HW4.out.1
          have := HW4.out.2
          have := HXS.out
          have := HG01.out
          have := HX1.out
          rw [List.length_append]
          show _ + (t.extract j x1).size ≤ _
          omega
         have l0 : decide ((x1 : Int) ≤ (t.size : Int)) = false := decide_eq_false (by omega)
         have l1 : decide (x1 ≤ t.size) = false := decide_eq_false hlt
         have HFIN : Aside0 (BS w b (accB P.ks.length pc i ++ (pc i).data.toList) wq) := ⟨by
          rw [HOUT.out, ← HW4.out.1]
          have e : srL t.data.toList n d j = [] := by
           cases d with
           | zero => rfl
           | succ d => rw [srL, ← hx1, if_neg (show ¬ x1 ≤ t.data.toList.length from hlt)]
          rw [e, List.append_nil]
          exact HS4.out⟩
         clear hlt hx1
         go_wp2_with fail
         refine Met.intro ?_
         exact hK3 _ _ ⟨⟨⟨⟨rfl, rfl⟩, rfl, rfl, rfl, rfl, rfl, rfl, rfl⟩, rfl⟩, HFIN.out⟩
       have y0 : decide ((0 : Int) < (n : Int)) = true := decide_eq_true (by omega)
       have y1 : decide ((n : Int) < (t.size : Int)) = false := decide_eq_false (by omega)
       have y2 : decide (0 < n) = true := decide_eq_true g0
       have y3 : decide (n < t.size) = false := decide_eq_false g1
       rw [inX, if_neg (fun h => g1 h.2)] at hout
       have HOUT := Aside0.mk hout
       clear g0 g1 hout
       go_wp2_with fail
       refine (BS.ws HS.out t (by have := HLEN.out; have := HTZ.out; omega)).mono ?_
       rintro e w2 ⟨rfl, h2⟩
       go_wp2_with fail
       refine Met.intro ?_
       exact hK3 _ _ ⟨⟨⟨⟨rfl, rfl⟩, rfl, rfl, rfl, rfl, rfl, rfl, rfl⟩, rfl⟩, by rw [HOUT.out]; exact h2⟩
      have y0 : decide ((0 : Int) < (n : Int)) = false := decide_eq_false (by omega)
      have y2 : decide (0 < n) = false := decide_eq_false g0
      rw [inX, if_neg (fun h => g0 h.1)] at hout
      have HOUT := Aside0.mk hout
      clear g0 hout
      go_wp2_with fail
      refine (BS.ws HS.out t (by have := HLEN.out; have := HTZ.out; omega)).mono ?_
      rintro e w2 ⟨rfl, h2⟩
      go_wp2_with fail
      refine Met.intro ?_
      exact hK3 _ _ ⟨⟨⟨⟨rfl, rfl⟩, rfl, rfl, rfl, rfl, rfl, rfl, rfl⟩, rfl⟩, by rw [HOUT.out]; exact h2⟩
     ·
      by_cases g0 : 0 < n
      ·
       by_cases g1 : n < t.size
       ·
        have y0 : decide ((0 : Int) < (n : Int)) = true := decide_eq_true (by omega)
        have y1 : decide ((n : Int) < (t.size : Int)) = true := decide_eq_true (by omega)
        have y2 : decide (0 < n) = true := decide_eq_true g0
        have y3 : decide (n < t.size) = true := decide_eq_true g1
        rw [inX, if_pos ⟨g0, g1⟩] at hout
        have HG01 := Aside0.mk (And.intro g0 g1)
        have r0 : (0 : Int) ≤ (n : Int) := by omega
        have r1 : (n : Int) ≤ (t.size : Int) := by omega
        clear g0 g1
        have HOUT : Aside0 ((pc i).data.toList = (t.extract 0 n).data.toList) := ⟨by
         rw [hout, ext_bytes, p9, List.drop_zero]⟩
        clear hout
        have HE1 : Aside0 ((t.extract 0 n).size ≤ 1000) := ⟨by have := HTZ.out; rw [ByteArray.size_extract]; omega⟩
        have HE3 : Aside0 ((t.extract n t.size).size ≤ 1000) := ⟨by have := HTZ.out; rw [ByteArray.size_extract]; omega⟩
        go_wp2_with fail
        refine (BS.ws HS.out (t.extract 0 n) (by have := HLEN.out; have := HTZ.out; have := HE1.out; omega)).mono ?_
        rintro e w2 ⟨rfl, h2⟩
        go_wp2_with fail
        refine Met.intro ?_
        exact hK3 _ _ ⟨⟨⟨⟨rfl, rfl⟩, rfl, rfl, rfl, rfl, rfl, rfl, rfl⟩, rfl⟩, by rw [HOUT.out]; exact h2⟩
       have y0 : decide ((0 : Int) < (n : Int)) = true := decide_eq_true (by omega)
       have y1 : decide ((n : Int) < (t.size : Int)) = false := decide_eq_false (by omega)
       have y2 : decide (0 < n) = true := decide_eq_true g0
       have y3 : decide (n < t.size) = false := decide_eq_false g1
       rw [inX, if_neg (fun h => g1 h.2)] at hout
       have HOUT := Aside0.mk hout
       clear g0 g1 hout
       go_wp2_with fail
       refine (BS.ws HS.out t (by have := HLEN.out; have := HTZ.out; omega)).mono ?_
       rintro e w2 ⟨rfl, h2⟩
       go_wp2_with fail
       refine Met.intro ?_
       exact hK3 _ _ ⟨⟨⟨⟨rfl, rfl⟩, rfl, rfl, rfl, rfl, rfl, rfl, rfl⟩, rfl⟩, by rw [HOUT.out]; exact h2⟩
      have y0 : decide ((0 : Int) < (n : Int)) = false := decide_eq_false (by omega)
      have y2 : decide (0 < n) = false := decide_eq_false g0
      rw [inX, if_neg (fun h => g0 h.1)] at hout
      have HOUT := Aside0.mk hout
      clear g0 hout
      go_wp2_with fail
      refine (BS.ws HS.out t (by have := HLEN.out; have := HTZ.out; omega)).mono ?_
      rintro e w2 ⟨rfl, h2⟩
      go_wp2_with fail
      refine Met.intro ?_
      exact hK3 _ _ ⟨⟨⟨⟨rfl, rfl⟩, rfl, rfl, rfl, rfl, rfl, rfl, rfl⟩, rfl⟩, by rw [HOUT.out]; exact h2⟩
     ·
      by_cases g0 : 0 < n
      ·
       by_cases g1 : n < t.size
       ·
        have y0 : decide ((0 : Int) < (n : Int)) = true := decide_eq_true (by omega)
        have y1 : decide ((n : Int) < (t.size : Int)) = true := decide_eq_true (by omega)
        have y2 : decide (0 < n) = true := decide_eq_true g0
        have y3 : decide (n < t.size) = true := decide_eq_true g1
        rw [inX, if_pos ⟨g0, g1⟩] at hout
        have HG01 := Aside0.mk (And.intro g0 g1)
        have r0 : (0 : Int) ≤ (n : Int) := by omega
        have r1 : (n : Int) ≤ (t.size : Int) := by omega
        clear g0 g1
        have s1 : IntKind.i64.wrap ((t.size : Int) - (n : Int)) = ((t.size - n : Nat) : Int) := by rw [IntKind.wrap_i64]; have := HG01.out; have := HTZ.out; omega
        have s2 : (0 : Int) ≤ ((t.size - n : Nat) : Int) := by omega
        have s3 : ((t.size - n : Nat) : Int) ≤ (t.size : Int) := by omega
        have HOUT : Aside0 ((pc i).data.toList = (t.extract (t.size - n) t.size).data.toList) := ⟨by
         rw [hout, ext_bytes, p10, List.take_of_length_le (show t.data.toList.length ≤ t.size from Nat.le_refl _)]
         rfl⟩
        clear hout
        have HE1 : Aside0 ((t.extract (t.size - n) t.size).size ≤ 1000) := ⟨by have := HTZ.out; rw [ByteArray.size_extract]; omega⟩
        have HE3 : Aside0 ((t.extract n t.size).size ≤ 1000) := ⟨by have := HTZ.out; rw [ByteArray.size_extract]; omega⟩
        go_wp2_with fail
        refine (BS.ws HS.out (t.extract (t.size - n) t.size) (by have := HLEN.out; have := HTZ.out; have := HE1.out; omega)).mono ?_
        rintro e w2 ⟨rfl, h2⟩
        go_wp2_with fail
        refine Met.intro ?_
        exact hK3 _ _ ⟨⟨⟨⟨rfl, rfl⟩, rfl, rfl, rfl, rfl, rfl, rfl, rfl⟩, rfl⟩, by rw [HOUT.out]; exact h2⟩
       have y0 : decide ((0 : Int) < (n : Int)) = true := decide_eq_true (by omega)
       have y1 : decide ((n : Int) < (t.size : Int)) = false := decide_eq_false (by omega)
       have y2 : decide (0 < n) = true := decide_eq_true g0
       have y3 : decide (n < t.size) = false := decide_eq_false g1
       rw [inX, if_neg (fun h => g1 h.2)] at hout
       have HOUT := Aside0.mk hout
       clear g0 g1 hout
       go_wp2_with fail
       refine (BS.ws HS.out t (by have := HLEN.out; have := HTZ.out; omega)).mono ?_
       rintro e w2 ⟨rfl, h2⟩
       go_wp2_with fail
       refine Met.intro ?_
       exact hK3 _ _ ⟨⟨⟨⟨rfl, rfl⟩, rfl, rfl, rfl, rfl, rfl, rfl, rfl⟩, rfl⟩, by rw [HOUT.out]; exact h2⟩
      have y0 : decide ((0 : Int) < (n : Int)) = false := decide_eq_false (by omega)
      have y2 : decide (0 < n) = false := decide_eq_false g0
      rw [inX, if_neg (fun h => g0 h.1)] at hout
      have HOUT := Aside0.mk hout
      clear g0 hout
      go_wp2_with fail
      refine (BS.ws HS.out t (by have := HLEN.out; have := HTZ.out; omega)).mono ?_
      rintro e w2 ⟨rfl, h2⟩
      go_wp2_with fail
      refine Met.intro ?_
      exact hK3 _ _ ⟨⟨⟨⟨rfl, rfl⟩, rfl, rfl, rfl, rfl, rfl, rfl, rfl⟩, rfl⟩, by rw [HOUT.out]; exact h2⟩
     obtain ⟨kz, D, hzz, hDl, hDs, hpc⟩ := hout
     have HZZ := Aside0.mk hzz
     have HD := Aside0.mk (And.intro hDl hDs)
     have HOUT := Aside0.mk hpc
     clear hzz hDl hDs hpc
     go_wp2_with fail
     refine (server_zzSplit.calls kz t by_ (D.map ba) wr HZZ.out).mono ?_
     rintro e w2 ⟨vD, rfl, hR, hb2⟩
     obtain ⟨inner, ho⟩ := Kd.R_own hR
     obtain ⟨AD, cD, hvD, hlD, hCD⟩ := Kd.R_reads hR
     subst hvD
     obtain ⟨gD, curD, rfl, hgD⟩ : ∃ gD curD, AD = some ⟨gD, 0, none⟩ ∧ w2.heap[gD]? = some (.cells curD 9 (0, 0)) := by
      rcases ho.2 with ⟨h1, h0⟩ | ⟨gD, cap, cur, hv, _, hg, _⟩
      ·
       have := HD.out.1
       rw [List.length_map] at h0
       omega
      injection hv with hv _ _
      exact ⟨gD, cur, hv, hg⟩
     obtain ⟨ad2, hat2, hcd⟩ := (rg_C _ _ hCD).read (by have := HD.out.1; simp; omega)
     rw [List.length_map]
     injection hat2 with hat2
     subst hat2
     have HCL : Aside0 (∀ (j : Nat) (x : List UInt8) (wq : World), D[j]? = some x → wq.heap[gD]? = some (.cells curD 9 (0, 0)) → wq.cell? ⟨gD, j, none⟩ = some (.string (ba x))) := ⟨fun j x wq hx hw => by
      have h1 := hcd j (.string (ba x)) (by rw [List.getElem?_map, List.getElem?_map, hx]; rfl)
      rw [Bs.add_at] at h1
      exact (World.cell?_of_block (a := ⟨gD, j, none⟩) (hw.trans hgD.symm)).trans h1⟩
     have HS2 : Aside0 (BS w b (accB P.ks.length pc i ++ spB D 0) w2) := ⟨by rw [show spB D 0 = [] from rfl, List.append_nil]; exact HS.out.below hb2⟩
     have HG2 := Aside0.mk hgD
     clear hcd hCD ho hR hb2 hgD hlD
     go_upto_block 10 with (fail)
     go_step
     refine wp_loop_ghost_k (fun k a' w' => ∃ (j : Nat), (k + j = D.length) ∧ (LpA m b P.ks.length (some ak) ck (.slice (some ⟨g, 0, none⟩) toks.length c) i a' ∧ Sl a' 7 = some (.int .i64 (i : Int)) ∧ Sl a' 29 = some (.slice (some ⟨gD, 0, none⟩) D.length cD) ∧ Sl a' 439 = some (.slice (some ⟨gD, 0, none⟩) D.length cD) ∧ Sl a' 440 = some (.int .i64 (D.length : Int)) ∧ Sl a' 441 = some (.int .i64 (j : Int))) ∧ BS w b (accB P.ks.length pc i ++ spB D j) w' ∧ w'.heap[gD]? = some (.cells curD 9 (0, 0))) D.length ?_ ?_
     ·
      exact ⟨0, rfl, ⟨⟨⟨rfl, rfl⟩, rfl, rfl, rfl, rfl, rfl, rfl, rfl⟩, rfl, rfl, rfl, rfl, rfl⟩, HS2.out, HG2.out⟩
     clear HS2 HG2
     rintro gk a wq ⟨j, hi, ⟨hA, h7, z29, z439, z440, z441⟩, hbs, hgq⟩ J4 K4 hJ4 hK4
     have HI4 := Aside0.mk hi
     have HS4 := Aside0.mk hbs
     have HG4 := Aside0.mk hgq
     obtain ⟨f3, hf, rfl⟩ := hA.fm.lay
     have e0 := hf 0 _ hA.s0
     have e1 := hf 1 _ hA.s1
     have e5 := hf 5 _ hA.s5
     have e6 := hf 6 _ hA.s6
     have e59 := hf 59 _ hA.s59
     have e60 := hf 60 _ hA.s60
     have e61 := hf 61 _ hA.s61
     have e7 := hf 7 _ h7
     have e29 := hf 29 _ z29
     have e439 := hf 439 _ z439
     have e440 := hf 440 _ z440
     have e441 := hf 441 _ z441
     rw [e0, e1, e5, e6, e59, e60, e61, e7, e29, e439, e440, e441]
     clear e0 e1 e5 e6 e59 e60 e61 e7 e29 e439 e440 e441 hA hf h7 z29 z439 z440 z441
     clear hbs hgq
     by_cases hlt : j < D.length
     ·
      have j0 : (0 : Int) ≤ (j : Int) := by omega
      have j1 : (j : Int) < (D.length : Int) := by omega
      have j2 : decide ((j : Int) < (D.length : Int)) = true := decide_eq_true j1
      have j3 : decide (j < D.length) = true := decide_eq_true hlt
      have wj : IntKind.i64.wrap ((j : Int) + 1) = ((j + 1 : Nat) : Int) := by rw [IntKind.wrap_i64]; have := HD.out.1; omega
      obtain ⟨x, hx⟩ : ∃ x, D[j]? = some x := ⟨_, List.getElem?_eq_getElem hlt⟩
      have vx := HCL.out j x wq hx HG4.out
      have hxd : D.getD j [] = x := by rw [List.getD_eq_getElem?_getD, hx]; rfl
      have HXD := Aside0.mk hxd
      have HLT5 := Aside0.mk hlt
      have HXS : Aside0 (x.length ≤ 1000) := ⟨HD.out.2 x (List.mem_of_getElem? hx)⟩
      have HXB : Aside0 ((accB P.ks.length pc i ++ (spB D j ++ x)).length + 2000 ≤ 140737488355328) := ⟨by
       have := HLEN.out
       have h1 := spB_len D HD.out.2 j
       have := HD.out.1
       have := HXS.out
       rw [List.length_append, List.length_append]
       omega⟩
      obtain ⟨bx, hbx⟩ : ∃ bx, ((ba x).toList == ([] : List UInt8)) = bx := ⟨_, rfl⟩
      have HBX : Aside0 (bx = decide (x = [])) := ⟨by
       rw [← hbx, ba_toList]
       by_cases h : x = []
       ·
        rw [h]; rfl
       rw [decide_eq_false h, beq_eq_false_iff_ne]; exact h⟩
      clear hi hlt hx hxd
      go_upto_if 447 with (fail)
      refine wp_cut (fun a' w' => (LpA m b P.ks.length (some ak) ck (.slice (some ⟨g, 0, none⟩) toks.length c) i a' ∧ Sl a' 7 = some (.int .i64 (i : Int)) ∧ Sl a' 29 = some (.slice (some ⟨gD, 0, none⟩) D.length cD) ∧ Sl a' 439 = some (.slice (some ⟨gD, 0, none⟩) D.length cD) ∧ Sl a' 440 = some (.int .i64 (D.length : Int)) ∧ Sl a' 441 = some (.int .i64 (j : Int)) ∧ Sl a' 30 = some (.int .i64 (j : Int)) ∧ Sl a' 31 = some (.string (ba x))) ∧ BS w b (accB P.ks.length pc i ++ (spB D j ++ x)) w' ∧ w'.heap[gD]? = some (.cells curD 9 (0, 0))) ?rest5 ?first5
      case first5 =>
       intro K5 Q5 hK5 hQ5
       by_cases hx0 : x = []
       ·
        subst hx0
        have e0 : bx = true := by rw [HBX.out]; rfl
        clear hbx
        subst e0
        go_wp2_with fail
        refine Met.intro ?_
        exact hK5 _ _ ⟨⟨⟨⟨rfl, rfl⟩, rfl, rfl, rfl, rfl, rfl, rfl, rfl⟩, rfl, rfl, rfl, rfl, rfl, rfl, rfl⟩, by rw [List.append_nil]; exact HS4.out, HG4.out⟩
       have e0 : bx = false := by rw [HBX.out, decide_eq_false hx0]
       clear hx0 hbx
       subst e0
       go_wp2_with fail
       refine (BS.ws3 HS4.out (ba x) (by have := HXB.out; have hq : (ba x).size = x.length := rfl; rw [hq]; rw [List.length_append, List.length_append] at this; rw [List.length_append]; omega) HG4.out).mono ?_
       rintro e w5 ⟨rfl, h5, hg5⟩
       go_wp2_with fail
       refine Met.intro ?_
       exact hK5 _ _ ⟨⟨⟨⟨rfl, rfl⟩, rfl, rfl, rfl, rfl, rfl, rfl, rfl⟩, rfl, rfl, rfl, rfl, rfl, rfl, rfl⟩, by rw [← List.append_assoc]; exact h5, hg5⟩
      case rest5 =>
       clear vx hbx
       rintro a5 w5 ⟨⟨hA, h7, z29, z439, z440, z441, z30, z31⟩, hbs, hgq⟩
       have HS5 := Aside0.mk hbs
       have HG5 := Aside0.mk hgq
       obtain ⟨f5, hf, rfl⟩ := hA.fm.lay
       have e0 := hf 0 _ hA.s0
       have e1 := hf 1 _ hA.s1
       have e5 := hf 5 _ hA.s5
       have e6 := hf 6 _ hA.s6
       have e59 := hf 59 _ hA.s59
       have e60 := hf 60 _ hA.s60
       have e61 := hf 61 _ hA.s61
       have e7 := hf 7 _ h7
       have e29 := hf 29 _ z29
       have e439 := hf 439 _ z439
       have e440 := hf 440 _ z440
       have e441 := hf 441 _ z441
       have e30 := hf 30 _ z30
       have e31 := hf 31 _ z31
       rw [e0, e1, e5, e6, e59, e60, e61, e7, e29, e439, e440, e441, e30, e31]
       clear e0 e1 e5 e6 e59 e60 e61 e7 e29 e439 e440 e441 e30 e31 hA hf h7 z29 z439 z440 z441 z30 z31
       clear hbs hgq
       have w1 : IntKind.i64.wrap ((D.length : Int) - 1) = ((D.length - 1 : Nat) : Int) := by rw [IntKind.wrap_i64]; have := HD.out.1; omega
       have hxd := HXD.out
       by_cases ha : j + 1 < D.length
       ·
        have a0 : decide ((j : Int) < ((D.length - 1 : Nat) : Int)) = true := decide_eq_true (by omega)
        have a1 : decide (j < D.length - 1) = true := decide_eq_true (by omega)
        have a2 : ((j + 1 : Nat) : Int) < (D.length : Int) := by omega
        have a3 : (0 : Int) ≤ ((j + 1 : Nat) : Int) := by omega
        obtain ⟨y, hy⟩ : ∃ y, D[j + 1]? = some y := ⟨_, List.getElem?_eq_getElem ha⟩
        have vy2 := HCL.out (j + 1) y w5 hy HG5.out
        have hyd : D.getD (j + 1) [] = y := by rw [List.getD_eq_getElem?_getD, hy]; rfl
        clear hy
        by_cases hy0 : y = []
        ·
         subst hy0
         have e1 : ((ba []).toList == ([] : List UInt8)) = true := by rw [ba_toList]; rfl
         have HN : Aside0 (spB D (j + 1) = spB D j ++ x) := ⟨by rw [spB, hxd, if_neg (fun h => h.2.1 hyd), List.append_nil]⟩
         clear hxd
         try clear hx0
         try clear hj0
         go_wp2_with fail
         refine Handed.intro (D.length - (j + 1)) (by have := HI4.out; have := HLT5.out; omega) (hJ4 (D.length - (j + 1)) _ _ ⟨j + 1, by have := HLT5.out; omega, ⟨⟨⟨rfl, rfl⟩, rfl, rfl, rfl, rfl, rfl, rfl, rfl⟩, rfl, rfl, rfl, rfl, rfl⟩, by rw [HN.out]; exact HS5.out, HG5.out⟩)
        have e1 : ((ba y).toList == ([] : List UInt8)) = false := by rw [ba_toList, beq_eq_false_iff_ne]; exact hy0
        by_cases hj0 : j = 0
        ·
         have e3 : ((j : Int) == 0) = true := by rw [beq_iff_eq]; omega
         by_cases hx0 : x = []
         ·
          have e2 : ((ba x).toList == ([] : List UInt8)) = true := by rw [hx0, ba_toList]; rfl
          have HN : Aside0 (spB D (j + 1) = spB D j ++ x) := ⟨by rw [spB, hxd, if_neg (fun h => h.2.2 ⟨hj0, hx0⟩), List.append_nil]⟩
          clear hxd
          try clear hx0
          try clear hj0
          go_wp2_with fail
          refine Handed.intro (D.length - (j + 1)) (by have := HI4.out; have := HLT5.out; omega) (hJ4 (D.length - (j + 1)) _ _ ⟨j + 1, by have := HLT5.out; omega, ⟨⟨⟨rfl, rfl⟩, rfl, rfl, rfl, rfl, rfl, rfl, rfl⟩, rfl, rfl, rfl, rfl, rfl⟩, by rw [HN.out]; exact HS5.out, HG5.out⟩)
         have e2 : ((ba x).toList == ([] : List UInt8)) = false := by rw [ba_toList, beq_eq_false_iff_ne]; exact hx0
         have HN : Aside0 (spB D (j + 1) = spB D j ++ x ++ [46]) := ⟨by rw [spB, hxd, if_pos ⟨ha, (fun e => hy0 (hyd.symm.trans e)), fun h => hx0 h.2⟩, List.append_assoc]⟩
         clear hxd
         try clear hx0
         try clear hj0
         go_wp2_with fail
         refine (BS.ws3 HS5.out ⟨#[46]⟩ (by have := HXB.out; have hq : (⟨#[46]⟩ : ByteArray).size = 1 := rfl; rw [hq]; omega) HG5.out).mono ?_
         rintro e w6 ⟨rfl, h6, hg6⟩
         have H6 := Aside0.mk (And.intro h6 hg6)
         clear h6 hg6
         go_wp2_with fail
         refine Handed.intro (D.length - (j + 1)) (by have := HI4.out; have := HLT5.out; omega) (hJ4 (D.length - (j + 1)) _ _ ⟨j + 1, by have := HLT5.out; omega, ⟨⟨⟨rfl, rfl⟩, rfl, rfl, rfl, rfl, rfl, rfl, rfl⟩, rfl, rfl, rfl, rfl, rfl⟩, by rw [HN.out]; have := H6.out.1; rw [List.append_assoc] at this; exact this, H6.out.2⟩)
        have e2 : ((j : Int) == 0) = false := by rw [beq_eq_false_iff_ne]; omega
        have HN : Aside0 (spB D (j + 1) = spB D j ++ x ++ [46]) := ⟨by rw [spB, hxd, if_pos ⟨ha, (fun e => hy0 (hyd.symm.trans e)), fun h => hj0 h.1⟩, List.append_assoc]⟩
        clear hxd
        try clear hx0
        try clear hj0
        go_wp2_with fail
        refine (BS.ws3 HS5.out ⟨#[46]⟩ (by have := HXB.out; have hq : (⟨#[46]⟩ : ByteArray).size = 1 := rfl; rw [hq]; omega) HG5.out).mono ?_
        rintro e w6 ⟨rfl, h6, hg6⟩
        have H6 := Aside0.mk (And.intro h6 hg6)
        clear h6 hg6
        go_wp2_with fail
        refine Handed.intro (D.length - (j + 1)) (by have := HI4.out; have := HLT5.out; omega) (hJ4 (D.length - (j + 1)) _ _ ⟨j + 1, by have := HLT5.out; omega, ⟨⟨⟨rfl, rfl⟩, rfl, rfl, rfl, rfl, rfl, rfl, rfl⟩, rfl, rfl, rfl, rfl, rfl⟩, by rw [HN.out]; have := H6.out.1; rw [List.append_assoc] at this; exact this, H6.out.2⟩)
       have a0 : decide ((j : Int) < ((D.length - 1 : Nat) : Int)) = false := decide_eq_false (by omega)
       have a1 : decide (j < D.length - 1) = false := decide_eq_false (by omega)
       have HN : Aside0 (spB D (j + 1) = spB D j ++ x) := ⟨by rw [spB, hxd, if_neg (fun h => ha h.1), List.append_nil]⟩
       clear hxd
       try clear hx0
       try clear hj0
       go_wp2_with fail
       refine Handed.intro (D.length - (j + 1)) (by have := HI4.out; have := HLT5.out; omega) (hJ4 (D.length - (j + 1)) _ _ ⟨j + 1, by have := HLT5.out; omega, ⟨⟨⟨rfl, rfl⟩, rfl, rfl, rfl, rfl, rfl, rfl, rfl⟩, rfl, rfl, rfl, rfl, rfl⟩, by rw [HN.out]; exact HS5.out, HG5.out⟩)
     have hje : j = D.length := by omega
     subst hje
     have j2 : decide ((D.length : Int) < (D.length : Int)) = false := decide_eq_false (by omega)
     have j3 : decide (D.length < D.length) = false := decide_eq_false (by omega)
     have HFIN : Aside0 (BS w b (accB P.ks.length pc i ++ (pc i).data.toList) wq) := ⟨by rw [HOUT.out]; exact HS4.out⟩
     clear hlt hi
     go_wp2_with fail
     refine Met.intro ?_
     exact hK3 _ _ ⟨⟨⟨⟨rfl, rfl⟩, rfl, rfl, rfl, rfl, rfl, rfl, rfl⟩, rfl⟩, HFIN.out⟩
    obtain ⟨qs, n, hX⟩ := hpart
    obtain rfl : kv = 2 := Option.some.inj (HKV.out.symm.trans hX.ks)
    have HX := Aside0.mk hX
    obtain ⟨ap, rfl, hcp⟩ := HP.out.2.2 (by have := HLT.out; rw [HG.out.ps]; omega)
    obtain ⟨cs1, -, ⟨A1, c1, rfl, hl1, hC1⟩, hcell⟩ := hcp i _ hX.ps
    have hs1 : (Kd.slice 3 (Kd.int .i64)).sz = 1 := rfl
    have hvp := hcell 0 _ rfl
    rw [hs1, Nat.add_zero, Nat.mul_one, List.length_map] at hvp
    have HVP := Aside0.mk hvp
    obtain ⟨a1, rfl, -⟩ := (rg_C _ _ hC1).read (by have := hX.qs0; simp; omega)
    have HR1 : Aside0 (ReadG w (some a1) qs.length 1 ((qs.map fun q : Nat => (q : Int)).map (.int .i64))) := ⟨by have := rg_C _ _ hC1; rw [List.length_map] at this; exact this⟩
    obtain ⟨an, rfl, hrn⟩ := HNS.out.read (by have := HLT.out; have := HG.out.ns; simp; omega)
    have HVN : Aside0 (w.cell? (an.add i) = some (.int .i32 (n : Int))) := ⟨hrn i (.int .i32 (n : Int)) (by rw [List.getElem?_map, hX.ns]; rfl)⟩
    have i7 : (i : Int) < (P.ns.length : Int) := by rw [HG.out.ns]; exact i1
    have HN99 : Aside0 (1 ≤ n ∧ n ≤ 99) := ⟨hX.n99⟩
    have HQ0 : Aside0 (1 ≤ qs.length ∧ qs.length ≤ 5) := ⟨hX.qs0⟩
    have wn : IntKind.i64.wrap (n : Int) = (n : Int) := by rw [IntKind.wrap_i64]; have := HN99.out; omega
    have HOUT : Aside0 ((pc i).data.toList = numB (fnvB (keyQ toks qs) % n)) := ⟨hX.out⟩
    have htv := HTV.out
    subst htv
    have m0 : decide ((0 : Int) < (qs.length : Int)) = true := decide_eq_true (by have := HQ0.out; omega)
    have m1 : decide (0 < qs.length) = true := decide_eq_true (by have := HQ0.out; omega)
    obtain ⟨i5, hE5⟩ := ek76
    have HE := Aside0.mk hE5
    clear hE5 hs1 hvp hcell hC1 hl1 hrn hka hda HKEY hX hcp
    go_upto_region 13 with (fail)
    refine wp_region_lit ?_
    refine Wk.valueL_ (some 9) rfl rfl (w1 := wr.alloc (.cells (Array.replicate 64 (.int .u8 0)) 88)) (v := .pointer (some ⟨wr.heap.size, 0, none⟩)) (by kernel_rfl) ?_
    simp only [Act.put, List.setIfInBounds_toArray, List.set_cons_zero, List.set_cons_succ]
    have hA0 : AG S5 (wr.alloc (.cells (Array.replicate 64 (.int .u8 0)) 88)) wr.heap.size 1 (.slice (some ⟨wr.heap.size, 0, none⟩) 0 64) 0 [] ∧ Same wr (wr.alloc (.cells (Array.replicate 64 (.int .u8 0)) 88)) := ⟨AG.made (heap_alloc_new _ _) (.inl rfl) (Nat.le_refl _) (by simp) (by decide), (Fr.refl _ wr).alloc _⟩
    have hsh : (wr.alloc (.cells (Array.replicate 64 (.int .u8 0)) 88)).shape? wr.heap.size = some (88, 64) := Wk.shape_of (heap_alloc_new _ _) (by simp)
    clear b2 b5 b6 b7
    generalize wr.alloc (.cells (Array.replicate 64 (.int .u8 0)) 88) = w2 at hA0 hsh ⊢
    obtain ⟨P0, hP0⟩ : ∃ P0, P0 = wr.heap.size := ⟨_, rfl⟩
    rw [← hP0] at hA0 hsh ⊢
    have HP0 := Aside0.mk hP0
    have HA0 := Aside0.mk hA0
    clear hA0 hP0
    have HSW2 : Aside0 (Same w w2) := ⟨HS.out.2.trans HA0.out.2 (fun _ _ h => h)⟩
    have hbr := HB.out.fr HSW2.out (fun h => h)
    have b5 := hbr.cell 5 rfl
    clear hbr
    have vp := HSW2.out.cell HVP.out
    go_upto_block 3 with (fail)
    clear hsh b5 vp
    go_step
    refine wp_loop_ghost_k (fun k a' w' => ∃ (j : Nat) (v10 : Value), (k + j = qs.length) ∧ (LpA m b P.ks.length (some ak) ck (.slice (some ⟨g, 0, none⟩) toks.length c) i a' ∧ Sl a' 7 = some (.int .i64 (i : Int)) ∧ Sl a' 10 = some (v10) ∧ Sl a' 115 = some (.slice (some a1) qs.length c1) ∧ Sl a' 116 = some (.int .i64 (qs.length : Int)) ∧ Sl a' 117 = some (.int .i64 (j : Int))) ∧ AG S5 w' P0 1 v10 (keyQ toks (qs.take j)).length (Lib.byteCells (keyQ toks (qs.take j))) ∧ Same wr w') qs.length ?_ ?_
    ·
     exact ⟨0, _, by omega, ⟨⟨⟨rfl, rfl⟩, rfl, rfl, rfl, rfl, rfl, rfl, rfl⟩, rfl, rfl, rfl, rfl, rfl⟩, HA0.out.1, HA0.out.2⟩
    clear HA0 HSW2 m0 m1
    rintro gk a wq ⟨j, v10, hi, ⟨hA, h7, z10, z115, z116, z117⟩, hag, hsm⟩ J4 K4 hJ4 hK4
    have HI4 := Aside0.mk hi
    have HAG := Aside0.mk hag
    have HSM := Aside0.mk hsm
    have HSW : Aside0 (Same w wq) := ⟨HS.out.2.trans hsm (fun _ _ h => h)⟩
    obtain ⟨f4, hf, rfl⟩ := hA.fm.lay
    have e0 := hf 0 _ hA.s0
    have e1 := hf 1 _ hA.s1
    have e5 := hf 5 _ hA.s5
    have e6 := hf 6 _ hA.s6
    have e59 := hf 59 _ hA.s59
    have e60 := hf 60 _ hA.s60
    have e61 := hf 61 _ hA.s61
    have e7 := hf 7 _ h7
    have e10 := hf 10 _ z10
    have e115 := hf 115 _ z115
    have e116 := hf 116 _ z116
    have e117 := hf 117 _ z117
    rw [e0, e1, e5, e6, e59, e60, e61, e7, e10, e115, e116, e117]
    clear e0 e1 e5 e6 e59 e60 e61 e7 e10 e115 e116 e117 hA hf h7 z10 z115 z116 z117
    clear hsm hag
    obtain ⟨g10, cap, cur, T', rfl, -, -, hgb, -, -⟩ := HAG.out.block
    have HGB := Aside0.mk hgb
    clear hgb
    have HKL : Aside0 ((keyQ toks (qs.take j)).length ≤ 5000) := ⟨by have h1 := keyQ_len HG.out.lens.2.2 (qs.take j); have := HQ0.out; have h2 : (qs.take j).length ≤ qs.length := (by rw [List.length_take]; omega); omega⟩
    by_cases hlt : j < qs.length
    ·
     have j0 : (0 : Int) ≤ (j : Int) := by omega
     have j1 : (j : Int) < (qs.length : Int) := by omega
     have j2 : decide ((j : Int) < (qs.length : Int)) = true := decide_eq_true j1
     have j3 : decide (j < qs.length) = true := decide_eq_true hlt
     have wj : IntKind.i64.wrap ((j : Int) + 1) = ((j + 1 : Nat) : Int) := by rw [IntKind.wrap_i64]; have := HQ0.out; omega
     obtain ⟨q, hq⟩ : ∃ q, qs[j]? = some q := ⟨_, List.getElem?_eq_getElem hlt⟩
     obtain ⟨t, htq, ht1⟩ := HX.out.tok q (List.mem_of_getElem? hq)
     have HTZ : Aside0 (1 ≤ t.size ∧ t.size ≤ 1000) := ⟨ht1, HG.out.lens.2.2 t (List.mem_of_getElem? htq)⟩
     have HLQ : Aside0 (j < qs.length) := ⟨hlt⟩
     have HK1 : Aside0 (keyQ toks (qs.take (j + 1)) = keyQ toks (qs.take j) ++ t.data.toList) := ⟨keyQ_snoc hq htq⟩
     obtain ⟨a1', e1, hr1⟩ := (HR1.out.fr HSW.out (fun _ _ h => h)).read (by simp; omega)
     injection e1 with e1
     subst e1
     have v1 := hr1 j (.int .i64 (q : Int)) (by rw [List.getElem?_map, List.getElem?_map, hq]; rfl)
     have hlq := (List.getElem?_eq_some_iff.1 htq).1
     have q0 : (0 : Int) ≤ (q : Int) := by omega
     have q1 : (q : Int) < (toks.length : Int) := by omega
     obtain ⟨at_, hat, hrt⟩ := (HT.out.fr HSW.out (fun _ _ h => h)).read (by simp; omega)
     injection hat with hat
     subst hat
     have vt := hrt q (.string t) (by rw [List.getElem?_map, htq]; rfl)
     rw [Bs.add_at] at vt
     obtain ⟨A5, c5, w5, hrun, hC5, hc5, -, hb5⟩ := Wk.conv_bytes (P := Tryd.prog) (u := .string) (w := wq) (w0 := wq) (N := wq.heap.size) Tryd.underlying9 Tryd.underlying76 Tryd.underlying5 t (by have := HTZ.out; omega) (Nat.le_refl _) (Below.refl _ _)
     have hR5 : ReadG w5 A5 t.size 1 (Lib.byteCells t.data.toList) := by rw [← bytesOf_length t] at hC5; have := rg_C _ _ hC5; rw [bytes_cells, bytesOf_length] at this; exact this
     obtain ⟨a5, rfl, -⟩ := hR5.read (by rw [byte_len]; exact HTZ.out.1)
     have HR5 := Aside0.mk hR5
     have HB5 : Aside0 (Same wq w5) := ⟨fr_of_below hb5⟩
     have HPW : Aside0 (P0 ≤ w5.heap.size) := ⟨by rw [HP0.out]; exact Nat.le_trans HSM.out.size HB5.out.size⟩
     obtain ⟨KQ, hKQ⟩ : ∃ KQ, KQ = keyQ toks (qs.take j) := ⟨_, rfl⟩
     rw [← hKQ] at HAG HKL HK1
     rw [← hKQ]
     have HA5 : Aside0 (AG S5 w5 P0 1 (.slice (some ⟨g10, 0, none⟩) KQ.length cap) KQ.length (Lib.byteCells KQ)) := ⟨HAG.out.fr HB5.out (fun _ _ h => h)⟩
     clear hi hlt hq htq ht1 hr1 hlq hrt hC5 hc5 hb5 hR5 hKQ
     go_wp2_with (first | (at_builtin; refine AG.append HE.out rfl (.tmp 121) (.tmp 126) rfl (.inr rfl) (v := .slice (some ⟨g10, 0, none⟩) KQ.length cap) rfl HA5.out HPW.out rfl HR5.out (by have := HTZ.out; omega) (by have := HTZ.out; have := HKL.out; omega) ?_; intro v' w6 hp6; have HP6 := Aside0.mk hp6; clear hp6) | fail)
     have HS6 : Aside0 (Same wr w6) := ⟨Same.then (HSM.out.trans HB5.out (fun _ _ h => h)) HP6.out.fr (fun k hk e => by
      have : g10 = k := by simpa [Value.ownBlock] using e
      have := HGB.out
      have := HP0.out
      omega)⟩
     refine Handed.intro (qs.length - (j + 1)) (by have := HI4.out; have := HLQ.out; omega) (hJ4 (qs.length - (j + 1)) _ _ ⟨j + 1, v', by have := HLQ.out; omega, ⟨⟨⟨rfl, rfl⟩, rfl, rfl, rfl, rfl, rfl, rfl, rfl⟩, rfl, rfl, rfl, rfl, rfl⟩, ?_, HS6.out⟩)
     rw [HK1.out, ← byte_app, List.length_append]
     exact HP6.out.row
    have hje : j = qs.length := by omega
    subst hje
    have j2 : decide ((qs.length : Int) < (qs.length : Int)) = false := decide_eq_false (by omega)
    have j3 : decide (qs.length < qs.length) = false := decide_eq_false (by omega)
    rw [List.take_length] at HAG HKL ⊢
    obtain ⟨KQ, hKQ⟩ : ∃ KQ, KQ = keyQ toks qs := ⟨_, rfl⟩
    rw [← hKQ] at HAG HKL HOUT ⊢
    have hbr := HB.out.fr HSW.out (fun h => h)
    have b6 := hbr.cell 6 rfl
    have vn := HSW.out.cell HVN.out
    have HSB : Aside0 (BS w b (accB P.ks.length pc i) wq) := ⟨HS.out.below (below_of_fr HSM.out)⟩
    clear hlt hi hbr hKQ
    go_wp2_with fail
    refine (hash_calls HAG.out.reads (by have := HKL.out; omega) HN99.out).mono ?_
    rintro e w7 ⟨rfl, hs7⟩
    have HS7 : Aside0 (BS w b (accB P.ks.length pc i) w7) := ⟨HSB.out.below (below_of_fr hs7)⟩
    have HNL := Aside0.mk (numB_len (fnvB KQ % n))
    obtain ⟨NB, hNB⟩ : ∃ NB, NB = numB (fnvB KQ % n) := ⟨_, rfl⟩
    rw [← hNB] at HOUT HNL ⊢
    clear hs7 hNB b6 vn
    go_wp2_with fail
    refine (BS.ws HS7.out (ba NB) (by have := HLEN.out; have := HNL.out; rw [ba_size]; omega)).mono ?_
    rintro e w8 ⟨rfl, h8⟩
    go_wp2_with fail
    refine Met.intro ?_
    exact hK3 _ _ ⟨⟨⟨⟨rfl, rfl⟩, rfl, rfl, rfl, rfl, rfl, rfl, rfl⟩, rfl⟩, by rw [HOUT.out]; exact h8⟩
   case rest2 =>
    clear b2 b5 b6 b7 hka hda HKEY
    rintro a2 w2 ⟨⟨hA, h7⟩, hbs⟩
    have HS2 := Aside0.mk hbs
    obtain ⟨f2, hf, rfl⟩ := hA.fm.lay
    have e0 := hf 0 _ hA.s0
    have e1 := hf 1 _ hA.s1
    have e5 := hf 5 _ hA.s5
    have e6 := hf 6 _ hA.s6
    have e59 := hf 59 _ hA.s59
    have e60 := hf 60 _ hA.s60
    have e61 := hf 61 _ hA.s61
    have e7 := hf 7 _ h7
    rw [e0, e1, e5, e6, e59, e60, e61, e7]
    clear e0 e1 e5 e6 e7 e59 e60 e61 hA hf hbs h7
    have i6 : IntKind.i64.wrap ((i : Int) + 1) = ((i + 1 : Nat) : Int) := by rw [IntKind.wrap_i64]; have := HLT.out; have := HG.out.n1; omega
    by_cases hl : i < P.ks.length - 1
    ·
     have hi1 : (i : Int) < ((P.ks.length - 1 : Nat) : Int) := by omega
     have hi2 : decide ((i : Int) < ((P.ks.length - 1 : Nat) : Int)) = true := decide_eq_true hi1
     have hi3 : decide (i < P.ks.length - 1) = true := decide_eq_true hl
     have HE : Aside0 (accB P.ks.length pc (i + 1) = accB P.ks.length pc i ++ (pc i).data.toList ++ [46]) := ⟨by
      conv => lhs; unfold accB
      rw [if_pos (by omega), List.append_assoc]⟩
     clear hl hi1
     go_wp2_with fail
     refine (BS.wb HS2.out (by
      have h1 := HLEN.out
      have h2 := HPC.out
      have h3 : (pc i).data.toList.length = (pc i).size := rfl
      rw [List.length_append, h3]
      omega)).mono ?_
     rintro e w3 ⟨rfl, h3⟩
     have HS3 := Aside0.mk h3
     clear h3
     go_wp2_with fail
     refine Handed.intro (P.ks.length - (i + 1)) (by have := HI.out; have := HLT.out; omega) (hJ2 _ _ _ ⟨i + 1, by have := HLT.out; omega, ⟨⟨rfl, rfl⟩, rfl, rfl, rfl, rfl, rfl, rfl, rfl⟩, by rw [HE.out]; exact HS3.out⟩)
    have hi2 : decide ((i : Int) < ((P.ks.length - 1 : Nat) : Int)) = false := decide_eq_false (by omega)
    have hi3 : decide (i < P.ks.length - 1) = false := decide_eq_false hl
    have HE : Aside0 (accB P.ks.length pc (i + 1) = accB P.ks.length pc i ++ (pc i).data.toList) := ⟨by
     conv => lhs; unfold accB
     rw [if_neg (by have := HLT.out; omega), List.append_nil]⟩
    clear hl
    go_wp2_with fail
    refine Handed.intro (P.ks.length - (i + 1)) (by have := HI.out; have := HLT.out; omega) (hJ2 _ _ _ ⟨i + 1, by have := HLT.out; omega, ⟨⟨rfl, rfl⟩, rfl, rfl, rfl, rfl, rfl, rfl, rfl⟩, by rw [HE.out]; exact HS2.out⟩)
  have hie : i = P.ks.length := by have := HI.out; omega
  subst hie
  have i2 : decide ((P.ks.length : Int) < (P.ks.length : Int)) = false := decide_eq_false (by omega)
  have i3 : decide (P.ks.length < P.ks.length) = false := decide_eq_false (by omega)
  clear hlt
  go_wp2_with fail
  refine Met.intro ?_
  exact hK1 _ _ ⟨⟨⟨rfl, rfl⟩, rfl, rfl, rfl⟩, HS.out⟩
 case rest =>
  clear b4 k0 HS0 k1
  rintro a2 w2 ⟨hA, hbs⟩
  have HS2 := Aside0.mk hbs
  obtain ⟨f2, hf, rfl⟩ := hA.fm.lay
  have e0 := hf 0 _ hA.s0
  have e1 := hf 1 _ hA.s1
  have e5 := hf 5 _ hA.s5
  rw [e0, e1, e5]
  clear e0 e1 e5 hA hf hbs
  have b2 := (HB.out.fr HS2.out.2 (fun h => h)).cell 2 rfl
  have b3 := (HB.out.fr HS2.out.2 (fun h => h)).cell 3 rfl
  have n1 : IntKind.i64.wrap ((P.dt.length : Int) - 1) = ((P.ks.length - 1 : Nat) : Int) := by rw [IntKind.wrap_i64, HG.out.dt]; have := HG.out.n1; omega
  have n0 : (0 : Int) ≤ ((P.ks.length - 1 : Nat) : Int) := by omega
  have n2 : ((P.ks.length - 1 : Nat) : Int) < (P.dt.length : Int) := by rw [HG.out.dt]; have := HG.out.n1; omega
  obtain ⟨lt, hlt⟩ : ∃ lt, P.dt[P.ks.length - 1]? = some lt := ⟨_, List.getElem?_eq_getElem (by rw [HG.out.dt]; have := HG.out.n1; omega)⟩
  have HLT : Aside0 (P.dt.getLast? = some lt) := ⟨by rw [List.getLast?_eq_getElem?, HG.out.dt, hlt]⟩
  obtain ⟨ad, rfl, hda⟩ := (HD.out.fr HS2.out.2 (fun _ _ h => h)).read (by simp; have := HG.out.n1; have := HG.out.dt; omega)
  have vd := hda _ (.string lt) (by rw [List.getElem?_map, hlt]; rfl)
  clear hda hlt
  go_upto_region 105 with (fail)
  by_cases hl : lt = ⟨#[62]⟩
  ·
   have y1 : (lt.toList == ([62] : List UInt8)) = true := by rw [hl]; simp
   have HMB : Aside0 (madeB P toks pc = accB P.ks.length pc P.ks.length ++ restB toks (P.st.length - 1) (toks.length - (P.st.length - 1))) := ⟨by
    unfold madeB
    rw [HLT.out, hl, if_pos rfl]⟩
   have htv := HTV.out
   subst htv
   have t1 : IntKind.i64.wrap ((toks.length : Int) - 1) = ((toks.length - 1 : Nat) : Int) := by rw [IntKind.wrap_i64]; have := HG.out.lens; omega
   have t2 : IntKind.i64.wrap ((P.st.length : Int) - 1) = ((P.st.length - 1 : Nat) : Int) := by rw [IntKind.wrap_i64]; have := HG.out.st; omega
   clear hl
   go_quiet (fail)
   have HS3 := Aside0.mk (HS2.out.drewN nq)
   have b3q : (w2.drewN nq).cell? ⟨m, 3, none⟩ = some (.slice As P.st.length cs) := b3
   generalize w2.drewN nq = w2q at HS3 b3q ⊢
   clear b2 b3 vd
   go_upto_region 106 with (fail)
   clear y1 n1 n0 n2
   go_quiet (fail)
   have HS4 := Aside0.mk (HS3.out.drewN nq)
   generalize w2q.drewN nq = w2r at HS4 ⊢
   clear b3q t2
   go_upto_block 12 with (fail)
   go_step
   refine wp_loop_ghost_k (fun k a' w' => ∃ j : Nat, (k + j = toks.length - (P.st.length - 1) ∧ j ≤ toks.length - (P.st.length - 1)) ∧ (Fm a' ∧ Sl a' 1 = some (.slice (some ⟨g, 0, none⟩) toks.length c) ∧ Sl a' 5 = some (.pointer (some ⟨b, 0, none⟩)) ∧ Sl a' 38 = some (.int .i64 ((toks.length - 1 : Nat) : Int)) ∧ Sl a' 39 = some (.int .i64 ((P.st.length - 1 + j : Nat) : Int))) ∧ BS w b (accB P.ks.length pc P.ks.length ++ restB toks (P.st.length - 1) j) w') (toks.length - (P.st.length - 1)) ?_ ?_
   ·
    refine ⟨0, by omega, ⟨⟨rfl, rfl⟩, rfl, rfl, rfl, rfl⟩, ?_⟩
    rw [show restB toks (P.st.length - 1) 0 = [] from rfl, List.append_nil]; exact HS4.out
   clear HS4 HS3
   rintro gk a wr ⟨j, hi, ⟨hfm, s1, s5, s38, s39⟩, hbs⟩ J2 K2 hJ2 hK2
   have HI := Aside0.mk hi
   have HS := Aside0.mk hbs
   obtain ⟨f, hf, rfl⟩ := hfm.lay
   have e1 := hf 1 _ s1
   have e5 := hf 5 _ s5
   have e38 := hf 38 _ s38
   have e39 := hf 39 _ s39
   rw [e1, e5, e38, e39]
   clear e1 e5 e38 e39 hf hi hbs s1 s5 s38 s39 hfm
   obtain ⟨q, hq⟩ : ∃ q, q = P.st.length - 1 + j := ⟨_, rfl⟩
   have HQ := Aside0.mk hq
   rw [← hq]
   clear hq
   by_cases hlt : q < toks.length
   ·
    have q1 : decide ((q : Int) < (toks.length : Int)) = true := decide_eq_true (by omega)
    have q2 : decide (q < toks.length) = true := decide_eq_true hlt
    have q3 : (q : Int) < (toks.length : Int) := by omega
    have q0 : (0 : Int) ≤ (q : Int) := by omega
    have q6 : IntKind.i64.wrap ((q : Int) + 1) = ((q + 1 : Nat) : Int) := by rw [IntKind.wrap_i64]; have := HG.out.lens; omega
    have HLT2 := Aside0.mk hlt
    obtain ⟨tq, htq⟩ : ∃ tq, toks[q]? = some tq := ⟨_, List.getElem?_eq_getElem hlt⟩
    have htz := HG.out.lens.2.2 tq (List.mem_of_getElem? htq)
    have hlen : (restB toks (P.st.length - 1) j).length ≤ j * 1001 := rest_len (fun t ht => HG.out.lens.2.2 t ht) _ _
    have HLEN : Aside0 ((accB P.ks.length pc P.ks.length ++ restB toks (P.st.length - 1) j).length + 5000000000 ≤ 140737488355328) := ⟨by
     have := acc_len (n := P.ks.length) HG.out.pcs P.ks.length
     have := HG.out.n1
     have := HG.out.lens
     have := HI.out
     rw [List.length_append]
     omega⟩
    have HTZ := Aside0.mk htz
    obtain ⟨at_, hat, hrt⟩ := (HT.out.fr HS.out.2 (fun _ _ h => h)).read (by simp; omega)
    injection hat with hat
    subst hat
    have vt := hrt q (.string tq) (by rw [List.getElem?_map, htq]; rfl)
    rw [Bs.add_at] at vt
    have HWS := Aside0.mk (BS.ws HS.out tq (by have := HLEN.out; have := HTZ.out; omega))
    have HE : Aside0 (restB toks (P.st.length - 1) (j + 1) = restB toks (P.st.length - 1) j ++ (tq.data.toList ++ (if q + 1 < toks.length then [46] else []))) := ⟨by
     conv => lhs; unfold restB
     rw [← HQ.out, htq]
     rfl⟩
    clear hrt htq htz hlen hlt
    by_cases hl : q < toks.length - 1
    ·
     have l1 : decide ((q : Int) < ((toks.length - 1 : Nat) : Int)) = true := decide_eq_true (by omega)
     have l2 : decide (q < toks.length - 1) = true := decide_eq_true hl
     have HE2 : Aside0 (restB toks (P.st.length - 1) (j + 1) = restB toks (P.st.length - 1) j ++ tq.data.toList ++ [46]) := ⟨by
      rw [HE.out, if_pos (by omega), List.append_assoc]⟩
     clear hl
     go_wp2_with fail
     refine HWS.out.mono ?_
     rintro e w2' ⟨rfl, h2⟩
     have HS2' := Aside0.mk h2
     clear h2
     go_wp2_with fail
     refine (BS.wb HS2'.out (by
      have h1 := HLEN.out
      have h2 := HTZ.out
      have h3 : tq.data.toList.length = tq.size := rfl
      rw [List.length_append, h3]
      omega)).mono ?_
     rintro e w3 ⟨rfl, h3⟩
     have HS3' := Aside0.mk h3
     clear h3
     go_wp2_with fail
     refine Handed.intro (toks.length - (P.st.length - 1) - (j + 1)) (by have := HI.out; have := HLT2.out; have := HQ.out; omega) (hJ2 _ _ _ ⟨j + 1, by have := HI.out; have := HLT2.out; have := HQ.out; omega, ⟨⟨rfl, rfl⟩, rfl, rfl, rfl, ?_⟩, ?_⟩)
     ·
      have := HQ.out
      rw [show P.st.length - 1 + (j + 1) = q + 1 by omega]
      rfl
     rw [HE2.out, ← List.append_assoc, ← List.append_assoc]
     exact HS3'.out
    have l1 : decide ((q : Int) < ((toks.length - 1 : Nat) : Int)) = false := decide_eq_false (by omega)
    have l2 : decide (q < toks.length - 1) = false := decide_eq_false hl
    have HE2 : Aside0 (restB toks (P.st.length - 1) (j + 1) = restB toks (P.st.length - 1) j ++ tq.data.toList) := ⟨by
     rw [HE.out, if_neg (by omega), List.append_nil]⟩
    clear hl
    go_wp2_with fail
    refine HWS.out.mono ?_
    rintro e w2' ⟨rfl, h2⟩
    have HS2' := Aside0.mk h2
    clear h2
    go_wp2_with fail
    refine Handed.intro (toks.length - (P.st.length - 1) - (j + 1)) (by have := HI.out; have := HLT2.out; have := HQ.out; omega) (hJ2 _ _ _ ⟨j + 1, by have := HI.out; have := HLT2.out; have := HQ.out; omega, ⟨⟨rfl, rfl⟩, rfl, rfl, rfl, ?_⟩, ?_⟩)
    ·
     have := HQ.out
     rw [show P.st.length - 1 + (j + 1) = q + 1 by omega]
     rfl
    rw [HE2.out, ← List.append_assoc]
    exact HS2'.out
   have q1 : decide ((q : Int) < (toks.length : Int)) = false := decide_eq_false (by omega)
   have q2 : decide (q < toks.length) = false := decide_eq_false hlt
   have hj : j = toks.length - (P.st.length - 1) := by have := HI.out; have := HQ.out; omega
   have HX : Aside0 (BS w b (madeB P toks pc) wr) := ⟨by
    rw [HMB.out, ← hj]
    exact HS.out⟩
   clear hlt hj
   go_wp2_with fail
   refine (HX.out.str HNE.out).mono ?_
   rintro e w3 ⟨rfl, h3⟩
   have HY : Aside0 (ToksPost w (madeB P toks pc) (.returned (.string ⟨(madeB P toks pc).toArray⟩)) w3) := ⟨rfl, h3⟩
   clear h3
   go_wp2_with fail
   go_ret
   exact HY.out
  have y1 : (lt.toList == ([62] : List UInt8)) = false := by
   rw [beq_eq_false_iff_ne]
   intro e
   refine hl ?_
   rw [ByteArray.toList_eq] at e
   obtain ⟨⟨l⟩⟩ := lt
   have e : l = [62] := e
   rw [e]
  have HMB : Aside0 (madeB P toks pc = accB P.ks.length pc P.ks.length) := ⟨by
   unfold madeB
   rw [HLT.out, if_neg (by simpa using hl), List.append_nil]⟩
  clear hl
  go_quiet (fail)
  have HS3 := Aside0.mk (HS2.out.drewN nq)
  generalize w2.drewN nq = w2q at HS3 ⊢
  clear b2 b3 vd
  go_wp2_with fail
  refine (HS3.out.str (HMB.out ▸ HNE.out)).mono ?_
  rintro e w3 ⟨rfl, h3⟩
  have HX : Aside0 (ToksPost w (madeB P toks pc) (.returned (.string ⟨(accB P.ks.length pc P.ks.length).toArray⟩)) w3) := ⟨by rw [HMB.out], h3⟩
  clear h3
  go_wp2_with fail
  go_ret
  exact HX.out
end
end Go.Proofs.YtoopmpjgmgffoaaDoor.Tr
