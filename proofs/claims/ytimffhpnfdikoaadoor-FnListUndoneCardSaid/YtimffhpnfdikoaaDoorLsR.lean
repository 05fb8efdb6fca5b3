/- The walk of spec.List (printed by gen_lsr.py). -/
import Derived.Test.YtimffhpnfdikoaaDoorLsQ
namespace Go.Proofs.YtimffhpnfdikoaaDoor.Ls
open Go.RowKit Go.Maps Go.Proofs.YtimffhpnfdikoaaDoor.Bs Go.Proofs.YtimffhpnfdikoaaDoorW.PrintWords Go.Proofs.YtimffhpnfdikoaaDoorW.PrintLast Go.Proofs.YtimffhpnfdikoaaDoorW.PrintMore Go.Proofs.YtimffhpnfdikoaaDoor.GFnListKinds Go.Proofs.YtimffhpnfdikoaaDoor.PlFnListKinds
set_option linter.unusedVariables false
set_option linter.unusedSimpArgs false
structure SpecPost (w0 : World) (ds : List S46) (e : Ending) (w' : World) : Prop where
  out : ∃ lv kv, e = .returned (.tuple #[lv, kv]) ∧ w'.ownsRow w0.heap.size 35 2 lv (runS ds).l.length (e35 (runS ds).l) ∧ w'.ownsRow w0.heap.size 3 1 kv ds.length ((runS ds).kinds.map (.int .i64))
  same : Same w0 w'
theorem rd_drew {W : World} {X : Option Addr} {m size : Nat} {ys : List Value} (h : ReadG W X m size ys) : ReadG W.drew X m size ys := h.fr (Fr.refl (fun _ => False) W).drew (fun _ _ h => h)
theorem row_c {w5 : World} (E : Obj) {e : TypeId} {size : Nat} : RowG w5 (((w5.alloc E).alloc (.cells #[] e)).drew) e size (.slice (some ⟨w5.heap.size + 1, 0, none⟩) 0 0) 0 [] := by
  have := (row_g0 (w2 := w5) (W := w5.alloc E) (e := e) (size := size) ((Fr.refl _ _).alloc _)).drew
  simpa using this
theorem rd_grown {W w9 : World} {own : Option Nat} {ad : Addr} {m size : Nat} {ys : List Value} (hg : W.grownBy w9 own) (h : ReadG W (some ad) m size ys) (hn : own ≠ some ad.block) : ReadG w9 (some ad) m size ys := h.fr (Fr.grown hg) (fun _ e e2 => hn (by injection e with e; rw [e2, e]))
/-- A round of spec.List, ahead of the kind's append. -/
structure SpR (w0 w : World) (l : List S35) (v4 v5 : Value) (i : Nat) (ks : List Int) : Prop where
  row : w.ownsRow w0.heap.size 35 2 v4 l.length (e35 l)
  kin : w.ownsRow w0.heap.size 3 1 v5 i (ks.map (.int .i64))
  same : Same w0 w
theorem SpR.fr0 {w0 w w1 : World} {l : List S35} {v4 v5 : Value} {i : Nat} {ks : List Int} (h : SpR w0 w l v4 v5 i ks) (hf : Same w w1) : SpR w0 w1 l v4 v5 i ks :=
  ⟨ownsRow_fr h.row hf (fun _ _ h => h), ownsRow_fr h.kin hf (fun _ _ h => h), h.same.trans hf (fun _ _ h => h)⟩
theorem SpR.newRow {w0 w w1 : World} {l l' : List S35} {v4 v5 v' : Value} {i n : Nat} {ks : List Int} {xs : List Value} (h : SpR w0 w l v4 v5 i ks) (hr : RowG w w1 35 2 v' n xs) (hn : n = l'.length) (hx : xs = e35 l') : SpR w0 w1 l' v' v5 i ks := by
  subst hn hx
  exact ⟨ownsRow_low hr.own h.same.size, ownsRow_fr h.kin hr.fr (fun _ _ h => h), h.same.trans hr.fr (fun _ _ h => h)⟩
theorem SpR.app {w0 w w1 : World} {l : List S35} {v4 v5 v' : Value} {i : Nat} {ks : List Int} {k : Int} (h : SpR w0 w l v4 v5 i ks) (ho : w1.ownsRow w0.heap.size 3 1 v' (i + 1) (ks.map (.int .i64) ++ [.int .i64 k])) (hg : (w.alloc (.cells #[.int .i64 k] 3)).grownBy w1 v5.ownBlock) : SpR w0 w1 l v4 v' (i + 1) (ks ++ [k]) := by
  have hgr : Fr (fun k => v5.ownBlock = some k) w w1 := ((Fr.refl _ w).alloc _).trans (Fr.grown hg) (fun _ _ h => h)
  refine ⟨ownsRow_block h.row (fun k hk => hgr.block k (own_base h.row hk).2 (own_ne h.row h.kin (by decide) hk)), by rw [List.map_append]; exact ho, h.same.trans hgr (fun k hk e => ?_)⟩
  have := own_base h.kin e
  omega
section
set_option maxHeartbeats 16000000
set_option maxRecDepth 100000
theorem spec_calls {w0 : World} {A0 : Option Addr} {c0 : Nat} {ds : List S46} (hT : Kd.C k46 w0 A0 ds.length ds) (hD : GoodD ds) : Calls Tryd.prog 12 #[.slice A0 ds.length c0] w0 (SpecPost w0 ds) := by
  obtain ⟨i3, hK3⟩ := ek3
  obtain ⟨i35, hK35⟩ := ek35
  have HK3 := Aside0.mk hK3
  have HK35 := Aside0.mk hK35
  have HT := Aside0.mk hT
  have HD := Aside0.mk hD
  clear hK3 hK35 hT hD
  go_enter Tryd.func12, Tryd.ntmps12
  go_wp2_with fail
  go_loopg [4, 5, 6] ds.length (fun kq v4 v5 v6 wr => ∃ (i : Nat), v6 = .int .i64 (i : Int) ∧ Aside0 (kq + i = ds.length ∧ i ≤ ds.length) ∧ Aside0 (SpR w0 wr (runS (ds.take i)).l v4 v5 i (runS (ds.take i)).kinds))
  case atStart => exact ⟨0, rfl, ⟨by omega⟩, ⟨⟨⟨rfl, .inl ⟨rfl, rfl⟩⟩, ⟨rfl, .inl ⟨rfl, rfl⟩⟩, Fr.refl _ _⟩⟩⟩
  case round =>
    obtain ⟨i, rfl, HI, HR⟩ := hrel
    have i0 : (0 : Int) ≤ (i : Int) := by omega
    by_cases hlt : i < ds.length
    · have i1 : (i : Int) < (ds.length : Int) := by omega
      have i2 : decide ((i : Int) < (ds.length : Int)) = true := decide_eq_true i1
      have i5 : IntKind.i64.wrap ((i : Int) + 1) = ((i + 1 : Nat) : Int) := by rw [IntKind.wrap_i64]; have := HI.out; have := HD.out.len; omega
      obtain ⟨d, ht⟩ : ∃ d, ds[i]? = some d := ⟨_, List.getElem?_eq_getElem hlt⟩
      have HTI := Aside0.mk ht
      have HDD := Aside0.mk (HD.out.all d (List.mem_of_getElem? ht))
      have HIK : Aside0 (i + 1 ≤ ds.length ∧ ds.length ≤ 1000) := ⟨by have := HD.out.len; omega⟩
      obtain ⟨ad, rfl, t0, t1, t2⟩ := at_T46 (Kd.C_below HT.out (below_of_fr HR.out.same)) (i : Int) (by omega) (by omega)
      rw [Int.toNat_natCast, rd46_at HTI.out] at t0 t1 t2
      have hsz := (run_sizes (ds.take i)).1
      rw [List.length_take] at hsz
      have hst := runS_take ht
      obtain ⟨st, hst0⟩ : ∃ st, runS (ds.take i) = st := ⟨_, rfl⟩
      rw [hst0] at HR hsz hst
      have HST := Aside0.mk hst
      have HSZ : Aside0 (st.l.length ≤ 1000) := ⟨by have := HD.out.len; omega⟩
      clear ht hsz hst hst0
      obtain ⟨A4, c4, rfl, hc4, hr4⟩ := read_own (w := wr) (W := wr) HR.out.row (e35_one _)
      have HC4 := Aside0.mk hc4
      have HR4 := Aside0.mk hr4
      clear hc4 hr4
      go_upto_region 7 with (fail)
      have HB1 : Aside0 (Blk (wr.alloc (.cells #[.int .i64 d.f0, .string d.f1, .int .i64 d.f2] 46)) wr.heap.size 46 [.int .i64 d.f0, .string d.f1, .int .i64 d.f2]) := ⟨Blk.new _ _ _⟩
      have HS1 : Aside0 (Same wr (wr.alloc (.cells #[.int .i64 d.f0, .string d.f1, .int .i64 d.f2] 46))) := ⟨(Fr.refl _ _).alloc _⟩
      generalize wr.alloc (.cells #[.int .i64 d.f0, .string d.f1, .int .i64 d.f2] 46) = w2 at HB1 HS1 ⊢
      generalize htb : wr.heap.size = tb at HB1 ⊢
      have HR2 : Aside0 (SpR w0 w2 st.l (.slice A4 st.l.length c4) u5 i st.kinds) := ⟨HR.out.fr0 HS1.out⟩
      have HRG : Aside0 (ReadG w2 A4 st.l.length 2 (e35 st.l)) := ⟨HR4.out.fr HS1.out (fun _ _ h => h)⟩
      have c0' := HB1.out.cell 0 rfl
      have c1' := HB1.out.cell 1 rfl
      have c2' := HB1.out.cell 2 rfl
      clear t0 t1 t2 htb hlt i0 i1 i2
      go_wp2_with fail
      obtain ⟨kp, hkp⟩ := Ev.rounds (place_ev st.l (by have := HSZ.out; omega) d.f1 d.f2)
      refine (spec_place.calls kp A4 c4 st.l d.f1 d.f2 _ w2 (kc35_of_rg HRG.out (by have := HSZ.out; omega)) HC4.out hkp).mono ?_
      rintro e w3 ⟨rfl, hdr3⟩
      have HS3 : Aside0 (Same w2 w3) := ⟨fr_of_below hdr3.below⟩
      clear hdr3 hkp
      have HR3 : Aside0 (SpR w0 w3 st.l (.slice A4 st.l.length c4) u5 i st.kinds) := ⟨HR2.out.fr0 HS3.out⟩
      have HRG3 : Aside0 (ReadG w3 A4 st.l.length 2 (e35 st.l)) := ⟨HRG.out.fr HS3.out (fun _ _ h => h)⟩
      have RND : Aside0 (∀ (l : List S35) (k : Int) (v4 v5 v' : Value) (w6 w7 : World), stepS st d = ⟨l, st.kinds ++ [k]⟩ → SpR w0 w6 l v4 v5 i st.kinds → w7.ownsRow w0.heap.size 3 1 v' (i + 1) (st.kinds.map (.int .i64) ++ [.int .i64 k]) → (w6.alloc (.cells #[.int .i64 k] 3)).grownBy w7 v5.ownBlock →
          ∃ (j : Nat), Value.int .i64 ((i + 1 : Nat) : Int) = .int .i64 (j : Int) ∧ Aside0 (ds.length - (i + 1) + j = ds.length ∧ j ≤ ds.length) ∧ Aside0 (SpR w0 w7 (runS (ds.take j)).l v4 v' j (runS (ds.take j)).kinds)) := ⟨fun l k v4 v5 v' w6 w7 hk hr ho hg => by
        refine ⟨i + 1, rfl, ⟨by have := HIK.out; omega⟩, ⟨?_⟩⟩
        rw [HST.out, hk]
        exact hr.app ho hg⟩
      replace c0' := HS3.out.cell c0'
      replace c1' := HS3.out.cell c1'
      replace c2' := HS3.out.cell c2'
      clear HB1 HS1 HS3 HR HR2 HR4 HRG HT
      by_cases z0 : d.f0 = 0
      · have y0 : (d.f0 == 0) = true := by simpa using z0
        have y1 : (d.f0 == 1) = false := by rw [beq_eq_false_iff_ne]; omega
        have HZ := Aside0.mk z0
        clear z0
        obtain ⟨kt, hkt⟩ := Ev.rounds (tk_Tokens d.f1 (by have := HDD.out.1; omega))
        have HKT := Aside0.mk hkt
        obtain ⟨kf, hkf⟩ := Ev.rounds (formed_tk d.f1 (by have := HDD.out.1; omega))
        have HKF := Aside0.mk hkf
        clear hkt hkf
        go_wp2_with fail
        refine (spec_Tokens.calls kt d.f1 (tk d.f1) w3 HKT.out).mono ?_
        rintro e w4 ⟨vt, rfl, hRt, hbt⟩
        obtain ⟨At, ct, rfl, hlt, hCt⟩ := Kd.R_reads hRt
        have HS4 : Aside0 (Same w3 w4) := ⟨fr_of_below hbt⟩
        have HCT := Aside0.mk (And.intro hlt hCt)
        clear hlt hCt hRt hbt
        go_wp2_with fail
        refine (spec_Formed.calls kf At ct (tk d.f1) (okF false (tk d.f1)) w4 HCT.out.2 HCT.out.1 HKF.out).mono ?_
        rintro e w5 ⟨rfl, hdr5⟩
        have HS5 : Aside0 (Same w3 w5) := ⟨HS4.out.trans (fr_of_below hdr5.below) (fun _ _ h => h)⟩
        clear hdr5 HS4 HCT
        have HR5 : Aside0 (SpR w0 w5 st.l (.slice A4 st.l.length c4) u5 i st.kinds) := ⟨HR3.out.fr0 HS5.out⟩
        have HRG5 : Aside0 (ReadG w5 A4 st.l.length 2 (e35 st.l)) := ⟨HRG3.out.fr HS5.out (fun _ _ h => h)⟩
        replace c0' := HS5.out.cell c0'
        replace c1' := HS5.out.cell c1'
        replace c2' := HS5.out.cell c2'
        clear HR3 HRG3 HS5
        cases ho : okF false (tk d.f1) with
        | false =>
          have HK : Aside0 (stepS st d = ⟨st.l, st.kinds ++ [1]⟩) := ⟨by
            unfold stepS
            rw [if_neg (by rw [ho]; simp)]
            cases plN st.l d.f1 d.f2 with
            | none => rfl
            | some n => show (if d.f0 = 1 then _ else _ : SSt) = _; rw [if_neg (by have := HZ.out; omega)]⟩
          clear ho
          go_upto_region 16 with (fail)
          have HRN : Aside0 (ReadG (w5.alloc (.cells #[.int .i64 1] 3)) (some ⟨w5.heap.size, 0, none⟩) 1 1 [.int .i64 1]) := ⟨read_newG (us := [.int .i64 1]) (by rfl) (by intro u hu; simp only [List.mem_cons, List.not_mem_nil, or_false] at hu; rcases hu with rfl; rfl)⟩
          go_wp2_with (first | (at_builtin; refine wpList_ownG HK3.out rfl _ _ rfl (v := u5) (xs := st.kinds.map (.int .i64)) (ys := [.int .i64 1]) rfl (HR5.out.kin.alloc _) (Nat.le_trans HR5.out.same.size (by simp)) rfl HRN.out (by have := HIK.out; omega) ?_; intro v' w7 ho hg hat; have HO7 := Aside0.mk ho; have HG7 := Aside0.mk hg; clear ho hg hat) | fail)
          go_roundg (ds.length - (i + 1))
          case measure => have := HI.out; have := HIK.out; omega
          case rel => exact RND.out (st.l) 1 (.slice A4 st.l.length c4) u5 v' w5 w7 HK.out HR5.out HO7.out HG7.out
        | true =>
          cases hp : plN st.l d.f1 d.f2 with
          | some n =>
            have HK : Aside0 (stepS st d = ⟨st.l, st.kinds ++ [0]⟩) := ⟨by
              unfold stepS
              rw [if_pos ⟨HZ.out, ho⟩, hp, if_neg (by simp)]⟩
            have p1 : decide (plI (some n) < 0) = false := decide_eq_false (by show ¬ ((n : Int) < 0); omega)
            clear ho hp
            go_upto_region 16 with (fail)
            have HRN : Aside0 (ReadG (w5.alloc (.cells #[.int .i64 0] 3)) (some ⟨w5.heap.size, 0, none⟩) 1 1 [.int .i64 0]) := ⟨read_newG (us := [.int .i64 0]) (by rfl) (by intro u hu; simp only [List.mem_cons, List.not_mem_nil, or_false] at hu; rcases hu with rfl; rfl)⟩
            go_wp2_with (first | (at_builtin; refine wpList_ownG HK3.out rfl _ _ rfl (v := u5) (xs := st.kinds.map (.int .i64)) (ys := [.int .i64 0]) rfl (HR5.out.kin.alloc _) (Nat.le_trans HR5.out.same.size (by simp)) rfl HRN.out (by have := HIK.out; omega) ?_; intro v' w7 ho hg hat; have HO7 := Aside0.mk ho; have HG7 := Aside0.mk hg; clear ho hg hat) | fail)
            go_roundg (ds.length - (i + 1))
            case measure => have := HI.out; have := HIK.out; omega
            case rel => exact RND.out (st.l) 0 (.slice A4 st.l.length c4) u5 v' w5 w7 HK.out HR5.out HO7.out HG7.out
          | none =>
            have HK : Aside0 (stepS st d = ⟨st.l ++ [⟨d.f1, d.f2⟩], st.kinds ++ [0]⟩) := ⟨by
              unfold stepS
              rw [if_pos ⟨HZ.out, ho⟩, hp, if_pos rfl]⟩
            have p1 : decide (plI none < 0) = true := by decide
            clear ho hp
            have HKS : Aside0 (∀ B : World, Same w5 B → Same w5 B ∧ B.cell? ⟨tb, 1, none⟩ = some (.string d.f1) ∧ B.cell? ⟨tb, 2, none⟩ = some (.int .i64 d.f2)) := ⟨fun B hb => ⟨hb, hb.cell c1', hb.cell c2'⟩⟩
            have HN1 : Aside0 (0 + st.l.length ≤ 1000000 ∧ 0 + st.l.length + 1 ≤ 1000000) := ⟨by have := HSZ.out; omega⟩
            have HRN2 : Aside0 (∀ W : World, ReadG (W.alloc (.cells #[.string d.f1, .int .i64 d.f2] 35)) (some ⟨W.heap.size, 0, none⟩) 1 2 [.string d.f1, .int .i64 d.f2]) := ⟨fun W => read_newG (us := [.string d.f1, .int .i64 d.f2]) (by rfl) (by intro u hu; simp only [List.mem_cons, List.not_mem_nil, or_false] at hu; rcases hu with rfl | rfl <;> rfl)⟩
            go_upto_region 12 with (fail)
            go_region_held3 (fun B => Same w5 B ∧ B.cell? ⟨tb, 1, none⟩ = some (.string d.f1) ∧ B.cell? ⟨tb, 2, none⟩ = some (.int .i64 d.f2))
              (first | exact HKS.out _ (Fr.refl _ _).drew | exact HKS.out _ ((Fr.refl _ _).drew.alloc _) | exact HKS.out _ (((Fr.refl _ _).alloc _).drew) | exact HKS.out _ ((Fr.refl _ _).alloc _) | exact HKS.out _ (Fr.refl _ _) | exact HKS.out _ (hr10.fr) | exact HKS.out _ hr10.fr.drew | exact HKS.out _ hr9.fr | exact HKS.out _ hr9.fr.drew | exact HKS.out _ (hr9.fr.alloc _) | exact HKS.out _ (hr9.fr.drew.alloc _) | exact HKS.out _ (hr9.fr.alloc _).drew | exact HKS.out _ (((Fr.refl _ _).alloc _).alloc _) | exact HKS.out _ (((Fr.refl _ _).alloc _).alloc _).drew)
              (first
                | (refine step_rowG HK35.out (by rfl) (.tmp 37) (.tmp 38) (by rfl) (w2 := w5) (n := 0) (m := st.l.length) (xs := []) (ys := e35 st.l) (by rfl) (by first | exact row_g1 | exact row_g0 (Fr.refl _ _) | exact row_g0 (Fr.refl _ _).drew | exact (row_g0 (Fr.refl _ _)).drew | exact (row_g0 (Fr.refl _ _)).alloc _ | exact ((row_g0 (Fr.refl _ _)).alloc _).drew | exact row_c _) (by rfl) (fun hf => HRG5.out.fr hf (fun _ _ h => h)) HN1.out.1 ?_; intro v9 w9 hr9 hg9 ha9)
                | (refine step_rowG HK35.out (by rfl) (.tmp 39) (.tmp 45) (by rfl) (w2 := w5) (n := 0 + st.l.length) (m := 1) (xs := [] ++ e35 st.l) (ys := [.string d.f1, .int .i64 d.f2]) (by rfl) (by first | exact hr9.alloc _ | exact hr9.drew.alloc _ | exact (hr9.alloc _).drew | exact hr9 | exact hr9.drew) (by rfl) (fun hf => by first | exact HRN2.out _ | exact rd_drew (HRN2.out _) | exact rd_grown hg9 (rd_drew (by have := HRN2.out (w5.alloc (.cells #[] 35)); simpa using this)) (by show some w5.heap.size ≠ some (w5.heap.size + 1); simp) | exact rd_grown hg9 (rd_drew ((HRN2.out w5).fr ((Fr.refl (fun _ => False) _).alloc _) (fun _ _ h => h))) (by show some (w5.heap.size + 1) ≠ some w5.heap.size; simp)) HN1.out.2 ?_; intro v10 w10 hr10 hg10 ha10))
            all_goals
              have HR6 : Aside0 (SpR w0 w10 (st.l ++ [⟨d.f1, d.f2⟩]) v10 u5 i st.kinds) := ⟨HR5.out.newRow hr10 (by simp) (by rw [e35_app]; rfl)⟩
              have q0 := Bs.Same.cell hr10.fr c0'
              clear hr9 hg9 ha9 hr10 hg10 ha10
              go_upto_region 16 with (fail)
              have HRN : Aside0 (ReadG (w10.alloc (.cells #[.int .i64 0] 3)) (some ⟨w10.heap.size, 0, none⟩) 1 1 [.int .i64 0]) := ⟨read_newG (us := [.int .i64 0]) (by rfl) (by intro u hu; simp only [List.mem_cons, List.not_mem_nil, or_false] at hu; rcases hu with rfl; rfl)⟩
              go_wp2_with (first | (at_builtin; refine wpList_ownG HK3.out rfl _ _ rfl (v := u5) (xs := st.kinds.map (.int .i64)) (ys := [.int .i64 0]) rfl (HR6.out.kin.alloc _) (Nat.le_trans HR6.out.same.size (by simp)) rfl HRN.out (by have := HIK.out; omega) ?_; intro v' w7 ho hg hat; have HO7 := Aside0.mk ho; have HG7 := Aside0.mk hg; clear ho hg hat) | fail)
              go_roundg (ds.length - (i + 1))
              case measure => have := HI.out; have := HIK.out; omega
              case rel => exact RND.out (st.l ++ [⟨d.f1, d.f2⟩]) 0 v10 u5 v' w10 w7 HK.out HR6.out HO7.out HG7.out
      · have y0 : (d.f0 == 0) = false := by simpa using z0
        by_cases z1 : d.f0 = 1
        · have y1 : (d.f0 == 1) = true := by simpa using z1
          have HZ := Aside0.mk z1
          clear z0 z1
          cases hp : plN st.l d.f1 d.f2 with
          | none =>
            have HK : Aside0 (stepS st d = ⟨st.l, st.kinds ++ [1]⟩) := ⟨by
              unfold stepS
              rw [if_neg (by have := HZ.out; omega), hp]⟩
            have p2 : decide (plI none ≥ 0) = false := by decide
            clear hp
            go_upto_region 16 with (fail)
            have HRN : Aside0 (ReadG (w3.alloc (.cells #[.int .i64 1] 3)) (some ⟨w3.heap.size, 0, none⟩) 1 1 [.int .i64 1]) := ⟨read_newG (us := [.int .i64 1]) (by rfl) (by intro u hu; simp only [List.mem_cons, List.not_mem_nil, or_false] at hu; rcases hu with rfl; rfl)⟩
            go_wp2_with (first | (at_builtin; refine wpList_ownG HK3.out rfl _ _ rfl (v := u5) (xs := st.kinds.map (.int .i64)) (ys := [.int .i64 1]) rfl (HR3.out.kin.alloc _) (Nat.le_trans HR3.out.same.size (by simp)) rfl HRN.out (by have := HIK.out; omega) ?_; intro v' w7 ho hg hat; have HO7 := Aside0.mk ho; have HG7 := Aside0.mk hg; clear ho hg hat) | fail)
            go_roundg (ds.length - (i + 1))
            case measure => have := HI.out; have := HIK.out; omega
            case rel => exact RND.out (st.l) 1 (.slice A4 st.l.length c4) u5 v' w3 w7 HK.out HR3.out HO7.out HG7.out
          | some n =>
            have HN := Aside0.mk (plN_lt hp)
            have HK : Aside0 (stepS st d = ⟨st.l.take n ++ st.l.drop (n + 1), st.kinds ++ [0]⟩) := ⟨by
              unfold stepS
              rw [if_neg (by have := HZ.out; omega), hp]
              show (if d.f0 = 1 then _ else _ : SSt) = _
              rw [if_pos HZ.out]⟩
            have p2 : decide (plI (some n) ≥ 0) = true := decide_eq_true (by show (n : Int) ≥ 0; omega)
            clear hp
            rw [show plI (some n) = (n : Int) from rfl] at p2 ⊢
            have j0 : (0 : Int) ≤ (n : Int) := by omega
            have j1 : (n : Int) ≤ (st.l.length : Int) := by have := HN.out; omega
            have j2 : (st.l.length : Int) ≤ (c4 : Int) := by have := HC4.out; omega
            have j3 : (n : Int) ≤ (c4 : Int) := by omega
            have j4 : IntKind.i64.wrap ((n : Int) + 1) = ((n : Int) + 1) := by rw [IntKind.wrap_i64]; have := HSZ.out; omega
            have j5 : ((n : Int) + 1) ≤ (st.l.length : Int) := by have := HN.out; omega
            have j6 : (0 : Int) ≤ ((n : Int) + 1) := by omega
            have j7 : ((n : Int) + 1) ≤ (c4 : Int) := by omega
            have HS9 : Aside0 (0 + n ≤ 1000000 ∧ 0 + n + (st.l.length - (n + 1)) ≤ 1000000) := ⟨by have := HSZ.out; have := HN.out; omega⟩
            have HRT : Aside0 (∀ W, Fr (fun _ => False) w3 W → ReadG W A4 n 2 (e35 (st.l.take n))) := ⟨fun W hf => by rw [e35_take]; exact (HRG3.out.take n (by have := HN.out; omega)).fr hf (fun _ _ h => h)⟩
            have HRX : Aside0 (∀ W, Fr (fun _ => False) w3 W → ReadG W (if c4 = n + 1 then A4 else Option.map (fun x => x.add ((n + 1) * 2)) A4) (st.l.length - (n + 1)) 2 (e35 (st.l.drop (n + 1)))) := ⟨fun W hf => by rw [e35_drop]; exact (HRG3.out.drop (n + 1) (by have := HN.out; omega) HC4.out).fr hf (fun _ _ h => h)⟩
            go_upto_region 15 with (fail)
            go_region_held3 (fun w' => True) (first | go_keep | trivial)
              (first
                | (refine step_rowG HK35.out (by rfl) (.tmp 54) (.tmp 57) (by rfl) (w2 := w3) (n := 0) (xs := []) (m := n) (ys := e35 (st.l.take n)) (by rfl) (by first | exact row_g1 | exact row_g0 (Fr.refl _ _)) (by rfl) (HRT.out _) HS9.out.1 ?_; intro v9 w9 hr9 hg9 ha9)
                | (refine step_rowG HK35.out (by rfl) (.tmp 58) (.tmp 62) (by rfl) (w2 := w3) (n := 0 + n) (m := st.l.length - (n + 1)) (ys := e35 (st.l.drop (n + 1))) (by rfl) hr9 (by rfl) (HRX.out _) HS9.out.2 ?_; intro v10 w10 hr10 hg10 ha10))
            generalize (if c4 = n + 1 then A4 else Option.map (fun x => x.add ((n + 1) * 2)) A4) = X9
            have HR6 : Aside0 (SpR w0 w10 (st.l.take n ++ st.l.drop (n + 1)) v10 u5 i st.kinds) := ⟨HR3.out.newRow hr10 (by rw [List.length_append, List.length_take, List.length_drop]; have := HN.out; omega) (by rw [e35_app]; rfl)⟩
            clear hr9 hg9 ha9 hr10 hg10 ha10 j0 j1 j2 j3 j4 j5 j6 j7
            go_upto_region 16 with (fail)
            have HRN : Aside0 (ReadG (w10.alloc (.cells #[.int .i64 0] 3)) (some ⟨w10.heap.size, 0, none⟩) 1 1 [.int .i64 0]) := ⟨read_newG (us := [.int .i64 0]) (by rfl) (by intro u hu; simp only [List.mem_cons, List.not_mem_nil, or_false] at hu; rcases hu with rfl; rfl)⟩
            go_wp2_with (first | (at_builtin; refine wpList_ownG HK3.out rfl _ _ rfl (v := u5) (xs := st.kinds.map (.int .i64)) (ys := [.int .i64 0]) rfl (HR6.out.kin.alloc _) (Nat.le_trans HR6.out.same.size (by simp)) rfl HRN.out (by have := HIK.out; omega) ?_; intro v' w7 ho hg hat; have HO7 := Aside0.mk ho; have HG7 := Aside0.mk hg; clear ho hg hat) | fail)
            go_roundg (ds.length - (i + 1))
            case measure => have := HI.out; have := HIK.out; omega
            case rel => exact RND.out (st.l.take n ++ st.l.drop (n + 1)) 0 v10 u5 v' w10 w7 HK.out HR6.out HO7.out HG7.out
        · have y1 : (d.f0 == 1) = false := by simpa using z1
          have HK : Aside0 (stepS st d = ⟨st.l, st.kinds ++ [1]⟩) := ⟨by
            unfold stepS
            rw [if_neg (fun e => z0 e.1)]
            cases plN st.l d.f1 d.f2 with
            | none => rfl
            | some n => show (if d.f0 = 1 then _ else _ : SSt) = _; rw [if_neg z1]⟩
          clear z0 z1
          go_upto_region 16 with (fail)
          have HRN : Aside0 (ReadG (w3.alloc (.cells #[.int .i64 1] 3)) (some ⟨w3.heap.size, 0, none⟩) 1 1 [.int .i64 1]) := ⟨read_newG (us := [.int .i64 1]) (by rfl) (by intro u hu; simp only [List.mem_cons, List.not_mem_nil, or_false] at hu; rcases hu with rfl; rfl)⟩
          go_wp2_with (first | (at_builtin; refine wpList_ownG HK3.out rfl _ _ rfl (v := u5) (xs := st.kinds.map (.int .i64)) (ys := [.int .i64 1]) rfl (HR3.out.kin.alloc _) (Nat.le_trans HR3.out.same.size (by simp)) rfl HRN.out (by have := HIK.out; omega) ?_; intro v' w7 ho hg hat; have HO7 := Aside0.mk ho; have HG7 := Aside0.mk hg; clear ho hg hat) | fail)
          go_roundg (ds.length - (i + 1))
          case measure => have := HI.out; have := HIK.out; omega
          case rel => exact RND.out (st.l) 1 (.slice A4 st.l.length c4) u5 v' w3 w7 HK.out HR3.out HO7.out HG7.out
    · have hie : i = ds.length := by have := HI.out; omega
      subst hie
      have i2 : decide ((ds.length : Int) < (ds.length : Int)) = false := decide_eq_false (by omega)
      rw [List.take_length] at HR
      have HPO : Aside0 (SpecPost w0 ds (.returned (.tuple #[u4, u5])) wr) := ⟨⟨u4, u5, rfl, HR.out.row, HR.out.kin⟩, HR.out.same⟩
      clear HR
      go_wp2
      refine bodyPost_ret (results_list (rs := [.tmp 2, .tmp 3]) rfl (by simp) (.tmp (.tmp .nil))) rfl ?_
      exact HPO.out
end
end Go.Proofs.YtimffhpnfdikoaaDoor.Ls
