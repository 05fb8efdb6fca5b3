/- The walk of spec.Tree. (Printed by gen_tfg.py.) -/
import Derived.Test.YtjhmpcbpbdkddaaGreatTfF
namespace Go.Proofs.YtjhmpcbpbdkddaaGreat.Te
open Go.RowKit Go.Proofs.YtjhmpcbpbdkddaaGreat.Pl Go.Proofs.YtjhmpcbpbdkddaaGreat.Bs Go.Proofs.YtjhmpcbpbdkddaaGreatW.PrintWords Go.Proofs.YtjhmpcbpbdkddaaGreatW.PrintLast Go.Proofs.YtjhmpcbpbdkddaaGreatW.PrintMore Go.Proofs.YtjhmpcbpbdkddaaGreat.GFnTreeRun
set_option linter.unusedVariables false
set_option linter.unusedSimpArgs false
structure SpecPost (w0 : World) (ds : List S51) (e : Ending) (w' : World) : Prop where
  out : ∃ lv tv, e = .returned (.tuple #[lv, tv]) ∧ w'.ownsRow w0.heap.size 48 2 lv (runT ds).l.length (e48 (runT ds).l) ∧ w'.ownsRow w0.heap.size 34 2 tv ds.length (e34 (runT ds).told)
  same : Same w0 w'
structure SpR (w0 w : World) (l : List S48) (v4 v5 : Value) (i : Nat) (ts : List S34) : Prop where
  row : w.ownsRow w0.heap.size 48 2 v4 l.length (e48 l)
  kin : w.ownsRow w0.heap.size 34 2 v5 i (e34 ts)
  same : Same w0 w
theorem SpR.fr0 {w0 w w1 : World} {l : List S48} {v4 v5 : Value} {i : Nat} {ts : List S34} (h : SpR w0 w l v4 v5 i ts) (hf : Same w w1) : SpR w0 w1 l v4 v5 i ts :=
  ⟨ownsRow_fr h.row hf (fun _ _ h => h), ownsRow_fr h.kin hf (fun _ _ h => h), h.same.trans hf (fun _ _ h => h)⟩
theorem SpR.newRow {w0 w w1 : World} {l l' : List S48} {v4 v5 v' : Value} {i n : Nat} {ts : List S34} {xs : List Value} (h : SpR w0 w l v4 v5 i ts) (hr : RowG w w1 48 2 v' n xs) (hn : n = l'.length) (hx : xs = e48 l') : SpR w0 w1 l' v' v5 i ts := by
  subst hn hx
  exact ⟨ownsRow_low hr.own h.same.size, ownsRow_fr h.kin hr.fr (fun _ _ h => h), h.same.trans hr.fr (fun _ _ h => h)⟩
theorem SpR.app {w0 w w1 : World} {l : List S48} {v4 v5 v' : Value} {i : Nat} {ts : List S34} {t : S34} (h : SpR w0 w l v4 v5 i ts) (ho : w1.ownsRow w0.heap.size 34 2 v' (i + 1) (e34 ts ++ [.bool t.f0, .int .i64 t.f1])) (hg : (w.alloc (.cells #[.bool t.f0, .int .i64 t.f1] 34)).grownBy w1 v5.ownBlock) : SpR w0 w1 l v4 v' (i + 1) (ts ++ [t]) := by
  have hgr : Fr (fun k => v5.ownBlock = some k) w w1 := ((Fr.refl _ w).alloc _).trans (Fr.grown hg) (fun _ _ h => h)
  refine ⟨ownsRow_block h.row (fun k hk => hgr.block k (own_base h.row hk).2 (own_ne h.row h.kin (by decide) hk)), by rw [e34_app]; exact ho, h.same.trans hgr (fun k hk e => ?_)⟩
  have := own_base h.kin e
  omega
section
set_option maxHeartbeats 16000000
set_option maxRecDepth 100000
theorem spec_calls {w0 : World} {A0 : Option Addr} {c0 : Nat} {ds : List S51} {L : List BL} (hT : Kd.C k51 w0 A0 ds.length ds) (hD : GoodD ds L) : Calls Tryz.prog 12 #[.slice A0 ds.length c0] w0 (SpecPost w0 ds) := by
  obtain ⟨i34, hK34⟩ := ek34
  obtain ⟨i48, hK48⟩ := ek48
  have HK34 := Aside0.mk hK34
  have HK48 := Aside0.mk hK48
  have HT := Aside0.mk hT
  have HD := Aside0.mk hD
  clear hK34 hK48 hT hD
  go_enter Tryz.func12, Tryz.ntmps12
  go_wp2_with fail
  go_loopg [4, 5, 6] ds.length (fun kq v4 v5 v6 wr => ∃ (i : Nat), v6 = .int .i64 (i : Int) ∧ Aside0 (kq + i = ds.length ∧ i ≤ ds.length) ∧ Aside0 (SpR w0 wr (runT (ds.take i)).l v4 v5 i (runT (ds.take i)).told))
  case atStart => exact ⟨0, rfl, ⟨by omega⟩, ⟨⟨⟨rfl, .inl ⟨rfl, rfl⟩⟩, ⟨rfl, .inl ⟨rfl, rfl⟩⟩, Fr.refl _ _⟩⟩⟩
  case round =>
    obtain ⟨i, rfl, HI, HR⟩ := hrel
    have i0 : (0 : Int) ≤ (i : Int) := by omega
    by_cases hlt : i < ds.length
    · have i1 : (i : Int) < (ds.length : Int) := by omega
      have i2 : decide ((i : Int) < (ds.length : Int)) = true := decide_eq_true i1
      have i5 : IntKind.i64.wrap ((i : Int) + 1) = ((i + 1 : Nat) : Int) := by rw [IntKind.wrap_i64]; have := HI.out; have := HD.out.len; omega
      obtain ⟨d, ht⟩ : ∃ d, ds[i]? = some d := ⟨_, List.getElem?_eq_getElem hlt⟩
      have HTI := Aside0.mk ht
      have HDD := Aside0.mk (HD.out.all d (List.mem_of_getElem? ht))
      have HIK : Aside0 (i + 1 ≤ ds.length ∧ ds.length ≤ 1000) := ⟨by have := HD.out.len; omega⟩
      obtain ⟨ad, rfl, t0, t1, t2⟩ := at_T51 (Kd.C_below HT.out (below_of_fr HR.out.same)) (i : Int) (by omega) (by omega)
      rw [Int.toNat_natCast, rd51_at HTI.out] at t0 t1 t2
      have hsz := (runT_len (ds.take i)).1
      rw [List.length_take] at hsz
      have hst := runT_take ht
      obtain ⟨st, hst0⟩ : ∃ st, runT (ds.take i) = st := ⟨_, rfl⟩
      rw [hst0] at HR hsz hst
      have HST := Aside0.mk hst
      have HSZ : Aside0 (st.l.length ≤ 1000) := ⟨by have := HD.out.len; omega⟩
      clear ht hsz hst hst0
      obtain ⟨A4, c4, rfl, hc4, hr4⟩ := read_own (w := wr) (W := wr) HR.out.row (e48_one _)
      have HC4 := Aside0.mk hc4
      have HRD := Aside0.mk hr4
      clear hc4 hr4
      go_upto_region 7 with (fail)
      have HB1 : Aside0 (Blk (wr.alloc (.cells #[.int .i64 d.f0, .string d.f1, .int .i64 d.f2] 51)) wr.heap.size 51 [.int .i64 d.f0, .string d.f1, .int .i64 d.f2]) := ⟨Blk.new _ _ _⟩
      have HS1 : Aside0 (Same wr (wr.alloc (.cells #[.int .i64 d.f0, .string d.f1, .int .i64 d.f2] 51))) := ⟨(Fr.refl _ _).alloc _⟩
      generalize wr.alloc (.cells #[.int .i64 d.f0, .string d.f1, .int .i64 d.f2] 51) = w2 at HB1 HS1 ⊢
      generalize htb : wr.heap.size = tb at HB1 ⊢
      have HR2 : Aside0 (SpR w0 w2 st.l (.slice A4 st.l.length c4) u5 i st.told) := ⟨HR.out.fr0 HS1.out⟩
      have HRG : Aside0 (ReadG w2 A4 st.l.length 2 (e48 st.l)) := ⟨HRD.out.fr HS1.out (fun _ _ h => h)⟩
      have c1' := HB1.out.cell 1 rfl
      clear t0 t1 t2 htb hlt i0 i1 i2
      go_wp2_with fail
      obtain ⟨kp, hkp⟩ := Ev.rounds (find_ev st.l (by have := HSZ.out; omega) d.f1)
      refine (spec_find.calls kp A4 c4 st.l d.f1 _ w2 (kc48_of_rg HRG.out (by have := HSZ.out; omega)) HC4.out hkp).mono ?_
      rintro e w3 ⟨rfl, hdr3⟩
      have HS3 : Aside0 (Same w2 w3) := ⟨fr_of_below hdr3.below⟩
      clear hdr3 hkp c1'
      go_upto_region 9 with (fail)
      have HB9 : Aside0 (Blk (w3.alloc (.cells #[.bool false, .int .i64 0] 34)) w3.heap.size 34 [.bool false, .int .i64 0]) := ⟨Blk.new _ _ _⟩
      have HS4 : Aside0 (Same w2 (w3.alloc (.cells #[.bool false, .int .i64 0] 34))) := ⟨HS3.out.trans ((Fr.refl _ w3).alloc _) (fun _ _ h => h)⟩
      generalize w3.alloc (.cells #[.bool false, .int .i64 0] 34) = w4 at HB9 HS4 ⊢
      generalize hb9 : w3.heap.size = b9 at HB9 ⊢
      have HNE : Aside0 (w2.heap.size ≤ b9) := ⟨by rw [← hb9]; exact HS3.out.size⟩
      have HR4 : Aside0 (SpR w0 w4 st.l (.slice A4 st.l.length c4) u5 i st.told) := ⟨HR2.out.fr0 HS4.out⟩
      have HRG4 : Aside0 (ReadG w4 A4 st.l.length 2 (e48 st.l)) := ⟨HRG.out.fr HS4.out (fun _ _ h => h)⟩
      have HBD : Aside0 (Blk w4 tb 51 [.int .i64 d.f0, .string d.f1, .int .i64 d.f2]) := ⟨HB1.out.fr HS4.out (fun h => h)⟩
      clear hb9 HS3
      cases hf : fnd st.l d.f1 with
      | none =>
        have HF := Aside0.mk hf
        clear hf
        have p0 : ¬ (fndI none ≥ 0) := by decide
        rw [show fndI none = -1 from rfl]
        have HB5 := HB9
        have HS5 : Aside0 (Same w4 w4) := ⟨Fr.refl _ _⟩
        have HR5 := HR4
        have HRG5 := HRG4
        have HBD5 := HBD
        go_upto_region 11 with (fail)
        go_upto_region 12 with (first | (at_builtin; refine wpList_rowG HK48.out rfl _ _ rfl (w2 := w4) (n := 0) (xs := []) (m := st.l.length) (ys := e48 st.l) rfl (row_g0 (Fr.refl _ _)) rfl (fun hf => HRG5.out.fr hf (fun _ _ h => h)) (by have := HSZ.out; omega) ?_; intro v9 w9 hr9 hg9 ha9) | fail)
        have HR9 : Aside0 (SpR w0 w9 st.l v9 u5 i st.told) := ⟨HR5.out.newRow hr9 (by omega) rfl⟩
        have HROW9 := Aside0.mk hr9
        have HS9 : Aside0 (Same w4 w9) := ⟨hr9.fr⟩
        have HRG9 : Aside0 (ReadG w9 A4 st.l.length 2 (e48 st.l)) := ⟨HRG5.out.fr hr9.fr (fun _ _ h => h)⟩
        have HBX := Aside0.mk (HB5.out.fr hr9.fr (fun h => h))
        have HBD9 := Aside0.mk (HBD5.out.fr hr9.fr (fun h => h))
        have d0' := HBD9.out.cell 0 rfl
        have d1' := HBD9.out.cell 1 rfl
        have d2' := HBD9.out.cell 2 rfl
        clear hr9 hg9 ha9
        by_cases z0 : d.f0 = 0
        · have y0 : (d.f0 == 0) = true := by simpa using z0
          have y1 : (d.f0 == 1) = false := by rw [beq_eq_false_iff_ne]; omega
          have HKK : Aside0 (stepT st d = ⟨st.l.take (lowN st.l d.f1) ++ [⟨d.f1, d.f2⟩] ++ st.l.drop (lowN st.l d.f1), st.told ++ [⟨false, 0⟩]⟩) := ⟨by unfold stepT; rw [HF.out]; show (⟨if d.f0 = 0 then _ else _, _⟩ : SSt) = _; rw [if_pos z0]⟩
          clear z0
          go_wp2_with fail
          go_loopg [11] st.l.length (fun kq v11 wr => ∃ (kk : Nat), v11 = .int .i64 (kk : Int) ∧ Aside0 (kq + kk = st.l.length ∧ kk ≤ lowN st.l d.f1) ∧ Aside0 (Same w9 wr))
          case atStart => exact ⟨0, rfl, ⟨by omega, by omega⟩, ⟨Fr.refl _ _⟩⟩
          case round =>
            obtain ⟨kk, rfl, HKQ, HSL⟩ := hrel
            have l0 : (0 : Int) ≤ (kk : Int) := by omega
            have HRGL : Aside0 (ReadG wr A4 st.l.length 2 (e48 st.l)) := ⟨HRG9.out.fr HSL.out (fun _ _ h => h)⟩
            have f1' := HSL.out.cell d1'
            have f2' := HSL.out.cell d2'
            have f0' := HSL.out.cell d0'
            by_cases hkl : kk < st.l.length
            · have l1 : (kk : Int) < (st.l.length : Int) := by omega
              have l2 : decide ((kk : Int) < (st.l.length : Int)) = true := decide_eq_true l1
              have l5 : IntKind.i64.wrap ((kk : Int) + 1) = ((kk + 1 : Nat) : Int) := by rw [IntKind.wrap_i64]; have := HSZ.out; omega
              obtain ⟨ek, hek⟩ : ∃ e, st.l[kk]? = some e := ⟨_, List.getElem?_eq_getElem hkl⟩
              obtain ⟨ad4, hA4, s0, -⟩ := at_T48 (kc48_of_rg HRGL.out (by have := HSZ.out; omega)) (kk : Int) l0 l1
              rw [Int.toNat_natCast, show rd_T48 st.l (kk : Int) = ek by unfold rd_T48; rw [Int.toNat_natCast, List.getD_eq_getElem?_getD, hek]; rfl] at s0
              subst hA4
              by_cases hlow : kk < lowN st.l d.f1
              · have hless : Op.bytesLess ek.f0.toList d.f1.toList = true := by
                  obtain ⟨e, h1, h2⟩ := low_lt hlow
                  rw [hek] at h1
                  injection h1 with h1
                  rw [h1]
                  exact h2
                have HLW := Aside0.mk hlow
                clear hek hlow
                go_wp2_with fail
                go_quiet (fail)
                go_wp2_with fail
                go_roundg (st.l.length - (kk + 1))
                case measure => have := HKQ.out; omega
                case rel => exact ⟨kk + 1, by first | rfl | go_num, ⟨by have := HKQ.out; have := HLW.out; omega⟩, ⟨HSL.out.trans ((Fr.refl _ _).drewN nq) (fun _ _ h => h)⟩⟩
              · have HKL : Aside0 (kk = lowN st.l d.f1 ∧ kk ≤ st.l.length) := ⟨by have := HKQ.out; omega⟩
                have hless : Op.bytesLess ek.f0.toList d.f1.toList = false := low_stop (by rw [← HKL.out.1]; exact hek)
                clear hek hlow
                go_wp2_with fail
                go_quiet (fail)
                go_wp2_with fail
                have HSL2 : Aside0 (Same w9 (wr.drewN nq)) := ⟨HSL.out.trans ((Fr.refl _ _).drewN nq) (fun _ _ h => h)⟩
                generalize wr.drewN nq = wm at HSL2 ⊢
                have q1 : (kk : Int) ≤ (st.l.length : Int) := by have := HKL.out; omega
                have q2 : (st.l.length : Int) ≤ (c4 : Int) := by have := HC4.out; omega
                have q3 : (kk : Int) ≤ (c4 : Int) := by omega
                obtain ⟨X, hX⟩ : ∃ X, (if c4 = kk then (some ad4) else Option.map (fun x => x.add (kk * 2)) (some ad4)) = X := ⟨_, rfl⟩
                have HS99 : Aside0 (0 + kk ≤ 1000000 ∧ 0 + kk + 1 ≤ 1000000 ∧ 0 + kk + 1 + (st.l.length - kk) ≤ 1000000) := ⟨by have := HSZ.out; have := HKL.out; omega⟩
                have HRT : Aside0 (∀ W, Fr (fun _ => False) wm W → ReadG W (some ad4) kk 2 (e48 (st.l.take kk))) := ⟨fun W hf => by rw [e48_take]; exact ((HRG9.out.fr HSL2.out (fun _ _ h => h)).take kk HKL.out.2).fr hf (fun _ _ h => h)⟩
                have HRX : Aside0 (∀ W, Fr (fun _ => False) wm W → ReadG W X (st.l.length - kk) 2 (e48 (st.l.drop kk))) := ⟨fun W hf => by rw [e48_drop, ← hX]; exact ((HRG9.out.fr HSL2.out (fun _ _ h => h)).drop kk HKL.out.2 HC4.out).fr hf (fun _ _ h => h)⟩
                simp only [Option.map_some] at hX
                have g1' := HSL2.out.cell d1'
                have g2' := HSL2.out.cell d2'
                have HKS : Aside0 (∀ B : World, Same wm B → Same wm B ∧ B.cell? ⟨tb, 1, none⟩ = some (.string d.f1) ∧ B.cell? ⟨tb, 2, none⟩ = some (.int .i64 d.f2)) := ⟨fun B hb => ⟨hb, hb.cell g1', hb.cell g2'⟩⟩
                have HRN2 : Aside0 (∀ W : World, ReadG (W.alloc (.cells #[.string d.f1, .int .i64 d.f2] 48)) (some ⟨W.heap.size, 0, none⟩) 1 2 [.string d.f1, .int .i64 d.f2]) := ⟨fun W => read_newG (us := [.string d.f1, .int .i64 d.f2]) (by rfl) (by intro u hu; simp only [List.mem_cons, List.not_mem_nil, or_false] at hu; rcases hu with rfl | rfl <;> rfl)⟩
                clear f0' f1' f2' l0 l1 l2
                go_region_held3 (fun B => Same wm B ∧ B.cell? ⟨tb, 1, none⟩ = some (.string d.f1) ∧ B.cell? ⟨tb, 2, none⟩ = some (.int .i64 d.f2))
                  (first | exact HKS.out _ (Fr.refl _ _).drew | exact HKS.out _ ((Fr.refl _ _).drew.alloc _) | exact HKS.out _ (((Fr.refl _ _).alloc _).drew) | exact HKS.out _ ((Fr.refl _ _).alloc _) | exact HKS.out _ (Fr.refl _ _) | exact HKS.out _ (hr12.fr) | exact HKS.out _ hr12.fr.drew | exact HKS.out _ (hr11.fr) | exact HKS.out _ hr11.fr.drew | exact HKS.out _ hr10.fr | exact HKS.out _ hr10.fr.drew | exact HKS.out _ (hr10.fr.alloc _) | exact HKS.out _ (hr10.fr.drew.alloc _) | exact HKS.out _ (hr10.fr.alloc _).drew | exact HKS.out _ (((Fr.refl _ _).alloc _).alloc _) | exact HKS.out _ (((Fr.refl _ _).alloc _).alloc _).drew)
                  (first
                    | (refine step_rowG HK48.out (by rfl) (.tmp 74) (.tmp 77) (by rfl) (w2 := wm) (n := 0) (m := kk) (xs := []) (ys := e48 (st.l.take kk)) (by rfl) (by first | exact row_g1 | exact row_g0 (Fr.refl _ _) | exact row_g0 (Fr.refl _ _).drew | exact (row_g0 (Fr.refl _ _)).drew | exact (row_g0 (Fr.refl _ _)).alloc _ | exact ((row_g0 (Fr.refl _ _)).alloc _).drew | exact row_c _) (by rfl) (HRT.out _) HS99.out.1 ?_; intro v10 w10 hr10 hg10 ha10)
                    | (refine step_rowG HK48.out (by rfl) (.tmp 78) (.tmp 84) (by rfl) (w2 := wm) (n := 0 + kk) (m := 1) (xs := [] ++ e48 (st.l.take kk)) (ys := [.string d.f1, .int .i64 d.f2]) (by rfl) (by first | exact hr10.alloc _ | exact hr10.drew.alloc _ | exact (hr10.alloc _).drew | exact hr10 | exact hr10.drew) (by rfl) (fun hf => by first | exact HRN2.out _ | exact rd_drew (HRN2.out _) | exact rd_grown hg10 (rd_drew (by have := HRN2.out (wm.alloc (.cells #[] 48)); simpa using this)) (by show some wm.heap.size ≠ some (wm.heap.size + 1); simp) | exact rd_grown hg10 (rd_drew ((HRN2.out wm).fr ((Fr.refl (fun _ => False) _).alloc _) (fun _ _ h => h))) (by show some (wm.heap.size + 1) ≠ some wm.heap.size; simp)) HS99.out.2.1 ?_; intro v11 w11 hr11 hg11 ha11)
                    | (refine step_rowG HK48.out (by rfl) (.tmp 85) (.tmp 88) (by rfl) (w2 := wm) (n := 0 + kk + 1) (m := st.l.length - kk) (xs := [] ++ e48 (st.l.take kk) ++ [.string d.f1, .int .i64 d.f2]) (ys := e48 (st.l.drop kk)) (by rfl) (by first | exact hr11 | exact hr11.drew) (by rfl) (HRX.out _) HS99.out.2.2 ?_; intro v12 w12 hr12 hg12 ha12))
                all_goals
                  have HR12 : Aside0 (SpR w0 w12 (st.l.take kk ++ [⟨d.f1, d.f2⟩] ++ st.l.drop kk) v12 u5 i st.told) := ⟨(HR9.out.fr0 HSL2.out).newRow hr12 (by rw [List.length_append, List.length_append, List.length_take, List.length_drop, List.length_singleton]; have := HKL.out.2; omega) (by rw [e48_app, e48_app]; rfl)⟩
                  have HBX2 := Aside0.mk ((HBX.out.fr HSL2.out (fun h => h)).fr hr12.fr (fun h => h))
                  have HBD12 := Aside0.mk ((HBD9.out.fr HSL2.out (fun h => h)).fr hr12.fr (fun h => h))
                  have HKK2 : Aside0 (stepT st d = ⟨st.l.take kk ++ [⟨d.f1, d.f2⟩] ++ st.l.drop kk, st.told ++ [⟨false, 0⟩]⟩) := ⟨by have := HKK.out; rw [← HKL.out.1] at this; exact this⟩
                  clear hr10 hg10 ha10 hr11 hg11 ha11 hr12 hg12 ha12 HBX HBD9 d0' d1' d2' g1' g2' hX HKK
                  have HBX := HBX2
                  have HKK := HKK2
                  have d0' := HBD12.out.cell 0 rfl
                  go_upto_region 22 with (fail)
                  have e0 := HBX.out.cell 0 rfl
                  have e1 := HBX.out.cell 1 rfl
                  have HRN : Aside0 (ReadG (w12.alloc (.cells #[.bool false, .int .i64 0] 34)) (some ⟨w12.heap.size, 0, none⟩) 1 2 [.bool false, .int .i64 0]) := ⟨read_newG (us := [.bool false, .int .i64 0]) (by rfl) (by intro u hu; simp only [List.mem_cons, List.not_mem_nil, or_false] at hu; rcases hu with rfl | rfl <;> rfl)⟩
                  go_wp2_with (first | (at_builtin; refine wpList_ownG HK34.out rfl _ _ rfl (v := u5) (xs := e34 st.told) (ys := [.bool false, .int .i64 0]) rfl (HR12.out.kin.alloc _) (Nat.le_trans HR12.out.same.size (by simp)) rfl HRN.out (by have := HIK.out; omega) ?_; intro v' w7 ho hg hat; have HO7 := Aside0.mk ho; have HG7 := Aside0.mk hg; clear ho hg hat) | fail)
                  go_roundg (ds.length - (i + 1))
                  case measure => have := HI.out; have := HIK.out; omega
                  case rel => exact ⟨i + 1, by first | rfl | go_num, ⟨by have := HIK.out; omega⟩, ⟨by rw [HST.out, HKK.out]; exact SpR.app (t := ⟨false, 0⟩) HR12.out HO7.out HG7.out⟩⟩
            · have l1 : ¬ ((kk : Int) < (st.l.length : Int)) := by omega
              have l2 : decide ((kk : Int) < (st.l.length : Int)) = false := decide_eq_false l1
              have HKL : Aside0 (kk = lowN st.l d.f1 ∧ kk ≤ st.l.length) := ⟨by have := HKQ.out; have := lowN_le st.l d.f1; omega⟩
              go_wp2_with fail
              go_quiet (fail)
              go_wp2_with fail
              have HSL2 : Aside0 (Same w9 (wr.drewN nq)) := ⟨HSL.out.trans ((Fr.refl _ _).drewN nq) (fun _ _ h => h)⟩
              generalize wr.drewN nq = wm at HSL2 ⊢
              have q1 : (kk : Int) ≤ (st.l.length : Int) := by have := HKL.out; omega
              have q2 : (st.l.length : Int) ≤ (c4 : Int) := by have := HC4.out; omega
              have q3 : (kk : Int) ≤ (c4 : Int) := by omega
              obtain ⟨X, hX⟩ : ∃ X, (if c4 = kk then A4 else Option.map (fun x => x.add (kk * 2)) A4) = X := ⟨_, rfl⟩
              have HS99 : Aside0 (0 + kk ≤ 1000000 ∧ 0 + kk + 1 ≤ 1000000 ∧ 0 + kk + 1 + (st.l.length - kk) ≤ 1000000) := ⟨by have := HSZ.out; have := HKL.out; omega⟩
              have HRT : Aside0 (∀ W, Fr (fun _ => False) wm W → ReadG W A4 kk 2 (e48 (st.l.take kk))) := ⟨fun W hf => by rw [e48_take]; exact ((HRG9.out.fr HSL2.out (fun _ _ h => h)).take kk HKL.out.2).fr hf (fun _ _ h => h)⟩
              have HRX : Aside0 (∀ W, Fr (fun _ => False) wm W → ReadG W X (st.l.length - kk) 2 (e48 (st.l.drop kk))) := ⟨fun W hf => by rw [e48_drop, ← hX]; exact ((HRG9.out.fr HSL2.out (fun _ _ h => h)).drop kk HKL.out.2 HC4.out).fr hf (fun _ _ h => h)⟩
              have g1' := HSL2.out.cell d1'
              have g2' := HSL2.out.cell d2'
              have HKS : Aside0 (∀ B : World, Same wm B → Same wm B ∧ B.cell? ⟨tb, 1, none⟩ = some (.string d.f1) ∧ B.cell? ⟨tb, 2, none⟩ = some (.int .i64 d.f2)) := ⟨fun B hb => ⟨hb, hb.cell g1', hb.cell g2'⟩⟩
              have HRN2 : Aside0 (∀ W : World, ReadG (W.alloc (.cells #[.string d.f1, .int .i64 d.f2] 48)) (some ⟨W.heap.size, 0, none⟩) 1 2 [.string d.f1, .int .i64 d.f2]) := ⟨fun W => read_newG (us := [.string d.f1, .int .i64 d.f2]) (by rfl) (by intro u hu; simp only [List.mem_cons, List.not_mem_nil, or_false] at hu; rcases hu with rfl | rfl <;> rfl)⟩
              clear f0' f1' f2' l0 l1 l2
              go_region_held3 (fun B => Same wm B ∧ B.cell? ⟨tb, 1, none⟩ = some (.string d.f1) ∧ B.cell? ⟨tb, 2, none⟩ = some (.int .i64 d.f2))
                (first | exact HKS.out _ (Fr.refl _ _).drew | exact HKS.out _ ((Fr.refl _ _).drew.alloc _) | exact HKS.out _ (((Fr.refl _ _).alloc _).drew) | exact HKS.out _ ((Fr.refl _ _).alloc _) | exact HKS.out _ (Fr.refl _ _) | exact HKS.out _ (hr12.fr) | exact HKS.out _ hr12.fr.drew | exact HKS.out _ (hr11.fr) | exact HKS.out _ hr11.fr.drew | exact HKS.out _ hr10.fr | exact HKS.out _ hr10.fr.drew | exact HKS.out _ (hr10.fr.alloc _) | exact HKS.out _ (hr10.fr.drew.alloc _) | exact HKS.out _ (hr10.fr.alloc _).drew | exact HKS.out _ (((Fr.refl _ _).alloc _).alloc _) | exact HKS.out _ (((Fr.refl _ _).alloc _).alloc _).drew)
                (first
                  | (refine step_rowG HK48.out (by rfl) (.tmp 74) (.tmp 77) (by rfl) (w2 := wm) (n := 0) (m := kk) (xs := []) (ys := e48 (st.l.take kk)) (by rfl) (by first | exact row_g1 | exact row_g0 (Fr.refl _ _) | exact row_g0 (Fr.refl _ _).drew | exact (row_g0 (Fr.refl _ _)).drew | exact (row_g0 (Fr.refl _ _)).alloc _ | exact ((row_g0 (Fr.refl _ _)).alloc _).drew | exact row_c _) (by rfl) (HRT.out _) HS99.out.1 ?_; intro v10 w10 hr10 hg10 ha10)
                  | (refine step_rowG HK48.out (by rfl) (.tmp 78) (.tmp 84) (by rfl) (w2 := wm) (n := 0 + kk) (m := 1) (xs := [] ++ e48 (st.l.take kk)) (ys := [.string d.f1, .int .i64 d.f2]) (by rfl) (by first | exact hr10.alloc _ | exact hr10.drew.alloc _ | exact (hr10.alloc _).drew | exact hr10 | exact hr10.drew) (by rfl) (fun hf => by first | exact HRN2.out _ | exact rd_drew (HRN2.out _) | exact rd_grown hg10 (rd_drew (by have := HRN2.out (wm.alloc (.cells #[] 48)); simpa using this)) (by show some wm.heap.size ≠ some (wm.heap.size + 1); simp) | exact rd_grown hg10 (rd_drew ((HRN2.out wm).fr ((Fr.refl (fun _ => False) _).alloc _) (fun _ _ h => h))) (by show some (wm.heap.size + 1) ≠ some wm.heap.size; simp)) HS99.out.2.1 ?_; intro v11 w11 hr11 hg11 ha11)
                  | (refine step_rowG HK48.out (by rfl) (.tmp 85) (.tmp 88) (by rfl) (w2 := wm) (n := 0 + kk + 1) (m := st.l.length - kk) (xs := [] ++ e48 (st.l.take kk) ++ [.string d.f1, .int .i64 d.f2]) (ys := e48 (st.l.drop kk)) (by rfl) (by first | exact hr11 | exact hr11.drew) (by rfl) (HRX.out _) HS99.out.2.2 ?_; intro v12 w12 hr12 hg12 ha12))
              all_goals
                have HR12 : Aside0 (SpR w0 w12 (st.l.take kk ++ [⟨d.f1, d.f2⟩] ++ st.l.drop kk) v12 u5 i st.told) := ⟨(HR9.out.fr0 HSL2.out).newRow hr12 (by rw [List.length_append, List.length_append, List.length_take, List.length_drop, List.length_singleton]; have := HKL.out.2; omega) (by rw [e48_app, e48_app]; rfl)⟩
                have HBX2 := Aside0.mk ((HBX.out.fr HSL2.out (fun h => h)).fr hr12.fr (fun h => h))
                have HBD12 := Aside0.mk ((HBD9.out.fr HSL2.out (fun h => h)).fr hr12.fr (fun h => h))
                have HKK2 : Aside0 (stepT st d = ⟨st.l.take kk ++ [⟨d.f1, d.f2⟩] ++ st.l.drop kk, st.told ++ [⟨false, 0⟩]⟩) := ⟨by have := HKK.out; rw [← HKL.out.1] at this; exact this⟩
                clear hr10 hg10 ha10 hr11 hg11 ha11 hr12 hg12 ha12 HBX HBD9 d0' d1' d2' g1' g2' hX HKK
                have HBX := HBX2
                have HKK := HKK2
                have d0' := HBD12.out.cell 0 rfl
                go_upto_region 22 with (fail)
                have e0 := HBX.out.cell 0 rfl
                have e1 := HBX.out.cell 1 rfl
                have HRN : Aside0 (ReadG (w12.alloc (.cells #[.bool false, .int .i64 0] 34)) (some ⟨w12.heap.size, 0, none⟩) 1 2 [.bool false, .int .i64 0]) := ⟨read_newG (us := [.bool false, .int .i64 0]) (by rfl) (by intro u hu; simp only [List.mem_cons, List.not_mem_nil, or_false] at hu; rcases hu with rfl | rfl <;> rfl)⟩
                go_wp2_with (first | (at_builtin; refine wpList_ownG HK34.out rfl _ _ rfl (v := u5) (xs := e34 st.told) (ys := [.bool false, .int .i64 0]) rfl (HR12.out.kin.alloc _) (Nat.le_trans HR12.out.same.size (by simp)) rfl HRN.out (by have := HIK.out; omega) ?_; intro v' w7 ho hg hat; have HO7 := Aside0.mk ho; have HG7 := Aside0.mk hg; clear ho hg hat) | fail)
                go_roundg (ds.length - (i + 1))
                case measure => have := HI.out; have := HIK.out; omega
                case rel => exact ⟨i + 1, by first | rfl | go_num, ⟨by have := HIK.out; omega⟩, ⟨by rw [HST.out, HKK.out]; exact SpR.app (t := ⟨false, 0⟩) HR12.out HO7.out HG7.out⟩⟩
        · have y0 : (d.f0 == 0) = false := by simpa using z0
          have y1 : (d.f0 == 1) = true := by simpa using HDD.out.1.resolve_left z0
          have HKK : Aside0 (stepT st d = ⟨st.l, st.told ++ [⟨false, 0⟩]⟩) := ⟨by unfold stepT; rw [HF.out]; show (⟨if d.f0 = 0 then _ else _, _⟩ : SSt) = _; rw [if_neg z0]⟩
          clear z0
          go_upto_region 22 with (fail)
          have e0 := HBX.out.cell 0 rfl
          have e1 := HBX.out.cell 1 rfl
          have HRN : Aside0 (ReadG (w9.alloc (.cells #[.bool false, .int .i64 0] 34)) (some ⟨w9.heap.size, 0, none⟩) 1 2 [.bool false, .int .i64 0]) := ⟨read_newG (us := [.bool false, .int .i64 0]) (by rfl) (by intro u hu; simp only [List.mem_cons, List.not_mem_nil, or_false] at hu; rcases hu with rfl | rfl <;> rfl)⟩
          go_wp2_with (first | (at_builtin; refine wpList_ownG HK34.out rfl _ _ rfl (v := u5) (xs := e34 st.told) (ys := [.bool false, .int .i64 0]) rfl (HR9.out.kin.alloc _) (Nat.le_trans HR9.out.same.size (by simp)) rfl HRN.out (by have := HIK.out; omega) ?_; intro v' w7 ho hg hat; have HO7 := Aside0.mk ho; have HG7 := Aside0.mk hg; clear ho hg hat) | fail)
          go_roundg (ds.length - (i + 1))
          case measure => have := HI.out; have := HIK.out; omega
          case rel => exact ⟨i + 1, by first | rfl | go_num, ⟨by have := HIK.out; omega⟩, ⟨by rw [HST.out, HKK.out]; exact SpR.app (t := ⟨false, 0⟩) HR9.out HO7.out HG7.out⟩⟩
      | some n =>
        have HF := Aside0.mk hf
        obtain ⟨en, hen, hes⟩ := fnd_some hf
        have HEN := Aside0.mk (And.intro hen hes)
        have hnl : n < st.l.length := (List.getElem?_eq_some_iff.1 hen).1
        have j0 : (0 : Int) ≤ (n : Int) := by omega
        have j1 : (n : Int) < (st.l.length : Int) := by omega
        have j9 : (n : Int) ≥ 0 := j0
        obtain ⟨ad4, hA4, s0, s1⟩ := at_T48 (kc48_of_rg HRG4.out (by have := HSZ.out; omega)) (n : Int) j0 j1
        rw [Int.toNat_natCast, show rd_T48 st.l (n : Int) = en by unfold rd_T48; rw [Int.toNat_natCast, List.getD_eq_getElem?_getD, hen]; rfl] at s0 s1
        subst hA4
        rw [show fndI (some n) = (n : Int) from rfl]
        have z9 : ∀ o, w4.frozen? ⟨b9, o, none⟩ = false := HB9.out.free
        have c90 := HB9.out.cell 0 rfl
        have c91 := HB9.out.cell 1 rfl
        clear hf hen hes hnl
        go_upto_region 11 with (fail)
        have HB5 : Aside0 (Blk ((w4.setCell ⟨b9, 0, none⟩ (.bool true)).setCell ⟨b9, 1, none⟩ (.int .i64 en.f1)) b9 34 [.bool true, .int .i64 en.f1]) := ⟨(HB9.out.set 0 (by simp) (.bool true)).set 1 (by simp) (.int .i64 en.f1)⟩
        have HS5 : Aside0 (Same w2 ((w4.setCell ⟨b9, 0, none⟩ (.bool true)).setCell ⟨b9, 1, none⟩ (.int .i64 en.f1))) := ⟨(HS4.out.set (p := ⟨b9, 0, none⟩) (.inr HNE.out) _).set (p := ⟨b9, 1, none⟩) (.inr HNE.out) _⟩
        generalize (w4.setCell ⟨b9, 0, none⟩ (.bool true)).setCell ⟨b9, 1, none⟩ (.int .i64 en.f1) = w5 at HB5 HS5 ⊢
        have HR5 : Aside0 (SpR w0 w5 st.l (.slice (some ad4) st.l.length c4) u5 i st.told) := ⟨HR2.out.fr0 HS5.out⟩
        have HRG5 : Aside0 (ReadG w5 (some ad4) st.l.length 2 (e48 st.l)) := ⟨HRG.out.fr HS5.out (fun _ _ h => h)⟩
        have HBD5 : Aside0 (Blk w5 tb 51 [.int .i64 d.f0, .string d.f1, .int .i64 d.f2]) := ⟨HB1.out.fr HS5.out (fun h => h)⟩
        clear s0 s1 z9 c90 c91 HB9 HR4 HRG4 HBD
        go_upto_region 12 with (first | (at_builtin; refine wpList_rowG HK48.out rfl _ _ rfl (w2 := w5) (n := 0) (xs := []) (m := st.l.length) (ys := e48 st.l) rfl (row_g0 (Fr.refl _ _)) rfl (fun hf => HRG5.out.fr hf (fun _ _ h => h)) (by have := HSZ.out; omega) ?_; intro v9 w9 hr9 hg9 ha9) | fail)
        have HR9 : Aside0 (SpR w0 w9 st.l v9 u5 i st.told) := ⟨HR5.out.newRow hr9 (by omega) rfl⟩
        have HROW9 := Aside0.mk hr9
        have HS9 : Aside0 (Same w5 w9) := ⟨hr9.fr⟩
        have HRG9 : Aside0 (ReadG w9 (some ad4) st.l.length 2 (e48 st.l)) := ⟨HRG5.out.fr hr9.fr (fun _ _ h => h)⟩
        have HBX := Aside0.mk (HB5.out.fr hr9.fr (fun h => h))
        have HBD9 := Aside0.mk (HBD5.out.fr hr9.fr (fun h => h))
        have d0' := HBD9.out.cell 0 rfl
        have d1' := HBD9.out.cell 1 rfl
        have d2' := HBD9.out.cell 2 rfl
        clear hr9 hg9 ha9
        by_cases z0 : d.f0 = 0
        · have y0 : (d.f0 == 0) = true := by simpa using z0
          have y1 : (d.f0 == 1) = false := by rw [beq_eq_false_iff_ne]; omega
          have HKK : Aside0 (stepT st d = ⟨st.l.set n ⟨d.f1, d.f2⟩, st.told ++ [⟨true, en.f1⟩]⟩) := ⟨by unfold stepT; rw [HF.out]; show (⟨if d.f0 = 0 then _ else _, _⟩ : SSt) = _; rw [if_pos z0, List.getD_eq_getElem?_getD, HEN.out.1]; rfl⟩
          clear z0
          obtain ⟨g9, cg, hv9, hg9, hgc, hcell, hfrz, csg, hgg⟩ := own_at HROW9.out.own (by omega)
          rw [Nat.zero_add] at hv9 hgc
          subst hv9
          have x1 := hcell (n * 2 + 1) _ (by rw [List.nil_append]; exact (e48_get HEN.out.1).2)
          have HG9 : Aside0 (w5.heap.size ≤ g9 ∧ st.l.length ≤ cg ∧ w9.heap[g9]? = some (.cells csg 48 (0, 0))) := ⟨hg9, hgc, hgg⟩
          have x2 := hfrz (n * 2 + 1)
          have x3 : (st.l.length : Int) ≤ (cg : Int) := by omega
          clear hg9 hgc hcell hfrz hgg
          go_upto_region 14 with (fail)
          have HS10 : Aside0 (Fr (fun x => x = g9) w9 (w9.setCell ⟨g9, n * 2 + 1, none⟩ (.int .i64 d.f2))) := ⟨(Fr.refl (fun x => x = g9) w9).set (p := ⟨g9, n * 2 + 1, none⟩) (.inl rfl) _⟩
          have HR10 : Aside0 (SpR w0 (w9.setCell ⟨g9, n * 2 + 1, none⟩ (.int .i64 d.f2)) (st.l.set n ⟨d.f1, d.f2⟩) (.slice (some ⟨g9, 0, none⟩) st.l.length cg) u5 i st.told) := ⟨by
            have hrow := HR9.out.row
            refine ⟨?_, ownsRow_block HR9.out.kin (fun k hk => HS10.out.block k (own_base HR9.out.kin hk).2 (fun e => ?_)), HR9.out.same.trans HS10.out (fun k hk e => by have := HG9.out.1; have := HS5.out.size; have := HR2.out.same.size; omega)⟩
            · have h1 := ownsRow_set (u := .int .i64 d.f2) (i := n * 2 + 1) hrow (by rw [e48_len]; omega)
              rw [e48_set (b := ⟨d.f1, d.f2⟩) HEN.out.1 HEN.out.2] at h1
              rw [List.length_set]
              exact h1
            · obtain ⟨cs2, h2⟩ := own_kind HR9.out.kin hk
              rw [e, HG9.out.2.2] at h2
              injection h2 with h2
              injection h2 with _ h2 _
              exact absurd h2 (by decide)⟩
          have HBX2 := Aside0.mk (HBX.out.fr HS10.out (fun e => by have h1 := HG9.out.1; have h2 := HB5.out.lt; omega))
          have HBD10 := Aside0.mk (HBD9.out.fr HS10.out (fun e => by have h1 := HG9.out.1; have h2 := HBD5.out.lt; omega))
          generalize w9.setCell ⟨g9, n * 2 + 1, none⟩ (.int .i64 d.f2) = w10 at HS10 HR10 HBX2 HBD10 ⊢
          clear HBX HBD9 d0' d1' d2' x1 x2
          have HBX := HBX2
          have d0' := HBD10.out.cell 0 rfl
          have HLEN : Aside0 ((st.l.set n ⟨d.f1, d.f2⟩).length = st.l.length) := ⟨List.length_set⟩
          go_upto_region 22 with (fail)
          have e0 := HBX.out.cell 0 rfl
          have e1 := HBX.out.cell 1 rfl
          have HRN : Aside0 (ReadG (w10.alloc (.cells #[.bool true, .int .i64 en.f1] 34)) (some ⟨w10.heap.size, 0, none⟩) 1 2 [.bool true, .int .i64 en.f1]) := ⟨read_newG (us := [.bool true, .int .i64 en.f1]) (by rfl) (by intro u hu; simp only [List.mem_cons, List.not_mem_nil, or_false] at hu; rcases hu with rfl | rfl <;> rfl)⟩
          go_wp2_with (first | (at_builtin; refine wpList_ownG HK34.out rfl _ _ rfl (v := u5) (xs := e34 st.told) (ys := [.bool true, .int .i64 en.f1]) rfl (HR10.out.kin.alloc _) (Nat.le_trans HR10.out.same.size (by simp)) rfl HRN.out (by have := HIK.out; omega) ?_; intro v' w7 ho hg hat; have HO7 := Aside0.mk ho; have HG7 := Aside0.mk hg; clear ho hg hat) | fail)
          go_roundg (ds.length - (i + 1))
          case measure => have := HI.out; have := HIK.out; omega
          case rel => exact ⟨i + 1, by first | rfl | go_num, ⟨by have := HIK.out; omega⟩, ⟨by rw [HST.out, HKK.out]; exact SpR.app (t := ⟨true, en.f1⟩) HR10.out HO7.out HG7.out⟩⟩
        · have y0 : (d.f0 == 0) = false := by simpa using z0
          have y1 : (d.f0 == 1) = true := by simpa using HDD.out.1.resolve_left z0
          have HKK : Aside0 (stepT st d = ⟨st.l.take n ++ st.l.drop (n + 1), st.told ++ [⟨true, en.f1⟩]⟩) := ⟨by unfold stepT; rw [HF.out]; show (⟨if d.f0 = 0 then _ else _, _⟩ : SSt) = _; rw [if_neg z0, List.getD_eq_getElem?_getD, HEN.out.1]; rfl⟩
          clear z0
          have q1 : (n : Int) ≤ (st.l.length : Int) := by omega
          have q2 : (st.l.length : Int) ≤ (c4 : Int) := by have := HC4.out; omega
          have q3 : (n : Int) ≤ (c4 : Int) := by omega
          have q4 : IntKind.i64.wrap ((n : Int) + 1) = ((n : Int) + 1) := by rw [IntKind.wrap_i64]; have := HSZ.out; omega
          have q5 : ((n : Int) + 1) ≤ (st.l.length : Int) := by omega
          have q6 : (0 : Int) ≤ ((n : Int) + 1) := by omega
          have q7 : ((n : Int) + 1) ≤ (c4 : Int) := by omega
          have HS99 : Aside0 (0 + n ≤ 1000000 ∧ 0 + n + (st.l.length - (n + 1)) ≤ 1000000 ∧ n < st.l.length) := ⟨by have := HSZ.out; omega⟩
          have HRT : Aside0 (∀ W, Fr (fun _ => False) w9 W → ReadG W (some ad4) n 2 (e48 (st.l.take n))) := ⟨fun W hf => by rw [e48_take]; exact (HRG9.out.take n (by omega)).fr hf (fun _ _ h => h)⟩
          have HRX : Aside0 (∀ W, Fr (fun _ => False) w9 W → ReadG W (if c4 = n + 1 then some ad4 else Option.map (fun x => x.add ((n + 1) * 2)) (some ad4)) (st.l.length - (n + 1)) 2 (e48 (st.l.drop (n + 1)))) := ⟨fun W hf => by rw [e48_drop]; exact (HRG9.out.drop (n + 1) (by omega) HC4.out).fr hf (fun _ _ h => h)⟩
          go_upto_region 20 with (fail)
          go_region_held3 (fun w' => True) (first | go_keep | trivial)
            (first
              | (refine step_rowG HK48.out (by rfl) (.tmp 97) (.tmp 100) (by rfl) (w2 := w9) (n := 0) (xs := []) (m := n) (ys := e48 (st.l.take n)) (by rfl) (by first | exact row_g1 | exact row_g0 (Fr.refl _ _)) (by rfl) (HRT.out _) HS99.out.1 ?_; intro v10 w10 hr10 hg10 ha10)
              | (refine step_rowG HK48.out (by rfl) (.tmp 101) (.tmp 105) (by rfl) (w2 := w9) (n := 0 + n) (m := st.l.length - (n + 1)) (ys := e48 (st.l.drop (n + 1))) (by rfl) hr10 (by rfl) (HRX.out _) HS99.out.2.1 ?_; intro v11 w11 hr11 hg11 ha11))
          generalize (if c4 = n + 1 then some ad4 else some (ad4.add ((n + 1) * 2))) = X9
          have HR11 : Aside0 (SpR w0 w11 (st.l.take n ++ st.l.drop (n + 1)) v11 u5 i st.told) := ⟨HR9.out.newRow hr11 (by rw [List.length_append, List.length_take, List.length_drop]; have := HS99.out.2.2; omega) (by rw [e48_app]; rfl)⟩
          have HBX2 := Aside0.mk (HBX.out.fr hr11.fr (fun h => h))
          clear hr10 hg10 ha10 hr11 hg11 ha11 HBX q1 q2 q3 q4 q5 q6 q7
          have HBX := HBX2
          go_upto_region 22 with (fail)
          have e0 := HBX.out.cell 0 rfl
          have e1 := HBX.out.cell 1 rfl
          have HRN : Aside0 (ReadG (w11.alloc (.cells #[.bool true, .int .i64 en.f1] 34)) (some ⟨w11.heap.size, 0, none⟩) 1 2 [.bool true, .int .i64 en.f1]) := ⟨read_newG (us := [.bool true, .int .i64 en.f1]) (by rfl) (by intro u hu; simp only [List.mem_cons, List.not_mem_nil, or_false] at hu; rcases hu with rfl | rfl <;> rfl)⟩
          go_wp2_with (first | (at_builtin; refine wpList_ownG HK34.out rfl _ _ rfl (v := u5) (xs := e34 st.told) (ys := [.bool true, .int .i64 en.f1]) rfl (HR11.out.kin.alloc _) (Nat.le_trans HR11.out.same.size (by simp)) rfl HRN.out (by have := HIK.out; omega) ?_; intro v' w7 ho hg hat; have HO7 := Aside0.mk ho; have HG7 := Aside0.mk hg; clear ho hg hat) | fail)
          go_roundg (ds.length - (i + 1))
          case measure => have := HI.out; have := HIK.out; omega
          case rel => exact ⟨i + 1, by first | rfl | go_num, ⟨by have := HIK.out; omega⟩, ⟨by rw [HST.out, HKK.out]; exact SpR.app (t := ⟨true, en.f1⟩) HR11.out HO7.out HG7.out⟩⟩
    · have hie : i = ds.length := by have := HI.out; omega
      subst hie
      have i2 : decide ((ds.length : Int) < (ds.length : Int)) = false := decide_eq_false (by omega)
      rw [List.take_length] at HR
      have HPO : Aside0 (SpecPost w0 ds (.returned (.tuple #[u4, u5])) wr) := ⟨⟨u4, u5, rfl, HR.out.row, HR.out.kin⟩, HR.out.same⟩
      clear HR
      go_wp2
      refine bodyPost_ret (results_list (rs := [.tmp 2, .tmp 3]) rfl (by simp) (.tmp (.tmp .nil))) rfl ?_
      exact HPO.out
end
end Go.Proofs.YtjhmpcbpbdkddaaGreat.Te
