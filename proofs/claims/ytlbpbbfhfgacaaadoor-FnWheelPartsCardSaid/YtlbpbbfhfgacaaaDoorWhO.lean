/- impl.turn: the walk. -/
import Derived.Test.YtlbpbbfhfgacaaaDoorWhN
namespace Go.Proofs.YtlbpbbfhfgacaaaDoor.Wh
open Go.RowKit Go.Maps Go.Proofs.YtlbpbbfhfgacaaaDoor.Bs Go.Proofs.YtlbpbbfhfgacaaaDoorW.PrintWords Go.Proofs.YtlbpbbfhfgacaaaDoorW.PrintLast Go.Proofs.YtlbpbbfhfgacaaaDoorW.PrintMore Go.Proofs.YtlbpbbfhfgacaaaDoor.GFnWheelParts
set_option linter.unusedVariables false
set_option linter.unusedSimpArgs false
structure Mid5 (wr wx : World) (B hw i ab : Nat) (T : List S30) (ex : Prop) : Prop where
  wheel : ∃ cnt L, Wheel wx B hw (i + 1) (fAt (T.take (i + 1))) cnt ex ∧ Cnt L (fAt (T.take (i + 1))) cnt (i + 1)
  ans : ∃ k v X, Blk wx ab 33 [.int .i64 k, v] ∧ wx.ownsRow wr.heap.size 42 2 v X.length (tcells X) ∧ AnsOk T i X
  fr : Fr (WF B wr) wr wx
structure TurnPost (w0 : World) (hw : Nat) (T : List S30) (ex : Prop) (en : Ending) (w' : World) : Prop where
  out : ∃ v As, en = .returned v ∧ OutRow w' w0.heap.size v As T ∧ As.length = T.length
  wheel : ∃ cnt L, Wheel w' w0.heap.size hw T.length (fAt T) cnt ex ∧ Cnt L (fAt T) cnt T.length
  fr : Same w0 w'
theorem wf_same {B : Nat} {w0 wr wx : World} (h : Same w0 wr) (hf : Fr (WF B wr) wr wx) (hB : w0.heap.size ≤ B) : Same w0 wx := h.trans hf (fun k hk e => by have := e.1; omega)
set_option maxHeartbeats 8000000 in
set_option maxRecDepth 100000 in
theorem turn_calls {w0 W : World} {hw : Nat} {ex : Prop} {A0 : Option Addr} {c0 : Nat} {T : List S30} (h0 : 0 < w0.heap.size) (hs : Same w0 W) (hwh : Wheel W w0.heap.size hw 0 (fun _ => none) 0 ex) (hT : Kd.C k30 w0 A0 T.length T) (hg : Gl w0) (hR : GoodR T)
    (hex : ex → ∀ t ∈ T, t.f0 ≠ 1 ∧ t.f0 ≠ 2) : Calls Tryd.prog 15 #[.pointer (some ⟨hw, 0, none⟩), .slice A0 T.length c0] W (TurnPost w0 hw T ex) := by
  obtain ⟨i33, hK33⟩ := ek33
  have HK33 := Aside0.mk hK33
  have HT := Aside0.mk hT
  have HR := Aside0.mk hR
  have HX := Aside0.mk hex
  have HG := Aside0.mk hg
  have HS0 := Aside0.mk hs
  have HW0 := Aside0.mk hwh
  have H0 := Aside0.mk h0
  clear hK33 hT hR hex hg hs hwh h0
  go_enter Tryd.func15, Tryd.ntmps15
  go_wp2
  go_loopg [5, 6] T.length (fun kq v5 v6 wr => ∃ (i : Nat) (As : List An) (cnt : Int) (L : List S42), v6 = .int .i64 (i : Int) ∧ Aside0 (kq + i = T.length ∧ i ≤ T.length) ∧ Aside0 (Wheel wr w0.heap.size hw i (fAt (T.take i)) cnt ex ∧ Cnt L (fAt (T.take i)) cnt i) ∧ Aside0 (OutRow wr w0.heap.size v5 As T ∧ As.length = i) ∧ Aside0 (Same w0 wr))
  case atStart => exact ⟨0, [], 0, [], rfl, ⟨by omega⟩, ⟨HW0.out, ⟨rep_nil, rfl, Nat.le_refl _⟩⟩, ⟨⟨⟨rfl, .inl ⟨rfl, rfl⟩⟩, fun j a h => by simp at h⟩, rfl⟩, HS0⟩
  case round =>
    clear HW0 HS0
    obtain ⟨i, As, cnt, L, rfl, HI, HW, HO, HS⟩ := hrel
    obtain ⟨A5, c5, rfl, hlc5, -⟩ := read_own (w := wr) (W := wr) HO.out.1.row HO.out.1.one
    have i0 : (0 : Int) ≤ (i : Int) := by omega
    by_cases hlt : i < T.length
    · have i1 : (i : Int) < (T.length : Int) := by omega
      have i2 : decide ((i : Int) < (T.length : Int)) = true := decide_eq_true i1
      have i5 : IntKind.i64.wrap ((i : Int) + 1) = ((i + 1 : Nat) : Int) := by rw [IntKind.wrap_i64]; have := HI.out; have := HR.out.1; omega
      obtain ⟨t, ht⟩ : ∃ t, T[i]? = some t := ⟨_, List.getElem?_eq_getElem hlt⟩
      have HTI := Aside0.mk ht
      have HRT := Aside0.mk (HR.out.2 i t ht)
      have HXT : Aside0 (ex → t.f0 ≠ 1 ∧ t.f0 ≠ 2) := ⟨fun h => HX.out h t (List.mem_of_getElem? ht)⟩
      obtain ⟨ad, rfl, t0, t1, t2, t3, t4⟩ := at_T30 (Kd.C_below HT.out (below_of_fr HS.out)) (i : Int) (by omega) (by omega)
      rw [Int.toNat_natCast, rd30_at HTI.out] at t0 t1 t2 t3 t4
      clear ht hlc5
      go_upto_region 6 with (fail)
      have HB1 : Aside0 (Blk (wr.alloc (.cells #[.int .i64 t.f0, .int .u64 t.f1, .int .i64 t.f2, .int .i64 t.f3, .bool t.f4] 30)) wr.heap.size 30 [.int .i64 t.f0, .int .u64 t.f1, .int .i64 t.f2, .int .i64 t.f3, .bool t.f4]) := ⟨Blk.new _ _ _⟩
      have HS1 : Aside0 (Same wr (wr.alloc (.cells #[.int .i64 t.f0, .int .u64 t.f1, .int .i64 t.f2, .int .i64 t.f3, .bool t.f4] 30))) := ⟨(Fr.refl _ _).alloc _⟩
      generalize wr.alloc (.cells #[.int .i64 t.f0, .int .u64 t.f1, .int .i64 t.f2, .int .i64 t.f3, .bool t.f4] 30) = w1 at HB1 HS1 ⊢
      generalize htb : wr.heap.size = tb at HB1 ⊢
      clear t0 t1 t2 t3 t4 htb
      go_upto_region 7 with (fail)
      have HB4 : Aside0 (Blk (w1.alloc (.cells #[.int .i64 0, .slice none 0 0] 33)) tb 30 [.int .i64 t.f0, .int .u64 t.f1, .int .i64 t.f2, .int .i64 t.f3, .bool t.f4]) := ⟨HB1.out.alloc _⟩
      have HS4 : Aside0 (Same wr (w1.alloc (.cells #[.int .i64 0, .slice none 0 0] 33))) := ⟨HS1.out.alloc _⟩
      have HA4 : Aside0 (Blk (w1.alloc (.cells #[.int .i64 0, .slice none 0 0] 33)) w1.heap.size 33 [.int .i64 0, .slice none 0 0]) := ⟨Blk.new _ _ _⟩
      have HAB : Aside0 (wr.heap.size ≤ w1.heap.size) := ⟨HS1.out.size⟩
      generalize w1.alloc (.cells #[.int .i64 0, .slice none 0 0] 33) = w4 at HB4 HS4 HA4 ⊢
      generalize w1.heap.size = ab at HA4 HAB ⊢
      clear HB1 HS1
      have HW4 : Aside0 (Wheel w4 w0.heap.size hw i (fAt (T.take i)) cnt ex) := ⟨HW.out.1.fr HS4.out (fun k h => h.elim)⟩
      have HF' := Aside0.mk (fAt_take HTI.out)
      generalize hff : fAt (T.take i) = f at HW HW4 HRT HF'
      have HFF := Aside0.mk hff
      clear hff
      have HI40 : Aside0 (i ≤ 100) := ⟨by have := HI.out.2; have := HR.out.1; omega⟩
      have HBW : Aside0 (w0.heap.size ≤ w4.heap.size) := ⟨Nat.le_trans HS.out.size HS4.out.size⟩
      have HFIN : Aside0 (∀ w5 k, (∃ cnt' L', Wheel w5 w0.heap.size hw (i + 1) (stepF f t) cnt' ex ∧ Cnt L' (stepF f t) cnt' (i + 1)) → Fr (WF w0.heap.size w4) w4 w5 → t.f0 ≠ 3 → Mid5 wr (w5.setCell ⟨ab, 0, none⟩ (.int .i64 k)) w0.heap.size hw i ab T ex) := ⟨fun w5 k h1 h2 h3 => by
        obtain ⟨cnt', L', g1, g2⟩ := h1
        have hA5 : Blk w5 ab 33 [.int .i64 0, .slice none 0 0] := HA4.out.fr h2 (fun e => not_wk HA4.out.blk (by decide) (by decide) (by decide) e.2)
        have hfs := fr_set1 (F := fun b => b = ab) (o := 0) (Fr.refl _ w5) rfl (.int .i64 k)
        have hf5 : Fr (WF w0.heap.size wr) wr w5 := wf_trans (HS4.out.mono (fun _ h => h.elim)) h2
        refine ⟨⟨cnt', L', ?_, ?_⟩, ⟨k, .slice none 0 0, [], hA5.set 0 (by simp) _, ⟨rfl, .inl ⟨rfl, rfl⟩⟩, List.nodup_nil, fun t' ht' h0 => ?_⟩, hf5.trans hfs (fun b hb e => ?_)⟩
        · rw [HF'.out]
          exact g1.fr hfs (fun b e _ => by subst e; exact not_wk hA5.blk (by decide) (by decide) (by decide))
        · rw [HF'.out]
          exact g2
        · rw [HTI.out] at ht'
          injection ht' with ht'
          rw [← ht'] at h0
          exact absurd h0 h3
        · have := HAB.out
          omega⟩
      have HA5 : Aside0 (∀ w5, Fr (WF w0.heap.size w4) w4 w5 → Blk w5 ab 33 [.int .i64 0, .slice none 0 0]) := ⟨fun w5 h2 => HA4.out.fr h2 (fun e => not_wk HA4.out.blk (by decide) (by decide) (by decide) e.2)⟩
      have P1 : Aside0 (∀ Q : World, Calls Tryd.prog 22 #[.nilIface] Q (OnePost Q)) := ⟨fun Q => one_nil⟩
      have P2 : Aside0 (∀ (Q : World) tt aa, Calls Tryd.prog 22 #[.iface tt (.pointer (some aa))] Q (OnePost Q)) := ⟨fun Q tt aa => one_err tt aa⟩
      have HG4 : Aside0 (Gl w4) := ⟨(HG.out.fr HS.out (fun h => h)).fr HS4.out (fun h => h)⟩
      have d0 := HB4.out.cell 0 rfl
      go_cut [20] from 65 (fun v20 wx => v20 = .int .i64 t.f0 ∧ wx = w4)
      case first =>
        go_wp2
        go_meet
        case rel => exact ⟨rfl, rfl⟩
      case rest =>
        obtain ⟨e20, ex1⟩ := hcut
        subst u20
        subst wc
        go_step
        go_cut [] from 65 (fun wx => Aside0 (Mid5 wr wx w0.heap.size hw i ab T ex))
        case first =>
          have d1 := HB4.out.cell 1 rfl
          have d2 := HB4.out.cell 2 rfl
          have d3 := HB4.out.cell 3 rfl
          by_cases z0 : t.f0 = 0
          · have y0 : (t.f0 == 0) = true := by simpa using z0
            obtain ⟨q1, q2, q3⟩ := HRT.out.2.1 z0
            have HST : Aside0 (stepF f t = upd f t.f1 t.f2 ∧ t.f0 ≠ 3) := ⟨by unfold stepF; rw [if_pos z0]; exact ⟨rfl, by omega⟩⟩
            have PA := Aside0.mk (add_calls HW4.out HRT.out.1 q1 q2 q3 (by have := HI40.out; omega) HBW.out)
            have HC := Aside0.mk (HW.out.2.add (by have := HI40.out; omega) (s := t.f1) (e := t.f2) q3)
            clear z0 q1 q2 q3
            go_wp2_with fail
            refine PA.out.mono ?_
            rintro e w5 ⟨rfl, hw5, hf5⟩
            have HW5 := Aside0.mk hw5
            have HF5 := Aside0.mk hf5
            have a0 := (HA5.out w5 hf5).cell 0 rfl
            have af := (HA5.out w5 hf5).free 0
            clear hw5 hf5 PA
            go_wp2_with fail
            refine (P1.out _).mono ?_
            rintro e w6 ⟨k, rfl, e6⟩
            subst w6
            go_wp2
            go_meet
            case rel =>
              obtain ⟨L', hL'⟩ := HC.out
              exact ⟨HFIN.out _ k ⟨_, L', by rw [HST.out.1]; exact HW5.out, by rw [HST.out.1]; exact hL'⟩ HF5.out HST.out.2⟩
          · have y0 : (t.f0 == 0) = false := by simpa using z0
            by_cases z1 : t.f0 = 1
            · have y1 : (t.f0 == 1) = true := by simpa using z1
              obtain ⟨q1, q2, q3, q4, q5⟩ := HRT.out.2.2 (.inl z1)
              have HNX : Aside0 (ex → False) := ⟨fun h => (HXT.out h).1 z1⟩
              have HST : Aside0 (stepF f t = (if f t.f1 = some t.f2 then del f t.f1 else f) ∧ t.f0 ≠ 3) := ⟨by unfold stepF; rw [if_neg z0, if_pos z1]; exact ⟨rfl, by omega⟩⟩
              have PA := Aside0.mk (remove_calls HW4.out HRT.out.1 q1 q2 q5 HG4.out)
              clear z0 z1 q1 q2 q3 q4 q5
              go_wp2_with fail
              refine PA.out.mono ?_
              rintro e w5 ⟨v, rfl, hv⟩
              cases hv with
              | lacks tt aa hno =>
                have HNO := Aside0.mk hno
                have a0 := HA4.out.cell 0 rfl
                have af := HA4.out.free 0
                clear hno PA
                go_wp2_with fail
                refine (P2.out _ _ _).mono ?_
                rintro e w6 ⟨k, rfl, e6⟩
                subst w6
                go_wp2
                go_meet
                case rel =>
                  have e1 : stepF f t = f := by rw [HST.out.1, if_neg (by rw [HNO.out]; intro h; cases h)]
                  exact ⟨HFIN.out _ k ⟨cnt, L, by rw [e1]; exact HW4.out.moreK (Nat.le_succ _), by rw [e1]; exact ⟨HW.out.2.rep, HW.out.2.cnt, Nat.le_succ_of_le HW.out.2.le⟩⟩ (Fr.refl _ _) HST.out.2⟩
              | found hfs hw5 hf5 =>
                have HFS := Aside0.mk hfs
                have HW5 := Aside0.mk hw5
                have HF5 := Aside0.mk hf5
                have a0 := (HA5.out _ hf5).cell 0 rfl
                have af := (HA5.out _ hf5).free 0
                have HC := Aside0.mk (HW.out.2.cut (by have := HI40.out; omega) hfs)
                clear hfs hw5 hf5 PA
                go_wp2_with fail
                refine (P1.out _).mono ?_
                rintro e w6 ⟨k, rfl, e6⟩
                subst w6
                go_wp2
                go_meet
                case rel =>
                  have e1 : stepF f t = del f t.f1 := by rw [HST.out.1, if_pos HFS.out]
                  obtain ⟨L', hL', -⟩ := HC.out
                  exact ⟨HFIN.out _ k ⟨_, L', by rw [e1]; exact (HW5.out.moreK (Nat.le_succ _)).weak HNX.out, by rw [e1]; exact ⟨hL'.rep, hL'.cnt, Nat.le_succ_of_le hL'.le⟩⟩ HF5.out HST.out.2⟩
            · have y1 : (t.f0 == 1) = false := by simpa using z1
              by_cases z2 : t.f0 = 2
              · have y2 : (t.f0 == 2) = true := by simpa using z2
                obtain ⟨q1, q2, q3, q4, q5⟩ := HRT.out.2.2 (.inr z2)
                have HNX : Aside0 (ex → False) := ⟨fun h => (HXT.out h).2 z2⟩
                have HST : Aside0 (stepF f t = (if f t.f1 = some t.f2 then upd f t.f1 t.f3 else f) ∧ t.f0 ≠ 3) := ⟨by unfold stepF; rw [if_neg z0, if_neg z1, if_pos z2]; exact ⟨rfl, by omega⟩⟩
                have PA := Aside0.mk (update_calls HW4.out HRT.out.1 q1 q2 q3 q4 q5 HG4.out (by have := HI40.out; omega) HBW.out)
                clear z0 z1 z2 q1 q2 q3 q4 q5
                go_wp2_with fail
                refine PA.out.mono ?_
                rintro e w5 ⟨v, rfl, hv⟩
                cases hv with
                | lacks tt aa hno =>
                  have HNO := Aside0.mk hno
                  have a0 := HA4.out.cell 0 rfl
                  have af := HA4.out.free 0
                  clear hno PA
                  go_wp2_with fail
                  refine (P2.out _ _ _).mono ?_
                  rintro e w6 ⟨k, rfl, e6⟩
                  subst w6
                  go_wp2
                  go_meet
                  case rel =>
                    have e1 : stepF f t = f := by rw [HST.out.1, if_neg (by rw [HNO.out]; intro h; cases h)]
                    exact ⟨HFIN.out _ k ⟨cnt, L, by rw [e1]; exact HW4.out.moreK (Nat.le_succ _), by rw [e1]; exact ⟨HW.out.2.rep, HW.out.2.cnt, Nat.le_succ_of_le HW.out.2.le⟩⟩ (Fr.refl _ _) HST.out.2⟩
                | found hfs hw5 hf5 =>
                  have HFS := Aside0.mk hfs
                  have HW5 := Aside0.mk hw5
                  have HF5 := Aside0.mk hf5
                  have a0 := (HA5.out _ hf5).cell 0 rfl
                  have af := (HA5.out _ hf5).free 0
                  have HC := Aside0.mk (HW.out.2.turn (by have := HI40.out; omega) hfs (c := t.f3))
                  clear hfs hw5 hf5 PA
                  go_wp2_with fail
                  refine (P1.out _).mono ?_
                  rintro e w6 ⟨k, rfl, e6⟩
                  subst w6
                  go_wp2
                  go_meet
                  case rel =>
                    have e1 : stepF f t = upd f t.f1 t.f3 := by rw [HST.out.1, if_pos HFS.out]
                    obtain ⟨L', hL'⟩ := HC.out
                    exact ⟨HFIN.out _ k ⟨_, L', by rw [e1]; exact HW5.out.weak HNX.out, by rw [e1]; exact hL'⟩ HF5.out HST.out.2⟩
              · have y2 : (t.f0 == 2) = false := by simpa using z2
                by_cases z3 : t.f0 = 3
                · have y3 : (t.f0 == 3) = true := by simpa using z3
                  have HST : Aside0 (stepF f t = gone f t.f2 t.f4) := ⟨by unfold stepF; rw [if_neg z0, if_neg z1, if_neg z2, if_pos z3]⟩
                  have hcn : IntKind.u64.wrap cnt = cnt := by
                    rw [HW.out.2.cnt, wrap_nat _ (by have := HW.out.2.le; have := HI40.out; omega)]
                  have PA : Aside0 (Calls Tryd.prog 26 #[.pointer (some ⟨hw, 0, none⟩), .int .i64 t.f2, .func (.func 27) #[] #[.pointer (some ⟨ab, 0, none⟩), .pointer (some ⟨tb, 0, none⟩)]] w4 _) :=
                    ⟨expireAt_calls (args := #[]) ((expire_calls HW4.out HA4.out HB4.out (L := L.map pr) ⟨by rw [List.length_map]; have := HW.out.2.le; have := HI40.out; omega, fun s e he => List.mem_map.2 ⟨⟨s, e⟩, (HW.out.2.rep.mem s e).1 he, rfl⟩⟩ HBW.out hcn (ts := t.f2)).mono (fun e w' h => ⟨h.ret, h⟩))⟩
                  clear hcn z0 z1 z2 z3
                  go_wp2_with fail
                  refine PA.out.mono ?_
                  rintro e w5 hp
                  have hpe := hp.ret
                  subst hpe
                  have HP := Aside0.mk hp
                  clear hp PA
                  go_wp2
                  go_meet
                  case rel =>
                    obtain ⟨X, v, hans, hnd, hmem, hwl⟩ := HP.out.out
                    obtain ⟨k, hk⟩ := hans.blk
                    obtain ⟨L', hL'⟩ := HW.out.2.expire (by have := HI40.out; omega) (odd := t.f4) hnd hmem
                    refine ⟨⟨_, L', by rw [HF'.out, HST.out]; exact hwl.moreK (Nat.le_succ _), by rw [HF'.out, HST.out]; exact ⟨hL'.rep, hL'.cnt, Nat.le_succ_of_le hL'.le⟩⟩, ⟨k, v, X, hk, ownsRow_low hans.row HS4.out.size, hnd, fun t' ht' h0 => ?_⟩, ?_⟩
                    · rw [HTI.out] at ht'
                      injection ht' with ht'
                      rw [← ht', HFF.out]
                      exact hmem
                    · refine ⟨HP.out.fr.os.trans HS4.out.os, HP.out.fr.tape.trans HS4.out.tape, HP.out.fr.output.trans HS4.out.output, Nat.le_trans HS4.out.size HP.out.fr.size, fun b hb hn => ?_⟩
                      have e1 := HS4.out.block b hb (fun h => h)
                      refine (HP.out.fr.block b (Nat.lt_of_lt_of_le hb HS4.out.size) (fun hh => ?_)).trans e1
                      rcases hh with hh | hh
                      · refine hn ⟨hh.1, ?_⟩
                        have h2 := hh.2
                        unfold WK at h2 ⊢
                        rw [e1] at h2
                        exact h2
                      · have := HAB.out
                        omega
                · have y3 : (t.f0 == 3) = false := by simpa using z3
                  have HST : Aside0 (stepF f t = f ∧ t.f0 ≠ 3) := ⟨by unfold stepF; rw [if_neg z0, if_neg z1, if_neg z2, if_neg z3]; exact ⟨rfl, z3⟩⟩
                  clear z0 z1 z2 z3
                  go_wp2
                  go_meet
                  case rel =>
                    refine ⟨⟨cnt, L, by rw [HF'.out, HST.out.1]; exact HW4.out.moreK (Nat.le_succ _), by rw [HF'.out, HST.out.1]; exact ⟨HW.out.2.rep, HW.out.2.cnt, Nat.le_succ_of_le HW.out.2.le⟩⟩, ⟨0, .slice none 0 0, [], HA4.out, ⟨rfl, .inl ⟨rfl, rfl⟩⟩, List.nodup_nil, fun t' ht' h0 => ?_⟩, HS4.out.mono (fun _ h => h.elim)⟩
                    rw [HTI.out] at ht'
                    injection ht' with ht'
                    rw [← ht'] at h0
                    exact absurd h0 HST.out.2
        case rest =>
          have HM := hcut
          clear hcut HFIN HA5 P1 P2 HG4 HW4 HB4 HS4 HA4 d0 HW
          obtain ⟨k, v, X, hA, hrow, hok⟩ := HM.out.ans
          obtain ⟨AX, cX, hv, hcX, -⟩ := read_own (w := wc) (W := wc) hrow (tcells_one X)
          subst hv
          have HAX := Aside0.mk (And.intro hrow hok)
          have a0 := hA.cell 0 rfl
          have a1 := hA.cell 1 rfl
          have hoR : OutRow wc w0.heap.size (.slice A5 As.length c5) As T := HO.out.1.fr HM.out.fr (fun b hb e => by
              obtain ⟨cs, z, hc⟩ := own_type HO.out.1.row hb
              exact not_wk hc (by decide) (by decide) (by decide) e.2) (fun b cs z hc e => not_wk hc (by decide) (by decide) (by decide) e.2)
          have HOR := Aside0.mk hoR
          have HRN : Aside0 (ReadG (wc.alloc (.cells #[.int .i64 k, .slice AX X.length cX] 33)) (some ⟨wc.heap.size, 0, none⟩) 1 2 [.int .i64 k, .slice AX X.length cX]) := ⟨read_newG (us := [.int .i64 k, .slice AX X.length cX]) (by rfl) (by intro u hu; simp only [List.mem_cons, List.not_mem_nil, or_false] at hu; rcases hu with rfl | rfl <;> rfl)⟩
          have HRW : Aside0 ((wc.alloc (.cells #[.int .i64 k, .slice AX X.length cX] 33)).ownsRow w0.heap.size 33 2 (.slice A5 As.length c5) As.length (acells As) ∧ w0.heap.size ≤ (wc.alloc (.cells #[.int .i64 k, .slice AX X.length cX] 33)).heap.size ∧ As.length + 1 ≤ 1000000) :=
            ⟨hoR.row.alloc _, by have := HM.out.fr.size; have := HS.out.size; simp; omega, by have := HO.out.2; have := HI40.out; omega⟩
          have HZ : Aside0 (wr.heap.size ≤ wc.heap.size) := ⟨HM.out.fr.size⟩
          clear hA hrow hok hoR hcX
          go_upto_region 4 with (first | (at_builtin; refine wpList_ownG HK33.out rfl _ _ rfl (v := .slice A5 As.length c5) (xs := acells As) (ys := [.int .i64 k, .slice AX X.length cX]) rfl HRW.out.1 HRW.out.2.1 rfl HRN.out HRW.out.2.2 ?_; intro v' w6 ho hg hat) | fail)
          have hga : Fr (fun b => (Value.slice A5 As.length c5).ownBlock = some b) wc w6 := (((Fr.refl (fun _ => False) wc).alloc _).mono (fun _ h => h.elim)).trans (Fr.grown hg) (fun _ _ h => h)
          have HGA := Aside0.mk hga
          have HO6 := Aside0.mk ho
          clear ho hg hat a0 a1 hga
          go_wp2
          go_roundg (T.length - (i + 1))
          case measure => have := HI.out; omega
          case rel =>
            obtain ⟨cnt', L', g1, g2⟩ := HM.out.wheel
            have hno : ∀ b cs T' z, wc.heap[b]? = some (.cells cs T' z) → T' ≠ 33 → ¬ (Value.slice A5 As.length c5).ownBlock = some b := fun b cs T' z hc hT' e => by
              obtain ⟨cs2, z2, hc2⟩ := own_type HOR.out.row e
              rw [hc] at hc2
              injection hc2 with hc2
              injection hc2 with _ hc2 _
              exact hT' hc2
            refine ⟨i + 1, As ++ [(k, .slice AX X.length cX, X)], cnt', L', rfl, ⟨by have := HI.out; omega⟩, ⟨g1.fr HGA.out (fun b e _ hw => ?_), g2⟩, ⟨⟨?_, fun j a ha => ?_⟩, by rw [List.length_append, HO.out.2]; rfl⟩, ⟨(wf_same HS.out HM.out.fr (Nat.le_refl _)).trans HGA.out (fun b hb e => ?_)⟩⟩
            · obtain ⟨cs2, z2, hc2⟩ := own_type HOR.out.row e
              exact not_wk hc2 (by decide) (by decide) (by decide) hw
            · rw [acells_snoc, List.length_append]
              exact HO6.out
            · rcases Nat.lt_or_ge j As.length with h | h
              · rw [List.getElem?_append_left h] at ha
                obtain ⟨h1, h2⟩ := HOR.out.ans j a ha
                refine ⟨ownsRow_fr h1 HGA.out (fun b hb => ?_), h2⟩
                obtain ⟨cs2, z2, hc2⟩ := own_type h1 hb
                exact hno b cs2 42 z2 hc2 (by decide)
              · have hj : j = As.length := by
                  have := (List.getElem?_eq_some_iff.1 ha).1
                  rw [List.length_append, List.length_singleton] at this
                  omega
                subst hj
                rw [List.getElem?_append_right (Nat.le_refl _), Nat.sub_self] at ha
                injection ha with ha
                subst ha
                refine ⟨ownsRow_low (ownsRow_fr HAX.out.1 HGA.out (fun b hb => ?_)) HS.out.size, by rw [HO.out.2]; exact HAX.out.2⟩
                obtain ⟨cs2, z2, hc2⟩ := own_type HAX.out.1 hb
                exact hno b cs2 42 z2 hc2 (by decide)
            · have := (own_base HOR.out.row e).1
              omega
    · have hiT : i = T.length := by have := HI.out.2; omega
      have i1 : ¬ (i : Int) < (T.length : Int) := by omega
      have i2 : decide ((i : Int) < (T.length : Int)) = false := decide_eq_false i1
      have HIT := Aside0.mk hiT
      clear hiT
      go_wp2
      go_ret
      have hW := HW.out
      have hO := HO.out
      rw [HIT.out, List.take_length] at hW
      refine ⟨⟨_, As, rfl, hO.1, by rw [hO.2]; exact HIT.out⟩, ⟨cnt, L, hW.1, hW.2⟩, HS.out⟩
end Go.Proofs.YtlbpbbfhfgacaaaDoor.Wh
