/- server.removeHeaderIfPrefixPresent, by hand. -/
import Derived.Test.YtnkioieocjgekaaPlHqB
import Derived.Lib.SlBytesConst
import Derived.IntWalk
namespace Go.Proofs.Ytnkioieocjgekaa.Hq
open Go.Proofs.Ytnkioieocjgekaa.Hg Go.Proofs.Ytnkioieocjgekaa.PlHq Go.Proofs.Ytnkioieocjgekaa.Pl Go.RowKit Go.Proofs.YtnkioieocjgekaaW.PrintWords Go.Proofs.YtnkioieocjgekaaW.PrintLast Go.Proofs.YtnkioieocjgekaaW.PrintMore Go.Proofs.Ytnkioieocjgekaa.GFnHeaderRemovePrefix
set_option linter.unusedVariables false
set_option linter.unusedSimpArgs false

theorem zz_calls {w : World} {A0 A1 : Option Addr} {c0 c1 n0 n1 : Nat} (T key : List UInt8) (hn0 : n0 = T.length) (hn1 : n1 = key.length) (hs : T.length ≤ 1000000) (hk : key.length ≤ 1000000)
    (hr0 : Kd.C (Kd.int .u8) w A0 n0 (nm T)) (hc0 : n0 ≤ c0) (hr1 : Kd.C (Kd.int .u8) w A1 n1 (nm key)) (hc1 : n1 ≤ c1) :
    Calls Try.prog 28 #[.slice A0 n0 c0, .slice A1 n1 c1] w fun e w' => e = .returned (.int .i64 (zi key T 0)) ∧ Drawn0 w w' := by
  obtain ⟨K, h⟩ := zz_ev T key hs hk
  obtain rfl : n0 = (nm T).length := by rw [nm_len]; exact hn0
  obtain rfl : n1 = (nm key).length := by rw [nm_len]; exact hn1
  exact server_zzIndexBytes.calls K A0 c0 (nm T) A1 c1 (nm key) _ w hr0 hc0 hr1 hc1 (h K (Nat.le_refl _))
def jof (p L : List UInt8) (ix : Nat) : Nat := ix + (zi p (L.drop ix) 0).toNat
def mof (p L : List UInt8) (j : Nat) : Nat := j + (zi [13, 10] (L.drop (j + p.length)) 0).toNat + p.length + 2
def cutl (L : List UInt8) (j m : Nat) : List UInt8 := L.take j ++ L.drop m
/-- What is left of a header. -/
def rmp (p : List UInt8) : Nat → List UInt8 → Nat → Option (List UInt8)
  | 0, _, _ => none
  | k + 1, L, ix =>
    if L.length ≤ ix then none else
    if zi p (L.drop ix) 0 < 0 then some L else
    if L.length ≤ jof p L ix + p.length then none else
    if jof p L ix < 1 ∨ L[jof p L ix - 1]? ≠ some 10 then rmp p k L (jof p L ix + p.length) else
    if zi [13, 10] (L.drop (jof p L ix + p.length)) 0 < 0 then none else
    if L.length ≤ mof p L (jof p L ix) then none else
    if (cutl L (jof p L ix) (mof p L (jof p L ix))).length ≤ 12 then some [] else
    rmp p k (cutl L (jof p L ix) (mof p L (jof p L ix))) (jof p L ix)
theorem row_take {w2 W : World} {Y : Addr} {n c i : Nat} {L : List UInt8} (h : Bs.RowG w2 W 5 1 (.slice (some Y) n c) n (iC (nm L))) (hn : n = L.length) (hi : i ≤ n) : Bs.RowG w2 W 5 1 (.slice (some Y) i c) i (iC (nm (L.take i))) := by
  refine ⟨⟨by simp [iC, nm]; omega, ?_⟩, h.fr⟩
  rcases h.own.2 with ⟨e, h0⟩ | ⟨g, cap, cur, e, hb, hg, h1, h2, h3, h4⟩
  · cases e
  · injection e with e1 e2 e3
    subst e3
    refine .inr ⟨g, c, cur, by rw [e1], hb, hg, by omega, h2, h3, ?_⟩
    have e5 : iC (nm (L.take i)) = (iC (nm L)).take i := by simp [iC, nm, List.map_take]
    rw [e5, ← h4, List.take_take]
    congr 1
    omega
theorem read_drop {w2 W : World} {Y X : Addr} {n c i : Nat} {L : List UInt8} (hX : X = Y.add i) (h : Bs.RowG w2 W 5 1 (.slice (some Y) n c) n (iC (nm L))) (hn : n = L.length) (hi : i ≤ n) : Bs.ReadG W (some X) (n - i) 1 (iC (nm (L.drop i))) := by
  subst hX
  have h1 := row_C h
  obtain rfl : n = (nm L).length := by rw [nm_len]; exact hn
  have h2 := read_mid (X := Y.add i) h1 hi (Nat.le_refl _) (fun _ => rfl)
  rw [List.take_length] at h2
  have e : (nm L).drop i = nm (L.drop i) := (List.map_drop).symm
  rw [e] at h2
  exact h2
theorem crlf_C (W : World) : Kd.C (Kd.int .u8) (W.alloc (.cells #[.int .u8 13, .int .u8 10] 5 (2, 3))) (some ⟨W.heap.size, 0, none⟩) 2 (nm [13, 10]) := by
  refine ⟨rfl, by omega, fun _ => ⟨_, rfl, fun j p hj => ⟨[.int .u8 p], rfl, rfl, fun i u hu => ?_⟩⟩⟩
  cases i with
  | succ i => simp at hu
  | zero =>
    simp only [List.getElem?_cons_zero, Option.some.injEq] at hu
    subst hu
    have e1 : j * (Kd.int .u8).sz + 0 = j := Nat.mul_one j
    rw [e1, Bs.add_at, World.cell?_alloc_mark]
    match j with
    | 0 => simp [nm] at hj; subst hj; rfl
    | 1 => simp [nm] at hj; subst hj; rfl
    | j + 2 => simp [nm] at hj
def RmPost (w2 : World) (r : List UInt8) (e : Ending) (w' : World) : Prop := ∃ A c, e = .returned (.slice A r.length c) ∧ r.length ≤ c ∧ Kd.C (Kd.int .u8) w' A r.length (nm r) ∧ Below w2.heap.size w2 w'
theorem conv_ba {w : World} (p : List UInt8) {m : Nat} (hm : m = p.length) (hsz : p.length ≤ 1000000) : ∃ ad c w1, (convert 9 28 (.string (ba p))).run Try.prog w = .ok (.slice (some ad) m c) w1 ∧ Kd.C (Kd.int .u8) w1 (some ad) m (nm p) ∧ m ≤ c ∧ Below w.heap.size w w1 := by
  obtain ⟨ad, c, w1, h1, h2, h3, h4⟩ := conv_L (w := w) (ba p) (nm p) rfl (by rw [ba_size]; omega)
  rw [nm_len, ← hm] at h1 h2 h3
  exact ⟨ad, c, w1, h1, h2, h3, h4⟩
theorem row_drop {w2 W : World} {Y : Addr} {n c i : Nat} {L : List UInt8} (h : Bs.RowG w2 W 5 1 (.slice (some Y) n c) n (iC (nm L))) (hn : n = L.length) (hi : i ≤ n) : Kd.C (Kd.int .u8) W (some (Y.add i)) (n - i) (nm (L.drop i)) := by
  have h0 := row_C h
  obtain rfl : n = (nm L).length := by rw [nm_len]; exact hn
  have h1 := Kd.C_drop (c := (nm L).length + i + 1) h0 hi (by omega)
  rw [if_neg (by omega)] at h1
  have e : (nm L).drop i = nm (L.drop i) := (List.map_drop).symm
  rw [e] at h1
  have e2 : (nm (L.drop i)).length = (nm L).length - i := by rw [nm_len, nm_len, List.length_drop]
  rw [e2] at h1
  have e3 : i * (Kd.int .u8).sz = i := Nat.mul_one i
  rw [e3] at h1
  exact h1
set_option maxHeartbeats 8000000 in
set_option maxRecDepth 100000 in
theorem rm_calls (k : Nat) {w2 w : World} {Y : Addr} {n c ix : Nat} {L p r : List UInt8} (h : rmp p k L 0 = some r) (hn : n = L.length) (hL : n ≤ 100000) (hp : p.length ≤ 1000) (hp0 : 0 < p.length) (hR : Bs.RowG w2 w 5 1 (.slice (some Y) n c) n (iC (nm L))) (hc : n ≤ c) :
    Calls Try.prog 26 #[.slice (some Y) n c, .string (ba p)] w (RmPost w2 r) := by
  have HH : Aside0 (rmp p k L 0 = some r ∧ n = L.length ∧ n ≤ 100000 ∧ n ≤ c ∧ k ≤ k ∧ Bs.RowG w2 w 5 1 (.slice (some Y) n c) n (iC (nm L)) ∧ 0 ≤ 200000) := ⟨h, hn, hL, hc, Nat.le_refl _, hR, by omega⟩
  have HP := Aside0.mk (And.intro hp hp0)
  clear h hn hL hp hp0 hR hc
  go_enter Try.func26, Try.ntmps26
  go_wp2
  go_loopg [0, 5] k (fun kq v0 v5 w' => ∃ (L : List UInt8) (n ix : Nat) (Y : Addr) (c : Nat), v0 = .slice (some Y) n c ∧ v5 = .int .i64 ix ∧ Aside0 (rmp p kq L ix = some r ∧ n = L.length ∧ n ≤ 100000 ∧ n ≤ c ∧ kq ≤ k ∧ Bs.RowG w2 w' 5 1 (.slice (some Y) n c) n (iC (nm L)) ∧ ix ≤ 200000))
  case atStart => exact ⟨L, n, 0, Y, c, rfl, rfl, HH⟩
  case round =>
    clear HH
    obtain ⟨L, n, ix, Y, c, rfl, rfl, HH⟩ := hrel
    obtain ⟨h, hn, hL, hc, hkq, hR, hix⟩ := HH.out
    clear HH
    cases gk with
    | zero => rw [rmp] at h; cases h
    | succ gk =>
    have HN := Aside0.mk hn
    have HR := Aside0.mk hR
    have HC := Aside0.mk hc
    have i0 : (0 : Int) ≤ (ix : Int) := by omega
    rw [rmp] at h
    by_cases hle : L.length ≤ ix
    · rw [if_pos hle] at h; cases h
    rw [if_neg hle] at h
    have i1 : ¬ ((n : Int) ≤ (ix : Int)) := by omega
    have i2 : (ix : Int) ≤ (n : Int) := by omega
    have i3 : (ix : Int) ≤ (c : Int) := by omega
    have i4 : ¬ (c = ix) := by omega
    obtain ⟨m, hm⟩ : ∃ m, m = p.length := ⟨_, rfl⟩
    obtain ⟨ad, c1, w1, hrun, hC1, hc1, hb1⟩ := conv_ba (w := wr) p hm (by have := HP.out; omega)
    obtain ⟨s, hs⟩ : ∃ s, s = zi p (L.drop ix) 0 := ⟨_, rfl⟩
    have hzr := zi_range p (L.drop ix) 0
    have hjj : jof p L ix = ix + s.toNat := by unfold jof; rw [hs]
    rw [← hs, hjj] at h
    rw [← hs, List.length_drop, ← hn] at hzr
    have HH := Aside0.mk h
    have HZ := Aside0.mk hs
    have HHC := Aside0.mk hC1
    have HHB := Aside0.mk hb1
    have HM := Aside0.mk hm
    have HG := Aside0.mk (And.intro hL (And.intro hix hkq))
    clear h hn hR hle hC1 hb1 hm hs hjj hL hix hkq
    have HZR := Aside0.mk hzr
    clear hzr
    go_wp2_with fail
    refine (zz_calls (L.drop ix) p (by rw [List.length_drop, HN.out]) HM.out (by rw [List.length_drop]; have := HN.out; have := HG.out; omega) (by have := HP.out; omega) (row_drop (HR.out.fr0 (Bs.fr_of_below HHB.out)) HN.out (by omega)) (by omega) HHC.out hc1).mono ?_
    rw [← HZ.out]
    rintro e w2' ⟨rfl, ⟨nd, rfl⟩⟩
    have HR3 : Aside0 (Bs.RowG w2 (w1.drewN nd) 5 1 (.slice (some Y) n c) n (iC (nm L))) := ⟨HR.out.fr0 ((Bs.fr_of_below HHB.out).drewN nd)⟩
    generalize w1.drewN nd = w3 at *
    clear HR HHB HHC hrun
    rcases HZR.out with hz | ⟨hz0, hz1⟩
    · subst hz
      have hh := HH.out
      rw [if_pos (by omega)] at hh
      have HE : Aside0 (L = r) := ⟨Option.some.inj hh⟩
      clear hh HH HZR HZ i1 i2 i3 i4
      go_wp2
      go_ret
      obtain rfl := HE.out
      have hb := Bs.below_of_fr HR3.out.fr
      have hC := row_C HR3.out
      obtain rfl := HN.out
      exact ⟨_, _, rfl, HC.out, hC, hb⟩
    · obtain ⟨s, rfl⟩ : ∃ s0 : Nat, s = (s0 : Int) := ⟨s.toNat, by omega⟩
      have hh := HH.out
      rw [Int.toNat_natCast] at hh hz1
      rw [if_neg (by omega)] at hh
      clear HH HZ HZR i1 i4
      by_cases hlast : L.length ≤ ix + s + p.length
      · rw [if_pos hlast] at hh; cases hh
      rw [if_neg hlast] at hh
      have HLA : Aside0 (ix + s + p.length < n) := ⟨by have := HN.out; omega⟩
      clear hlast hz0 hz1
      have s0 : (0 : Int) ≤ (s : Int) := by omega
      have s1 : (s : Int) ≤ 100000 := by have := HLA.out; have := HG.out; omega
      have s2 : (ix : Int) ≤ 100000 := by have := HLA.out; have := HG.out; omega
      have sn : ¬ ((s : Int) < 0) := by omega
      rcases Nat.eq_zero_or_pos (ix + s) with hj | hj
      · obtain rfl : ix = 0 := by omega
        obtain rfl : s = 0 := by omega
        rw [if_pos (by omega)] at hh
        have HH := Aside0.mk hh
        clear hh hj
        have m0 : (0 : Int) ≤ (m : Int) := by omega
        have m1 : (m : Int) ≤ 1000 := by have := HM.out; have := HP.out; omega
        have hpz : (ba p).size = m := HM.out.symm
        go_wp2
        go_roundg gk
        case measure => omega
        case rel => exact ⟨L, n, m, Y, c, rfl, by first | rfl | go_num, ⟨by have := HH.out; rw [show 0 + 0 + p.length = m by have := HM.out; omega] at this; exact this, HN.out, HG.out.1, HC.out, by have := HG.out; omega, HR3.out, by have := HP.out; have := HM.out; omega⟩⟩
      · obtain ⟨q, hq⟩ : ∃ q, ix + s = q + 1 := ⟨ix + s - 1, by omega⟩
        have hqi : (ix : Int) + (s : Int) = (q : Int) + 1 := by omega
        rw [hq] at hh HLA
        have m0 : (0 : Int) ≤ (m : Int) := by omega
        have m1 : (m : Int) ≤ 1000 := by have := HM.out; have := HP.out; omega
        have q0 : (0 : Int) ≤ (q : Int) := by omega
        have q1 : (q : Int) < (n : Int) := by have := HLA.out; omega
        have q2 : (q : Int) ≤ 100000 := by have := HLA.out; have := HG.out; omega
        have q3 : ¬ ((q : Int) + 1 < 1) := by omega
        have qlt : q < L.length := by have := HN.out; omega
        obtain ⟨b, hb⟩ : ∃ b, L[q]? = some b := ⟨_, List.getElem?_eq_getElem qlt⟩
        have hcell : w3.cell? (Y.add q) = some (.int .u8 (b.toNat : Int)) := by
          have hC := row_C HR3.out
          obtain rfl : n = (nm L).length := by rw [nm_len]; exact HN.out
          exact cell_of hC (Below.refl _ _) (by rw [nm, List.getElem?_map, hb]; rfl)
        have HQ := Aside0.mk hq
        clear hq
        go_upto_region 8 with (fail)
        clear hqi
        rw [Nat.add_sub_cancel, hb] at hh
        by_cases hb10 : b = 10
        · subst hb10
          rw [if_neg (by simp)] at hh
          have HH := Aside0.mk hh
          clear hh hb
          go_upto_region 10 with (fail)
          have hpz : (ba p).size = m := HM.out.symm
          have g1 : (q : Int) + 1 + (m : Int) ≤ (n : Int) := by have := HLA.out; have := HM.out; omega
          have g2 : (q : Int) + 1 + (m : Int) ≤ (c : Int) := by omega
          have g3 : ¬ (c = q + 1 + m) := by have := HLA.out; have := HM.out; omega
          have kc := Lib.run_convert_bytes_const (P := Try.prog) w3 28 5 #[.int .u8 13, .int .u8 10] 2 2 Try.underlying28 Try.underlying5
          simp only [List.size_toArray, List.length_cons, List.length_nil] at kc
          obtain ⟨e, he⟩ : ∃ e, e = zi [13, 10] (L.drop (q + 1 + m)) 0 := ⟨_, rfl⟩
          have HE := Aside0.mk he
          clear he
          go_wp2_with fail
          refine (zz_calls (L.drop (q + 1 + m)) [13, 10] (by rw [List.length_drop, HN.out]) rfl (by rw [List.length_drop]; have := HN.out; have := HG.out; omega) (by decide) (row_drop (HR3.out.alloc _) HN.out (by omega)) (by omega) (crlf_C w3) (Nat.le_refl 2)).mono ?_
          rw [← HE.out]
          rintro e w2' ⟨rfl, ⟨nd2, rfl⟩⟩
          have HR4 : Aside0 (Bs.RowG w2 ((w3.alloc (.cells #[.int .u8 13, .int .u8 10] 5 (2, 3))).drewN nd2) 5 1 (.slice (some Y) n c) n (iC (nm L))) := ⟨HR3.out.fr0 (((Bs.Fr.refl _ _).alloc _).drewN nd2)⟩
          generalize ((w3.alloc (.cells #[.int .u8 13, .int .u8 10] 5 (2, 3))).drewN nd2) = w4 at *
          have hh := HH.out
          rw [← HM.out, ← HE.out] at hh
          by_cases he0 : e < 0
          · rw [if_pos he0] at hh; cases hh
          rw [if_neg he0] at hh
          obtain ⟨e, rfl⟩ : ∃ e0 : Nat, e = (e0 : Int) := ⟨e.toNat, by omega⟩
          have hmof : mof p L (q + 1) = q + 1 + e + m + 2 := by unfold mof; rw [← HM.out, ← HE.out, Int.toNat_natCast]
          rw [hmof] at hh
          by_cases hle : L.length ≤ q + 1 + e + m + 2
          · rw [if_pos hle] at hh; cases hh
          rw [if_neg hle] at hh
          have HH := Aside0.mk hh
          have k1 : (q : Int) + 1 + (e : Int) + (m : Int) + 2 ≤ (n : Int) := by have := HN.out; omega
          have k2 : (e : Int) ≤ 100000 := by have := HN.out; have := HG.out; omega
          have k3 : (0 : Int) ≤ (e : Int) := by omega
          have k4 : (q : Int) + 1 + (e : Int) + (m : Int) + 2 ≤ (c : Int) := by omega
          have k5 : ¬ (c = q + 1 + e + m + 2) := by have := HN.out; omega
          clear hh hle he0 hmof hcell kc HR3 g3 g1 g2 qlt
          go_upto_region 13 with (fail)
          obtain ⟨i0, hK⟩ := elem5
          have K5 := Aside0.mk hK
          clear hK
          have d1 : (0 : Int) ≤ (q : Int) + 1 := by omega
          have d2 : (q : Int) + 1 ≤ (c : Int) := by omega
          have d2' : (q : Int) + 1 ≤ (n : Int) := by omega
          have d4 : (0 : Int) ≤ (q : Int) + 1 + (e : Int) + (m : Int) + 2 := by omega
          have d3 : ((q : Int) + 1).toNat = q + 1 := by omega
          have d5 : ((q : Int) + 1 + (e : Int) + (m : Int) + 2).toNat = q + 1 + e + m + 2 := by omega
          have d6 : IntKind.i64.wrap ((q : Int) + 1 + (e : Int)) = (q : Int) + 1 + (e : Int) := IntWalk.i64_in _ (by omega)
          have d7 : IntKind.i64.wrap ((q : Int) + 1 + (e : Int) + (m : Int)) = (q : Int) + 1 + (e : Int) + (m : Int) := IntWalk.i64_in _ (by omega)
          have d8 : IntKind.i64.wrap ((q : Int) + 1 + (e : Int) + (m : Int) + 2) = (q : Int) + 1 + (e : Int) + (m : Int) + 2 := IntWalk.i64_in _ (by omega)
          refine Bs.region_tail 12 (by kernel_rfl) (by kernel_rfl) (fun wd hwd => ?_)
          have HR5 : Aside0 (Bs.RowG w2 wd 5 1 (.slice (some Y) n c) n (iC (nm L))) := ⟨by rw [hwd.out]; exact HR4.out.drew⟩
          clear hwd HR4
          simp only [List.take_succ_cons, List.take_zero, List.drop_succ_cons, List.drop_zero]
          repeat still_step
          refine wpStill_nil ?_
          refine Bs.wpList_rowG K5.out rfl (.tmp 53) (.tmp 62) rfl (w2 := w2) (n := q + 1) (xs := iC (nm (L.take (q + 1)))) (m := n - (q + 1 + e + m + 2)) (ys := iC (nm (L.drop (q + 1 + e + m + 2)))) rfl (row_take HR5.out HN.out (by clear d6 d7 d8; omega)) rfl (fun _ => read_drop (i := q + 1 + e + m + 2) (by unfold Addr.add; rw [if_neg (by clear d6 d7 d8; omega)]) HR5.out HN.out (by clear d6 d7 d8; omega)) (by have := HG.out; clear d6 d7 d8; omega) (fun v1 w5 h1 hg1 ha1 => ?_)
          clear d6 d7 d8
          have HB1 := Aside0.mk h1
          obtain ⟨n2, hn2⟩ : ∃ n2, n2 = q + 1 + (n - (q + 1 + e + m + 2)) := ⟨_, rfl⟩
          have hL2 : iC (nm (L.take (q + 1))) ++ iC (nm (L.drop (q + 1 + e + m + 2))) = iC (nm (cutl L (q + 1) (q + 1 + e + m + 2))) := by simp [iC, nm, cutl]
          rw [← hn2, hL2] at h1
          have HN2 : Aside0 (n2 = (cutl L (q + 1) (q + 1 + e + m + 2)).length ∧ n2 ≤ 100000 ∧ q + 1 ≤ n2) := ⟨by have := HN.out; have := HG.out; refine ⟨?_, by omega, by omega⟩; unfold cutl; rw [List.length_append, List.length_take, List.length_drop]; omega⟩
          obtain ⟨Y1, c2, rfl, hc2⟩ : ∃ Y1 c2, v1 = .slice (some Y1) n2 c2 ∧ n2 ≤ c2 := by
            rcases h1.own.2 with ⟨-, h0⟩ | ⟨g, cap, cur, e, -, -, k1, -⟩
            · omega
            · exact ⟨_, cap, e, k1⟩
          have HB := Aside0.mk h1
          clear h1 hg1 ha1 HB1 hn2 hL2 HR5 HE
          have hh := HH.out
          rw [← HN2.out.1] at hh
          have y0 : (0 : Int) ≤ (n2 : Int) := by omega
          by_cases h12 : n2 ≤ 12
          · rw [if_pos h12] at hh
            have HE2 : Aside0 (([] : List UInt8) = r) := ⟨Option.some.inj hh⟩
            have y1 : (n2 : Int) ≤ 12 := by omega
            clear hh HH h12 hpz
            go_wp2
            go_ret
            obtain rfl := HE2.out
            exact ⟨none, 0, rfl, Nat.le_refl _, Kd.C_nil _ _, Bs.below_of_fr HB.out.fr⟩
          · rw [if_neg h12] at hh
            have HH2 := Aside0.mk hh
            have y1 : ¬ ((n2 : Int) ≤ 12) := by omega
            clear hh HH h12 hpz
            go_wp2
            go_roundg gk
            case measure => omega
            case rel => exact ⟨cutl L (q + 1) (q + 1 + e + m + 2), n2, q + 1, Y1, c2, rfl, by first | rfl | go_num, ⟨HH2.out, HN2.out.1, HN2.out.2.1, hc2, by have := HG.out; omega, HB.out, by have := HN2.out; omega⟩⟩
        · rw [if_pos (.inr (fun e => hb10 (Option.some.inj e)))] at hh
          have HH := Aside0.mk hh
          have hbb : ((b.toNat : Int) == 10) = false := beq_eq_false_iff_ne.mpr (fun e => hb10 ((toNat_eq (n := 10) (by omega)).1 e))
          have hbc : ((b.toNat : Int) != 10) = true := by rw [bne, hbb]; rfl
          have hpz : (ba p).size = m := HM.out.symm
          clear hh hb hb10
          go_wp2
          go_roundg gk
          case measure => omega
          case rel => exact ⟨L, n, q + 1 + m, Y, c, rfl, by first | rfl | go_num, ⟨by have := HH.out; rw [← HM.out] at this; exact this, HN.out, HG.out.1, HC.out, by have := HG.out; omega, HR3.out, by have := HG.out; have := HM.out; have := HP.out; omega⟩⟩
end Go.Proofs.Ytnkioieocjgekaa.Hq
