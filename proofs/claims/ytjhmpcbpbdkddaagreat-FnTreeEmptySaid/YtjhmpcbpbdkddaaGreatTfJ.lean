/- The law FnTreeRun. -/
import Derived.Test.YtjhmpcbpbdkddaaGreatTfI
namespace Go.Proofs.YtjhmpcbpbdkddaaGreat.Te
open Go.RowKit Go.Proofs.YtjhmpcbpbdkddaaGreat.Pl Go.Proofs.YtjhmpcbpbdkddaaGreat.Bs Go.Proofs.YtjhmpcbpbdkddaaGreatW.PrintWords Go.Proofs.YtjhmpcbpbdkddaaGreatW.PrintLast Go.Proofs.YtjhmpcbpbdkddaaGreatW.PrintMore Go.Proofs.YtjhmpcbpbdkddaaGreat.GFnTreeRun Go.Proofs.YtjhmpcbpbdkddaaGreat.PlFnTreeRun
set_option linter.unusedVariables false
set_option linter.unusedSimpArgs false
theorem e34_cons (x : S34) (l : List S34) : e34 (x :: l) = [.bool x.f0, .int .i64 x.f1] ++ e34 l := rfl
theorem e34_get : ∀ {L : List S34} {j : Nat} {x : S34}, L[j]? = some x → (e34 L)[j * 2]? = some (.bool x.f0) ∧ (e34 L)[j * 2 + 1]? = some (.int .i64 x.f1)
  | [], _, _, h => by simp at h
  | y :: r, 0, x, h => by
    injection h with h
    subst h
    exact ⟨rfl, rfl⟩
  | y :: r, j + 1, x, h => by
    obtain ⟨h1, h2⟩ := e34_get (L := r) (j := j) (x := x) h
    rw [e34_cons, show (j + 1) * 2 = j * 2 + 2 by omega]
    refine ⟨?_, ?_⟩
    · rw [List.getElem?_append_right (by simp)]; exact h1
    · rw [List.getElem?_append_right (by simp), ← h2]; congr 1
theorem kc34_of_own {w : World} {B n : Nat} {v : Value} {L : List S34} (h : w.ownsRow B 34 2 v n (e34 L)) (hn : n = L.length) (hL : L.length ≤ 1000) : ∃ A c, v = .slice A L.length c ∧ L.length ≤ c ∧ Kd.C k34 w A L.length L := by
  subst hn
  obtain ⟨A, c, rfl, hc, hr⟩ := read_own (w := w) (W := w) h (e34_one _)
  refine ⟨A, c, rfl, hc, rfl, by omega, fun hn => ?_⟩
  obtain ⟨ad, e2, hcell⟩ := hr.read (by rw [hr.len]; omega)
  refine ⟨ad, e2, fun j p hj => ⟨[.bool p.f0, .int .i64 p.f1], rfl, k34_mk w p, fun i u hu => ?_⟩⟩
  obtain ⟨g1, g2⟩ := e34_get hj
  show w.cell? (ad.add (j * 2 + i)) = some u
  match i with
  | 0 => injection hu with hu; subst hu; exact hcell _ _ g1
  | 1 => injection hu with hu; subst hu; exact hcell _ _ g2
  | i + 2 => simp at hu
theorem rd34_at {L : List S34} {j : Nat} {x : S34} (h : L[j]? = some x) : rd_T34 L (j : Int) = x := by
  unfold rd_T34
  rw [Int.toNat_natCast, List.getD_eq_getElem?_getD, h]
  rfl
theorem eq34 {w : World} {d : Nat} (a : Bool) (b : Int) (c : Bool) (e : Int) : (Op.equalIn (d + 2) 34 (.agg #[.bool a, .int .i64 b]) (.agg #[.bool c, .int .i64 e])).run Tryz.prog w = .ok ((a == c) && (b == e)) w :=
  eqA_of Tryz.underlying34 (by kernel_rfl) (eqf_cons (by rfl) (by kernel_rfl) (by kernel_rfl) (run_equalIn_bool' w d 4 a c Tryz.underlying4) (eqf_last (by rfl) (by kernel_rfl) (by kernel_rfl) (run_equalIn_int w d 3 .i64 .i64 b e Tryz.underlying3)))
theorem neq34 {w : World} (a : Bool) (b : Int) : (binOp .neq 34 (.agg #[.bool a, .int .i64 b]) (.agg #[.bool a, .int .i64 b])).run Tryz.prog w = .ok (.bool false) w := by
  rw [run_neq_struct, eq34 (d := 9998) a b a b]
  simp [Result.andThen]
def LawPost (W : World) (en : Ending) (w' : World) : Prop := en = .returned (.bool true) ∧ Same W w'
section
set_option maxHeartbeats 16000000
set_option maxRecDepth 100000
attribute [local go_sem high] neq34
theorem run_law {W : World} {A0 : Option Addr} {c0 : Nat} {ds : List S51} (hT : Kd.C k51 W A0 ds.length ds) (hc : ds.length ≤ c0) : Calls Tryz.prog 3 #[.slice A0 ds.length c0] W (LawPost W) := by
  have HT := Aside0.mk hT
  have HC := Aside0.mk hc
  obtain ⟨b5, he5, hb5⟩ := fits5_ev ds
  obtain ⟨k5, hk5⟩ := Ev.rounds he5
  have HK5 := Aside0.mk hk5
  clear hT hc he5 hb5 hk5
  go_enter Tryz.func3, Tryz.ntmps3
  go_wp2_with fail
  refine (laws_zzFits5.calls k5 A0 c0 ds b5 W HT.out HC.out HK5.out).mono ?_
  rintro e w1 ⟨rfl, hf⟩
  have H1 : Aside0 (Same W w1) := ⟨fr_of_below hf⟩
  clear hf
  cases b5 with
  | false =>
    go_wp2
    go_ret
    exact ⟨rfl, H1.out⟩
  | true =>
    go_wp2_with fail
    refine (grown_calls (kc_same HT.out H1.out) HC.out).mono ?_
    rintro e w2 ⟨⟨lv, ok, rfl, hg, n, L, hl, hn, hL⟩, hs⟩
    have H2 : Aside0 (Same W w2) := ⟨H1.out.trans hs (fun _ _ h => h)⟩
    clear hs H1
    cases ok with
    | false =>
      clear hg hl hn hL
      go_wp2_with fail
      refine (awake_calls (W := w2)).mono ?_
      rintro e w3 ⟨rfl, hs⟩
      have H3 : Aside0 (Same W w3) := ⟨H2.out.trans hs (fun _ _ h => h)⟩
      clear hs
      go_wp2
      go_ret
      exact ⟨rfl, H3.out⟩
    | true =>
      have HG := Aside0.mk (hg rfl)
      have HL := hL rfl
      subst HL
      subst hn
      obtain ⟨Al, cl, rfl, hcl, hrl⟩ := read_own (w := w2) (W := w2) hl (e48_one _)
      clear hg hl hL hcl hrl
      go_wp2_with fail
      refine (spec_calls (kc_same HT.out H2.out) HG.out.good).mono ?_
      rintro e w3 ⟨⟨lv2, tv, rfl, hl2, ht⟩, hs⟩
      have H3 : Aside0 (Same W w3) := ⟨H2.out.trans hs (fun _ _ h => h)⟩
      have HTV := Aside0.mk ht
      clear hs hl2 ht H2
      go_wp2_with fail
      refine (run_calls (kc_same HT.out H3.out) HG.out.good).mono ?_
      rintro e w4 ⟨⟨gv, es, rfl, ho, hd, hn⟩, hs⟩
      rw [spec_size hd hn]
      have H4 : Aside0 (Same W w4) := ⟨H3.out.trans hs (fun _ _ h => h)⟩
      have hto := (spec_rel ds).told
      rw [← hto] at ho
      have hlt := (runT_len ds).2
      obtain ⟨Ag, cg, rfl, hcg, hCg⟩ := kc34_of_own ho hlt.symm (by have := HG.out.len; omega)
      obtain ⟨At, ct, rfl, hct, hCt⟩ := kc34_of_own (ownsRow_fr HTV.out hs (fun _ _ h => h)) hlt.symm (by have := HG.out.len; omega)
      have HLT : Aside0 ((runT ds).told.length ≤ 40) := ⟨by have := HG.out.len; omega⟩
      have HCC := Aside0.mk (And.intro hCg (And.intro hcg (And.intro hCt hct)))
      clear ho hd hn hs hto hlt hcg hCg hct hCt H3 HTV
      generalize (runT ds).told = ts at HLT HCC ⊢
      generalize (runT ds).l.length = nl
      go_upto_region 10 with (fail)
      go_wp2_with fail
      go_loopg [9] ts.length (fun kq v9 wr => ∃ (i : Nat), v9 = .int .i64 (i : Int) ∧ Aside0 (kq + i = ts.length ∧ i ≤ ts.length) ∧ Aside0 (Same w4 wr))
      case atStart => exact ⟨0, rfl, ⟨by omega⟩, ⟨Fr.refl _ _⟩⟩
      case round =>
        obtain ⟨i, rfl, HI, HR⟩ := hrel
        have i0 : (0 : Int) ≤ (i : Int) := by omega
        by_cases hlt : i < ts.length
        · have i1 : (i : Int) < (ts.length : Int) := by omega
          have i2 : decide ((i : Int) < (ts.length : Int)) = true := decide_eq_true i1
          have i5 : IntKind.i64.wrap ((i : Int) + 1) = ((i + 1 : Nat) : Int) := by rw [IntKind.wrap_i64]; have := HI.out; have := HLT.out; omega
          obtain ⟨d, ht⟩ : ∃ d, ts[i]? = some d := ⟨_, List.getElem?_eq_getElem hlt⟩
          have HTI := Aside0.mk ht
          have HIK : Aside0 (i + 1 ≤ ts.length) := ⟨by omega⟩
          obtain ⟨ad, rfl, t0, t1⟩ := at_T34 (Kd.C_below HCC.out.1 (below_of_fr HR.out)) (i : Int) (by omega) (by omega)
          obtain ⟨ad2, rfl, s0, s1⟩ := at_T34 (Kd.C_below HCC.out.2.2.1 (below_of_fr HR.out)) (i : Int) (by omega) (by omega)
          rw [Int.toNat_natCast, rd34_at HTI.out] at t0 t1 s0 s1
          clear ht
          go_upto_region 13 with (fail)
          go_quiet (fail)
          have HS3 : Aside0 (Same w4 (wr.drewN nq)) := ⟨HR.out.trans ((Fr.refl _ _).drewN nq) (fun _ _ h => h)⟩
          clear t0 t1 s0 s1
          go_wp2_with fail
          go_roundg (ts.length - (i + 1))
          case measure => have := HI.out; have := HIK.out; omega
          case rel => exact ⟨i + 1, by first | rfl | go_num, ⟨by have := HIK.out; omega⟩, HS3⟩
        · have hie : i = ts.length := by have := HI.out; omega
          subst hie
          have i2 : decide ((ts.length : Int) < (ts.length : Int)) = false := decide_eq_false (by omega)
          go_wp2_with fail
          refine (awake_calls (W := wr)).mono ?_
          rintro e w5 ⟨rfl, hs⟩
          have H5 : Aside0 (Same W w5) := ⟨H4.out.trans (HR.out.trans hs (fun _ _ h => h)) (fun _ _ h => h)⟩
          clear hs
          go_wp2
          go_ret
          exact ⟨rfl, H5.out⟩
theorem run_row {W : World} {A0 : Option Addr} {c0 : Nat} {ds : List S51} (hT : Kd.C k51 W A0 ds.length ds) (hc : ds.length ≤ c0) :
    Calls Tryz.prog 3 #[.slice A0 ds.length c0] W (fun e w' => e = .returned (.bool true) ∧ Below W.heap.size W w') := (run_law hT hc).mono (fun e w' h => ⟨h.1, below_of_fr h.2⟩)
end
end Go.Proofs.YtjhmpcbpbdkddaaGreat.Te
