/- The law FnListKinds, walked; a script as it is read. -/
import Derived.Test.YtimffhpnfdikoaaDoorLsT
import Derived.Deep.SlicePairs
namespace Go.Proofs.YtimffhpnfdikoaaDoor.Ls
open Go.RowKit Go.Maps Go.Deep Go.Proofs.YtimffhpnfdikoaaDoor.Bs Go.Proofs.YtimffhpnfdikoaaDoorW.PrintWords Go.Proofs.YtimffhpnfdikoaaDoorW.PrintLast Go.Proofs.YtimffhpnfdikoaaDoorW.PrintMore Go.Proofs.YtimffhpnfdikoaaDoor.GFnListKinds Go.Proofs.YtimffhpnfdikoaaDoor.PlFnListKinds
set_option linter.unusedVariables false
set_option linter.unusedSimpArgs false
set_option maxRecDepth 100000 in
theorem deeds_of_trod {H : Type} {enc : TypeId × Value → H} {W : World} {base : Nat} {sp : Nat → Bool} {held : Bool} {fuel : Nat} {a : Option Addr} {len cap : Nat} {x : DataW H × List MemPlace} (h : DataW.trod enc Tryd.prog W base sp held fuel 22 [.slice a len cap] = some x) :
    ∃ T : List S46, T.length = len ∧ T.length ≤ cap ∧ Kd.C k46 W a T.length T ∧ ∀ t ∈ T, (Lit.int .i64 t.f2).wf = true := by
  rcases open_slice (Tryd.underlying22) h with ⟨hcs, _⟩ | ⟨ad, l, c, m, n, D, Pl, hcs, hb, hl, hm, hmm, hx, hall⟩
  · injection hcs with hcs _
    injection hcs with e1 e2 e3
    subst e2
    exact ⟨[], rfl, Nat.zero_le _, ⟨rfl, Nat.zero_le _, fun h => absurd h (Nat.lt_irrefl 0)⟩, fun p hp => (by cases hp)⟩
  · injection hcs with hcs _
    injection hcs with e1 e2 e3
    subst e1 e2 e3
    have hlm : len ≤ m := by rw [hmm]; split <;> omega
    have ce : Tryd.prog.cellsOf 46 = 3 := by kernel_rfl
    have each : ∀ i, i < len → ∃ q : S46, (W.cell? (ad.add (i * 3)) = some (.int .i64 q.f0) ∧ W.cell? (ad.add (i * 3 + 1)) = some (.string q.f1) ∧ W.cell? (ad.add (i * 3 + 2)) = some (.int .i64 q.f2)) ∧ (Lit.int .i64 q.f2).wf = true := fun i hi => by
      obtain ⟨cs', h1, h2⟩ := hall i (by omega)
      rw [ce] at h1
      obtain ⟨_, hlen, hcell⟩ := World.cells?_some h1
      obtain ⟨xs, k, hk, hxy, _, hxl, hf⟩ := DataW.trod_struct Tryd.underlying46 h2
      have k3 : Tryd.prog.cellsOf 3 = 1 := by kernel_rfl
      have k9 : Tryd.prog.cellsOf 9 = 1 := by kernel_rfl
      match xs, hxl, cs', hlen with
      | [y0, y1, y2], _, [v0, v1, v2], _ =>
        have g0 : DataW.trod enc Tryd.prog W base sp held k 3 (([v0, v1, v2].drop 0).take (Tryd.prog.cellsOf 3)) = some y0 := hf 0 _ rfl
        have g1 : DataW.trod enc Tryd.prog W base sp held k 9 (([v0, v1, v2].drop 1).take (Tryd.prog.cellsOf 9)) = some y1 := hf 1 _ rfl
        have g2 : DataW.trod enc Tryd.prog W base sp held k 3 (([v0, v1, v2].drop 2).take (Tryd.prog.cellsOf 3)) = some y2 := hf 2 _ rfl
        rw [k3] at g0 g2
        rw [k9] at g1
        obtain ⟨z0, e0, -, -⟩ := DataW.trod_int (k := .i64) Tryd.underlying3 g0
        obtain ⟨z1, e1, -, -⟩ := DataW.trod_string Tryd.underlying9 g1
        obtain ⟨z2, e2, -, w2⟩ := DataW.trod_int (k := .i64) Tryd.underlying3 g2
        have q0 := hcell 0 (by omega)
        have q1 := hcell 1 (by omega)
        have q2 := hcell 2 (by omega)
        rw [Bs.add_add'] at q0 q1 q2
        injection e0 with e0 _
        injection e1 with e1 _
        injection e2 with e2 _
        subst e0 e1 e2
        exact ⟨⟨z0, z1, z2⟩, ⟨by simpa using q0, by simpa using q1, by simpa using q2⟩, w2⟩
    have : Inhabited S46 := ⟨z46⟩
    obtain ⟨f, hf⟩ := choose_lt (α := S46) each
    refine ⟨(List.range len).map f, by simp, by simpa using hl, ⟨rfl, by simp; unfold maxLen at hm; omega, fun h0 => ⟨ad, rfl, fun i q hq => ?_⟩⟩, fun p hp => ?_⟩
    · rw [List.getElem?_map] at hq
      have hi : i < len := by
        rcases Nat.lt_or_ge i len with h' | h'
        · exact h'
        · rw [List.getElem?_eq_none (by simpa using h')] at hq; cases hq
      rw [List.getElem?_range hi] at hq
      injection hq with hq
      subst hq
      obtain ⟨⟨h1, h2, h3⟩, -⟩ := hf i hi
      refine ⟨_, rfl, k46_mk W (f i), fun j u hu => ?_⟩
      show W.cell? (ad.add (i * 3 + j)) = some u
      rcases j with _ | _ | _ | j
      · injection hu with hu
        rw [← hu]
        exact h1
      · injection hu with hu
        rw [← hu]
        exact h2
      · injection hu with hu
        rw [← hu]
        exact h3
      · simp at hu
    · obtain ⟨i, hi, rfl⟩ := List.mem_map.1 hp
      exact (hf i (by simpa using hi)).2
theorem ints_C {w : World} {base n : Nat} {v : Value} {L : List Int} (h : w.ownsRow base 3 1 v n (L.map (.int .i64))) (hn : n = L.length) (hL : L.length ≤ 1000000) : ∃ A c, v = .slice A L.length c ∧ L.length ≤ c ∧ Kd.C (Kd.int .i64) w A L.length L := by
  subst hn
  obtain ⟨A, c, e, hc, hr⟩ := read_own (w := w) (W := w) h (ints_one L)
  refine ⟨A, c, e, hc, rfl, by omega, fun hn => ?_⟩
  obtain ⟨ad, e2, hcell⟩ := hr.read (by simpa using hn)
  refine ⟨ad, e2, fun j p hj => ⟨[.int .i64 p], rfl, rfl, fun i u hu => ?_⟩⟩
  show w.cell? (ad.add (j * 1 + i)) = some u
  match i with
  | 0 =>
    injection hu with hu
    subst hu
    rw [Nat.mul_one, Nat.add_zero]
    exact hcell _ _ (by rw [List.getElem?_map, hj]; rfl)
  | i + 1 => simp at hu
def LawPost (W : World) (en : Ending) (w' : World) : Prop := en = .returned (.bool true) ∧ Same W w'
/-- A script that is read, and what its checks say. -/
structure Scr (W : World) (A0 : Option Addr) (ds : List S46) : Prop where
  row : Kd.C k46 W A0 ds.length ds
  wf : ∀ d ∈ ds, (Lit.int .i64 d.f2).wf = true
  gl : GlL W
theorem Scr.fr {W w : World} {A0 : Option Addr} {ds : List S46} (h : Scr W A0 ds) (hf : Same W w) : Scr w A0 ds := ⟨Kd.C_below h.row (below_of_fr hf), h.wf, h.gl.fr hf (fun h => h) (fun h => h)⟩
theorem Scr.good {W : World} {A0 : Option Addr} {ds : List S46} (h : Scr W A0 ds) (hd : ds.length ≤ 40 ∧ ∀ d ∈ ds, deedB d) : GoodD ds := ⟨by omega, fun d hm => ⟨(hd.2 d hm).2.1, h.wf d hm⟩⟩
theorem kinds_same {ds : List S46} (hd : ds.length ≤ 40 ∧ ∀ d ∈ ds, deedB d) (ho : Once ds ds.length) : (runL ds).kinds = (runS ds).kinds ∧ (runL ds).cnt = ((runS ds).l.length : Int) := by
  have h := eqv_run (by omega) (fun d hm => (hd.2 d hm).1) ho
  exact ⟨h.kinds, h.cnt⟩
section
set_option maxHeartbeats 8000000
set_option maxRecDepth 100000
theorem kinds_law {W : World} {A0 : Option Addr} {c0 : Nat} {ds : List S46} (hS : Scr W A0 ds) (hc : ds.length ≤ c0) : Calls Tryd.prog 3 #[.slice A0 ds.length c0] W (LawPost W) := by
  have HS := Aside0.mk hS
  have HC := Aside0.mk hc
  obtain ⟨b5, he5, hb5⟩ := fits5_ev ds
  obtain ⟨k5, hk5⟩ := Ev.rounds he5
  obtain ⟨bd, hed, hbd⟩ := deeds_ev ds
  obtain ⟨kd, hkd⟩ := Ev.rounds hed
  have HK5 := Aside0.mk hk5
  have HKD := Aside0.mk hkd
  have HBD := Aside0.mk hbd
  clear hS hc he5 hb5 hk5 hed hkd hbd
  go_enter Tryd.func3, Tryd.ntmps3
  go_wp2_with fail
  refine (laws_zzFits5.calls k5 A0 c0 ds b5 W HS.out.row HC.out HK5.out).mono ?_
  rintro e w1 ⟨rfl, hf⟩
  have H1 : Aside0 (Same W w1) := ⟨fr_of_below hf⟩
  clear hf
  cases b5 with
  | false =>
    go_wp2
    go_ret
    exact ⟨rfl, H1.out⟩
  | true =>
    go_wp2_with fail
    refine (awake_calls (HS.out.fr H1.out).gl).mono ?_
    rintro e w2 ⟨rfl, hf⟩
    have H2 : Aside0 (Same W w2) := ⟨H1.out.trans hf (fun _ _ h => h)⟩
    clear hf H1
    go_wp2_with fail
    refine (laws_deeds.calls kd A0 c0 ds bd w2 (HS.out.fr H2.out).row HC.out HKD.out).mono ?_
    rintro e w3 ⟨rfl, hf⟩
    have H3 : Aside0 (Same W w3) := ⟨H2.out.trans (fr_of_below hf) (fun _ _ h => h)⟩
    clear hf H2
    cases bd with
    | false =>
      go_wp2
      go_ret
      exact ⟨rfl, H3.out⟩
    | true =>
      have HD := Aside0.mk (HBD.out rfl)
      have HG := Aside0.mk (HS.out.good HD.out)
      go_wp2_with fail
      refine (twice_calls (HS.out.fr H3.out).row HC.out HG.out).mono ?_
      rintro e w4 ⟨⟨r, rfl, hr⟩, hf⟩
      have H4 : Aside0 (Same W w4) := ⟨H3.out.trans hf (fun _ _ h => h)⟩
      have HR := Aside0.mk hr
      clear hf hr H3
      cases r with
      | true =>
        go_wp2
        go_ret
        exact ⟨rfl, H4.out⟩
      | false =>
        obtain ⟨q1, q2⟩ := kinds_same HD.out (HR.out rfl)
        have HQ := Aside0.mk (And.intro q1 q2)
        clear q1 q2
        go_wp2_with fail
        refine (spec_calls (HS.out.fr H4.out).row HG.out).mono ?_
        rintro e w5 ⟨⟨lv, kv, rfl, hl, hk⟩, hf⟩
        obtain ⟨A4, c4, rfl, hc4, hr4⟩ := read_own (w := w5) (W := w5) hl (e35_one _)
        have HK := Aside0.mk hk
        have H5 : Aside0 (Same W w5) := ⟨H4.out.trans hf (fun _ _ h => h)⟩
        clear hl hk hf hc4 hr4 H4
        go_wp2_with fail
        refine (kinds_calls (HS.out.fr H5.out).row (HS.out.fr H5.out).gl HG.out).mono ?_
        rintro e w6 ⟨⟨gv, rfl, hg⟩, hf⟩
        have hsz := run_sizes ds
        have hsz2 := runL_kinds ds
        have hk6 := ownsRow_fr HK.out hf (fun _ _ h => h)
        obtain ⟨Ag, cg, rfl, hcg, hCg⟩ := ints_C hg hsz2.symm (by have := HG.out.len; omega)
        obtain ⟨Ak, ck, rfl, hck, hCk⟩ := ints_C hk6 hsz.2.symm (by have := HG.out.len; omega)
        have H6 : Aside0 (Same W w6) := ⟨H5.out.trans hf (fun _ _ h => h)⟩
        obtain ⟨ks, hks⟩ := Ev.rounds (same_ev (runL ds).kinds (runS ds).kinds (by have := HG.out.len; omega))
        rw [decide_eq_true HQ.out.1] at hks
        have HCC := Aside0.mk (And.intro hCg (And.intro hcg (And.intro hCk (And.intro hck hks))))
        rw [HQ.out.2]
        clear hg hf hsz hsz2 hk6 hCg hCk hcg hck hks H5 HK
        go_wp2_with fail
        refine (laws_sameInts.calls ks Ag cg _ Ak ck _ true w6 HCC.out.1 HCC.out.2.1 HCC.out.2.2.1 HCC.out.2.2.2.1 HCC.out.2.2.2.2).mono ?_
        rintro e w7 ⟨rfl, hf⟩
        have H7 : Aside0 (Same W w7) := ⟨H6.out.trans (fr_of_below hf.below) (fun _ _ h => h)⟩
        clear hf
        go_wp2
        go_ret
        exact ⟨rfl, H7.out⟩
theorem kinds_row {W : World} {A0 : Option Addr} {c0 : Nat} {ds : List S46} (hT : Kd.C k46 W A0 ds.length ds) (hw : ∀ d ∈ ds, (Lit.int .i64 d.f2).wf = true) (hc : ds.length ≤ c0) (hG : GlL W) :
    Calls Tryd.prog 3 #[.slice A0 ds.length c0] W (fun e w' => e = .returned (.bool true) ∧ Below W.heap.size W w') := (kinds_law ⟨hT, hw, hG⟩ hc).mono (fun e w' h => ⟨h.1, below_of_fr h.2⟩)
end
end Go.Proofs.YtimffhpnfdikoaaDoor.Ls
