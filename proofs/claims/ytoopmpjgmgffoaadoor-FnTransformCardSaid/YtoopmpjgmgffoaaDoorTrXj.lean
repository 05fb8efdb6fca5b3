/- Match, impl.Transform, all kinds. -/
import Derived.Test.YtoopmpjgmgffoaaDoorTrJ
import Derived.Test.YtoopmpjgmgffoaaDoorTrX
namespace Go.Proofs.YtoopmpjgmgffoaaDoor.Tr
open Go.RowKit Go.Proofs.YtoopmpjgmgffoaaDoor.Pl Go.Proofs.YtoopmpjgmgffoaaDoor.Bs Go.Proofs.YtoopmpjgmgffoaaDoorW.PrintWords Go.Proofs.YtoopmpjgmgffoaaDoorW.PrintLast Go.Proofs.YtoopmpjgmgffoaaDoorW.PrintMore Go.Proofs.YtoopmpjgmgffoaaDoor.GFnTransformBack Go.Proofs.YtoopmpjgmgffoaaDoor.PlFnTransformBack
set_option linter.unusedVariables false
set_option linter.unusedSimpArgs false
section
set_option maxHeartbeats 8000000
set_option maxRecDepth 100000
theorem matchx_calls {w : World} {m k : Nat} {P : PlanL} {s r : ByteArray} {pc : Nat → ByteArray} (hM : MapAt w m P) (hs : s.size ≤ 500000) (hlit : (tk s).all litOk = true) (hsub : P.src.data.toList ≠ [62] → server_isSubsetMatch.f k (tk s) P.src = some true)
    (hs0 : P.src.data.toList ≠ []) (hd0 : P.dest.data.toList ≠ []) (hG : GoodX P (tk s) pc) (hne : madeB P (tk s) pc ≠ []) (hr : r = ⟨(madeB P (tk s) pc).toArray⟩) (hr2 : P.src.data.toList = [62] → P.dest.data.toList = [62] → r = s) :
    Calls Tryd.prog 27 #[.pointer (some ⟨m, 0, none⟩), .string s] w (MatchPost w r) := by
  obtain ⟨Ad, cd, As, cs, Ak, ck, Ap, cp, An, cn, At, ct, hb, hrest⟩ := hM.out
  have HM := Aside0.mk hM
  have HB := Aside0.mk hb
  have HZ := Aside0.mk (And.intro hs hlit)
  have HSUB := Aside0.mk hsub
  have HG := Aside0.mk (And.intro hG hne)
  have HR := Aside0.mk (And.intro hr hr2)
  have y0 : (P.src.toList == ([] : List UInt8)) = false := by rw [toList_beq]; exact decide_eq_false hs0
  have z0 : (P.dest.toList == ([] : List UInt8)) = false := by rw [toList_beq]; exact decide_eq_false hd0
  have b0 := hb.cell 0 rfl
  have b1 := hb.cell 1 rfl
  clear hM hb hrest hs hlit hsub hG hne hr hr2 hs0 hd0
  have tail : ∀ w1, Same w w1 → MapAt w1 m P := fun w1 h => by
    obtain ⟨Ad, cd, As, cs, Ak, ck, Ap, cp, An, cn, At, ct, hb, h1, h2, h3, h4, h5, h6⟩ := HM.out.out
    have hbl := below_of_fr h
    exact ⟨Ad, cd, As, cs, Ak, ck, Ap, cp, An, cn, At, ct, hb.fr h (fun h => h), Kd.C_below h1 hbl, Kd.C_below h2 hbl, Kd.C_below h3 hbl, Kd.C_below h4 hbl, Kd.C_below h5 hbl, Kd.C_below h6 hbl⟩
  have HTL := Aside0.mk tail
  clear tail
  by_cases hsrc : P.src.data.toList = [62]
  · have y1 : (P.src.toList == ([62] : List UInt8)) = true := by rw [toList_beq]; exact decide_eq_true hsrc
    by_cases hdst : P.dest.data.toList = [62]
    · have z1 : (P.dest.toList == ([62] : List UInt8)) = true := by rw [toList_beq]; exact decide_eq_true hdst
      have HX : Aside0 (MatchPost w r (.returned (.tuple #[.string s, .nilIface])) w) := ⟨by rw [HR.out.2 hsrc hdst], Fr.refl _ _⟩
      clear hsrc hdst
      go_enter Tryd.func27, Tryd.ntmps27
      go_wp2_with fail
      go_ret2
      exact HX.out
    have z1 : (P.dest.toList == ([62] : List UInt8)) = false := by rw [toList_beq]; exact decide_eq_false hdst
    clear hsrc hdst
    go_enter Tryd.func27, Tryd.ntmps27
    go_wp2_with fail
    refine (tok_calls HZ.out.1).mono ?_
    rintro e w1 ⟨⟨g, c, rfl, hlc, hC⟩, hs1⟩
    have HC := Aside0.mk (And.intro hlc hC)
    have HS1 := Aside0.mk hs1
    clear hlc hC hs1
    go_wp2_with fail
    refine (values_calls (some ⟨g, 0, none⟩) (tk s).length c w1).mono ?_
    rintro e w2 ⟨rfl, rfl⟩
    have HS2 : Aside0 (Same w1 (w1.alloc (.cells #[.slice (some ⟨g, 0, none⟩) (tk s).length c] 30))) := ⟨(Fr.refl _ _).alloc _⟩
    have hcb : (w1.alloc (.cells #[.slice (some ⟨g, 0, none⟩) (tk s).length c] 30)).cell? ⟨w1.heap.size, 0, none⟩ = some (.slice (some ⟨g, 0, none⟩) (tk s).length c) := (Blk.new w1 30 [.slice (some ⟨g, 0, none⟩) (tk s).length c]).cell 0 rfl
    have HCB := Aside0.mk hcb
    clear hcb
    generalize w1.alloc (.cells #[.slice (some ⟨g, 0, none⟩) (tk s).length c] 30) = w2 at HS2 HCB ⊢
    generalize w1.heap.size = gb at HCB ⊢
    go_wp2_with fail
    refine (isLit_calls (zs := tk s) (by have := tk_len s; have := HZ.out.1; omega) HCB.out (Kd.C_below HC.out.2 (below_of_fr HS2.out))).mono ?_
    rintro e w3 ⟨rfl, hb3⟩
    have HS3 : Aside0 (Same w1 w3) := ⟨HS2.out.trans (fr_of_below hb3) (fun _ _ h => h)⟩
    rw [HZ.out.2]
    clear hb3
    replace b0 := Same.cell (HS1.out.trans HS3.out (fun _ _ h => h)) b0
    clear b1
    have HS4 := HS3
    go_wp2_with fail
    refine (transx_calls (c := c) (HTL.out w3 (HS1.out.trans HS4.out (fun _ _ h => h))) (Kd.C_below HC.out.2 (below_of_fr HS4.out)) HG.out.1 HG.out.2).mono ?_
    rintro e w5 ⟨rfl, hs5⟩
    have HX : Aside0 (MatchPost w r (.returned (.tuple #[.string ⟨(madeB P (tk s) pc).toArray⟩, .nilIface])) w5) := ⟨by rw [HR.out.1], (HS1.out.trans HS4.out (fun _ _ h => h)).trans hs5 (fun _ _ h => h)⟩
    clear hs5
    go_wp2_with fail
    go_ret2
    exact HX.out
  have y1 : (P.src.toList == ([62] : List UInt8)) = false := by rw [toList_beq]; exact decide_eq_false hsrc
  have HNS := Aside0.mk hsrc
  clear hsrc
  go_enter Tryd.func27, Tryd.ntmps27
  go_wp2_with fail
  refine (tok_calls HZ.out.1).mono ?_
  rintro e w1 ⟨⟨g, c, rfl, hlc, hC⟩, hs1⟩
  have HC := Aside0.mk (And.intro hlc hC)
  have HS1 := Aside0.mk hs1
  clear hlc hC hs1
  go_wp2_with fail
  refine (values_calls (some ⟨g, 0, none⟩) (tk s).length c w1).mono ?_
  rintro e w2 ⟨rfl, rfl⟩
  have HS2 : Aside0 (Same w1 (w1.alloc (.cells #[.slice (some ⟨g, 0, none⟩) (tk s).length c] 30))) := ⟨(Fr.refl _ _).alloc _⟩
  have hcb : (w1.alloc (.cells #[.slice (some ⟨g, 0, none⟩) (tk s).length c] 30)).cell? ⟨w1.heap.size, 0, none⟩ = some (.slice (some ⟨g, 0, none⟩) (tk s).length c) := (Blk.new w1 30 [.slice (some ⟨g, 0, none⟩) (tk s).length c]).cell 0 rfl
  have HCB := Aside0.mk hcb
  clear hcb
  generalize w1.alloc (.cells #[.slice (some ⟨g, 0, none⟩) (tk s).length c] 30) = w2 at HS2 HCB ⊢
  generalize w1.heap.size = gb at HCB ⊢
  go_wp2_with fail
  refine (isLit_calls (zs := tk s) (by have := tk_len s; have := HZ.out.1; omega) HCB.out (Kd.C_below HC.out.2 (below_of_fr HS2.out))).mono ?_
  rintro e w3 ⟨rfl, hb3⟩
  have HS3 : Aside0 (Same w1 w3) := ⟨HS2.out.trans (fr_of_below hb3) (fun _ _ h => h)⟩
  rw [HZ.out.2]
  clear hb3
  replace b0 := Same.cell (HS1.out.trans HS3.out (fun _ _ h => h)) b0
  clear b1
  go_wp2_with fail
  refine (server_isSubsetMatch.calls k (some ⟨g, 0, none⟩) c (tk s) P.src true w3 (Kd.C_below HC.out.2 (below_of_fr HS3.out)) HC.out.1 (HSUB.out HNS.out)).mono ?_
  rintro e w4 ⟨rfl, hb4⟩
  have HS4 : Aside0 (Same w1 w4) := ⟨HS3.out.trans (fr_of_below hb4) (fun _ _ h => h)⟩
  clear hb4 b0
  go_wp2_with fail
  refine (transx_calls (c := c) (HTL.out w4 (HS1.out.trans HS4.out (fun _ _ h => h))) (Kd.C_below HC.out.2 (below_of_fr HS4.out)) HG.out.1 HG.out.2).mono ?_
  rintro e w5 ⟨rfl, hs5⟩
  have HX : Aside0 (MatchPost w r (.returned (.tuple #[.string ⟨(madeB P (tk s) pc).toArray⟩, .nilIface])) w5) := ⟨by rw [HR.out.1], (HS1.out.trans HS4.out (fun _ _ h => h)).trans hs5 (fun _ _ h => h)⟩
  clear hs5
  go_wp2_with fail
  go_ret2
  exact HX.out
theorem transformx_calls {w : World} {v : Value} {k : Nat} {P : PlanL} {s r : ByteArray} {pc : Nat → ByteArray} (hV : PlanV w v P) (hk : P.ks.length ≤ 1000) (hn : P.ns.length ≤ 1000) (hns : ∀ x ∈ P.ns, 0 ≤ x ∧ x ≤ 99)
    (hs : s.size ≤ 500000) (hlit : (tk s).all litOk = true) (hsub : P.src.data.toList ≠ [62] → server_isSubsetMatch.f k (tk s) P.src = some true)
    (hs0 : P.src.data.toList ≠ []) (hd0 : P.dest.data.toList ≠ []) (hG : GoodX (planP P) (tk s) pc) (hne : madeB (planP P) (tk s) pc ≠ []) (hr : r = ⟨(madeB (planP P) (tk s) pc).toArray⟩) (hr2 : P.src.data.toList = [62] → P.dest.data.toList = [62] → r = s) :
    Calls Tryd.prog 10 #[v, .string s] w (XPost w r) := by
  have HT : Aside0 (∀ w1 : World, Same w w1 → PlanV w1 v P) := ⟨fun w1 h => by
    obtain ⟨A2, c2, A3, c3, A4, c4, A5, c5, A6, c6, A7, c7, e, h2, h3, h4, h5, h6, h7⟩ := hV.out
    have hb := below_of_fr h
    exact ⟨A2, c2, A3, c3, A4, c4, A5, c5, A6, c6, A7, c7, e, ⟨h2.1, Kd.C_below h2.2 hb⟩, ⟨h3.1, Kd.C_below h3.2 hb⟩, ⟨h4.1, Kd.C_below h4.2 hb⟩, ⟨h5.1, Kd.C_below h5.2 hb⟩, ⟨h6.1, Kd.C_below h6.2 hb⟩, ⟨h7.1, Kd.C_below h7.2 hb⟩⟩⟩
  obtain ⟨A2, c2, A3, c3, A4, c4, A5, c5, A6, c6, A7, c7, e, -⟩ := hV.out
  have HM : Aside0 (∀ (w1 : World) (m : Nat), MapAt w1 m (planP P) → Calls Tryd.prog 27 #[.pointer (some ⟨m, 0, none⟩), .string s] w1 (MatchPost w1 r)) := ⟨fun w1 m hm => matchx_calls (k := k) hm hs hlit hsub hs0 hd0 hG hne hr hr2⟩
  have HL := Aside0.mk (And.intro hk (And.intro hn hns))
  have HE := Aside0.mk e
  clear hV hk hn hns hs hlit hsub hs0 hd0 hG hne hr hr2
  subst e
  go_enter Tryd.func10, Tryd.ntmps10
  go_upto_region 1 with (fail)
  have HS0 : Aside0 (Same w (w.alloc (.cells #[.string P.src, .string P.dest, .slice A2 P.st.length c2, .slice A3 P.dt.length c3, .slice A4 P.ks.length c4, .slice A5 P.ps.length c5, .slice A6 P.ns.length c6, .slice A7 P.ts.length c7] 34))) := ⟨(Fr.refl _ w).alloc _⟩
  have HB0 := Blk.new w 34 [.string P.src, .string P.dest, .slice A2 P.st.length c2, .slice A3 P.dt.length c3, .slice A4 P.ks.length c4, .slice A5 P.ps.length c5, .slice A6 P.ns.length c6, .slice A7 P.ts.length c7]
  have b0 := HB0.cell 0 rfl
  have b1 := HB0.cell 1 rfl
  have b2 := HB0.cell 2 rfl
  have b3 := HB0.cell 3 rfl
  have b4 := HB0.cell 4 rfl
  have b5 := HB0.cell 5 rfl
  have b6 := HB0.cell 6 rfl
  have b7 := HB0.cell 7 rfl
  clear HB0
  generalize w.alloc (.cells #[.string P.src, .string P.dest, .slice A2 P.st.length c2, .slice A3 P.dt.length c3, .slice A4 P.ks.length c4, .slice A5 P.ps.length c5, .slice A6 P.ns.length c6, .slice A7 P.ts.length c7] 34) = w1 at HS0 b0 b1 b2 b3 b4 b5 b6 b7 ⊢
  generalize w.heap.size = gb at b0 b1 b2 b3 b4 b5 b6 b7 ⊢
  go_wp2_with fail
  refine (mapping_calls (HT.out w1 HS0.out) HL.out.1 HL.out.2.1 HL.out.2.2).mono ?_
  rintro e w2 ⟨⟨m, rfl, hm⟩, hs2⟩
  have HM2 := Aside0.mk hm
  have HS2 := Aside0.mk hs2
  clear hm hs2 b0 b1 b2 b3 b4 b5 b6 b7
  go_wp2_with fail
  refine (HM.out w2 m HM2.out).mono ?_
  rintro e w3 ⟨rfl, hs3⟩
  have HS3 := Aside0.mk hs3
  clear hs3
  go_wp2_with fail
  refine one_calls.mono ?_
  rintro e w4 ⟨rfl, rfl⟩
  have HX : Aside0 (XPost w r (.returned (.tuple #[.string r, .int .i64 0])) w4) := ⟨rfl, (HS0.out.trans HS2.out (fun _ _ h => h)).trans HS3.out (fun _ _ h => h)⟩
  go_wp2_with fail
  go_ret2
  exact HX.out
structure GlT (w : World) : Prop where
  var : ∃ t v, w.cell? ⟨1, 0, none⟩ = some (.iface t v)
theorem GlT.same {w w1 : World} (h : GlT w) (hb : Same w w1) : GlT w1 := by
  obtain ⟨t, v, h⟩ := h.var
  exact ⟨t, v, hb.cell h⟩
def NoPost (w : World) (e : Ending) (w' : World) : Prop := (∃ t v, e = .returned (.tuple #[.string ⟨#[]⟩, .iface t v])) ∧ Same w w'
theorem nomatch_calls {w : World} {m k : Nat} {P : PlanL} {s : ByteArray} (hM : MapAt w m P) (hs : s.size ≤ 500000) (hlit : (tk s).all litOk = true) (hsrc : P.src.data.toList ≠ [62]) (hsub : server_isSubsetMatch.f k (tk s) P.src = some false)
    (hs0 : P.src.data.toList ≠ []) (hd0 : P.dest.data.toList ≠ []) (hgl : GlT w) :
    Calls Tryd.prog 27 #[.pointer (some ⟨m, 0, none⟩), .string s] w (NoPost w) := by
  obtain ⟨Ad, cd, As, cs, Ak, ck, Ap, cp, An, cn, At, ct, hb, hrest⟩ := hM.out
  have HB := Aside0.mk hb
  have HZ := Aside0.mk (And.intro hs hlit)
  have HSUB := Aside0.mk hsub
  have HGL := Aside0.mk hgl
  have y0 : (P.src.toList == ([] : List UInt8)) = false := by rw [toList_beq]; exact decide_eq_false hs0
  have z0 : (P.dest.toList == ([] : List UInt8)) = false := by rw [toList_beq]; exact decide_eq_false hd0
  have y1 : (P.src.toList == ([62] : List UInt8)) = false := by rw [toList_beq]; exact decide_eq_false hsrc
  have b0 := hb.cell 0 rfl
  have b1 := hb.cell 1 rfl
  clear hM hb hrest hs hlit hsub hs0 hd0 hsrc hgl
  go_enter Tryd.func27, Tryd.ntmps27
  go_wp2_with fail
  refine (tok_calls HZ.out.1).mono ?_
  rintro e w1 ⟨⟨g, c, rfl, hlc, hC⟩, hs1⟩
  have HC := Aside0.mk (And.intro hlc hC)
  have HS1 := Aside0.mk hs1
  clear hlc hC hs1
  go_wp2_with fail
  refine (values_calls (some ⟨g, 0, none⟩) (tk s).length c w1).mono ?_
  rintro e w2 ⟨rfl, rfl⟩
  have HS2 : Aside0 (Same w1 (w1.alloc (.cells #[.slice (some ⟨g, 0, none⟩) (tk s).length c] 30))) := ⟨(Fr.refl _ _).alloc _⟩
  have hcb : (w1.alloc (.cells #[.slice (some ⟨g, 0, none⟩) (tk s).length c] 30)).cell? ⟨w1.heap.size, 0, none⟩ = some (.slice (some ⟨g, 0, none⟩) (tk s).length c) := (Blk.new w1 30 [.slice (some ⟨g, 0, none⟩) (tk s).length c]).cell 0 rfl
  have HCB := Aside0.mk hcb
  clear hcb
  generalize w1.alloc (.cells #[.slice (some ⟨g, 0, none⟩) (tk s).length c] 30) = w2 at HS2 HCB ⊢
  generalize w1.heap.size = gb at HCB ⊢
  go_wp2_with fail
  refine (isLit_calls (zs := tk s) (by have := tk_len s; have := HZ.out.1; omega) HCB.out (Kd.C_below HC.out.2 (below_of_fr HS2.out))).mono ?_
  rintro e w3 ⟨rfl, hb3⟩
  have HS3 : Aside0 (Same w1 w3) := ⟨HS2.out.trans (fr_of_below hb3) (fun _ _ h => h)⟩
  rw [HZ.out.2]
  clear hb3
  replace b0 := Same.cell (HS1.out.trans HS3.out (fun _ _ h => h)) b0
  clear b1
  go_wp2_with fail
  refine (server_isSubsetMatch.calls k (some ⟨g, 0, none⟩) c (tk s) P.src false w3 (Kd.C_below HC.out.2 (below_of_fr HS3.out)) HC.out.1 HSUB.out).mono ?_
  rintro e w4 ⟨rfl, hb4⟩
  have HS4 : Aside0 (Same w1 w4) := ⟨HS3.out.trans (fr_of_below hb4) (fun _ _ h => h)⟩
  clear hb4 b0
  obtain ⟨tg, vg, hg⟩ := (HGL.out.same (HS1.out.trans HS4.out (fun _ _ h => h))).var
  go_upto_region 8 with (fail)
  go_quiet (fail)
  have HD : Aside0 (∀ n, Same w (w4.drewN n)) := ⟨fun n => (HS1.out.trans HS4.out (fun _ _ h => h)).trans (fr_of_below (pw_below_drewN (Below.refl w4.heap.size w4) n)) (fun _ _ h => h)⟩
  clear hg
  go_wp2_with fail
  go_ret2
  exact ⟨⟨_, _, rfl⟩, HD.out _⟩
theorem onen_calls {w : World} {t : TypeId} {v : Value} : Calls Tryd.prog 28 #[.iface t v] w fun e w' => e = .returned (.int .i64 1) ∧ w' = w := by
  go_enter Tryd.func28, Tryd.ntmps28
  go_wp2_with fail
  go_ret
  exact ⟨rfl, rfl⟩
def XNPost (w : World) (e : Ending) (w' : World) : Prop := e = .returned (.tuple #[.string ⟨#[]⟩, .int .i64 1]) ∧ Same w w'
theorem transformn_calls {w : World} {v : Value} {k : Nat} {P : PlanL} {s : ByteArray} (hV : PlanV w v P) (hk : P.ks.length ≤ 1000) (hn : P.ns.length ≤ 1000) (hns : ∀ x ∈ P.ns, 0 ≤ x ∧ x ≤ 99)
    (hs : s.size ≤ 500000) (hlit : (tk s).all litOk = true) (hsrc : P.src.data.toList ≠ [62]) (hsub : server_isSubsetMatch.f k (tk s) P.src = some false)
    (hs0 : P.src.data.toList ≠ []) (hd0 : P.dest.data.toList ≠ []) (hgl : GlT w) :
    Calls Tryd.prog 10 #[v, .string s] w (XNPost w) := by
  have HT : Aside0 (∀ w1 : World, Same w w1 → PlanV w1 v P) := ⟨fun w1 h => by
    obtain ⟨A2, c2, A3, c3, A4, c4, A5, c5, A6, c6, A7, c7, e, h2, h3, h4, h5, h6, h7⟩ := hV.out
    have hb := below_of_fr h
    exact ⟨A2, c2, A3, c3, A4, c4, A5, c5, A6, c6, A7, c7, e, ⟨h2.1, Kd.C_below h2.2 hb⟩, ⟨h3.1, Kd.C_below h3.2 hb⟩, ⟨h4.1, Kd.C_below h4.2 hb⟩, ⟨h5.1, Kd.C_below h5.2 hb⟩, ⟨h6.1, Kd.C_below h6.2 hb⟩, ⟨h7.1, Kd.C_below h7.2 hb⟩⟩⟩
  obtain ⟨A2, c2, A3, c3, A4, c4, A5, c5, A6, c6, A7, c7, e, -⟩ := hV.out
  have HM : Aside0 (∀ (w1 : World) (m : Nat), MapAt w1 m (planP P) → GlT w1 → Calls Tryd.prog 27 #[.pointer (some ⟨m, 0, none⟩), .string s] w1 (NoPost w1)) := ⟨fun w1 m hm hg => nomatch_calls (k := k) hm hs hlit hsrc hsub hs0 hd0 hg⟩
  have HL := Aside0.mk (And.intro hk (And.intro hn hns))
  have HE := Aside0.mk e
  have HGL := Aside0.mk hgl
  clear hV hk hn hns hs hlit hsrc hsub hs0 hd0 hgl
  subst e
  go_enter Tryd.func10, Tryd.ntmps10
  go_upto_region 1 with (fail)
  have HS0 : Aside0 (Same w (w.alloc (.cells #[.string P.src, .string P.dest, .slice A2 P.st.length c2, .slice A3 P.dt.length c3, .slice A4 P.ks.length c4, .slice A5 P.ps.length c5, .slice A6 P.ns.length c6, .slice A7 P.ts.length c7] 34))) := ⟨(Fr.refl _ w).alloc _⟩
  have HB0 := Blk.new w 34 [.string P.src, .string P.dest, .slice A2 P.st.length c2, .slice A3 P.dt.length c3, .slice A4 P.ks.length c4, .slice A5 P.ps.length c5, .slice A6 P.ns.length c6, .slice A7 P.ts.length c7]
  have b0 := HB0.cell 0 rfl
  have b1 := HB0.cell 1 rfl
  have b2 := HB0.cell 2 rfl
  have b3 := HB0.cell 3 rfl
  have b4 := HB0.cell 4 rfl
  have b5 := HB0.cell 5 rfl
  have b6 := HB0.cell 6 rfl
  have b7 := HB0.cell 7 rfl
  clear HB0
  generalize w.alloc (.cells #[.string P.src, .string P.dest, .slice A2 P.st.length c2, .slice A3 P.dt.length c3, .slice A4 P.ks.length c4, .slice A5 P.ps.length c5, .slice A6 P.ns.length c6, .slice A7 P.ts.length c7] 34) = w1 at HS0 b0 b1 b2 b3 b4 b5 b6 b7 ⊢
  generalize w.heap.size = gb at b0 b1 b2 b3 b4 b5 b6 b7 ⊢
  go_wp2_with fail
  refine (mapping_calls (HT.out w1 HS0.out) HL.out.1 HL.out.2.1 HL.out.2.2).mono ?_
  rintro e w2 ⟨⟨m, rfl, hm⟩, hs2⟩
  have HM2 := Aside0.mk hm
  have HS2 := Aside0.mk hs2
  clear hm hs2 b0 b1 b2 b3 b4 b5 b6 b7
  go_wp2_with fail
  refine (HM.out w2 m HM2.out (HGL.out.same (HS0.out.trans HS2.out (fun _ _ h => h)))).mono ?_
  rintro e w3 ⟨⟨tg, vg, rfl⟩, hs3⟩
  have HS3 := Aside0.mk hs3
  clear hs3
  go_wp2_with fail
  refine onen_calls.mono ?_
  rintro e w4 ⟨rfl, rfl⟩
  have HX : Aside0 (XNPost w (.returned (.tuple #[.string ⟨#[]⟩, .int .i64 1])) w4) := ⟨rfl, (HS0.out.trans HS2.out (fun _ _ h => h)).trans HS3.out (fun _ _ h => h)⟩
  go_wp2_with fail
  go_ret2
  exact HX.out
end
end Go.Proofs.YtoopmpjgmgffoaaDoor.Tr
