/- spec.PlanOf. -/
import Derived.Test.YtoopmpjgmgffoaaDoorTrA
import Derived.Test.YtoopmpjgmgffoaaDoorTpD
namespace Go.Proofs.YtoopmpjgmgffoaaDoor.Tr
open Go.RowKit Go.Proofs.YtoopmpjgmgffoaaDoor.Bs Go.Proofs.YtoopmpjgmgffoaaDoorW.PrintWords Go.Proofs.YtoopmpjgmgffoaaDoorW.PrintLast Go.Proofs.YtoopmpjgmgffoaaDoorW.PrintMore Go.Proofs.YtoopmpjgmgffoaaDoor.GFnTransformBack
set_option linter.unusedVariables false
set_option linter.unusedSimpArgs false
theorem ek31 : ∃ i, ElemK Tryd.prog 31 3 i (.int .i64 0) 1 8 := elem_of Tryd.underlying31 info3 (by decide) (by decide) (by decide)
theorem ek32 : ∃ i, ElemK Tryd.prog 32 31 i (.slice none 0 0) 1 24 := elem_of Tryd.underlying32 info31 (by decide) (by decide) (by decide)
theorem ek30 : ∃ i, ElemK Tryd.prog 30 9 i (.string ⟨#[]⟩) 1 16 := elem_of Tryd.underlying30 info9 (by decide) (by decide) (by decide)
def kindN (x : Int) : Int := if x = 1 then 1 else if x = 2 then 1 else if x = 10 then 2 else if x = 4 then 3 else if x = 5 then 4 else if x = 6 then 5 else if x = 7 then 6 else if x = 3 then 7 else if x = 8 then 8 else if x = 9 then 9 else 0
section
set_option maxHeartbeats 4000000
set_option maxRecDepth 100000
theorem kind_calls (x : Int) (w : World) : Calls Tryd.prog 31 #[.int .i64 x] w fun e w' => e = .returned (.int .i64 (kindN x)) ∧ w' = w := by
  have key : x = 1 ∨ x = 2 ∨ x = 10 ∨ x = 4 ∨ x = 5 ∨ x = 6 ∨ x = 7 ∨ x = 3 ∨ x = 8 ∨ x = 9 ∨ (x ≠ 1 ∧ x ≠ 2 ∧ x ≠ 10 ∧ x ≠ 4 ∧ x ≠ 5 ∧ x ≠ 6 ∧ x ≠ 7 ∧ x ≠ 3 ∧ x ≠ 8 ∧ x ≠ 9) := by omega
  rcases key with rfl | rfl | rfl | rfl | rfl | rfl | rfl | rfl | rfl | rfl | ⟨h1, h2, h10, h4, h5, h6, h7, h3, h8, h9⟩
  iterate 10
    · go_enter Tryd.func31, Tryd.ntmps31
      go_wp2
      go_ret
      exact ⟨rfl, rfl⟩
  · have e : kindN x = 0 := by
      unfold kindN
      rw [if_neg h1, if_neg h2, if_neg h10, if_neg h4, if_neg h5, if_neg h6, if_neg h7, if_neg h3, if_neg h8, if_neg h9]
    rw [e]
    have y1 : (x == 1) = false := by simpa using h1
    have y2 : (x == 2) = false := by simpa using h2
    have y10 : (x == 10) = false := by simpa using h10
    have y4 : (x == 4) = false := by simpa using h4
    have y5 : (x == 5) = false := by simpa using h5
    have y6 : (x == 6) = false := by simpa using h6
    have y7 : (x == 7) = false := by simpa using h7
    have y3 : (x == 3) = false := by simpa using h3
    have y8 : (x == 8) = false := by simpa using h8
    have y9 : (x == 9) = false := by simpa using h9
    clear e h1 h2 h10 h4 h5 h6 h7 h3 h8 h9
    go_enter Tryd.func31, Tryd.ntmps31
    go_wp2
    go_ret
    exact ⟨rfl, rfl⟩
end
def placesN (at_ : List Int) (p : S42) : List Int := if p.f0 = 10 then p.f4.map (fun a => at_.getD (a - 1).toNat 0) else if p.f0 ≠ 0 ∧ p.f0 ≠ 11 then [at_.getD (p.f2 - 1).toNat 0] else []
def wordN (p : S42) : ByteArray := if p.f0 = 3 then p.f1 else ⟨#[]⟩
structure GoodP (n : Nat) (p : S42) : Prop where
  part : p.f0 = 10 → p.f4.length ≤ 5 ∧ ∀ a ∈ p.f4, 1 ≤ a ∧ a ≤ n
  one : p.f0 ≠ 10 → p.f0 ≠ 0 → p.f0 ≠ 11 → 1 ≤ p.f2 ∧ p.f2 ≤ n
structure PlanL where
  src : ByteArray
  dest : ByteArray
  st : List ByteArray
  dt : List ByteArray
  ks : List Int
  ps : List (List Int)
  ns : List Int
  ts : List ByteArray
def planOf (src d : ByteArray) (at_ : List Int) (st dt : List ByteArray) (l : List S42) : PlanL := ⟨src, d, st, dt, l.map (fun p => kindN p.f0), l.map (placesN at_), l.map (·.f3), l.map wordN⟩
structure PlanV (W : World) (v : Value) (P : PlanL) : Prop where
  out : ∃ A2 c2 A3 c3 A4 c4 A5 c5 A6 c6 A7 c7, v = .agg #[.string P.src, .string P.dest, .slice A2 P.st.length c2, .slice A3 P.dt.length c3, .slice A4 P.ks.length c4, .slice A5 P.ps.length c5, .slice A6 P.ns.length c6, .slice A7 P.ts.length c7] ∧
    (P.st.length ≤ c2 ∧ Kd.C Kd.string W A2 P.st.length P.st) ∧ (P.dt.length ≤ c3 ∧ Kd.C Kd.string W A3 P.dt.length P.dt) ∧ (P.ks.length ≤ c4 ∧ Kd.C (Kd.int .i64) W A4 P.ks.length P.ks) ∧
    (P.ps.length ≤ c5 ∧ Kd.C (Kd.slice 3 (Kd.int .i64)) W A5 P.ps.length P.ps) ∧ (P.ns.length ≤ c6 ∧ Kd.C (Kd.int .i64) W A6 P.ns.length P.ns) ∧ (P.ts.length ≤ c7 ∧ Kd.C Kd.string W A7 P.ts.length P.ts)
structure PInv (B : Nat) (W : World) (g : Nat) (x0 x1 x2 x3 : Value) (n : Nat) (ks : List Int) (ps : List (List Int)) (ns : List Int) (ts : List ByteArray) (r : Nat → Row) : Prop where
  zone : Zone W B r
  blk : Blk W g 34 [x0, x1, x2, x3, (r 0).v, (r 1).v, (r 2).v, (r 3).v]
  r0 : r 0 = ⟨3, (r 0).v, ks.map (.int .i64)⟩
  r1 : r 1 = ⟨31, (r 1).v, (List.range n).map fun j => (r (5 + j)).v⟩
  r2 : r 2 = ⟨3, (r 2).v, ns.map (.int .i64)⟩
  r3 : r 3 = ⟨9, (r 3).v, ts.map .string⟩
  r4 : r 4 = nilRow 3
  r5 : ∀ j l, ps[j]? = some l → r (5 + j) = ⟨3, (r (5 + j)).v, l.map (.int .i64)⟩
  r6 : ∀ j, n ≤ j → r (5 + j) = nilRow 3
  lp : ps.length = n ∧ ks.length = n ∧ ns.length = n ∧ ts.length = n
theorem put_typ {r : Nat → Row} {P : TypeId → Prop} (h : ∀ i, P (r i).e) (j : Nat) (x : Row) (hx : P x.e) : ∀ i, P (put r j x i).e := fun i => by
  by_cases e : i = j
  · subst e
    rw [put_same]
    exact hx
  rw [put_other _ _ e]
  exact h i
structure MI (w6 W : World) (g6 : Nat) (r : Nat → Row) (xs : List Value) (g8 : Nat) (cs : List Value) : Prop where
  zone : Zone W g6 r
  blk : Blk W g6 34 xs
  pb : Blk W g8 42 cs
  ne : g6 ≠ g8
  same : Same w6 W
  sz : w6.heap.size = g6
  typ : ∀ i, (r i).e = 3 ∨ (r i).e = 31 ∨ (r i).e = 9
section
variable {w6 W W' : World} {g6 g8 : Nat} {r : Nat → Row} {xs cs : List Value}
theorem MI.to (h : MI w6 W g6 r xs g8 cs) (hf : Same W W') : MI w6 W' g6 r xs g8 cs := ⟨h.zone.same hf, h.blk.fr hf (fun h => h), h.pb.fr hf (fun h => h), h.ne, h.same.trans hf (fun _ _ h => h), h.sz, h.typ⟩
theorem MI.alloc (h : MI w6 W g6 r xs g8 cs) (o : Obj) : MI w6 (W.alloc o) g6 r xs g8 cs := h.to ((Fr.refl _ W).alloc o)
theorem MI.drew (h : MI w6 W g6 r xs g8 cs) : MI w6 W.drew g6 r xs g8 cs := h.to (Fr.refl _ W).drew
theorem MI.app (h : MI w6 W g6 r xs g8 cs) (i : Nat) {v' : Value} {n' : Nat} {xs' : List Value} (ho : W'.ownsRow g6 (r i).e 1 v' n' xs') (hn : n' = xs'.length) (hg : W.grownBy W' (r i).v.ownBlock) (hat : v'.ownBlock = (r i).v.ownBlock ∨ v'.ownBlock = some W.heap.size) : MI w6 W' g6 (put r i ⟨(r i).e, v', xs'⟩) xs g8 cs := by
  have hne : ∀ (g : Nat) (T : TypeId) (cs : List Value), Blk W g T cs → T = 34 ∨ T = 42 → (r i).v.ownBlock ≠ some g := fun g T cs hb hT e => by
    obtain ⟨cells, hc⟩ := own_typed (h.zone.own i) g e
    rw [hb.blk] at hc
    injection hc with hc
    injection hc with h1 h2 h3
    rcases h.typ i with e1 | e1 | e1 <;> rw [h2, e1] at hT <;> exact absurd hT (by decide)
  refine ⟨h.zone.append i ho hn hg hat, h.blk.move (hg.block _ h.blk.lt (fun e => hne _ _ _ h.blk (.inl rfl) e.symm)), h.pb.move (hg.block _ h.pb.lt (fun e => hne _ _ _ h.pb (.inr rfl) e.symm)), h.ne, h.same.trans (Fr.grown hg) (fun k hk e => ?_), h.sz, put_typ (P := fun e => e = 3 ∨ e = 31 ∨ e = 9) h.typ _ _ (h.typ i)⟩
  have := h.zone.ge e
  have := h.sz
  omega
theorem MI.set (h : MI w6 W g6 r xs g8 cs) (o : Nat) (ho : o < xs.length) (u : Value) : MI w6 (W.setCell ⟨g6, o, none⟩ u) g6 r (xs.set o u) g8 cs :=
  ⟨h.zone.set h.blk (fun i e2 => by rcases h.typ i with e1 | e1 | e1 <;> rw [e1] at e2 <;> exact absurd e2 (by decide)) o u, h.blk.set o ho u, h.pb.far (fun e => h.ne e.symm) u, h.ne, h.same.set (.inr (by have := h.sz; show _ ≤ g6; omega)) u, h.sz, h.typ⟩
end
theorem put_put (r : Nat → Row) (i : Nat) (x y : Row) : put (put r i x) i y = put r i y := by
  funext a
  by_cases h : a = i
  · subst h; rw [put_same, put_same]
  rw [put_other _ _ h, put_other _ _ h, put_other _ _ h]
theorem MI.app2 {w6 W W' : World} {g6 g8 : Nat} {r : Nat → Row} {xs cs : List Value} (h : MI w6 W g6 r xs g8 cs) (i : Nat) {e : TypeId} {v v' : Value} {us xs' : List Value} {n' : Nat} (hr : r i = ⟨e, v, us⟩) (o : Obj) (H : W'.ownsRow g6 e 1 v' n' xs' ∧ (W.alloc o).grownBy W' v.ownBlock ∧ (v'.ownBlock = v.ownBlock ∨ v'.ownBlock = some (W.alloc o).heap.size)) (hn : n' = xs'.length) : MI w6 W' g6 (put r i ⟨e, v', xs'⟩) xs g8 cs := by
  have h1 := (h.alloc o).app i (v' := v') (n' := n') (xs' := xs') (W' := W') (by rw [hr]; exact H.1) hn (by rw [hr]; exact H.2.1) (by rw [hr]; exact H.2.2)
  rw [hr] at h1
  exact h1
theorem MI.app4 {w6 W W' : World} {g6 g8 : Nat} {r : Nat → Row} {xs cs : List Value} {i : Nat} {e : TypeId} {v v' : Value} {us xs' : List Value} {n' : Nat} (h : MI w6 W g6 (put r i ⟨e, v, us⟩) xs g8 cs) (o : Obj) (H : W'.ownsRow g6 e 1 v' n' xs' ∧ (W.alloc o).grownBy W' v.ownBlock ∧ (v'.ownBlock = v.ownBlock ∨ v'.ownBlock = some (W.alloc o).heap.size)) (hn : n' = xs'.length) : MI w6 W' g6 (put r i ⟨e, v', xs'⟩) xs g8 cs := by
  have h1 := h.app2 i (put_same _ _ _) o H hn
  rw [put_put] at h1
  exact h1
theorem MI.row {w6 W : World} {g6 g8 : Nat} {r : Nat → Row} {xs cs : List Value} (h : MI w6 W g6 r xs g8 cs) (i : Nat) {e : TypeId} {v : Value} {us : List Value} (hr : r i = ⟨e, v, us⟩) : W.ownsRow g6 e 1 v us.length us := by
  have := h.zone.own i
  rw [hr] at this
  exact this
theorem PInv.next {w6 wr W : World} {g6 g8 : Nat} {x0 x1 x2 x3 v0 v1 v2 v3 pv : Value} {i : Nat} {ks : List Int} {ps : List (List Int)} {ns : List Int} {ts : List ByteArray} {r : Nat → Row} {l : List Int} {kk n : Int} {t : ByteArray} {cs : List Value}
    (hV : PInv g6 wr g6 x0 x1 x2 x3 i ks ps ns ts r)
    (hM : MI w6 W g6 (put (put (put (put (put r 4 ⟨3, pv, l.map (.int .i64)⟩) 0 ⟨3, v0, ks.map (.int .i64) ++ [.int .i64 kk]⟩) 1 ⟨31, v1, ((List.range i).map fun j => (r (5 + j)).v) ++ [pv]⟩) 2 ⟨3, v2, ns.map (.int .i64) ++ [.int .i64 n]⟩) 3 ⟨9, v3, ts.map .string ++ [.string t]⟩) [x0, x1, x2, x3, v0, v1, v2, v3] g8 cs) :
    ∃ r', PInv g6 W g6 x0 x1 x2 x3 (i + 1) (ks ++ [kk]) (ps ++ [l]) (ns ++ [n]) (ts ++ [t]) r' := by
  obtain ⟨R, hR⟩ : ∃ R, put (put (put (put (put r 4 ⟨3, pv, l.map (.int .i64)⟩) 0 ⟨3, v0, ks.map (.int .i64) ++ [.int .i64 kk]⟩) 1 ⟨31, v1, ((List.range i).map fun j => (r (5 + j)).v) ++ [pv]⟩) 2 ⟨3, v2, ns.map (.int .i64) ++ [.int .i64 n]⟩) 3 ⟨9, v3, ts.map .string ++ [.string t]⟩ = R := ⟨_, rfl⟩
  have e0 : R 0 = ⟨3, v0, ks.map (.int .i64) ++ [.int .i64 kk]⟩ := by rw [← hR]; rfl
  have e1 : R 1 = ⟨31, v1, ((List.range i).map fun j => (r (5 + j)).v) ++ [pv]⟩ := by rw [← hR]; rfl
  have e2 : R 2 = ⟨3, v2, ns.map (.int .i64) ++ [.int .i64 n]⟩ := by rw [← hR]; rfl
  have e3 : R 3 = ⟨9, v3, ts.map .string ++ [.string t]⟩ := by rw [← hR]; rfl
  have e4 : R 4 = ⟨3, pv, l.map (.int .i64)⟩ := by rw [← hR]; rfl
  have e5 : ∀ j, R (5 + j) = r (5 + j) := fun j => by
    rw [← hR, put_other _ _ (by omega), put_other _ _ (by omega), put_other _ _ (by omega), put_other _ _ (by omega), put_other _ _ (by omega)]
  rw [hR] at hM
  have f : ∀ a, a < 4 → put (put R (5 + i) (R 4)) 4 (nilRow 3) a = R a := fun a ha => by rw [put_other _ _ (by omega), put_other _ _ (by omega)]
  have f5 : ∀ j, j ≠ i → put (put R (5 + i) (R 4)) 4 (nilRow 3) (5 + j) = r (5 + j) := fun j hj => by rw [put_other _ _ (by omega), put_other _ _ (by omega), e5]
  have f6 : put (put R (5 + i) (R 4)) 4 (nilRow 3) (5 + i) = ⟨3, pv, l.map (.int .i64)⟩ := by rw [put_other _ _ (by omega), put_same, e4]
  obtain ⟨hl1, hl2, hl3, hl4⟩ := hV.lp
  refine ⟨put (put R (5 + i) (R 4)) 4 (nilRow 3), hM.zone.lay 4 (5 + i) (by omega) 3, ?_, ?_, ?_, ?_, ?_, put_same _ _ _, fun j l' hj => ?_, fun j hj => ?_, by simp [hl1, hl2, hl3, hl4]⟩
  · rw [f 0 (by omega), f 1 (by omega), f 2 (by omega), f 3 (by omega), e0, e1, e2, e3]
    exact hM.blk
  · rw [f 0 (by omega), e0, List.map_append]
    rfl
  · rw [f 1 (by omega), e1, List.range_succ, List.map_append]
    congr 1
    congr 1
    · refine List.map_congr_left fun j hj => ?_
      rw [f5 j (by have := List.mem_range.1 hj; omega)]
    simp only [List.map_cons, List.map_nil, f6]
  · rw [f 2 (by omega), e2, List.map_append]
    rfl
  · rw [f 3 (by omega), e3, List.map_append]
    rfl
  · by_cases hji : j = i
    · subst hji
      rw [List.getElem?_append_right (by omega), hl1, Nat.sub_self] at hj
      injection hj with hj
      rw [f6, hj]
    rw [f5 j hji]
    refine hV.r5 j l' ?_
    rwa [List.getElem?_append_left] at hj
    have := (List.getElem?_eq_some_iff.1 hj).1
    simp at this
    omega
  rw [f5 j (by omega)]
  exact hV.r6 j (by omega)
theorem PInv.plan {B : Nat} {W : World} {g : Nat} {x0 x1 x2 x3 : Value} {n : Nat} {ks : List Int} {ps : List (List Int)} {ns : List Int} {ts : List ByteArray} {r : Nat → Row} (h : PInv B W g x0 x1 x2 x3 n ks ps ns ts r) (hn : n ≤ 1000) (hp : ∀ l ∈ ps, l.length ≤ 1000000) :
    ∃ A4 c4 A5 c5 A6 c6 A7 c7, ((r 0).v = .slice A4 ks.length c4 ∧ (r 1).v = .slice A5 ps.length c5 ∧ (r 2).v = .slice A6 ns.length c6 ∧ (r 3).v = .slice A7 ts.length c7) ∧ (ks.length ≤ c4 ∧ Kd.C (Kd.int .i64) W A4 ks.length ks) ∧
    (ps.length ≤ c5 ∧ Kd.C (Kd.slice 3 (Kd.int .i64)) W A5 ps.length ps) ∧ (ns.length ≤ c6 ∧ Kd.C (Kd.int .i64) W A6 ns.length ns) ∧ (ts.length ≤ c7 ∧ Kd.C Kd.string W A7 ts.length ts) := by
  obtain ⟨l1, l2, l3, l4⟩ := h.lp
  have z0 := h.zone.own 0
  rw [h.r0] at z0
  have z1 := h.zone.own 1
  rw [h.r1] at z1
  have z2 := h.zone.own 2
  rw [h.r2] at z2
  have z3 := h.zone.own 3
  rw [h.r3] at z3
  have inner : ∀ j l, ps[j]? = some l → ∃ A c, (r (5 + j)).v = .slice A l.length c ∧ l.length ≤ c ∧ (Kd.int .i64).C W A l.length l := fun j l hj => by
    have z5 := h.zone.own (5 + j)
    rw [h.r5 j l hj] at z5
    exact row_C (.int .i64) (fun _ => rfl) z5 (by simp) (hp l (List.mem_of_getElem? hj))
  obtain ⟨A4, c4, e4, k4, C4⟩ := row_C (.int .i64) (fun _ => rfl) z0 (by simp) (by omega)
  obtain ⟨A6, c6, e6, k6, C6⟩ := row_C (.int .i64) (fun _ => rfl) z2 (by simp) (by omega)
  obtain ⟨A7, c7, e7, k7, C7⟩ := row_C Value.string (fun _ => rfl) z3 (by simp) (by omega)
  obtain ⟨A5, c5, e5, k5, C5⟩ := row_K (Kd.slice 3 (Kd.int .i64)) rfl (L := ps) z1 (by simp [l1]) (by simp [l1]) (by omega) (fun u hu => by
    obtain ⟨j, hj, rfl⟩ := List.mem_map.1 hu
    have hj2 := List.mem_range.1 hj
    obtain ⟨A, c, e, -, -⟩ := inner j _ (List.getElem?_eq_getElem (by omega))
    rw [e]
    rfl) (fun j u p hu hpj => by
    rw [List.getElem?_map, List.getElem?_range (by have := (List.getElem?_eq_some_iff.1 hpj).1; omega)] at hu
    injection hu with hu
    obtain ⟨A, c, e, k, C⟩ := inner j p hpj
    refine ⟨A, c, ?_, k, C⟩
    rw [← hu, ← e])
  exact ⟨A4, c4, A5, c5, A6, c6, A7, c7, ⟨e4, e5, e6, e7⟩, ⟨k4, C4⟩, ⟨k5, C5⟩, ⟨k6, C6⟩, ⟨k7, C7⟩⟩
theorem PInv.to {F : Nat → Prop} {B : Nat} {W W' : World} {g : Nat} {x0 x1 x2 x3 : Value} {n : Nat} {ks : List Int} {ps : List (List Int)} {ns : List Int} {ts : List ByteArray} {r : Nat → Row} (h : PInv B W g x0 x1 x2 x3 n ks ps ns ts r) (hf : Fr F W W') (hn : ∀ k, B ≤ k → ¬ F k) (hg : B ≤ g) : PInv B W' g x0 x1 x2 x3 n ks ps ns ts r :=
  ⟨h.zone.fr hf (fun k hk _ => hn k hk), h.blk.fr hf (hn g hg), h.r0, h.r1, h.r2, h.r3, h.r4, h.r5, h.r6, h.lp⟩
theorem PInv.plan2 {B : Nat} {W : World} {g : Nat} {x0 x1 x2 x3 : Value} {n : Nat} {ks : List Int} {ps : List (List Int)} {ns : List Int} {ts : List ByteArray} {r : Nat → Row} (h : PInv B W g x0 x1 x2 x3 n ks ps ns ts r) (hn : n ≤ 1000) (hp : ∀ l ∈ ps, l.length ≤ 1000000)
    {A4 A5 A6 A7 : Option Addr} {c4 c5 c6 c7 n4 n5 n6 n7 : Nat} (e4 : (r 0).v = .slice A4 n4 c4) (e5 : (r 1).v = .slice A5 n5 c5) (e6 : (r 2).v = .slice A6 n6 c6) (e7 : (r 3).v = .slice A7 n7 c7) :
    (ks.length ≤ c4 ∧ Kd.C (Kd.int .i64) W A4 ks.length ks) ∧ (ps.length ≤ c5 ∧ Kd.C (Kd.slice 3 (Kd.int .i64)) W A5 ps.length ps) ∧ (ns.length ≤ c6 ∧ Kd.C (Kd.int .i64) W A6 ns.length ns) ∧ (ts.length ≤ c7 ∧ Kd.C Kd.string W A7 ts.length ts) := by
  obtain ⟨a4, d4, a5, d5, a6, d6, a7, d7, ⟨f4, f5, f6, f7⟩, C4, C5, C6, C7⟩ := h.plan hn hp
  rw [f4] at e4
  rw [f5] at e5
  rw [f6] at e6
  rw [f7] at e7
  injection e4 with a b c
  subst a c
  injection e5 with a b c
  subst a c
  injection e6 with a b c
  subst a c
  injection e7 with a b c
  subst a c
  exact ⟨C4, C5, C6, C7⟩
theorem R_fr {α : Type} {d : Kd α} {e base g : Nat} {w w1 : World} {v : Value} {xs : List α} (h : d.R e w base (fun _ => True) v xs) (hf : Fr (fun k => k = g) w w1) (hg : g < base) : d.R e w1 base (fun _ => True) v xs :=
  Kd.R_mono (Kd.R_move (Kd.R_bound h) (fun k hk => hf.block k hk.2.2.1 (fun e => by have := hk.2.1; omega))) (fun _ _ => trivial)
theorem places_len {n : Nat} {at_ : List Int} {p : S42} (h : GoodP n p) : (placesN at_ p).length ≤ 1000000 := by
  unfold placesN
  split
  · rename_i h1
    have := (h.part h1).1
    rw [List.length_map]
    omega
  split <;> simp
structure PlanPost (w : World) (P : PlanL) (e : Ending) (w' : World) : Prop where
  out : ∃ v, e = .returned v ∧ PlanV w' v P
  same : Same w w'
section
set_option maxHeartbeats 8000000
set_option maxRecDepth 100000
theorem plan_calls {k : Nat} {src d : ByteArray} {at_ : List Int} {st dt : List ByteArray} {A1 : Option Addr} {c1 : Nat} {l1 : List S42} {w : World} (hT : Kd.C k42 w A1 l1.length l1) (hc : l1.length ≤ c1) (hl : l1.length ≤ 10) (hat : spec_Places.f k src = some at_) (han : at_.length ≤ 1000) (hd : spec_Dest.f k l1 = some d) (hst : spec_Tokens.f k src = some st) (hdt : spec_Tokens.f k d = some dt) (hp : ∀ p ∈ l1, GoodP at_.length p) :
    Calls Tryd.prog 11 #[.string src, .slice A1 l1.length c1] w (PlanPost w (planOf src d at_ st dt l1)) := by
  have HT := Aside0.mk hT
  have HC := Aside0.mk hc
  have HAT := Aside0.mk hat
  have HN := Aside0.mk (And.intro hl han)
  have HD := Aside0.mk hd
  have HST := Aside0.mk hst
  have HDT := Aside0.mk hdt
  have HP := Aside0.mk hp
  obtain ⟨i31, h31⟩ := ek31
  have HK31 := Aside0.mk h31
  obtain ⟨i32, h32⟩ := ek32
  have HK32 := Aside0.mk h32
  obtain ⟨i30, h30⟩ := ek30
  have HK30 := Aside0.mk h30
  clear hT hc hl hat han hd hst hdt hp h31 h32 h30
  go_enter Tryd.func11, Tryd.ntmps11
  go_wp2_with fail
  have HB4 : Aside0 (Blk (w.alloc (.cells #[.string ⟨#[]⟩, .string ⟨#[]⟩, .slice none 0 0, .slice none 0 0, .slice none 0 0, .slice none 0 0, .slice none 0 0, .slice none 0 0] 34)) w.heap.size 34 [.string ⟨#[]⟩, .string ⟨#[]⟩, .slice none 0 0, .slice none 0 0, .slice none 0 0, .slice none 0 0, .slice none 0 0, .slice none 0 0]) := ⟨Blk.new _ _ _⟩
  have HS4 : Aside0 (Same w (w.alloc (.cells #[.string ⟨#[]⟩, .string ⟨#[]⟩, .slice none 0 0, .slice none 0 0, .slice none 0 0, .slice none 0 0, .slice none 0 0, .slice none 0 0] 34))) := ⟨(Fr.refl _ _).alloc _⟩
  generalize w.alloc (.cells #[.string ⟨#[]⟩, .string ⟨#[]⟩, .slice none 0 0, .slice none 0 0, .slice none 0 0, .slice none 0 0, .slice none 0 0, .slice none 0 0] 34) = w1 at HB4 HS4 ⊢
  generalize hg4 : w.heap.size = g4 at HB4 ⊢
  refine (spec_Places.calls k src at_ w1 HAT.out).mono ?_
  rintro e w2 ⟨va, rfl, hRa, hba⟩
  obtain ⟨Aa, ca, rfl, hla, hCa⟩ := Kd.R_reads hRa
  have HCA := Aside0.mk (And.intro hla hCa)
  have HS2 : Aside0 (Same w1 w2) := ⟨fr_of_below hba⟩
  clear hla hCa hRa hba
  go_wp2_with fail
  refine (spec_Dest.calls k A1 c1 l1 d w2 (Kd.C_below HT.out (below_of_fr (HS4.out.trans HS2.out (fun _ _ h => h)))) HC.out HD.out).mono ?_
  rintro e w3 ⟨rfl, hb3⟩
  have HS3 : Aside0 (Same w2 w3) := ⟨fr_of_below hb3⟩
  clear hb3
  go_wp2_with fail
  refine (spec_Tokens.calls k src st w3 HST.out).mono ?_
  rintro e w4 ⟨vt, rfl, hRt, hbt⟩
  obtain ⟨At, ct, rfl, hlt, hCt⟩ := Kd.R_reads hRt
  have HCT := Aside0.mk hRt
  have HS5 : Aside0 (Same w3 w4) := ⟨fr_of_below hbt⟩
  clear hlt hCt hRt hbt
  go_wp2_with fail
  have HS6 : Aside0 (Same w w4) := ⟨((HS4.out.trans HS2.out (fun _ _ h => h)).trans HS3.out (fun _ _ h => h)).trans HS5.out (fun _ _ h => h)⟩
  refine (spec_Dest.calls k A1 c1 l1 d w4 (Kd.C_below HT.out (below_of_fr HS6.out)) HC.out HD.out).mono ?_
  rintro e w5 ⟨rfl, hb5⟩
  have HS7 : Aside0 (Same w4 w5) := ⟨fr_of_below hb5⟩
  clear hb5
  go_wp2_with fail
  refine (spec_Tokens.calls k d dt w5 HDT.out).mono ?_
  rintro e w6 ⟨vt, rfl, hRt, hbt⟩
  obtain ⟨Ad, cd, rfl, hlt, hCt⟩ := Kd.R_reads hRt
  have HCD := Aside0.mk hRt
  have HS8 : Aside0 (Same w5 w6) := ⟨fr_of_below hbt⟩
  clear hlt hCt hRt hbt
  go_wp2_with fail
  have HB6 : Aside0 (Blk (w6.alloc (.cells #[.string src, .string d, .slice At st.length ct, .slice Ad dt.length cd, .slice none 0 0, .slice none 0 0, .slice none 0 0, .slice none 0 0] 34)) w6.heap.size 34 [.string src, .string d, .slice At st.length ct, .slice Ad dt.length cd, .slice none 0 0, .slice none 0 0, .slice none 0 0, .slice none 0 0]) := ⟨Blk.new _ _ _⟩
  have HS9 : Aside0 (Same w6 (w6.alloc (.cells #[.string src, .string d, .slice At st.length ct, .slice Ad dt.length cd, .slice none 0 0, .slice none 0 0, .slice none 0 0, .slice none 0 0] 34))) := ⟨(Fr.refl _ _).alloc _⟩
  generalize w6.alloc (.cells #[.string src, .string d, .slice At st.length ct, .slice Ad dt.length cd, .slice none 0 0, .slice none 0 0, .slice none 0 0, .slice none 0 0] 34) = w7 at HB6 HS9 ⊢
  have HS06 : Aside0 (Same w w6) := ⟨(HS6.out.trans HS7.out (fun _ _ h => h)).trans HS8.out (fun _ _ h => h)⟩
  have HCA6 : Aside0 (at_.length ≤ ca ∧ Kd.C (Kd.int .i64) w6 Aa at_.length at_) := ⟨HCA.out.1, Kd.C_below HCA.out.2 (below_of_fr (((HS3.out.trans HS5.out (fun _ _ h => h)).trans HS7.out (fun _ _ h => h)).trans HS8.out (fun _ _ h => h)))⟩
  have HS46 : Aside0 (Same w4 w6) := ⟨HS7.out.trans HS8.out (fun _ _ h => h)⟩
  have HW35 : Aside0 (g4 < w3.heap.size ∧ g4 < w5.heap.size) := ⟨by
    have h1 := (HS2.out.trans HS3.out (fun _ _ h => h))
    have h2 := ((h1.trans HS5.out (fun _ _ h => h)).trans HS7.out (fun _ _ h => h))
    have := HB4.out.lt
    have := h1.size
    have := h2.size
    omega⟩
  have HB46 : Aside0 (g4 < w6.heap.size) := ⟨by
    have h1 := (HS2.out.trans HS3.out (fun _ _ h => h)).trans HS5.out (fun _ _ h => h)
    have h2 := ((h1.trans HS7.out (fun _ _ h => h)).trans HS8.out (fun _ _ h => h)).size
    have := HB4.out.lt
    omega⟩
  have HB4' : Aside0 (Blk w6 g4 34 [.string ⟨#[]⟩, .string ⟨#[]⟩, .slice none 0 0, .slice none 0 0, .slice none 0 0, .slice none 0 0, .slice none 0 0, .slice none 0 0]) := ⟨HB4.out.fr ((((HS2.out.trans HS3.out (fun _ _ h => h)).trans HS5.out (fun _ _ h => h)).trans HS7.out (fun _ _ h => h)).trans HS8.out (fun _ _ h => h)) (fun h => h)⟩
  clear HB4 HS4 HS2 HS3 HS5 HS6 HS7 HS8 HCA
  generalize hg6 : w6.heap.size = g6 at HB6 HB46 ⊢
  have HG6 := Aside0.mk hg6
  have HG4 := Aside0.mk hg4
  clear hg6 hg4
  go_loopg [7] l1.length (fun kq v7 wr => ∃ (i : Nat) (r : Nat → Row), v7 = .int .i64 (i : Int) ∧ Aside0 (kq + i = l1.length ∧ i ≤ l1.length) ∧ Aside0 (PInv g6 wr g6 (.string src) (.string d) (.slice At st.length ct) (.slice Ad dt.length cd) i ((l1.take i).map (fun p => kindN p.f0)) ((l1.take i).map (placesN at_)) ((l1.take i).map (·.f3)) ((l1.take i).map wordN) r) ∧ Aside0 (Same w6 wr))
  case atStart =>
    exact ⟨0, fun i => nilRow (if i = 1 then 31 else if i = 3 then 9 else 3), rfl, ⟨by omega⟩, ⟨⟨zone_nil _ _ _, HB6.out, rfl, rfl, rfl, rfl, rfl, fun j l h => by simp at h, fun j _ => by
      show nilRow _ = _
      rw [if_neg (by omega), if_neg (by omega)], by simp⟩⟩, HS9⟩
  case round =>
    clear HB6 HS9
    obtain ⟨i, r, rfl, HI, HV, HS⟩ := hrel
    have i0 : (0 : Int) ≤ (i : Int) := by omega
    by_cases hlt : i < l1.length
    · have i1 : (i : Int) < (l1.length : Int) := by omega
      have i2 : decide ((i : Int) < (l1.length : Int)) = true := decide_eq_true i1
      have i5 : IntKind.i64.wrap ((i : Int) + 1) = ((i + 1 : Nat) : Int) := by rw [IntKind.wrap_i64]; have := HN.out; omega
      obtain ⟨p, ht⟩ : ∃ p, l1[i]? = some p := ⟨_, List.getElem?_eq_getElem hlt⟩
      have HTI := Aside0.mk ht
      have HPP := Aside0.mk (HP.out p (List.mem_of_getElem? ht))
      have HIK : Aside0 (i + 1 ≤ l1.length ∧ l1.length ≤ 10) := ⟨by have := HN.out; omega⟩
      obtain ⟨ad, A4, c4, rfl, t0, t1, t2, t3, t4, hl4, hc4⟩ := at_T42 (Kd.C_below HT.out (below_of_fr HS06.out)) (i : Int) (by omega) (by omega)
      have hrd : rd_T42 l1 (i : Int) = p := by
        unfold rd_T42
        rw [Int.toNat_natCast, List.getD_eq_getElem?_getD, ht]
        rfl
      rw [Int.toNat_natCast, hrd] at t0 t1 t2 t3 t4
      rw [hrd] at hl4 hc4
      have HC4 : Aside0 (p.f4.length ≤ c4 ∧ ReadG w6 A4 p.f4.length 1 (p.f4.map (.int .i64))) := ⟨hl4, rg_C _ _ hc4⟩
      have HCA7 : Aside0 (ReadG w6 Aa at_.length 1 (at_.map (.int .i64))) := ⟨rg_C _ _ HCA6.out.2⟩
      replace t0 := HS.out.cell t0
      replace t1 := HS.out.cell t1
      replace t2 := HS.out.cell t2
      replace t3 := HS.out.cell t3
      replace t4 := HS.out.cell t4
      clear ht hrd hl4 hc4
      go_upto_region 9 with (fail)
      have HM8 : Aside0 (MI w6 (wr.alloc (.cells #[.int .i64 p.f0, .string p.f1, .int .i64 p.f2, .int .i64 p.f3, .slice A4 p.f4.length c4] 42)) g6 (put r 4 ⟨3, .slice none 0 0, ([] : List Int).map (.int .i64)⟩) [.string src, .string d, .slice At st.length ct, .slice Ad dt.length cd, (r 0).v, (r 1).v, (r 2).v, (r 3).v] wr.heap.size [.int .i64 p.f0, .string p.f1, .int .i64 p.f2, .int .i64 p.f3, .slice A4 p.f4.length c4]) := ⟨by
        have e : put r 4 ⟨3, .slice none 0 0, ([] : List Int).map (.int .i64)⟩ = r := by
          funext a
          by_cases ha : a = 4
          · subst ha
            rw [put_same, HV.out.r4]
            rfl
          rw [put_other _ _ ha]
        rw [e]
        refine ⟨HV.out.zone.alloc _, HV.out.blk.alloc _, Blk.new _ _ _, by have := HV.out.blk.lt; omega, HS.out.alloc _, HG6.out, fun a => ?_⟩
        match a with
        | 0 => rw [HV.out.r0]; exact .inl rfl
        | 1 => rw [HV.out.r1]; exact .inr (.inl rfl)
        | 2 => rw [HV.out.r2]; exact .inl rfl
        | 3 => rw [HV.out.r3]; exact .inr (.inr rfl)
        | 4 => rw [HV.out.r4]; exact .inl rfl
        | a + 5 =>
          rw [Nat.add_comm]
          by_cases ha : a < i
          · have hl := HV.out.lp.1
            rw [HV.out.r5 a _ (List.getElem?_eq_getElem (by omega))]
            exact .inl rfl
          rw [HV.out.r6 a (by omega)]
          exact .inl rfl⟩
      generalize wr.alloc (.cells #[.int .i64 p.f0, .string p.f1, .int .i64 p.f2, .int .i64 p.f3, .slice A4 p.f4.length c4] 42) = w8 at HM8 ⊢
      generalize wr.heap.size = g8 at HM8 ⊢
      have hc0 := HM8.out.pb.cell 0 rfl
      have hc2 := HM8.out.pb.cell 2 rfl
      have hc4 := HM8.out.pb.cell 4 rfl
      clear t0 t1 t2 t3 t4 hlt i0 i1 i2
      go_upto_if 35 with (fail)
      go_cut [9, 11] from 33 to 103 (fun v9 v11 wc => Aside0 (MI w6 wc g6 (put r 4 ⟨3, v9, (placesN at_ p).map (.int .i64)⟩) [.string src, .string d, .slice At st.length ct, .slice Ad dt.length cd, (r 0).v, (r 1).v, (r 2).v, (r 3).v] g8 [.int .i64 p.f0, .string p.f1, .int .i64 p.f2, .int .i64 p.f3, .slice A4 p.f4.length c4]))
      case first =>
        by_cases z10 : p.f0 = 10
        · have y10 : (p.f0 == 10) = true := by simpa using z10
          have HPL : Aside0 (placesN at_ p = p.f4.map (fun a => at_.getD (a - 1).toNat 0)) := ⟨by unfold placesN; rw [if_pos z10]⟩
          have HPG := Aside0.mk (HPP.out.part z10)
          clear z10
          rw [y10]
          go_wp2_with fail
          go_loopg [9, 11] p.f4.length (fun kq v9 v11 wq => ∃ (j : Nat), v11 = .int .i64 (j : Int) ∧ Aside0 (kq + j = p.f4.length ∧ j ≤ p.f4.length) ∧ Aside0 (MI w6 wq g6 (put r 4 ⟨3, v9, ((p.f4.take j).map (fun a => at_.getD (a - 1).toNat 0)).map (.int .i64)⟩) [.string src, .string d, .slice At st.length ct, .slice Ad dt.length cd, (r 0).v, (r 1).v, (r 2).v, (r 3).v] g8 [.int .i64 p.f0, .string p.f1, .int .i64 p.f2, .int .i64 p.f3, .slice A4 p.f4.length c4]))
          case atStart => exact ⟨0, rfl, ⟨by omega⟩, HM8⟩
          case round =>
            clear HM8 hc0 hc2 hc4
            obtain ⟨j, rfl, HJ, HM⟩ := hrel
            have j0 : (0 : Int) ≤ (j : Int) := by omega
            have hc4 := HM.out.pb.cell 4 rfl
            by_cases hlt : j < p.f4.length
            · have j1 : (j : Int) < (p.f4.length : Int) := by omega
              have j2 : decide ((j : Int) < (p.f4.length : Int)) = true := decide_eq_true j1
              have j5 : IntKind.i64.wrap ((j : Int) + 1) = ((j + 1 : Nat) : Int) := by rw [IntKind.wrap_i64]; have := HPG.out.1; omega
              obtain ⟨a, ha⟩ : ∃ a, p.f4[j]? = some a := ⟨_, List.getElem?_eq_getElem hlt⟩
              have hab := HPG.out.2 a (List.mem_of_getElem? ha)
              obtain ⟨m, hm⟩ : ∃ m : Nat, a = (m : Int) + 1 := ⟨(a - 1).toNat, by omega⟩
              have m1 : (m : Int) < (at_.length : Int) := by omega
              have m0 : (0 : Int) ≤ (m : Int) := by omega
              have mw : IntKind.i64.wrap (a - 1) = (m : Int) := by rw [IntKind.wrap_i64]; have := HN.out; omega
              obtain ⟨x, hx⟩ : ∃ x, at_[m]? = some x := ⟨_, List.getElem?_eq_getElem (by omega)⟩
              have HTK : Aside0 ((p.f4.take (j + 1)).map (fun a => at_.getD (a - 1).toNat 0) = (p.f4.take j).map (fun a => at_.getD (a - 1).toNat 0) ++ [x]) := ⟨by
                rw [List.take_add_one, ha, List.map_append]
                congr 1
                simp only [Option.toList_some, List.map_cons, List.map_nil]
                rw [show (a - 1).toNat = m by omega, List.getD_eq_getElem?_getD, hx]
                rfl⟩
              obtain ⟨a4, rfl, hr4⟩ := (HC4.out.2.fr HM.out.same (fun _ _ h => h)).read (by simp; omega)
              obtain ⟨aa, rfl, hra⟩ := (HCA7.out.fr HM.out.same (fun _ _ h => h)).read (by simp; omega)
              have u4 := hr4 j (.int .i64 a) (by rw [List.getElem?_map, ha]; rfl)
              have ua := hra m (.int .i64 x) (by rw [List.getElem?_map, hx]; rfl)
              have HJ5 : Aside0 (j + 1 ≤ p.f4.length ∧ p.f4.length ≤ 5) := ⟨hlt, HPG.out.1⟩
              clear hr4 hra ha hab hm hx hlt
              go_wp2_with (first | (at_builtin; refine wpList_ownG HK31.out rfl _ _ rfl (v := u9) (xs := ((p.f4.take j).map (fun a => at_.getD (a - 1).toNat 0)).map (.int .i64)) (ys := [.int .i64 x]) rfl ((HM.out.row 4 (put_same _ _ _)).alloc _) (Nat.le_trans (Nat.le_of_eq HG6.out.symm) (Nat.le_trans HM.out.same.size (by simp))) rfl (read_newG (us := [.int .i64 x]) (by rfl) (by intro u hu; simp only [List.mem_cons, List.not_mem_nil, or_false] at hu; rcases hu with rfl; rfl)) (by have := HJ5.out; simp; omega) ?_; intro v' w9 ho hg hat; have HO9 := Aside0.mk (And.intro ho (And.intro hg hat)); clear ho hg hat) | fail)
              go_roundg (p.f4.length - (j + 1))
              case measure => have := HJ.out; have := HJ5.out; omega
              case rel => exact ⟨j + 1, rfl, ⟨by have := HJ5.out; omega⟩, ⟨by
                rw [HTK.out, List.map_append]
                exact HM.out.app4 _ HO9.out (by simp)⟩⟩
            have hje : j = p.f4.length := by have := HJ.out; omega
            subst hje
            have j2 : decide ((p.f4.length : Int) < (p.f4.length : Int)) = false := decide_eq_false (by omega)
            go_wp2_with fail
            go_meet
            case rel => exact ⟨by
              have := HM.out
              rw [List.take_length] at this
              rw [HPL.out]
              exact this⟩
        have y10 : (p.f0 == 10) = false := by simpa using z10
        by_cases z0 : p.f0 = 0
        · have y0 : (p.f0 != 0) = false := by simpa using z0
          have HPL : Aside0 (placesN at_ p = []) := ⟨by unfold placesN; rw [if_neg z10, if_neg (by rintro ⟨h, _⟩; exact h z0)]⟩
          clear z10 z0
          go_wp2_with fail
          go_meet
          case rel => exact ⟨by rw [HPL.out]; exact HM8.out⟩
        have y0 : (p.f0 != 0) = true := by simpa using z0
        by_cases z11 : p.f0 = 11
        · have y11 : (p.f0 != 11) = false := by simpa using z11
          have HPL : Aside0 (placesN at_ p = []) := ⟨by unfold placesN; rw [if_neg z10, if_neg (by rintro ⟨_, h⟩; exact h z11)]⟩
          clear z10 z0 z11
          go_wp2_with fail
          go_meet
          case rel => exact ⟨by rw [HPL.out]; exact HM8.out⟩
        have y11 : (p.f0 != 11) = true := by simpa using z11
        have hab := HPP.out.one z10 z0 z11
        obtain ⟨m, hm⟩ : ∃ m : Nat, p.f2 = (m : Int) + 1 := ⟨(p.f2 - 1).toNat, by omega⟩
        have m1 : (m : Int) < (at_.length : Int) := by omega
        have m0 : (0 : Int) ≤ (m : Int) := by omega
        have mw : IntKind.i64.wrap (p.f2 - 1) = (m : Int) := by rw [IntKind.wrap_i64]; have := HN.out; omega
        obtain ⟨x, hx⟩ : ∃ x, at_[m]? = some x := ⟨_, List.getElem?_eq_getElem (by omega)⟩
        have HPL : Aside0 (placesN at_ p = [x]) := ⟨by
          unfold placesN
          rw [if_neg z10, if_pos ⟨z0, z11⟩, show (p.f2 - 1).toNat = m by omega, List.getD_eq_getElem?_getD, hx]
          rfl⟩
        obtain ⟨aa, rfl, hra⟩ := (HCA7.out.fr HM8.out.same (fun _ _ h => h)).read (by simp; omega)
        have ua := hra m (.int .i64 x) (by rw [List.getElem?_map, hx]; rfl)
        clear hra hab hm hx z10 z0 z11
        go_wp2_with (first | (at_builtin; refine wpList_ownG HK31.out rfl _ _ rfl (v := .slice none 0 0) (n := 0) (xs := []) (ys := [.int .i64 x]) rfl ((HM8.out.row 4 (put_same _ _ _)).alloc _) (Nat.le_trans (Nat.le_of_eq HG6.out.symm) (Nat.le_trans HM8.out.same.size (by simp))) rfl (read_newG (us := [.int .i64 x]) (by rfl) (by intro u hu; simp only [List.mem_cons, List.not_mem_nil, or_false] at hu; rcases hu with rfl; rfl)) (by omega) ?_; intro v' w9 ho hg hat; have HO9 := Aside0.mk (And.intro ho (And.intro hg hat)); clear ho hg hat) | fail)
        go_meet
        case rel => exact ⟨by
          rw [HPL.out]
          exact HM8.out.app4 _ HO9.out (by simp)⟩
      case rest =>
        clear HM8 hc0 hc2 hc4
        have HM := hcut
        clear hcut
        have hc0 := HM.out.pb.cell 0 rfl
        have hc1 := HM.out.pb.cell 1 rfl
        go_upto_if 74 with (fail)
        go_cut [10] from 75 to 103 (fun v10 wx => v10 = .string (wordN p) ∧ wx = wc)
        case first =>
          by_cases z3 : p.f0 = 3
          · have y3 : (p.f0 == 3) = true := by simpa using z3
            have HW : Aside0 (wordN p = p.f1) := ⟨by unfold wordN; rw [if_pos z3]⟩
            clear z3
            go_wp2_with fail
            go_meet
            case rel => exact ⟨by rw [HW.out], rfl⟩
          have y3 : (p.f0 == 3) = false := by simpa using z3
          have HW : Aside0 (wordN p = ⟨#[]⟩) := ⟨by unfold wordN; rw [if_neg z3]⟩
          clear z3
          go_wp2_with fail
          go_meet
          case rel => exact ⟨by rw [HW.out], rfl⟩
        case rest =>
          obtain ⟨rfl, rfl⟩ := hcut
          obtain ⟨Ap, cp, hvp, -, -⟩ := read_own (w := wc) (W := wc) (HM.out.row 4 (put_same _ _ _)) (fun u hu => by
            obtain ⟨z, _, rfl⟩ := List.mem_map.1 hu
            rfl)
          rw [List.length_map] at hvp
          subst hvp
          have HLP : Aside0 (((l1.take i).map (placesN at_)).length = i ∧ ((l1.take i).map (fun p => kindN p.f0)).length = i ∧ ((l1.take i).map (·.f3)).length = i ∧ ((l1.take i).map wordN).length = i) := ⟨HV.out.lp⟩
          clear hc0 hc1
          go_upto_region 18 with (fail)
          go_cut [] from 76 to 103 (fun wx => ∃ (A0' : Option Addr) (c0' : Nat), Aside0 (MI w6 wx g6 (put (put r 4 ⟨3, .slice Ap (placesN at_ p).length cp, (placesN at_ p).map (Value.int .i64)⟩) 0 ⟨3, .slice A0' (i + 1) c0', ((l1.take i).map (fun p => kindN p.f0)).map (Value.int .i64) ++ [Value.int .i64 (kindN p.f0)]⟩) [.string src, .string d, .slice At st.length ct, .slice Ad dt.length cd, .slice A0' (i + 1) c0', (r 1).v, (r 2).v, (r 3).v] g8 [.int .i64 p.f0, .string p.f1, .int .i64 p.f2, .int .i64 p.f3, .slice A4 p.f4.length c4]))
          case first =>
            have HR0 : Aside0 ((put r 4 ⟨3, .slice Ap (placesN at_ p).length cp, (placesN at_ p).map (Value.int .i64)⟩) 0 = ⟨3, (r 0).v, ((l1.take i).map (fun p => kindN p.f0)).map (Value.int .i64)⟩) := ⟨by
              rw [put_other _ _ (by decide)]
              exact HV.out.r0⟩
            have HM0 : Aside0 (MI w6 wc.drew g6 (put r 4 ⟨3, .slice Ap (placesN at_ p).length cp, (placesN at_ p).map (Value.int .i64)⟩) [.string src, .string d, .slice At st.length ct, .slice Ad dt.length cd, (r 0).v, (r 1).v, (r 2).v, (r 3).v] g8 [.int .i64 p.f0, .string p.f1, .int .i64 p.f2, .int .i64 p.f3, .slice A4 p.f4.length c4]) := ⟨HM.out.drew⟩
            have HO0 : Aside0 ((wc.drew.alloc (.cells #[.int .i64 (kindN p.f0)] 3)).ownsRow g6 3 1 (r 0).v i (((l1.take i).map (fun p => kindN p.f0)).map (Value.int .i64)) ∧ g6 ≤ (wc.drew.alloc (.cells #[.int .i64 (kindN p.f0)] 3)).heap.size ∧ i + 1 ≤ 1000000) := ⟨by
              have h1 := HM0.out.row 0 HR0.out
              rw [show (((l1.take i).map (fun p => kindN p.f0)).map (Value.int .i64)).length = i by rw [List.length_map]; exact HLP.out.2.1] at h1
              exact ⟨h1.alloc _, Nat.le_trans (Nat.le_of_eq HG6.out.symm) (Nat.le_trans HM0.out.same.size (by simp)), by have := HIK.out; omega⟩⟩
            have HN0 : Aside0 (∀ u ∈ (((l1.take i).map (fun p => kindN p.f0)).map (Value.int .i64)) ++ [Value.int .i64 (kindN p.f0)], u.oneCell' = true) := ⟨by
              intro u hu
              rcases List.mem_append.1 hu with hu | hu
              · obtain ⟨z, _, rfl⟩ := List.mem_map.1 hu
                rfl
              rw [List.mem_singleton.1 hu]; rfl⟩
            have HRN : Aside0 (ReadG (wc.drew.alloc (.cells #[.int .i64 (kindN p.f0)] 3)) (some ⟨wc.heap.size, 0, none⟩) 1 1 [Value.int .i64 (kindN p.f0)]) := ⟨read_newG (W := wc.drew) (us := [Value.int .i64 (kindN p.f0)]) (by rfl) (by intro u hu; rw [List.mem_singleton.1 hu]; rfl)⟩
            have hq1 : wc.cell? ⟨g6, 4, none⟩ = some (r 0).v := HM.out.blk.cell 4 rfl
            have hq2 : (wc.alloc (.cells #[.int .i64 (kindN p.f0)] 3)).cell? ⟨g6, 4, none⟩ = some (r 0).v := (HM.out.alloc _).blk.cell 4 rfl
            have hq3 : (wc.alloc (.cells #[.int .i64 (kindN p.f0)] 3)).drew.cell? ⟨g6, 4, none⟩ = some (r 0).v := (HM.out.alloc _).drew.blk.cell 4 rfl
            have hq4 : (wc.drew.alloc (.cells #[.int .i64 (kindN p.f0)] 3)).cell? ⟨g6, 4, none⟩ = some (r 0).v := (HM.out.drew.alloc _).blk.cell 4 rfl
            have hp1 : wc.cell? ⟨g8, 0, none⟩ = some (.int .i64 p.f0) := HM.out.pb.cell 0 rfl
            have hp2 : wc.drew.cell? ⟨g8, 0, none⟩ = some (.int .i64 p.f0) := HM.out.drew.pb.cell 0 rfl
            go_region_law (first | (refine step_ownG HK31.out rfl (.tmp 78) (.tmp 82) rfl (v := (r 0).v) (n := i) (xs := ((l1.take i).map (fun p : S42 => kindN p.f0)).map (Value.int .i64)) (ys := [Value.int .i64 (kindN p.f0)]) (by rfl) HO0.out.1 HO0.out.2.1 (by rfl) HRN.out HO0.out.2.2 ?_; intro v' w9 ho hg hat; obtain ⟨A0', c0', hv', -, -⟩ := read_own (w := w9) (W := w9) ho HN0.out; subst hv'; have HX := Aside0.mk (HM0.out.app2 0 HR0.out _ ⟨ho, hg, hat⟩ (by have := HIK.out; simp <;> omega)); have q1 := HX.out.blk.cell 4 rfl; have q2 := HX.out.blk.free 4; clear ho hg hat) | (go_simp; go_at_call 31; refine (kind_calls p.f0 _).mono ?_; rintro e w' ⟨rfl, rfl⟩))
            all_goals (
              have HMX := Aside0.mk (HX.out.set 4 (by simp) (.slice A0' (i + 1) c0'))
              clear HX q1 q2 hq1 hq2 hq3 hq4 hp1 hp2
              go_wp2
              go_meet
              case rel => exact ⟨A0', c0', HMX⟩)
          case rest =>
            clear HM
            obtain ⟨A0', c0', HM1⟩ := hcut
            have HR1 : Aside0 ((put (put r 4 ⟨3, .slice Ap (placesN at_ p).length cp, (placesN at_ p).map (Value.int .i64)⟩) 0 ⟨3, .slice A0' (i + 1) c0', ((l1.take i).map (fun p => kindN p.f0)).map (Value.int .i64) ++ [Value.int .i64 (kindN p.f0)]⟩) 1 = ⟨31, (r 1).v, (List.range i).map (fun j => (r (5 + j)).v)⟩) := ⟨by
              rw [put_other _ _ (by decide), put_other _ _ (by decide)]
              exact HV.out.r1⟩
            have HO1 : Aside0 (wc.ownsRow g6 31 1 (r 1).v i ((List.range i).map (fun j => (r (5 + j)).v))) := ⟨by
              have h1 := HM1.out.row 1 HR1.out
              rw [show ((List.range i).map (fun j => (r (5 + j)).v)).length = i by simp] at h1
              exact h1⟩
            have HN1 : Aside0 (∀ u ∈ ((List.range i).map (fun j => (r (5 + j)).v)) ++ [Value.slice Ap (placesN at_ p).length cp], u.oneCell' = true) := ⟨by
              intro u hu
              rcases List.mem_append.1 hu with hu | hu
              · obtain ⟨j, hj, rfl⟩ := List.mem_map.1 hu
                have hj2 := List.mem_range.1 hj
                have hl := HV.out.lp.1
                have hz := HV.out.zone.own (5 + j)
                rw [HV.out.r5 j _ (List.getElem?_eq_getElem (by omega))] at hz
                obtain ⟨A', c', e', -, -⟩ := read_own (w := wr) (W := wr) hz (fun u hu => by
                  obtain ⟨z, _, rfl⟩ := List.mem_map.1 hu
                  rfl)
                rw [show (r (5 + j)).v = _ from e']
                rfl
              rw [List.mem_singleton.1 hu]; rfl⟩
            have hb1 := HM1.out.blk.cell 5 rfl
            go_upto_region 20 with (first | (at_builtin; refine wpList_ownG HK32.out rfl _ _ rfl (v := (r 1).v) (n := i) (xs := (List.range i).map (fun j => (r (5 + j)).v)) (ys := [Value.slice Ap (placesN at_ p).length cp]) rfl (HO1.out.alloc _) (Nat.le_trans (Nat.le_of_eq HG6.out.symm) (Nat.le_trans HM1.out.same.size (by simp))) rfl (read_newG (us := [Value.slice Ap (placesN at_ p).length cp]) (by rfl) (by intro u hu; simp only [List.mem_cons, List.not_mem_nil, or_false] at hu; rcases hu with rfl; rfl)) (by have := HIK.out; omega) ?_; intro v' w9 ho hg hat; obtain ⟨A1', c1', hv', -, -⟩ := read_own (w := w9) (W := w9) ho HN1.out; subst hv'; have HX := Aside0.mk (HM1.out.app2 1 HR1.out _ ⟨ho, hg, hat⟩ (by have := HIK.out; simp <;> omega)); have hq := HX.out.blk.cell 5 rfl; have hf := HX.out.blk.free 5; clear ho hg hat) | fail)
            have HM2 : Aside0 (MI w6 (w9.setCell ⟨g6, 5, none⟩ (.slice A1' (i + 1) c1')) g6 (put (put (put r 4 ⟨3, .slice Ap (placesN at_ p).length cp, (placesN at_ p).map (Value.int .i64)⟩) 0 ⟨3, .slice A0' (i + 1) c0', ((l1.take i).map (fun p => kindN p.f0)).map (Value.int .i64) ++ [Value.int .i64 (kindN p.f0)]⟩) 1 ⟨31, .slice A1' (i + 1) c1', (List.range i).map (fun j => (r (5 + j)).v) ++ [Value.slice Ap (placesN at_ p).length cp]⟩) [.string src, .string d, .slice At st.length ct, .slice Ad dt.length cd, .slice A0' (i + 1) c0', .slice A1' (i + 1) c1', (r 2).v, (r 3).v] g8 [Value.int .i64 p.f0, .string p.f1, .int .i64 p.f2, .int .i64 p.f3, .slice A4 p.f4.length c4]) := ⟨HX.out.set 5 (by simp) _⟩
            generalize w9.setCell ⟨g6, 5, none⟩ (.slice A1' (i + 1) c1') = wd1 at HM2 ⊢
            clear HX hq hf hb1 HO1 HN1 HM1
            have HR2 : Aside0 ((put (put (put r 4 ⟨3, .slice Ap (placesN at_ p).length cp, (placesN at_ p).map (Value.int .i64)⟩) 0 ⟨3, .slice A0' (i + 1) c0', ((l1.take i).map (fun p => kindN p.f0)).map (Value.int .i64) ++ [Value.int .i64 (kindN p.f0)]⟩) 1 ⟨31, .slice A1' (i + 1) c1', (List.range i).map (fun j => (r (5 + j)).v) ++ [Value.slice Ap (placesN at_ p).length cp]⟩) 2 = ⟨3, (r 2).v, ((l1.take i).map (·.f3)).map (Value.int .i64)⟩) := ⟨by
              rw [put_other _ _ (by decide), put_other _ _ (by decide), put_other _ _ (by decide)]
              exact HV.out.r2⟩
            have HO2 : Aside0 (wd1.ownsRow g6 3 1 (r 2).v i (((l1.take i).map (·.f3)).map (Value.int .i64))) := ⟨by
              have h1 := HM2.out.row 2 HR2.out
              rw [show (((l1.take i).map (·.f3)).map (Value.int .i64)).length = i by rw [List.length_map]; exact HLP.out.2.2.1] at h1
              exact h1⟩
            have HN2 : Aside0 (∀ u ∈ (((l1.take i).map (·.f3)).map (Value.int .i64)) ++ [Value.int .i64 p.f3], u.oneCell' = true) := ⟨by
              intro u hu
              rcases List.mem_append.1 hu with hu | hu
              · obtain ⟨z, _, rfl⟩ := List.mem_map.1 hu
                rfl
              rw [List.mem_singleton.1 hu]; rfl⟩
            have hb2 := HM2.out.blk.cell 6 rfl
            have hc3 := HM2.out.pb.cell 3 rfl
            go_upto_region 21 with (first | (at_builtin; refine wpList_ownG HK31.out rfl _ _ rfl (v := (r 2).v) (n := i) (xs := ((l1.take i).map (·.f3)).map (Value.int .i64)) (ys := [Value.int .i64 p.f3]) rfl (HO2.out.alloc _) (Nat.le_trans (Nat.le_of_eq HG6.out.symm) (Nat.le_trans HM2.out.same.size (by simp))) rfl (read_newG (us := [Value.int .i64 p.f3]) (by rfl) (by intro u hu; simp only [List.mem_cons, List.not_mem_nil, or_false] at hu; rcases hu with rfl; rfl)) (by have := HIK.out; omega) ?_; intro v' w9 ho hg hat; obtain ⟨A2', c2', hv', -, -⟩ := read_own (w := w9) (W := w9) ho HN2.out; subst hv'; have HX := Aside0.mk (HM2.out.app2 2 HR2.out _ ⟨ho, hg, hat⟩ (by have := HIK.out; simp <;> omega)); have hq := HX.out.blk.cell 6 rfl; have hf := HX.out.blk.free 6; clear ho hg hat) | fail)
            have HM3 : Aside0 (MI w6 (w9.setCell ⟨g6, 6, none⟩ (.slice A2' (i + 1) c2')) g6 (put (put (put (put r 4 ⟨3, .slice Ap (placesN at_ p).length cp, (placesN at_ p).map (Value.int .i64)⟩) 0 ⟨3, .slice A0' (i + 1) c0', ((l1.take i).map (fun p => kindN p.f0)).map (Value.int .i64) ++ [Value.int .i64 (kindN p.f0)]⟩) 1 ⟨31, .slice A1' (i + 1) c1', (List.range i).map (fun j => (r (5 + j)).v) ++ [Value.slice Ap (placesN at_ p).length cp]⟩) 2 ⟨3, .slice A2' (i + 1) c2', ((l1.take i).map (·.f3)).map (Value.int .i64) ++ [Value.int .i64 p.f3]⟩) [.string src, .string d, .slice At st.length ct, .slice Ad dt.length cd, .slice A0' (i + 1) c0', .slice A1' (i + 1) c1', .slice A2' (i + 1) c2', (r 3).v] g8 [Value.int .i64 p.f0, .string p.f1, .int .i64 p.f2, .int .i64 p.f3, .slice A4 p.f4.length c4]) := ⟨HX.out.set 6 (by simp) _⟩
            generalize w9.setCell ⟨g6, 6, none⟩ (.slice A2' (i + 1) c2') = wd2 at HM3 ⊢
            clear HX hq hf hb2 HO2 HN2 HM2
            have HR3 : Aside0 ((put (put (put (put r 4 ⟨3, .slice Ap (placesN at_ p).length cp, (placesN at_ p).map (Value.int .i64)⟩) 0 ⟨3, .slice A0' (i + 1) c0', ((l1.take i).map (fun p => kindN p.f0)).map (Value.int .i64) ++ [Value.int .i64 (kindN p.f0)]⟩) 1 ⟨31, .slice A1' (i + 1) c1', (List.range i).map (fun j => (r (5 + j)).v) ++ [Value.slice Ap (placesN at_ p).length cp]⟩) 2 ⟨3, .slice A2' (i + 1) c2', ((l1.take i).map (·.f3)).map (Value.int .i64) ++ [Value.int .i64 p.f3]⟩) 3 = ⟨9, (r 3).v, ((l1.take i).map wordN).map Value.string⟩) := ⟨by
              rw [put_other _ _ (by decide), put_other _ _ (by decide), put_other _ _ (by decide), put_other _ _ (by decide)]
              exact HV.out.r3⟩
            have HO3 : Aside0 (wd2.ownsRow g6 9 1 (r 3).v i (((l1.take i).map wordN).map Value.string)) := ⟨by
              have h1 := HM3.out.row 3 HR3.out
              rw [show (((l1.take i).map wordN).map Value.string).length = i by rw [List.length_map]; exact HLP.out.2.2.2] at h1
              exact h1⟩
            have HN3 : Aside0 (∀ u ∈ (((l1.take i).map wordN).map Value.string) ++ [Value.string (wordN p)], u.oneCell' = true) := ⟨by
              intro u hu
              rcases List.mem_append.1 hu with hu | hu
              · obtain ⟨z, _, rfl⟩ := List.mem_map.1 hu
                rfl
              rw [List.mem_singleton.1 hu]; rfl⟩
            have hb3 := HM3.out.blk.cell 7 rfl
            go_wp2_with (first | (at_builtin; refine wpList_ownG HK30.out rfl _ _ rfl (v := (r 3).v) (n := i) (xs := ((l1.take i).map wordN).map Value.string) (ys := [Value.string (wordN p)]) rfl (HO3.out.alloc _) (Nat.le_trans (Nat.le_of_eq HG6.out.symm) (Nat.le_trans HM3.out.same.size (by simp))) rfl (read_newG (us := [Value.string (wordN p)]) (by rfl) (by intro u hu; simp only [List.mem_cons, List.not_mem_nil, or_false] at hu; rcases hu with rfl; rfl)) (by have := HIK.out; omega) ?_; intro v' w9 ho hg hat; obtain ⟨A3', c3', hv', -, -⟩ := read_own (w := w9) (W := w9) ho HN3.out; subst hv'; have HX := Aside0.mk (HM3.out.app2 3 HR3.out _ ⟨ho, hg, hat⟩ (by have := HIK.out; simp <;> omega)); have hq := HX.out.blk.cell 7 rfl; have hf := HX.out.blk.free 7; clear ho hg hat) | fail)
            have HM4 : Aside0 (MI w6 (w9.setCell ⟨g6, 7, none⟩ (.slice A3' (i + 1) c3')) g6 (put (put (put (put (put r 4 ⟨3, .slice Ap (placesN at_ p).length cp, (placesN at_ p).map (Value.int .i64)⟩) 0 ⟨3, .slice A0' (i + 1) c0', ((l1.take i).map (fun p => kindN p.f0)).map (Value.int .i64) ++ [Value.int .i64 (kindN p.f0)]⟩) 1 ⟨31, .slice A1' (i + 1) c1', (List.range i).map (fun j => (r (5 + j)).v) ++ [Value.slice Ap (placesN at_ p).length cp]⟩) 2 ⟨3, .slice A2' (i + 1) c2', ((l1.take i).map (·.f3)).map (Value.int .i64) ++ [Value.int .i64 p.f3]⟩) 3 ⟨9, .slice A3' (i + 1) c3', ((l1.take i).map wordN).map Value.string ++ [Value.string (wordN p)]⟩) [.string src, .string d, .slice At st.length ct, .slice Ad dt.length cd, .slice A0' (i + 1) c0', .slice A1' (i + 1) c1', .slice A2' (i + 1) c2', .slice A3' (i + 1) c3'] g8 [Value.int .i64 p.f0, .string p.f1, .int .i64 p.f2, .int .i64 p.f3, .slice A4 p.f4.length c4]) := ⟨HX.out.set 7 (by simp) _⟩
            generalize w9.setCell ⟨g6, 7, none⟩ (.slice A3' (i + 1) c3') = wd3 at HM4 ⊢
            clear HX hq hf hb3 HO3 HN3 HM3
            go_roundg (l1.length - (i + 1))
            case measure => have := HI.out; have := HIK.out; omega
            case rel =>
              obtain ⟨r', hr'⟩ := HV.out.next HM4.out
              exact ⟨i + 1, r', rfl, ⟨by have := HIK.out; omega⟩, ⟨by
                rw [List.take_add_one, HTI.out]
                simp only [Option.toList_some, List.map_append, List.map_cons, List.map_nil]
                exact hr'⟩, ⟨HM4.out.same⟩⟩
    have hie : i = l1.length := by have := HI.out; omega
    subst hie
    have i2 : decide ((l1.length : Int) < (l1.length : Int)) = false := decide_eq_false (by omega)
    rw [List.take_length] at HV
    have hbk := HV.out.blk
    obtain ⟨A4, c4, A5, c5, A6, c6, A7, c7, ⟨e4, e5, e6, e7⟩, C4, C5, C6, C7⟩ := HV.out.plan (by have := HN.out; omega) (fun l hl => by
      obtain ⟨p, hp, rfl⟩ := List.mem_map.1 hl
      exact places_len (HP.out p hp))
    rw [e4, e5, e6, e7] at hbk
    have hb0 := hbk.cell 0 rfl
    have hb1 := hbk.cell 1 rfl
    have hb2 := hbk.cell 2 rfl
    have hb3 := hbk.cell 3 rfl
    have hb4 := hbk.cell 4 rfl
    have hb5 := hbk.cell 5 rfl
    have hb6 := hbk.cell 6 rfl
    have hb7 := hbk.cell 7 rfl
    have HB4 : Aside0 (Blk wr g4 34 [.string ⟨#[]⟩, .string ⟨#[]⟩, .slice none 0 0, .slice none 0 0, .slice none 0 0, .slice none 0 0, .slice none 0 0, .slice none 0 0]) := ⟨HB4'.out.fr HS.out (fun h => h)⟩
    have hf0 := HB4.out.free 0
    have hf1 := HB4.out.free 1
    have hf2 := HB4.out.free 2
    have hf3 := HB4.out.free 3
    have hf4 := HB4.out.free 4
    have hf5 := HB4.out.free 5
    have hf6 := HB4.out.free 6
    have hf7 := HB4.out.free 7
    have hq0 := HB4.out.cell 0 rfl
    have hq1 := HB4.out.cell 1 rfl
    have hq2 := HB4.out.cell 2 rfl
    have hq3 := HB4.out.cell 3 rfl
    have hq4 := HB4.out.cell 4 rfl
    have hq5 := HB4.out.cell 5 rfl
    have hq6 := HB4.out.cell 6 rfl
    have hq7 := HB4.out.cell 7 rfl
    have HCE := Aside0.mk (And.intro e4 (And.intro e5 (And.intro e6 e7)))
    clear hbk e4 e5 e6 e7 C4 C5 C6 C7
    go_wp2_with fail
    have HB8 := (((((((HB4.out.set 0 (by simp) (.string src)).set 1 (by simp) (.string d)).set 2 (by simp) (.slice At st.length ct)).set 3 (by simp) (.slice Ad dt.length cd)).set 4 (by simp) (.slice A4 l1.length c4)).set 5 (by simp) (.slice A5 l1.length c5)).set 6 (by simp) (.slice A6 l1.length c6)).set 7 (by simp) (.slice A7 l1.length c7)
    have HF8 : Fr (fun k => k = g4) wr ((((((((wr.setCell ⟨g4, 0, none⟩ (.string src)).setCell ⟨g4, 1, none⟩ (.string d)).setCell ⟨g4, 2, none⟩ (.slice At st.length ct)).setCell ⟨g4, 3, none⟩ (.slice Ad dt.length cd)).setCell ⟨g4, 4, none⟩ (.slice A4 l1.length c4)).setCell ⟨g4, 5, none⟩ (.slice A5 l1.length c5)).setCell ⟨g4, 6, none⟩ (.slice A6 l1.length c6)).setCell ⟨g4, 7, none⟩ (.slice A7 l1.length c7)) :=
      ((((((((Fr.refl (fun k => k = g4) wr).set (.inl rfl) _).set (.inl rfl) _).set (.inl rfl) _).set (.inl rfl) _).set (.inl rfl) _).set (.inl rfl) _).set (.inl rfl) _).set (.inl rfl) _
    generalize ((((((((wr.setCell ⟨g4, 0, none⟩ (.string src)).setCell ⟨g4, 1, none⟩ (.string d)).setCell ⟨g4, 2, none⟩ (.slice At st.length ct)).setCell ⟨g4, 3, none⟩ (.slice Ad dt.length cd)).setCell ⟨g4, 4, none⟩ (.slice A4 l1.length c4)).setCell ⟨g4, 5, none⟩ (.slice A5 l1.length c5)).setCell ⟨g4, 6, none⟩ (.slice A6 l1.length c6)).setCell ⟨g4, 7, none⟩ (.slice A7 l1.length c7)) = wz at HB8 HF8 ⊢
    have hr0 := HB8.cell 0 rfl
    have hr1 := HB8.cell 1 rfl
    have hr2 := HB8.cell 2 rfl
    have hr3 := HB8.cell 3 rfl
    have hr4 := HB8.cell 4 rfl
    have hr5 := HB8.cell 5 rfl
    have hr6 := HB8.cell 6 rfl
    have hr7 := HB8.cell 7 rfl
    have HP : PlanPost w (planOf src d at_ st dt l1) (.returned (.agg #[.string src, .string d, .slice At st.length ct, .slice Ad dt.length cd, .slice A4 l1.length c4, .slice A5 l1.length c5, .slice A6 l1.length c6, .slice A7 l1.length c7])) wz := by
      have hv := HV.out.to HF8 (fun k hk e => by have := HB46.out; omega) (Nat.le_refl _)
      obtain ⟨e4, e5, e6, e7⟩ := HCE.out
      obtain ⟨C4, C5, C6, C7⟩ := hv.plan2 (by have := HN.out; omega) (fun l hl => by
        obtain ⟨p, hp, rfl⟩ := List.mem_map.1 hl
        exact places_len (HP.out p hp)) e4 e5 e6 e7
      have hfr : Fr (fun k => k = g4) w6 wz := (HS.out.mono (fun _ h => h.elim)).trans HF8 (fun _ _ h => h)
      have q2 := Kd.R_reads' (R_fr HCT.out ((HS46.out.mono (fun _ h => h.elim)).trans hfr (fun _ _ h => h)) HW35.out.1)
      have q3 := Kd.R_reads' (R_fr HCD.out hfr HW35.out.2)
      refine ⟨⟨_, rfl, At, ct, Ad, cd, A4, c4, A5, c5, A6, c6, A7, c7, ?_, ⟨q2.2.1, q2.2.2⟩, ⟨q3.2.1, q3.2.2⟩, C4, C5, C6, C7⟩, ?_⟩
      · simp only [planOf, List.length_map]
      exact HS06.out.trans hfr (fun k hk e => by have := HG4.out; omega)
    refine bodyPost_ret (v := .agg #[.string src, .string d, .slice At st.length ct, .slice Ad dt.length cd, .slice A4 l1.length c4, .slice A5 l1.length c5, .slice A6 l1.length c6, .slice A7 l1.length c7]) ?_ rfl HP
    simp only [results]
    go_simp
end
end Go.Proofs.YtoopmpjgmgffoaaDoor.Tr
