/- A row of one's own that begins as a local array; Count under the reader's lock. -/
import Derived.Test.YtimffhpnfdikoaaDoorLsJ
import Derived.ArgAppend
namespace Go.Proofs.YtimffhpnfdikoaaDoor.Ls
open Go.RowKit Go.Maps Go.Proofs.YtimffhpnfdikoaaDoor.Bs Go.Proofs.YtimffhpnfdikoaaDoorW.PrintWords Go.Proofs.YtimffhpnfdikoaaDoorW.PrintLast Go.Proofs.YtimffhpnfdikoaaDoorW.PrintMore
set_option linter.unusedVariables false
set_option linter.unusedSimpArgs false
/-- n elements of 'size' cells at the begin of a block made since 'base', whose type is one of 'S'. -/
def AG (S : TypeId → Prop) (w : World) (base size : Nat) (v : Value) (n : Nat) (xs : List Value) : Prop :=
  ∃ g cap cur T, v = .slice (some ⟨g, 0, none⟩) n cap ∧ S T ∧ base ≤ g ∧ w.heap[g]? = some (.cells cur T (0, 0)) ∧ xs.length = n * size ∧ n ≤ cap ∧ cap * size ≤ cur.size ∧ cap ≤ maxLen ∧ cur.toList.take (n * size) = xs
section
variable {S : TypeId → Prop}
theorem AG.made {w : World} {g base size : Nat} {cur : Array Value} {T : TypeId} {n : Nat} (h : w.heap[g]? = some (.cells cur T (0, 0))) (hS : S T) (hb : base ≤ g) (hn : n * size ≤ cur.size) (hm : n ≤ maxLen) : AG S w base size (.slice (some ⟨g, 0, none⟩) 0 n) 0 [] :=
  ⟨g, n, cur, T, rfl, hS, hb, h, by simp, Nat.zero_le _, hn, hm, by simp⟩
theorem AG.fr {F : Nat → Prop} {w w1 : World} {base size : Nat} {v : Value} {n : Nat} {xs : List Value} (h : AG S w base size v n xs) (hf : Fr F w w1) (hn : ∀ k, v.ownBlock = some k → ¬ F k) : AG S w1 base size v n xs := by
  obtain ⟨g, cap, cur, T, rfl, hS, hb, hg, r⟩ := h
  exact ⟨g, cap, cur, T, rfl, hS, hb, (hf.block g (Array.getElem?_eq_some_iff.1 hg).1 (hn g rfl)).trans hg, r⟩
theorem AG.alloc {w : World} {base size : Nat} {v : Value} {n : Nat} {xs : List Value} (h : AG S w base size v n xs) (o : Obj) : AG S (w.alloc o) base size v n xs := h.fr ((Fr.refl (F := fun _ => False) w).alloc o) (fun _ _ h => h)
theorem AG.low {w : World} {base base' size : Nat} {v : Value} {n : Nat} {xs : List Value} (h : AG S w base size v n xs) (hb : base' ≤ base) : AG S w base' size v n xs := by
  obtain ⟨g, cap, cur, T, rfl, hS, h1, r⟩ := h
  exact ⟨g, cap, cur, T, rfl, hS, by omega, r⟩
theorem AG.block {w : World} {base size : Nat} {v : Value} {n : Nat} {xs : List Value} (h : AG S w base size v n xs) : ∃ g cap cur T, v = .slice (some ⟨g, 0, none⟩) n cap ∧ n ≤ cap ∧ cap ≤ maxLen ∧ base ≤ g ∧ S T ∧ w.heap[g]? = some (.cells cur T (0, 0)) := by
  obtain ⟨g, cap, cur, T, rfl, hS, hb, hg, h0, h1, h2, h3, h4⟩ := h
  exact ⟨g, cap, cur, T, rfl, h1, h3, hb, hS, hg⟩
theorem AG.cell {w : World} {base size : Nat} {g n cap : Nat} {xs : List Value} (h : AG S w base size (.slice (some ⟨g, 0, none⟩) n cap) n xs) {j : Nat} (hj : j < xs.length) : w.cell? ⟨g, j, none⟩ = xs[j]? := by
  obtain ⟨g', cap', cur, T, e, hS, hb, hg, h0, h1, h2, h3, h4⟩ := h
  injection e with e1 e2 e3
  injection e1 with e1
  injection e1 with e1 e4
  subst e1
  rw [cell_of_row w g _ cur T (0, 0) hg]
  conv => rhs; rw [← h4]
  rw [List.getElem?_take_of_lt (by omega), Array.getElem?_toList]
theorem AG.of_own {w : World} {base e size n : Nat} {v : Value} {xs : List Value} (h : w.ownsRow base e size v n xs) (hS : S e) (hn : 0 < n) : AG S w base size v n xs := by
  obtain ⟨h1, h2⟩ := h
  rcases h2 with ⟨_, h0⟩ | ⟨g, cap, cur, rfl, hb, hg, hnc, hcm, hcs, htake⟩
  · omega
  · exact ⟨g, cap, cur, e, rfl, hS, hb, hg, h1, hnc, by omega, hcm, htake⟩
/-- What an append leaves. -/
structure AGPost (S : TypeId → Prop) (W : World) (base size : Nat) (v : Value) (n : Nat) (xs : List Value) (v' : Value) (w' : World) : Prop where
  row : AG S w' base size v' n xs
  fr : Fr (fun k => v.ownBlock = some k) W w'
section
variable {P : Program} {ops : Array Oper} {Q : Exit → Act → World → Prop} {rest : List Oper} {o : Oper} {a : Act}
set_option maxRecDepth 100000 in
theorem AG.run_append {W : World} {base : Nat} {t e : TypeId} {i0 : TypeInfo} {z : Value} {size bytes : Nat} (K : ElemK P t e i0 z size bytes) (hS : S e) (ty : TypeId) {v : Value} {n m : Nat} {xs ys : List Value} (h : AG S W base size v n xs) (hbW : base ≤ W.heap.size) {ad : Addr} {c : Nat} (hr : ReadG W (some ad) m size ys) (hm : 0 < m) (hsz : n + m ≤ 1000000) :
    ∃ v' w', (Builtin.append_ #[t, t] ty #[v, .slice (some ad) m c]).run P W = .ok v' w' ∧ AGPost S W base size v (n + m) (xs ++ ys) v' w' := by
  obtain ⟨g, cap, cur, T, rfl, hT, hb, hg, h0, h1, h2, h3, h4⟩ := h
  have hglt : g < W.heap.size := (Array.getElem?_eq_some_iff.1 hg).1
  have hyl := hr.len
  have hnews : ∀ j u, ys[j]? = some u → W.cell? (ad.add j) = some u := fun j u hu => by
    obtain ⟨ad', e, hc⟩ := hr.read (by have := (List.getElem?_eq_some_iff.1 hu).1; omega)
    injection e with e
    subst e
    exact hc j u hu
  have hp := K.pos
  by_cases hroom : n + m ≤ cap
  · have hmul : (n + m) * size ≤ cap * size := Nat.mul_le_mul_right _ hroom
    rw [Nat.add_mul] at hmul
    have hrun := run_append_room_cells (P := P) W t ty e i0 K.under K.info g 0 n cap ad m c ys (by rw [K.sz]; exact hyl) hnews hr.one hroom
      (fun j hj => by rw [K.sz, cell_of_row W g _ cur T (0, 0) hg, Array.getElem?_eq_getElem (by omega)]; rfl) (fun j _ => blk_frozen hg _)
    rw [K.sz, Nat.zero_add] at hrun
    obtain ⟨cur', c1, c2, c3⟩ := setCells_row ys (n * size) W cur hg (by omega)
    obtain ⟨s1, s2, s3, s4⟩ := setCells_same g ys (n * size) W
    refine ⟨_, _, hrun, ⟨⟨g, cap, cur', T, rfl, hT, hb, c1, by rw [List.length_append, h0, hyl, Nat.add_mul], hroom, by omega, h3, ?_⟩, ⟨s1, s2, s3, by rw [s4]; exact Nat.le_refl _, fun k hk hne => setCells_far _ _ k (fun e => hne (by rw [e]; rfl))⟩⟩⟩
    rw [c3]
    have hl1 : (List.take (n * size) cur.toList).length = n * size := by rw [h4, h0]
    rw [Nat.add_mul, List.take_append_of_le_length (by rw [List.length_append, hl1, hyl]; exact Nat.le_refl _), h4]
    exact List.take_of_length_le (by rw [List.length_append, h0, hyl]; exact Nat.le_refl _)
  · obtain ⟨v', w', hrun, hown, hgr⟩ := run_append_arg_grows (P := P) W t ty e i0 z size bytes K.under K.info K.zero K.sz K.by_ K.zs K.pos ⟨g, 0, none⟩ n cap xs h0
      (fun j u hu => by
        have hj : j < xs.length := (List.getElem?_eq_some_iff.1 hu).1
        rw [add_plain, cell_of_row W g _ cur T (0, 0) hg, ← hu]
        conv => rhs; rw [← h4]
        rw [List.getElem?_take_of_lt (by omega), Array.getElem?_toList])
      ad m c ys hyl hnews (by omega) (by unfold maxLen; omega) (by
        have := Nat.mul_le_mul hsz K.small
        omega)
    exact ⟨v', w', hrun, ⟨(AG.of_own hown hS (by omega)).low hbW, ⟨hgr.os, hgr.tape, hgr.output, hgr.size, fun k hk _ => hgr.block k hk (by simp)⟩⟩⟩
theorem AG.append {W : World} {base : Nat} {t e : TypeId} {i0 : TypeInfo} {z : Value} {size bytes : Nat} (K : ElemK P t e i0 z size bytes) (hw : Region.wanted o (yielded ops a.tmps) = true) (s x : Operand) (ho : o.op = .call { callee := .builtin .append, args := #[s, x], argTypes := #[t, t] }) (hS : S e)
    {v : Value} {n m : Nat} {xs ys : List Value} (hs : a.eval s = v) (h : AG S W base size v n xs) (hbW : base ≤ W.heap.size) {ad : Addr} {c : Nat} (hx : a.eval x = .slice (some ad) m c) (hr : ReadG W (some ad) m size ys) (hm : 0 < m) (hsz : n + m ≤ 1000000)
    (hK : ∀ v' w', AGPost S W base size v (n + m) (xs ++ ys) v' w' → wpList P ops Q rest (a.put o.dst v') w') : wpList P ops Q (o :: rest) a W := by
  refine wpList_step fun KK hK' => ?_
  rw [if_pos hw]
  obtain ⟨v', w', hrun, hp⟩ := AG.run_append (c := c) K hS o.type h hbW hr hm hsz
  unfold Oper.wp execOp
  simp only [ho, resolve, invoke, builtin, Sem.run_bind, Sem.run_pure, Result.andThen_ok, List.map_toArray, List.map_cons, List.map_nil, hs, hx, hrun]
  exact hK' _ _ (hK v' w' hp)
end
end
/-! ### Count -/
def CountPost (w : World) (B L K : Nat) (sub : Path → Int → Option ByteArray) (ex : Prop) (cnt : Int) (e : Ending) (w' : World) : Prop := e = .returned (.int .u32 cnt) ∧ Fr (WF B w) w w' ∧ Li w' B L K sub ex cnt
set_option maxHeartbeats 4000000 in
set_option maxRecDepth 100000 in
theorem count_calls {w : World} {B L K : Nat} {sub : Path → Int → Option ByteArray} {ex : Prop} {cnt : Int} (h : Li w B L K sub ex cnt) : Calls Tryd.prog 34 #[.pointer (some ⟨L, 0, none⟩)] w (CountPost w B L K sub ex cnt) := by
  obtain ⟨nd, lv, hX⟩ := h
  obtain ⟨xr, hxr, hh⟩ := hX.head
  have HX := Aside0.mk hX
  have HR := Aside0.mk hxr
  have HH := Aside0.mk hh
  clear hX hxr hh
  go_enter_defers Tryd.func34, Tryd.ntmps34
  go_wp2_with fail
  refine (rlock_L HH.out).mono ?_
  rintro e w1 ⟨rfl, hb1, hf1⟩
  have c7 := hb1.cell 7 rfl
  have HB1 := Aside0.mk hb1
  have HF1 := Aside0.mk hf1
  clear hb1 hf1
  go_wp2_with fail
  refine leaves_cons (f := 52) (args := #[.pointer (some ⟨L, 0, none⟩)]) (by simp) (by simp [go_sem]) ?_
  refine (runlock_D HB1.out .returning).mono ?_
  rintro e u' w2 ⟨rfl, rfl, hb2, hf2⟩
  refine ⟨_, results_tmp rfl _ _ _, rfl, HX.out.frL (HF1.out.trans hf2 (fun _ _ h => h)), nd, lv, HX.out.turn (fun x hx => ?_) (HF1.out.trans hf2 (fun _ _ h => h))⟩
  rw [HR.out] at hx
  injection hx with hx
  subst hx
  exact hb2
end Go.Proofs.YtimffhpnfdikoaaDoor.Ls
