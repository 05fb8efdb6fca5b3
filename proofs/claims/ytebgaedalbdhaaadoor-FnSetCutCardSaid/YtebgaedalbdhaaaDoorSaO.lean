/- Rows of a kind of elements, with appends; rows of deeds. -/
import Derived.Test.YtebgaedalbdhaaaDoorSaE
import Derived.Test.YtebgaedalbdhaaaDoorSaF
namespace Go.Proofs.YtebgaedalbdhaaaDoor.Av
open Go.RowKit Go.Proofs.YtebgaedalbdhaaaDoorW.PrintWords Go.Proofs.YtebgaedalbdhaaaDoorW.PrintLast Go.Proofs.YtebgaedalbdhaaaDoorW.PrintMore
set_option linter.unusedVariables false
set_option linter.unusedSimpArgs false

/-- A kind of elements. -/
structure ElemK (P : Program) (t e : TypeId) (i : TypeInfo) (z : Value) (size bytes : Nat) : Prop where
  under : P.underlying t = some (.slice e)
  info : P.info? e = some i
  zero : i.zero = some z
  sz : i.size = size
  by_ : i.bytes = bytes
  zs : z.cells.size = size
  pos : 0 < size
  small : bytes ≤ 64
/-- A row of its own, made since w2. -/
structure RowG (w2 W : World) (e : TypeId) (size : Nat) (v : Value) (n : Nat) (xs : List Value) : Prop where
  own : W.ownsRow w2.heap.size e size v n xs
  fr : Fr (fun _ => False) w2 W
/-- Cells that are read. -/
structure ReadG (W : World) (X : Option Addr) (m size : Nat) (xs : List Value) : Prop where
  len : xs.length = m * size
  one : ∀ u ∈ xs, u.oneCell' = true
  read : 0 < xs.length → ∃ ad, X = some ad ∧ ∀ (j : Nat) u, xs[j]? = some u → W.cell? (ad.add j) = some u
theorem ReadG.fr {F : Nat → Prop} {W w1 : World} {X : Option Addr} {m size : Nat} {xs : List Value} (h : ReadG W X m size xs) (hf : Fr F W w1) (hn : ∀ ad, X = some ad → ¬ F ad.block) : ReadG w1 X m size xs :=
  ⟨h.len, h.one, fun h0 => by
    obtain ⟨ad, rfl, hc⟩ := h.read h0
    refine ⟨ad, rfl, fun j u hu => ?_⟩
    have c1 := hc j u hu
    have hlt := World.block_lt_of_cell? W _ c1
    rw [add_block] at hlt
    exact (World.cell?_of_block (by rw [add_block]; exact hf.block ad.block hlt (hn ad rfl))).trans c1⟩
theorem RowG.alloc {w2 W : World} {e : TypeId} {size : Nat} {v : Value} {n : Nat} {xs : List Value} (h : RowG w2 W e size v n xs) (o : Obj) : RowG w2 (W.alloc o) e size v n xs := ⟨h.own.alloc o, h.fr.alloc o⟩
theorem RowG.fr0 {w2 W W' : World} {e : TypeId} {size : Nat} {v : Value} {n : Nat} {xs : List Value} (h : RowG w2 W e size v n xs) (hf : Fr (fun _ => False) W W') : RowG w2 W' e size v n xs := ⟨ownsRow_fr h.own hf (fun _ _ h => h), h.fr.trans hf (fun _ _ h => h)⟩
section
variable {P : Program} {W : World} {t e : TypeId} {i0 : TypeInfo} {z : Value} {size bytes : Nat}
set_option maxRecDepth 100000 in
theorem run_rowG (K : ElemK P t e i0 z size bytes) {w2 : World} {v : Value} {n m : Nat} {xs ys : List Value} (ty : TypeId) (h1 : RowG w2 W e size v n xs) {X : Option Addr} {c : Nat} (hr : Fr (fun _ => False) w2 W → ReadG W X m size ys) (hsz : n + m ≤ 1000000) :
    ∃ v' W', (Builtin.append_ #[t, t] ty #[v, .slice X m c]).run P W = .ok v' W' ∧ RowG w2 W' e size v' (n + m) (xs ++ ys) ∧ W.grownBy W' v.ownBlock ∧ (v'.ownBlock = v.ownBlock ∨ v'.ownBlock = some W.heap.size) := by
  have hrd := hr h1.fr
  cases X with
  | none =>
    have hm : m = 0 := by
      rcases Nat.eq_zero_or_pos m with h | h
      · exact h
      · obtain ⟨ad, h', -⟩ := hrd.read (by rw [hrd.len]; exact Nat.mul_pos h K.pos)
        cases h'
    subst hm
    have hys : ys = [] := List.length_eq_zero_iff.1 (by rw [hrd.len]; omega)
    subst hys
    refine ⟨v, W, run_append_empty _ _ ty e i0 K.under K.info h1.own, by rw [List.append_nil]; exact h1, ⟨rfl, rfl, rfl, Nat.le_refl _, fun _ _ _ => rfl⟩, .inl rfl⟩
  | some ad =>
    obtain ⟨v', W', hrun, ho, hg, -, hat⟩ := run_append_own_at (P := P) W w2.heap.size t ty e i0 z size bytes K.under K.info K.zero K.sz K.by_ K.zs K.pos v n _ h1.own ad m c ys hrd.len
      (fun j u hu => by
        obtain ⟨ad', e, hc⟩ := hrd.read (by have := (List.getElem?_eq_some_iff.1 hu).1; omega)
        injection e with e
        subst e
        exact hc j u hu)
      hrd.one (by unfold maxLen; omega) (by
        have := Nat.mul_le_mul hsz K.small
        omega) h1.fr.size
    refine ⟨v', W', hrun, ⟨ho, h1.fr.trans (Fr.grown hg) (fun k hk e => ?_)⟩, hg, hat⟩
    have := (h1.own.lt k e).1
    omega
theorem step_rowG (K : ElemK P t e i0 z size bytes) {ops : Array Oper} {o : Oper} {a : Act} {KK : Act → World → Prop} {Q : Exit → Act → World → Prop} {E : Prop} (hgd : o.guard = none) (s x : Operand)
    (ho : o.op = .call { callee := .builtin .append, args := #[s, x], argTypes := #[t, t] }) {w2 : World} {v : Value} {n m : Nat} {xs ys : List Value} (hs : a.eval s = v) (h1 : RowG w2 W e size v n xs) {X : Option Addr} {c : Nat} (hx : a.eval x = .slice X m c) (hr : Fr (fun _ => False) w2 W → ReadG W X m size ys)
    (hsz : n + m ≤ 1000000) (h : ∀ v' W', RowG w2 W' e size v' (n + m) (xs ++ ys) → W.grownBy W' v.ownBlock → (v'.ownBlock = v.ownBlock ∨ v'.ownBlock = some W.heap.size) → KK (a.put o.dst v') W') :
    if Region.wanted o (yielded ops a.tmps) = true then Oper.wp P o a W KK Q else E := by
  have hw : Region.wanted o (yielded ops a.tmps) = true := by simp [Region.wanted, hgd]
  rw [if_pos hw]
  obtain ⟨v', W', hrun, k1, k2, k3⟩ := run_rowG (c := c) K o.type h1 hr hsz
  unfold Oper.wp execOp
  simp only [ho, resolve, invoke, builtin, Sem.run_bind, Sem.run_pure, Result.andThen_ok, List.map_toArray, List.map_cons, List.map_nil, hs, hx, hrun]
  exact h v' W' k1 k2 k3
theorem wpList_rowG (K : ElemK P t e i0 z size bytes) {ops : Array Oper} {rest : List Oper} {o : Oper} {a : Act} {Q : Exit → Act → World → Prop} (hw : Region.wanted o (yielded ops a.tmps) = true) (s x : Operand)
    (ho : o.op = .call { callee := .builtin .append, args := #[s, x], argTypes := #[t, t] }) {w2 : World} {v : Value} {n m : Nat} {xs ys : List Value} (hs : a.eval s = v) (h1 : RowG w2 W e size v n xs) {X : Option Addr} {c : Nat} (hx : a.eval x = .slice X m c) (hr : Fr (fun _ => False) w2 W → ReadG W X m size ys)
    (hsz : n + m ≤ 1000000) (h : ∀ v' W', RowG w2 W' e size v' (n + m) (xs ++ ys) → W.grownBy W' v.ownBlock → (v'.ownBlock = v.ownBlock ∨ v'.ownBlock = some W.heap.size) → wpList P ops Q rest (a.put o.dst v') W') :
    wpList P ops Q (o :: rest) a W := by
  refine wpList_step fun KK hK => ?_
  rw [if_pos hw]
  obtain ⟨v', W', hrun, k1, k2, k3⟩ := run_rowG (c := c) K o.type h1 hr hsz
  unfold Oper.wp execOp
  simp only [ho, resolve, invoke, builtin, Sem.run_bind, Sem.run_pure, Result.andThen_ok, List.map_toArray, List.map_cons, List.map_nil, hs, hx, hrun]
  exact hK _ _ (h v' W' k1 k2 k3)
end
theorem elem_of {P : Program} {t e : TypeId} {z : Value} {size bytes : Nat} (hu : P.underlying t = some (.slice e)) (hi : (P.info? e).map (fun i => (i.zero, i.size, i.bytes)) = some (some z, size, bytes)) (hz : z.cells.size = size) (hp : 0 < size) (hs : bytes ≤ 64) : ∃ i, ElemK P t e i z size bytes := by
  obtain ⟨i, hi, hzz⟩ := Option.map_eq_some_iff.1 hi
  simp only [Prod.mk.injEq] at hzz
  exact ⟨i, hu, hi, hzz.1, hzz.2.1, hzz.2.2, hz, hp, hs⟩
theorem read_own {w W : World} {base : Nat} {e : TypeId} {size : Nat} {v : Value} {n : Nat} {xs : List Value} (h : w.ownsRow base e size v n xs) (hone : ∀ u ∈ xs, u.oneCell' = true) : ∃ A c, v = .slice A n c ∧ n ≤ c ∧ ReadG w A n size xs := by
  have hl := h.1
  rcases h.2 with ⟨rfl, h0⟩ | ⟨g, cap, cur, rfl, hb, hg, h1, h2, h3, h4⟩
  · subst h0
    exact ⟨none, 0, rfl, Nat.le_refl _, ⟨hl, hone, fun h => by rw [hl] at h; omega⟩⟩
  · exact ⟨some ⟨g, 0, none⟩, cap, rfl, h1, ⟨hl, hone, fun h0 => ⟨_, rfl, fun j u hu => h.cells rfl j u hu⟩⟩⟩
theorem ReadG.take {W : World} {X : Option Addr} {n size : Nat} {xs : List Value} (h : ReadG W X n size xs) (k : Nat) (hk : k ≤ n) : ReadG W X k size (xs.take (k * size)) :=
  ⟨by rw [List.length_take, h.len]; exact Nat.min_eq_left (Nat.mul_le_mul_right _ hk), fun u hu => h.one u (List.mem_of_mem_take hu), fun h0 => by
    obtain ⟨ad, rfl, hc⟩ := h.read (by rw [List.length_take] at h0; omega)
    exact ⟨ad, rfl, fun j u hu => hc j u (by
      rw [List.getElem?_take] at hu
      split at hu
      · exact hu
      · cases hu)⟩⟩
theorem ReadG.drop {W : World} {X : Option Addr} {n size c : Nat} {xs : List Value} (h : ReadG W X n size xs) (k : Nat) (hk : k ≤ n) (hc : n ≤ c) : ReadG W (if c = k then X else Option.map (fun x => x.add (k * size)) X) (n - k) size (xs.drop (k * size)) :=
  ⟨by rw [List.length_drop, h.len, Nat.sub_mul], fun u hu => h.one u (List.mem_of_mem_drop hu), fun h0 => by
    rw [List.length_drop, h.len, ← Nat.sub_mul] at h0
    have hlt : k < n := by
      rcases Nat.lt_or_ge k n with h | h
      · exact h
      · rw [Nat.sub_eq_zero_of_le h, Nat.zero_mul] at h0
        omega
    have hs : 0 < size := by
      rcases Nat.eq_zero_or_pos size with h | h
      · rw [h] at h0; simp at h0
      · exact h
    obtain ⟨ad, rfl, hcc⟩ := h.read (by rw [h.len]; exact Nat.mul_pos (by omega) hs)
    rw [if_neg (by omega)]
    refine ⟨ad.add (k * size), rfl, fun i x hi => ?_⟩
    rw [List.getElem?_drop] at hi
    rw [add_add']
    exact hcc _ _ hi⟩
theorem row_emptyG {w2 W : World} {h : Nat} {e : TypeId} {size : Nat} (hf : Fr (fun _ => False) w2 W) (hb : W.heap[h]? = some (.cells #[] e (0, 0))) (hh : w2.heap.size ≤ h) : RowG w2 W e size (.slice (some ⟨h, 0, none⟩) 0 0) 0 [] :=
  ⟨⟨by simp, .inr ⟨h, 0, #[], rfl, hh, hb, Nat.le_refl _, Nat.zero_le _, by simp, by simp⟩⟩, hf⟩
theorem row_g1 {w2 : World} {e : TypeId} {size : Nat} : RowG w2 (w2.alloc (.cells #[] e)).drew e size (.slice (some ⟨w2.heap.size, 0, none⟩) 0 0) 0 [] :=
  row_emptyG ((Fr.refl _ w2).alloc _).drew (heap_alloc_new w2 _) (Nat.le_refl _)
theorem row_g0 {w2 W : World} {e : TypeId} {size : Nat} (hf : Fr (fun _ => False) w2 W) : RowG w2 (W.alloc (.cells #[] e)) e size (.slice (some ⟨W.heap.size, 0, none⟩) 0 0) 0 [] :=
  row_emptyG (hf.alloc _) (heap_alloc_new W _) hf.size
theorem read_newG {W : World} {e : TypeId} {m size : Nat} {us : List Value} (hl : us.length = m * size) (hone : ∀ u ∈ us, u.oneCell' = true) : ReadG (W.alloc (.cells us.toArray e)) (some ⟨W.heap.size, 0, none⟩) m size us :=
  ⟨hl, hone, fun h0 => ⟨_, rfl, fun j u hu => by
    have e : (⟨W.heap.size, 0, none⟩ : Addr).add j = ⟨W.heap.size, j, none⟩ := by
      unfold Addr.add
      split
      · subst_vars; rfl
      · simp
    rw [e, cell_at (cur := us) (heap_alloc_new W _)]
    exact hu⟩⟩

/-! ### rows of deeds -/
def actC (es : List Deed) : List Value := es.flatMap (fun a => [.int .i64 a.1, .int .u64 a.2])
theorem actC_append (es bs : List Deed) : actC (es ++ bs) = actC es ++ actC bs := by simp [actC]
theorem actC_cons (a : Deed) (es : List Deed) : actC (a :: es) = .int .i64 a.1 :: .int .u64 a.2 :: actC es := rfl
theorem actC_len : ∀ es : List Deed, (actC es).length = es.length * 2
  | [] => rfl
  | a :: es => by rw [actC_cons, List.length_cons, List.length_cons, actC_len es, List.length_cons]; omega
theorem actC_take : ∀ (k : Nat) (es : List Deed), (actC es).take (k * 2) = actC (es.take k)
  | 0, es => by simp [actC]
  | k + 1, [] => by simp [actC]
  | k + 1, a :: es => by rw [List.take_succ_cons, actC_cons, actC_cons, show (k + 1) * 2 = k * 2 + 1 + 1 by omega, List.take_succ_cons, List.take_succ_cons, actC_take k es]
theorem actC_drop : ∀ (k : Nat) (es : List Deed), (actC es).drop (k * 2) = actC (es.drop k)
  | 0, es => by simp
  | k + 1, [] => by simp [actC]
  | k + 1, a :: es => by rw [List.drop_succ_cons, actC_cons, show (k + 1) * 2 = k * 2 + 1 + 1 by omega, List.drop_succ_cons, List.drop_succ_cons, actC_drop k es]
theorem actC_one (es : List Deed) : ∀ u ∈ actC es, u.oneCell' = true := by
  intro u hu
  obtain ⟨a, ha, hu⟩ := List.mem_flatMap.1 hu
  simp only [List.mem_cons, List.not_mem_nil, or_false] at hu
  rcases hu with rfl | rfl <;> rfl
theorem actC_get : ∀ {es : List Deed} {i : Nat} {a : Deed}, es[i]? = some a → (actC es)[i * 2]? = some (.int .i64 a.1) ∧ (actC es)[i * 2 + 1]? = some (.int .u64 a.2)
  | [], i, a, h => by cases h
  | b :: es, 0, a, h => by
    injection h with h
    subst h
    exact ⟨rfl, rfl⟩
  | b :: es, i + 1, a, h => by
    have := actC_get (es := es) (i := i) (a := a) (by simpa using h)
    rw [actC_cons, show (i + 1) * 2 = i * 2 + 1 + 1 by omega]
    exact ⟨this.1, this.2⟩
theorem ReadG.acts {W : World} {X : Option Addr} {m : Nat} {es : List Deed} (h : ReadG W X m 2 (actC es)) : ActsR W X es := fun h0 => by
  obtain ⟨ad, rfl, hc⟩ := h.read (by rw [actC_len]; omega)
  exact ⟨ad, rfl, fun i a hi => ⟨hc _ _ (actC_get hi).1, hc _ _ (actC_get hi).2⟩⟩
theorem info37 : (Tryd.prog.info? 37).map (fun i => (i.zero, i.size, i.bytes)) = some (some (.agg #[.int .i64 0, .int .u64 0]), 2, 16) := by kernel_rfl
theorem elem37 : ∃ i, ElemK Tryd.prog 22 37 i (.agg #[.int .i64 0, .int .u64 0]) 2 16 := elem_of (by kernel_rfl) info37 (by kernel_rfl) (by omega) (by omega)
theorem build37a (y : Int) (w : World) : (Instr.build 37 #[(1, .int .u64 y)]).run Tryd.prog w = .ok (.agg #[.int .i64 0, .int .u64 y]) w := by kernel_rfl
theorem build37b (y : Int) (w : World) : (Instr.build 37 #[(0, .int .i64 1), (1, .int .u64 y)]).run Tryd.prog w = .ok (.agg #[.int .i64 1, .int .u64 y]) w := by kernel_rfl

/-! ### what puts alone make -/
def puts (es : List Deed) : List Deed := es.map (fun a => (0, a.2))
theorem mem_puts {x : Int} : ∀ (es : List Deed) (L : List Int), (∀ a ∈ es, a.1 = 0) → (x ∈ plays L es ↔ x ∈ L ∨ ∃ a ∈ es, a.2 = x)
  | [], L, _ => ⟨.inl, fun h => by
    rcases h with h | ⟨a, ha, _⟩
    · exact h
    · cases ha⟩
  | a :: es, L, h => by
    show x ∈ plays (stepL L a) es ↔ _
    rw [mem_puts es _ (fun b hb => h b (List.mem_cons_of_mem _ hb))]
    unfold stepL
    rw [if_pos (h a List.mem_cons_self), mem_insS]
    constructor
    · rintro ((h | h) | ⟨b, hb, e⟩)
      · exact .inr ⟨a, List.mem_cons_self, h.symm⟩
      · exact .inl h
      · exact .inr ⟨b, List.mem_cons_of_mem _ hb, e⟩
    · rintro (h | ⟨b, hb, e⟩)
      · exact .inl (.inr h)
      · rcases List.mem_cons.1 hb with rfl | hb
        · exact .inl (.inl e.symm)
        · exact .inr ⟨b, hb, e⟩
theorem puts_zero {es : List Deed} : ∀ a ∈ puts es, a.1 = 0 := fun a ha => by
  obtain ⟨b, _, rfl⟩ := List.mem_map.1 ha
  rfl
theorem plays_turn (es : List Deed) (k : Nat) (h : ∀ a ∈ es, a.1 = 0) : plays [] (es.drop k ++ es.take k) = plays [] es := by
  refine sorted_ext (plays_sorted _ _ .nil) (plays_sorted _ _ .nil) (fun q => ?_)
  have hm : ∀ a, a ∈ es.drop k ++ es.take k ↔ a ∈ es := fun a => by
    rw [List.mem_append, or_comm, ← List.mem_append, List.take_append_drop]
  rw [mem_puts _ _ (fun a ha => h a ((hm a).1 ha)), mem_puts _ _ h]
  constructor
  · rintro (h | ⟨a, ha, e⟩)
    · exact .inl h
    · exact .inr ⟨a, (hm a).1 ha, e⟩
  · rintro (h | ⟨a, ha, e⟩)
    · exact .inl h
    · exact .inr ⟨a, (hm a).2 ha, e⟩
theorem plays_back (es : List Deed) (n : Int) (h : n ∉ plays [] es) : plays [] (es ++ [(0, n), (1, n)]) = plays [] es := by
  rw [plays_append]
  show delS n (insS n (plays [] es)) = _
  refine sorted_ext (sorted_delS (sorted_insS (plays_sorted _ _ .nil))) (plays_sorted _ _ .nil) (fun q => ?_)
  unfold delS
  rw [List.mem_filter, mem_insS]
  constructor
  · rintro ⟨h1 | h1, h2⟩
    · rw [h1] at h2; simp at h2
    · exact h1
  · intro hq
    exact ⟨.inr hq, by
      have : q ≠ n := fun e => h (e ▸ hq)
      simpa using this⟩
theorem plays_more (es : List Deed) (n : Int) (h : n ∉ plays [] es) : plays [] es ≠ plays [] (es ++ [(0, n)]) := by
  rw [plays_append]
  show _ ≠ insS n (plays [] es)
  intro e
  apply h
  rw [e, mem_insS]
  exact .inl rfl
end Go.Proofs.YtebgaedalbdhaaaDoor.Av
