/- The base of walks by hand: blocks, frames, rows of elements, appends. -/
import Derived.Test.YtjhmpcbpbdkddaaGreatWMore
import Derived.StillTailTactics
import Derived.Deep.MidRow
import Derived.LoopTactic
import Derived.Deep.AppendLies
import Derived.Maps.AppendAt
import Derived.Deep.OwnRows
import Derived.Deep.QuietTactic
import Derived.BigQuiet
import Derived.Deep.RegionHeld3
import Derived.OwnWalk
import Derived.RegionTactic
namespace Go.Proofs.YtjhmpcbpbdkddaaGreat.Bs
open Go.RowKit Go.Proofs.YtjhmpcbpbdkddaaGreatW.PrintWords Go.Proofs.YtjhmpcbpbdkddaaGreatW.PrintLast Go.Proofs.YtjhmpcbpbdkddaaGreatW.PrintMore
set_option linter.unusedVariables false
set_option linter.unusedSimpArgs false

/-! ### blocks -/
theorem cell_at {w : World} {g o : Nat} {cur : List Value} {T : TypeId} (hb : w.heap[g]? = some (.cells cur.toArray T (0, 0))) : w.cell? ⟨g, o, none⟩ = cur[o]? := by
  rw [cell_of_row w g _ _ T (0, 0) hb]
  simp
theorem store_at {w : World} {g o : Nat} {cur : List Value} {T : TypeId} (hb : w.heap[g]? = some (.cells cur.toArray T (0, 0))) (ho : o < cur.length) (u : Value) : (w.setCell ⟨g, o, none⟩ u).heap[g]? = some (.cells (cur.set o u).toArray T (0, 0)) := by
  obtain ⟨cur', c1, c2, c3⟩ := setCells_row [u] o w cur.toArray hb (by simp; omega)
  have hw : w.setCells g o [u] = w.setCell ⟨g, o, none⟩ u := rfl
  rw [hw] at c1
  have he : cur' = (cur.set o u).toArray := by
    apply Array.toList_inj.1
    rw [c3]
    simp
    rw [List.set_eq_take_append_cons_drop, if_pos ho]
  rw [he] at c1
  exact c1
theorem setCell_size (w : World) (p : Addr) (v : Value) : (w.setCell p v).heap.size = w.heap.size := by simp [World.setCell]
theorem add_block (a : Addr) (k : Nat) : (a.add k).block = a.block := by unfold Addr.add; split <;> rfl
theorem add_add' (a : Addr) (i j : Nat) : (a.add i).add j = a.add (i + j) := by
  unfold Addr.add
  (repeat' split) <;> simp_all [Nat.add_assoc]
theorem add_at (g j : Nat) : (⟨g, 0, none⟩ : Addr).add j = ⟨g, j, none⟩ := by
  unfold Addr.add
  split
  · subst_vars; rfl
  · simp
/-- A region of reads that ends in one write. -/
theorem region_tail {P : Program} {id : Nat} {Q : Exit → Act → World → Prop} {a : Act} {w : World} {l : List Oper} (n : Nat) (hm : P.follows .mixedOrders = true) (hB : Region.lexTailB .any l.toArray n = true)
    (h : ∀ wd, Aside0 (wd = w.drew) → wpStill P l.toArray wd (fun a' => wpList P l.toArray Q (l.drop n) a' wd) (l.take n) a) : (Code.region id l.toArray true).wp P Q a w :=
  wp_region_still_tail n hm hB (h _ ⟨rfl⟩)


/-! ### frames -/
/-- All but what F names is as it was. -/
structure Fr (F : Nat → Prop) (w w' : World) : Prop where
  os : w'.os = w.os
  tape : w'.tape = w.tape
  output : w'.output = w.output
  size : w.heap.size ≤ w'.heap.size
  block : ∀ k, k < w.heap.size → ¬ F k → w'.heap[k]? = w.heap[k]?
section
variable {F G : Nat → Prop} {w w1 w2 : World}
theorem Fr.refl (F : Nat → Prop) (w : World) : Fr F w w := ⟨rfl, rfl, rfl, Nat.le_refl _, fun _ _ _ => rfl⟩
theorem Fr.mono (h : Fr F w w1) (hg : ∀ k, F k → G k) : Fr G w w1 := ⟨h.os, h.tape, h.output, h.size, fun k hk hn => h.block k hk (fun hf => hn (hg k hf))⟩
theorem Fr.trans (h : Fr F w w1) (h2 : Fr G w1 w2) (hg : ∀ k, k < w.heap.size → G k → F k) : Fr F w w2 :=
  ⟨h2.os.trans h.os, h2.tape.trans h.tape, h2.output.trans h.output, Nat.le_trans h.size h2.size, fun k hk hn => (h2.block k (Nat.lt_of_lt_of_le hk h.size) (fun hf => hn (hg k hk hf))).trans (h.block k hk hn)⟩
theorem Fr.set (h : Fr F w w1) {p : Addr} (hp : F p.block ∨ w.heap.size ≤ p.block) (u : Value) : Fr F w (w1.setCell p u) :=
  ⟨h.os, h.tape, h.output, by simpa [World.setCell] using h.size, fun k hk hn => (Below.heap_setCell w1 p u k (by
    rintro rfl
    rcases hp with hp | hp
    · exact hn hp
    · omega)).trans (h.block k hk hn)⟩
theorem Fr.alloc (h : Fr F w w1) (o : Obj) : Fr F w (w1.alloc o) :=
  ⟨h.os, h.tape, h.output, Nat.le_trans h.size (by simp), fun k hk hn => (Below.heap_alloc w1 o k (Nat.lt_of_lt_of_le hk h.size)).trans (h.block k hk hn)⟩
theorem Fr.drew (h : Fr F w w1) : Fr F w w1.drew := ⟨h.os, h.tape, h.output, h.size, h.block⟩
theorem Fr.drewN (h : Fr F w w1) (n : Nat) : Fr F w (w1.drewN n) := ⟨h.os, h.tape, h.output, h.size, h.block⟩
end
theorem fr_of_below {w w' : World} (h : Below w.heap.size w w') : Fr (fun _ => False) w w' := ⟨h.os, h.tape, h.output, h.size, fun k hk _ => h.block k hk⟩
theorem below_of_fr {w w' : World} (h : Fr (fun _ => False) w w') : Below w.heap.size w w' := ⟨h.os, h.tape, h.output, h.size, fun k hk => h.block k hk (fun h => h)⟩
abbrev Same (w w' : World) : Prop := Fr (fun _ => False) w w'
theorem Same.cell {w w' : World} (h : Same w w') {p : Addr} {v : Value} (hc : w.cell? p = some v) : w'.cell? p = some v := (World.cell?_of_block (h.block _ (World.block_lt_of_cell? w _ hc) (fun h => h))).trans hc
theorem Same.then {F : Nat → Prop} {w w1 w2 : World} (h : Same w w1) (h2 : Fr F w1 w2) (hF : ∀ k, k < w.heap.size → ¬ F k) : Same w w2 := h.trans h2 (fun k hk hf => hF k hk hf)
/-- A block of known cells. -/
structure Blk (w : World) (b : Nat) (T : TypeId) (cs : List Value) : Prop where
  blk : w.heap[b]? = some (.cells cs.toArray T (0, 0))
section
variable {w w1 : World} {b : Nat} {T : TypeId} {cs : List Value}
theorem Blk.lt (h : Blk w b T cs) : b < w.heap.size := (Array.getElem?_eq_some_iff.1 h.blk).1
theorem Blk.cell (h : Blk w b T cs) (o : Nat) {v : Value} (hv : cs[o]? = some v) : w.cell? ⟨b, o, none⟩ = some v := (cell_at h.blk).trans hv
theorem Blk.free (h : Blk w b T cs) (o : Nat) : w.frozen? ⟨b, o, none⟩ = false := blk_frozen h.blk _
theorem Blk.move (h : Blk w b T cs) (hm : w1.heap[b]? = w.heap[b]?) : Blk w1 b T cs := ⟨hm.trans h.blk⟩
theorem Blk.fr {F : Nat → Prop} (h : Blk w b T cs) (hf : Fr F w w1) (hb : ¬ F b) : Blk w1 b T cs := h.move (hf.block b h.lt hb)
theorem Blk.far (h : Blk w b T cs) {p : Addr} (hp : b ≠ p.block) (u : Value) : Blk (w.setCell p u) b T cs := h.move (Below.heap_setCell w p u b hp)
theorem Blk.alloc (h : Blk w b T cs) (o : Obj) : Blk (w.alloc o) b T cs := h.move (Below.heap_alloc w o b h.lt)
theorem Blk.set (h : Blk w b T cs) (o : Nat) (ho : o < cs.length) (u : Value) : Blk (w.setCell ⟨b, o, none⟩ u) b T (cs.set o u) := ⟨store_at h.blk ho u⟩
theorem Blk.new (w : World) (T : TypeId) (cs : List Value) : Blk (w.alloc (.cells cs.toArray T)) w.heap.size T cs := ⟨heap_alloc_new w _⟩
theorem Blk.drew (h : Blk w b T cs) : Blk w.drew b T cs := h.move rfl
theorem Blk.drewN (h : Blk w b T cs) (n : Nat) : Blk (w.drewN n) b T cs := h.move rfl
end

/-! ### rows -/
theorem ownsRow_fr {F : Nat → Prop} {w w1 : World} {base : Nat} {e : TypeId} {size : Nat} {v : Value} {n : Nat} {xs : List Value} (h : w.ownsRow base e size v n xs) (hf : Fr F w w1) (hn : ∀ k, v.ownBlock = some k → ¬ F k) : w1.ownsRow base e size v n xs := by
  refine ⟨h.1, ?_⟩
  rcases h.2 with hx | ⟨g, cap, cur, rfl, hb, hgg, rest⟩
  · exact .inl hx
  · exact .inr ⟨g, cap, cur, rfl, hb, (hf.block g (Array.getElem?_eq_some_iff.1 hgg).1 (hn g rfl)).trans hgg, rest⟩
theorem Fr.grown {w w1 : World} {row : Option Nat} (h : w.grownBy w1 row) : Fr (fun k => row = some k) w w1 := ⟨h.os, h.tape, h.output, h.size, fun k hk hn => h.block k hk (fun e => hn e.symm)⟩
theorem ownsRow_low {w : World} {base base2 : Nat} {e : TypeId} {size : Nat} {v : Value} {n : Nat} {xs : List Value} (h : w.ownsRow base e size v n xs) (hb : base2 ≤ base) : w.ownsRow base2 e size v n xs := by
  refine ⟨h.1, ?_⟩
  rcases h.2 with hx | ⟨gg, cap, cur, e, hb, rest⟩
  · exact .inl hx
  · exact .inr ⟨gg, cap, cur, e, by omega, rest⟩
theorem run_append_empty {W : World} (P : Program) (t ty e : TypeId) (i : TypeInfo) (ht : P.underlying t = some (.slice e)) (hi : P.info? e = some i) {base size : Nat} {v : Value} {n c : Nat} {xs : List Value} (hown : W.ownsRow base e size v n xs) :
    (Builtin.append_ #[t, t] ty #[v, .slice none 0 c]).run P W = .ok v W := by
  rcases hown.2 with ⟨rfl, h0⟩ | ⟨g, cap, cur, rfl, hb, hg, h1, h2, h3, h4⟩
  · simp [Builtin.append_, run_underlying ht, sizeOf, typeInfo, hi, Builtin.lenOf, Builtin.firstCells]
  · simp [Builtin.append_, run_underlying ht, sizeOf, typeInfo, hi, Builtin.lenOf, Builtin.firstCells, h1, storeCells]
/-- A kind of elements. -/
structure ElemK (P : Program) (t e : TypeId) (i : TypeInfo) (z : Value) (size bytes : Nat) : Prop where
  under : P.underlying t = some (.slice e)
  info : P.info? e = some i
  zero : i.zero = some z
  sz : i.size = size
  by_ : i.bytes = bytes
  zs : z.cells.size = size
  pos : 0 < size
  small : bytes ≤ 64
/-- A row of its own, made since w2. -/
structure RowG (w2 W : World) (e : TypeId) (size : Nat) (v : Value) (n : Nat) (xs : List Value) : Prop where
  own : W.ownsRow w2.heap.size e size v n xs
  fr : Fr (fun _ => False) w2 W
/-- Cells that are read. -/
structure ReadG (W : World) (X : Option Addr) (m size : Nat) (xs : List Value) : Prop where
  len : xs.length = m * size
  one : ∀ u ∈ xs, u.oneCell' = true
  read : 0 < xs.length → ∃ ad, X = some ad ∧ ∀ (j : Nat) u, xs[j]? = some u → W.cell? (ad.add j) = some u
theorem ReadG.fr {F : Nat → Prop} {W w1 : World} {X : Option Addr} {m size : Nat} {xs : List Value} (h : ReadG W X m size xs) (hf : Fr F W w1) (hn : ∀ ad, X = some ad → ¬ F ad.block) : ReadG w1 X m size xs :=
  ⟨h.len, h.one, fun h0 => by
    obtain ⟨ad, rfl, hc⟩ := h.read h0
    refine ⟨ad, rfl, fun j u hu => ?_⟩
    have c1 := hc j u hu
    have hlt := World.block_lt_of_cell? W _ c1
    rw [add_block] at hlt
    exact (World.cell?_of_block (by rw [add_block]; exact hf.block ad.block hlt (hn ad rfl))).trans c1⟩
theorem RowG.alloc {w2 W : World} {e : TypeId} {size : Nat} {v : Value} {n : Nat} {xs : List Value} (h : RowG w2 W e size v n xs) (o : Obj) : RowG w2 (W.alloc o) e size v n xs := ⟨h.own.alloc o, h.fr.alloc o⟩
theorem RowG.drew {w2 W : World} {e : TypeId} {size : Nat} {v : Value} {n : Nat} {xs : List Value} (h : RowG w2 W e size v n xs) : RowG w2 W.drew e size v n xs := ⟨h.own, h.fr.drew⟩
theorem RowG.low {w w2 W : World} {e : TypeId} {size : Nat} {v : Value} {n : Nat} {xs : List Value} (h : RowG w2 W e size v n xs) (hf : Fr (fun _ => False) w w2) : RowG w W e size v n xs := ⟨ownsRow_low h.own hf.size, hf.trans h.fr (fun _ _ h => h)⟩
theorem RowG.fr0 {w2 W W' : World} {e : TypeId} {size : Nat} {v : Value} {n : Nat} {xs : List Value} (h : RowG w2 W e size v n xs) (hf : Fr (fun _ => False) W W') : RowG w2 W' e size v n xs := ⟨ownsRow_fr h.own hf (fun _ _ h => h), h.fr.trans hf (fun _ _ h => h)⟩
section
variable {P : Program} {W : World} {t e : TypeId} {i0 : TypeInfo} {z : Value} {size bytes : Nat}
set_option maxRecDepth 100000 in
theorem run_rowG (K : ElemK P t e i0 z size bytes) {w2 : World} {v : Value} {n m : Nat} {xs ys : List Value} (ty : TypeId) (h1 : RowG w2 W e size v n xs) {X : Option Addr} {c : Nat} (hr : Fr (fun _ => False) w2 W → ReadG W X m size ys) (hsz : n + m ≤ 1000000) :
    ∃ v' W', (Builtin.append_ #[t, t] ty #[v, .slice X m c]).run P W = .ok v' W' ∧ RowG w2 W' e size v' (n + m) (xs ++ ys) ∧ W.grownBy W' v.ownBlock ∧ (v'.ownBlock = v.ownBlock ∨ v'.ownBlock = some W.heap.size) := by
  have hrd := hr h1.fr
  cases X with
  | none =>
    have hm : m = 0 := by
      rcases Nat.eq_zero_or_pos m with h | h
      · exact h
      · obtain ⟨ad, h', -⟩ := hrd.read (by rw [hrd.len]; exact Nat.mul_pos h K.pos)
        cases h'
    subst hm
    have hys : ys = [] := List.length_eq_zero_iff.1 (by rw [hrd.len]; omega)
    subst hys
    refine ⟨v, W, run_append_empty _ _ ty e i0 K.under K.info h1.own, by rw [List.append_nil]; exact h1, ⟨rfl, rfl, rfl, Nat.le_refl _, fun _ _ _ => rfl⟩, .inl rfl⟩
  | some ad =>
    obtain ⟨v', W', hrun, ho, hg, -, hat⟩ := run_append_own_at (P := P) W w2.heap.size t ty e i0 z size bytes K.under K.info K.zero K.sz K.by_ K.zs K.pos v n _ h1.own ad m c ys hrd.len
      (fun j u hu => by
        obtain ⟨ad', e, hc⟩ := hrd.read (by have := (List.getElem?_eq_some_iff.1 hu).1; omega)
        injection e with e
        subst e
        exact hc j u hu)
      hrd.one (by unfold maxLen; omega) (by
        have := Nat.mul_le_mul hsz K.small
        omega) h1.fr.size
    refine ⟨v', W', hrun, ⟨ho, h1.fr.trans (Fr.grown hg) (fun k hk e => ?_)⟩, hg, hat⟩
    have := (h1.own.lt k e).1
    omega
theorem step_rowG (K : ElemK P t e i0 z size bytes) {ops : Array Oper} {o : Oper} {a : Act} {KK : Act → World → Prop} {Q : Exit → Act → World → Prop} {E : Prop} (hgd : o.guard = none) (s x : Operand)
    (ho : o.op = .call { callee := .builtin .append, args := #[s, x], argTypes := #[t, t] }) {w2 : World} {v : Value} {n m : Nat} {xs ys : List Value} (hs : a.eval s = v) (h1 : RowG w2 W e size v n xs) {X : Option Addr} {c : Nat} (hx : a.eval x = .slice X m c) (hr : Fr (fun _ => False) w2 W → ReadG W X m size ys)
    (hsz : n + m ≤ 1000000) (h : ∀ v' W', RowG w2 W' e size v' (n + m) (xs ++ ys) → W.grownBy W' v.ownBlock → (v'.ownBlock = v.ownBlock ∨ v'.ownBlock = some W.heap.size) → KK (a.put o.dst v') W') :
    if Region.wanted o (yielded ops a.tmps) = true then Oper.wp P o a W KK Q else E := by
  have hw : Region.wanted o (yielded ops a.tmps) = true := by simp [Region.wanted, hgd]
  rw [if_pos hw]
  obtain ⟨v', W', hrun, k1, k2, k3⟩ := run_rowG (c := c) K o.type h1 hr hsz
  unfold Oper.wp execOp
  simp only [ho, resolve, invoke, builtin, Sem.run_bind, Sem.run_pure, Result.andThen_ok, List.map_toArray, List.map_cons, List.map_nil, hs, hx, hrun]
  exact h v' W' k1 k2 k3
theorem wpList_rowG (K : ElemK P t e i0 z size bytes) {ops : Array Oper} {rest : List Oper} {o : Oper} {a : Act} {Q : Exit → Act → World → Prop} (hw : Region.wanted o (yielded ops a.tmps) = true) (s x : Operand)
    (ho : o.op = .call { callee := .builtin .append, args := #[s, x], argTypes := #[t, t] }) {w2 : World} {v : Value} {n m : Nat} {xs ys : List Value} (hs : a.eval s = v) (h1 : RowG w2 W e size v n xs) {X : Option Addr} {c : Nat} (hx : a.eval x = .slice X m c) (hr : Fr (fun _ => False) w2 W → ReadG W X m size ys)
    (hsz : n + m ≤ 1000000) (h : ∀ v' W', RowG w2 W' e size v' (n + m) (xs ++ ys) → W.grownBy W' v.ownBlock → (v'.ownBlock = v.ownBlock ∨ v'.ownBlock = some W.heap.size) → wpList P ops Q rest (a.put o.dst v') W') :
    wpList P ops Q (o :: rest) a W := by
  refine wpList_step fun KK hK => ?_
  rw [if_pos hw]
  obtain ⟨v', W', hrun, k1, k2, k3⟩ := run_rowG (c := c) K o.type h1 hr hsz
  unfold Oper.wp execOp
  simp only [ho, resolve, invoke, builtin, Sem.run_bind, Sem.run_pure, Result.andThen_ok, List.map_toArray, List.map_cons, List.map_nil, hs, hx, hrun]
  exact hK _ _ (h v' W' k1 k2 k3)
end
theorem elem_of {P : Program} {t e : TypeId} {z : Value} {size bytes : Nat} (hu : P.underlying t = some (.slice e)) (hi : (P.info? e).map (fun i => (i.zero, i.size, i.bytes)) = some (some z, size, bytes)) (hz : z.cells.size = size) (hp : 0 < size) (hs : bytes ≤ 64) : ∃ i, ElemK P t e i z size bytes := by
  obtain ⟨i, hi, hzz⟩ := Option.map_eq_some_iff.1 hi
  simp only [Prod.mk.injEq] at hzz
  exact ⟨i, hu, hi, hzz.1, hzz.2.1, hzz.2.2, hz, hp, hs⟩
theorem read_own {w W : World} {base : Nat} {e : TypeId} {size : Nat} {v : Value} {n : Nat} {xs : List Value} (h : w.ownsRow base e size v n xs) (hone : ∀ u ∈ xs, u.oneCell' = true) : ∃ A c, v = .slice A n c ∧ n ≤ c ∧ ReadG w A n size xs := by
  have hl := h.1
  rcases h.2 with ⟨rfl, h0⟩ | ⟨g, cap, cur, rfl, hb, hg, h1, h2, h3, h4⟩
  · subst h0
    exact ⟨none, 0, rfl, Nat.le_refl _, ⟨hl, hone, fun h => by rw [hl] at h; omega⟩⟩
  · exact ⟨some ⟨g, 0, none⟩, cap, rfl, h1, ⟨hl, hone, fun h0 => ⟨_, rfl, fun j u hu => h.cells rfl j u hu⟩⟩⟩
theorem ReadG.take {W : World} {X : Option Addr} {n size : Nat} {xs : List Value} (h : ReadG W X n size xs) (k : Nat) (hk : k ≤ n) : ReadG W X k size (xs.take (k * size)) :=
  ⟨by rw [List.length_take, h.len]; exact Nat.min_eq_left (Nat.mul_le_mul_right _ hk), fun u hu => h.one u (List.mem_of_mem_take hu), fun h0 => by
    obtain ⟨ad, rfl, hc⟩ := h.read (by rw [List.length_take] at h0; omega)
    exact ⟨ad, rfl, fun j u hu => hc j u (by
      rw [List.getElem?_take] at hu
      split at hu
      · exact hu
      · cases hu)⟩⟩
theorem ReadG.drop {W : World} {X : Option Addr} {n size c : Nat} {xs : List Value} (h : ReadG W X n size xs) (k : Nat) (hk : k ≤ n) (hc : n ≤ c) : ReadG W (if c = k then X else Option.map (fun x => x.add (k * size)) X) (n - k) size (xs.drop (k * size)) :=
  ⟨by rw [List.length_drop, h.len, Nat.sub_mul], fun u hu => h.one u (List.mem_of_mem_drop hu), fun h0 => by
    rw [List.length_drop, h.len, ← Nat.sub_mul] at h0
    have hlt : k < n := by
      rcases Nat.lt_or_ge k n with h | h
      · exact h
      · rw [Nat.sub_eq_zero_of_le h, Nat.zero_mul] at h0
        omega
    have hs : 0 < size := by
      rcases Nat.eq_zero_or_pos size with h | h
      · rw [h] at h0; simp at h0
      · exact h
    obtain ⟨ad, rfl, hcc⟩ := h.read (by rw [h.len]; exact Nat.mul_pos (by omega) hs)
    rw [if_neg (by omega)]
    refine ⟨ad.add (k * size), rfl, fun i x hi => ?_⟩
    rw [List.getElem?_drop] at hi
    rw [add_add']
    exact hcc _ _ hi⟩
theorem row_emptyG {w2 W : World} {h : Nat} {e : TypeId} {size : Nat} (hf : Fr (fun _ => False) w2 W) (hb : W.heap[h]? = some (.cells #[] e (0, 0))) (hh : w2.heap.size ≤ h) : RowG w2 W e size (.slice (some ⟨h, 0, none⟩) 0 0) 0 [] :=
  ⟨⟨by simp, .inr ⟨h, 0, #[], rfl, hh, hb, Nat.le_refl _, Nat.zero_le _, by simp, by simp⟩⟩, hf⟩
theorem row_g1 {w2 : World} {e : TypeId} {size : Nat} : RowG w2 (w2.alloc (.cells #[] e)).drew e size (.slice (some ⟨w2.heap.size, 0, none⟩) 0 0) 0 [] :=
  row_emptyG ((Fr.refl _ w2).alloc _).drew (heap_alloc_new w2 _) (Nat.le_refl _)
theorem row_g0 {w2 W : World} {e : TypeId} {size : Nat} (hf : Fr (fun _ => False) w2 W) : RowG w2 (W.alloc (.cells #[] e)) e size (.slice (some ⟨W.heap.size, 0, none⟩) 0 0) 0 [] :=
  row_emptyG (hf.alloc _) (heap_alloc_new W _) hf.size
theorem read_newG {W : World} {e : TypeId} {m size : Nat} {us : List Value} (hl : us.length = m * size) (hone : ∀ u ∈ us, u.oneCell' = true) : ReadG (W.alloc (.cells us.toArray e)) (some ⟨W.heap.size, 0, none⟩) m size us :=
  ⟨hl, hone, fun h0 => ⟨_, rfl, fun j u hu => by
    have e : (⟨W.heap.size, 0, none⟩ : Addr).add j = ⟨W.heap.size, j, none⟩ := by
      unfold Addr.add
      split
      · subst_vars; rfl
      · simp
    rw [e, cell_at (cur := us) (heap_alloc_new W _)]
    exact hu⟩⟩

theorem ReadG.drew {W : World} {X : Option Addr} {m size : Nat} {xs : List Value} (h : ReadG W X m size xs) : ReadG W.drew X m size xs := ⟨h.len, h.one, h.read⟩

/-! ### calls -/
theorem wpList_callf {P : Program} {ops : Array Oper} {rest : List Oper} {op : Oper} {a : Act} {w : World} {Q : Exit → Act → World → Prop} (hgd : op.guard = none) (c : Call) (ho : op.op = .call c) (x : Operand) (hc : c.callee = .value x) {f : FuncId} {cap us : Array Value} (hx : a.eval x = .func (.func f) #[] cap) (hu : c.args.map a.eval = us)
    (hcall : ∀ vs W, (callFunc f vs).run P W = .ok (.enter f vs) W)
    (h : Calls P f (us ++ cap) w (fun e w' => match e with | .returned v => wpList P ops Q rest (a.put op.dst v) w' | .panicked ch => Q (.panic ch) a w' | .outgrown => LetsOut Q)) : wpList P ops Q (op :: rest) a w := by
  subst hu
  refine wpList_plain hgd fun K hK => ?_
  unfold Oper.wp execOp
  simp only [ho, resolve, hc, hx, Deferred.ofValue, Sem.run_bind, Sem.run_pure, Result.andThen_ok, invoke, hcall, Array.empty_append]
  show Oper.upon P op a K Q (.ok (.enter f _) w)
  simp only [Oper.upon]
  refine h.mono fun e w' he => ?_
  cases e with
  | returned v => exact hK _ _ he
  | panicked ch => exact he
  | outgrown => exact he
end Go.Proofs.YtjhmpcbpbdkddaaGreat.Bs
