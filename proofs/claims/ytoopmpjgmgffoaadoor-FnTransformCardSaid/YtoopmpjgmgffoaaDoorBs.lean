/- The base of walks by hand: blocks, frames, rows of elements, appends. -/
import Derived.Test.YtoopmpjgmgffoaaDoorWd
import Derived.StillTailTactics
import Derived.Deep.MidRow
import Derived.LoopTactic
import Derived.Deep.AppendLies
import Derived.Maps.AppendAt
import Derived.Deep.OwnRows
import Derived.Deep.QuietTactic
import Derived.BigQuiet
import Derived.Deep.RegionHeld3
import Derived.OwnWalk
import Derived.RegionTactic
namespace Go.Proofs.YtoopmpjgmgffoaaDoor.Bs
open Go.RowKit Go.Proofs.YtoopmpjgmgffoaaDoorW.PrintWords Go.Proofs.YtoopmpjgmgffoaaDoorW.PrintLast Go.Proofs.YtoopmpjgmgffoaaDoorW.PrintMore
set_option linter.unusedVariables false
set_option linter.unusedSimpArgs false
theorem cell_at {w : World} {g o : Nat} {cur : List Value} {T : TypeId} (hb : w.heap[g]? = some (.cells cur.toArray T (0, 0))) : w.cell? ⟨g, o, none⟩ = cur[o]? := by
  rw [cell_of_row w g _ _ T (0, 0) hb]
  simp
theorem store_at {w : World} {g o : Nat} {cur : List Value} {T : TypeId} (hb : w.heap[g]? = some (.cells cur.toArray T (0, 0))) (ho : o < cur.length) (u : Value) : (w.setCell ⟨g, o, none⟩ u).heap[g]? = some (.cells (cur.set o u).toArray T (0, 0)) := by
  obtain ⟨cur', c1, c2, c3⟩ := setCells_row [u] o w cur.toArray hb (by simp; omega)
  have hw : w.setCells g o [u] = w.setCell ⟨g, o, none⟩ u := rfl
  rw [hw] at c1
  have he : cur' = (cur.set o u).toArray := by
    apply Array.toList_inj.1
    rw [c3]
    simp
    rw [List.set_eq_take_append_cons_drop, if_pos ho]
  rw [he] at c1
  exact c1
theorem add_block (a : Addr) (k : Nat) : (a.add k).block = a.block := by unfold Addr.add; split <;> rfl
theorem add_add' (a : Addr) (i j : Nat) : (a.add i).add j = a.add (i + j) := by
  unfold Addr.add
  (repeat' split) <;> simp_all [Nat.add_assoc]
theorem add_at (g j : Nat) : (⟨g, 0, none⟩ : Addr).add j = ⟨g, j, none⟩ := by
  unfold Addr.add
  split
  · subst_vars; rfl
  simp
structure Fr (F : Nat → Prop) (w w' : World) : Prop where
  os : w'.os = w.os
  tape : w'.tape = w.tape
  output : w'.output = w.output
  size : w.heap.size ≤ w'.heap.size
  block : ∀ k, k < w.heap.size → ¬ F k → w'.heap[k]? = w.heap[k]?
section
variable {F G : Nat → Prop} {w w1 w2 : World}
theorem Fr.refl (F : Nat → Prop) (w : World) : Fr F w w := ⟨rfl, rfl, rfl, Nat.le_refl _, fun _ _ _ => rfl⟩
theorem Fr.mono (h : Fr F w w1) (hg : ∀ k, F k → G k) : Fr G w w1 := ⟨h.os, h.tape, h.output, h.size, fun k hk hn => h.block k hk (fun hf => hn (hg k hf))⟩
theorem Fr.trans (h : Fr F w w1) (h2 : Fr G w1 w2) (hg : ∀ k, k < w.heap.size → G k → F k) : Fr F w w2 :=
  ⟨h2.os.trans h.os, h2.tape.trans h.tape, h2.output.trans h.output, Nat.le_trans h.size h2.size, fun k hk hn => (h2.block k (Nat.lt_of_lt_of_le hk h.size) (fun hf => hn (hg k hk hf))).trans (h.block k hk hn)⟩
theorem Fr.set (h : Fr F w w1) {p : Addr} (hp : F p.block ∨ w.heap.size ≤ p.block) (u : Value) : Fr F w (w1.setCell p u) :=
  ⟨h.os, h.tape, h.output, by simpa [World.setCell] using h.size, fun k hk hn => (Below.heap_setCell w1 p u k (by
    rintro rfl
    rcases hp with hp | hp
    · exact hn hp
    omega)).trans (h.block k hk hn)⟩
theorem Fr.alloc (h : Fr F w w1) (o : Obj) : Fr F w (w1.alloc o) :=
  ⟨h.os, h.tape, h.output, Nat.le_trans h.size (by simp), fun k hk hn => (Below.heap_alloc w1 o k (Nat.lt_of_lt_of_le hk h.size)).trans (h.block k hk hn)⟩
theorem Fr.drew (h : Fr F w w1) : Fr F w w1.drew := ⟨h.os, h.tape, h.output, h.size, h.block⟩
theorem Fr.drewN (h : Fr F w w1) (n : Nat) : Fr F w (w1.drewN n) := ⟨h.os, h.tape, h.output, h.size, h.block⟩
end
theorem fr_of_below {w w' : World} (h : Below w.heap.size w w') : Fr (fun _ => False) w w' := ⟨h.os, h.tape, h.output, h.size, fun k hk _ => h.block k hk⟩
theorem below_of_fr {w w' : World} (h : Fr (fun _ => False) w w') : Below w.heap.size w w' := ⟨h.os, h.tape, h.output, h.size, fun k hk => h.block k hk (fun h => h)⟩
abbrev Same (w w' : World) : Prop := Fr (fun _ => False) w w'
theorem Same.cell {w w' : World} (h : Same w w') {p : Addr} {v : Value} (hc : w.cell? p = some v) : w'.cell? p = some v := (World.cell?_of_block (h.block _ (World.block_lt_of_cell? w _ hc) (fun h => h))).trans hc
theorem Same.then {F : Nat → Prop} {w w1 w2 : World} (h : Same w w1) (h2 : Fr F w1 w2) (hF : ∀ k, k < w.heap.size → ¬ F k) : Same w w2 := h.trans h2 (fun k hk hf => hF k hk hf)
structure Blk (w : World) (b : Nat) (T : TypeId) (cs : List Value) : Prop where
  blk : w.heap[b]? = some (.cells cs.toArray T (0, 0))
section
variable {w w1 : World} {b : Nat} {T : TypeId} {cs : List Value}
theorem Blk.lt (h : Blk w b T cs) : b < w.heap.size := (Array.getElem?_eq_some_iff.1 h.blk).1
theorem Blk.cell (h : Blk w b T cs) (o : Nat) {v : Value} (hv : cs[o]? = some v) : w.cell? ⟨b, o, none⟩ = some v := (cell_at h.blk).trans hv
theorem Blk.free (h : Blk w b T cs) (o : Nat) : w.frozen? ⟨b, o, none⟩ = false := blk_frozen h.blk _
theorem Blk.move (h : Blk w b T cs) (hm : w1.heap[b]? = w.heap[b]?) : Blk w1 b T cs := ⟨hm.trans h.blk⟩
theorem Blk.fr {F : Nat → Prop} (h : Blk w b T cs) (hf : Fr F w w1) (hb : ¬ F b) : Blk w1 b T cs := h.move (hf.block b h.lt hb)
theorem Blk.far (h : Blk w b T cs) {p : Addr} (hp : b ≠ p.block) (u : Value) : Blk (w.setCell p u) b T cs := h.move (Below.heap_setCell w p u b hp)
theorem Blk.alloc (h : Blk w b T cs) (o : Obj) : Blk (w.alloc o) b T cs := h.move (Below.heap_alloc w o b h.lt)
theorem Blk.set (h : Blk w b T cs) (o : Nat) (ho : o < cs.length) (u : Value) : Blk (w.setCell ⟨b, o, none⟩ u) b T (cs.set o u) := ⟨store_at h.blk ho u⟩
theorem Blk.new (w : World) (T : TypeId) (cs : List Value) : Blk (w.alloc (.cells cs.toArray T)) w.heap.size T cs := ⟨heap_alloc_new w _⟩
theorem Blk.drew (h : Blk w b T cs) : Blk w.drew b T cs := h.move rfl
theorem Blk.drewN (h : Blk w b T cs) (n : Nat) : Blk (w.drewN n) b T cs := h.move rfl
end
theorem Fr.grown {w w1 : World} {row : Option Nat} (h : w.grownBy w1 row) : Fr (fun k => row = some k) w w1 := ⟨h.os, h.tape, h.output, h.size, fun k hk hn => h.block k hk (fun e => hn e.symm)⟩
theorem ownsRow_low {w : World} {base base2 : Nat} {e : TypeId} {size : Nat} {v : Value} {n : Nat} {xs : List Value} (h : w.ownsRow base e size v n xs) (hb : base2 ≤ base) : w.ownsRow base2 e size v n xs := by
  refine ⟨h.1, ?_⟩
  rcases h.2 with hx | ⟨gg, cap, cur, e, hb, rest⟩
  · exact .inl hx
  exact .inr ⟨gg, cap, cur, e, by omega, rest⟩
theorem run_append_empty {W : World} (P : Program) (t ty e : TypeId) (i : TypeInfo) (ht : P.underlying t = some (.slice e)) (hi : P.info? e = some i) {base size : Nat} {v : Value} {n c : Nat} {xs : List Value} (hown : W.ownsRow base e size v n xs) :
    (Builtin.append_ #[t, t] ty #[v, .slice none 0 c]).run P W = .ok v W := by
  rcases hown.2 with ⟨rfl, h0⟩ | ⟨g, cap, cur, rfl, hb, hg, h1, h2, h3, h4⟩
  · simp [Builtin.append_, run_underlying ht, sizeOf, typeInfo, hi, Builtin.lenOf, Builtin.firstCells]
  simp [Builtin.append_, run_underlying ht, sizeOf, typeInfo, hi, Builtin.lenOf, Builtin.firstCells, h1, storeCells]
structure ElemK (P : Program) (t e : TypeId) (i : TypeInfo) (z : Value) (size bytes : Nat) : Prop where
  under : P.underlying t = some (.slice e)
  info : P.info? e = some i
  zero : i.zero = some z
  sz : i.size = size
  by_ : i.bytes = bytes
  zs : z.cells.size = size
  pos : 0 < size
  small : bytes ≤ 64
structure RowG (w2 W : World) (e : TypeId) (size : Nat) (v : Value) (n : Nat) (xs : List Value) : Prop where
  own : W.ownsRow w2.heap.size e size v n xs
  fr : Fr (fun _ => False) w2 W
structure ReadG (W : World) (X : Option Addr) (m size : Nat) (xs : List Value) : Prop where
  len : xs.length = m * size
  one : ∀ u ∈ xs, u.oneCell' = true
  read : 0 < xs.length → ∃ ad, X = some ad ∧ ∀ (j : Nat) u, xs[j]? = some u → W.cell? (ad.add j) = some u
theorem ReadG.fr {F : Nat → Prop} {W w1 : World} {X : Option Addr} {m size : Nat} {xs : List Value} (h : ReadG W X m size xs) (hf : Fr F W w1) (hn : ∀ ad, X = some ad → ¬ F ad.block) : ReadG w1 X m size xs :=
  ⟨h.len, h.one, fun h0 => by
    obtain ⟨ad, rfl, hc⟩ := h.read h0
    refine ⟨ad, rfl, fun j u hu => ?_⟩
    have c1 := hc j u hu
    have hlt := World.block_lt_of_cell? W _ c1
    rw [add_block] at hlt
    exact (World.cell?_of_block (by rw [add_block]; exact hf.block ad.block hlt (hn ad rfl))).trans c1⟩
theorem RowG.alloc {w2 W : World} {e : TypeId} {size : Nat} {v : Value} {n : Nat} {xs : List Value} (h : RowG w2 W e size v n xs) (o : Obj) : RowG w2 (W.alloc o) e size v n xs := ⟨h.own.alloc o, h.fr.alloc o⟩
theorem RowG.drew {w2 W : World} {e : TypeId} {size : Nat} {v : Value} {n : Nat} {xs : List Value} (h : RowG w2 W e size v n xs) : RowG w2 W.drew e size v n xs := ⟨h.own, h.fr.drew⟩
theorem RowG.low {w w2 W : World} {e : TypeId} {size : Nat} {v : Value} {n : Nat} {xs : List Value} (h : RowG w2 W e size v n xs) (hf : Fr (fun _ => False) w w2) : RowG w W e size v n xs := ⟨ownsRow_low h.own hf.size, hf.trans h.fr (fun _ _ h => h)⟩
section
variable {P : Program} {W : World} {t e : TypeId} {i0 : TypeInfo} {z : Value} {size bytes : Nat}
end
theorem elem_of {P : Program} {t e : TypeId} {z : Value} {size bytes : Nat} (hu : P.underlying t = some (.slice e)) (hi : (P.info? e).map (fun i => (i.zero, i.size, i.bytes)) = some (some z, size, bytes)) (hz : z.cells.size = size) (hp : 0 < size) (hs : bytes ≤ 64) : ∃ i, ElemK P t e i z size bytes := by
  obtain ⟨i, hi, hzz⟩ := Option.map_eq_some_iff.1 hi
  simp only [Prod.mk.injEq] at hzz
  exact ⟨i, hu, hi, hzz.1, hzz.2.1, hzz.2.2, hz, hp, hs⟩
theorem read_own {w W : World} {base : Nat} {e : TypeId} {size : Nat} {v : Value} {n : Nat} {xs : List Value} (h : w.ownsRow base e size v n xs) (hone : ∀ u ∈ xs, u.oneCell' = true) : ∃ A c, v = .slice A n c ∧ n ≤ c ∧ ReadG w A n size xs := by
  have hl := h.1
  rcases h.2 with ⟨rfl, h0⟩ | ⟨g, cap, cur, rfl, hb, hg, h1, h2, h3, h4⟩
  · subst h0
    exact ⟨none, 0, rfl, Nat.le_refl _, ⟨hl, hone, fun h => by rw [hl] at h; omega⟩⟩
  exact ⟨some ⟨g, 0, none⟩, cap, rfl, h1, ⟨hl, hone, fun h0 => ⟨_, rfl, fun j u hu => h.cells rfl j u hu⟩⟩⟩
theorem ReadG.take {W : World} {X : Option Addr} {n size : Nat} {xs : List Value} (h : ReadG W X n size xs) (k : Nat) (hk : k ≤ n) : ReadG W X k size (xs.take (k * size)) :=
  ⟨by rw [List.length_take, h.len]; exact Nat.min_eq_left (Nat.mul_le_mul_right _ hk), fun u hu => h.one u (List.mem_of_mem_take hu), fun h0 => by
    obtain ⟨ad, rfl, hc⟩ := h.read (by rw [List.length_take] at h0; omega)
    exact ⟨ad, rfl, fun j u hu => hc j u (by
      rw [List.getElem?_take] at hu
      split at hu
      · exact hu
      cases hu)⟩⟩
theorem ReadG.drop {W : World} {X : Option Addr} {n size c : Nat} {xs : List Value} (h : ReadG W X n size xs) (k : Nat) (hk : k ≤ n) (hc : n ≤ c) : ReadG W (if c = k then X else Option.map (fun x => x.add (k * size)) X) (n - k) size (xs.drop (k * size)) :=
  ⟨by rw [List.length_drop, h.len, Nat.sub_mul], fun u hu => h.one u (List.mem_of_mem_drop hu), fun h0 => by
    rw [List.length_drop, h.len, ← Nat.sub_mul] at h0
    have hlt : k < n := by
      rcases Nat.lt_or_ge k n with h | h
      · exact h
      rw [Nat.sub_eq_zero_of_le h, Nat.zero_mul] at h0
      omega
    have hs : 0 < size := by
      rcases Nat.eq_zero_or_pos size with h | h
      · rw [h] at h0; simp at h0
      exact h
    obtain ⟨ad, rfl, hcc⟩ := h.read (by rw [h.len]; exact Nat.mul_pos (by omega) hs)
    rw [if_neg (by omega)]
    refine ⟨ad.add (k * size), rfl, fun i x hi => ?_⟩
    rw [List.getElem?_drop] at hi
    rw [add_add']
    exact hcc _ _ hi⟩
theorem read_newG {W : World} {e : TypeId} {m size : Nat} {us : List Value} (hl : us.length = m * size) (hone : ∀ u ∈ us, u.oneCell' = true) : ReadG (W.alloc (.cells us.toArray e)) (some ⟨W.heap.size, 0, none⟩) m size us :=
  ⟨hl, hone, fun h0 => ⟨_, rfl, fun j u hu => by
    have e : (⟨W.heap.size, 0, none⟩ : Addr).add j = ⟨W.heap.size, j, none⟩ := by
      unfold Addr.add
      split
      · subst_vars; rfl
      simp
    rw [e, cell_at (cur := us) (heap_alloc_new W _)]
    exact hu⟩⟩
theorem ReadG.drew {W : World} {X : Option Addr} {m size : Nat} {xs : List Value} (h : ReadG W X m size xs) : ReadG W.drew X m size xs := ⟨h.len, h.one, h.read⟩
end Go.Proofs.YtoopmpjgmgffoaaDoor.Bs
