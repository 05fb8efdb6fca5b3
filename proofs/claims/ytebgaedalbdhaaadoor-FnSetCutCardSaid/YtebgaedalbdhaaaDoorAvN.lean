/- The functions of one node and of its sides: what they return, and what they leave in memory. -/
import Derived.Test.YtebgaedalbdhaaaDoorAvB
import Derived.Test.YtebgaedalbdhaaaDoorAvT
import Derived.StillTailTactics
import Derived.Deep.MidRow
import Derived.LoopTactic
namespace Go.Proofs.YtebgaedalbdhaaaDoor.Av
open Go.RowKit Go.Proofs.YtebgaedalbdhaaaDoorW.PrintWords Go.Proofs.YtebgaedalbdhaaaDoorW.PrintLast Go.Proofs.YtebgaedalbdhaaaDoorW.PrintMore
set_option linter.unusedVariables false
set_option linter.unusedSimpArgs false

/-- A region of reads that ends in one write. -/
theorem region_tail {P : Program} {id : Nat} {Q : Exit → Act → World → Prop} {a : Act} {w : World} {l : List Oper} (n : Nat) (hm : P.follows .mixedOrders = true) (hB : Region.lexTailB .any l.toArray n = true)
    (h : ∀ wd, Aside0 (wd = w.drew) → wpStill P l.toArray wd (fun a' => wpList P l.toArray Q (l.drop n) a' wd) (l.take n) a) : (Code.region id l.toArray true).wp P Q a w :=
  wp_region_still_tail n hm hB (h _ ⟨rfl⟩)

/-- All but what F names is as it was. -/
structure Fr (F : Nat → Prop) (w w' : World) : Prop where
  os : w'.os = w.os
  tape : w'.tape = w.tape
  output : w'.output = w.output
  size : w.heap.size ≤ w'.heap.size
  block : ∀ k, k < w.heap.size → ¬ F k → w'.heap[k]? = w.heap[k]?
section
variable {F G : Nat → Prop} {w w1 w2 : World}
theorem Fr.refl (F : Nat → Prop) (w : World) : Fr F w w := ⟨rfl, rfl, rfl, Nat.le_refl _, fun _ _ _ => rfl⟩
theorem Fr.mono (h : Fr F w w1) (hg : ∀ k, F k → G k) : Fr G w w1 := ⟨h.os, h.tape, h.output, h.size, fun k hk hn => h.block k hk (fun hf => hn (hg k hf))⟩
theorem Fr.trans (h : Fr F w w1) (h2 : Fr G w1 w2) (hg : ∀ k, k < w.heap.size → G k → F k) : Fr F w w2 :=
  ⟨h2.os.trans h.os, h2.tape.trans h.tape, h2.output.trans h.output, Nat.le_trans h.size h2.size, fun k hk hn => (h2.block k (Nat.lt_of_lt_of_le hk h.size) (fun hf => hn (hg k hk hf))).trans (h.block k hk hn)⟩
theorem Fr.set (h : Fr F w w1) {p : Addr} (hp : F p.block ∨ w.heap.size ≤ p.block) (u : Value) : Fr F w (w1.setCell p u) :=
  ⟨h.os, h.tape, h.output, by simpa [World.setCell] using h.size, fun k hk hn => (Below.heap_setCell w1 p u k (by
    rintro rfl
    rcases hp with hp | hp
    · exact hn hp
    · omega)).trans (h.block k hk hn)⟩
theorem Fr.alloc (h : Fr F w w1) (o : Obj) : Fr F w (w1.alloc o) :=
  ⟨h.os, h.tape, h.output, Nat.le_trans h.size (by simp), fun k hk hn => (Below.heap_alloc w1 o k (Nat.lt_of_lt_of_le hk h.size)).trans (h.block k hk hn)⟩
theorem Fr.drew (h : Fr F w w1) : Fr F w w1.drew := ⟨h.os, h.tape, h.output, h.size, h.block⟩
theorem Fr.drewN (h : Fr F w w1) (n : Nat) : Fr F w (w1.drewN n) := ⟨h.os, h.tape, h.output, h.size, h.block⟩
theorem NodeAt.fr {b : Nat} {x : Int} {s : List Int} {l r : Option Nat} {h : Int} (n : NodeAt w b x s l r h) (hf : Fr F w w1) (hb : ¬ F b) : NodeAt w1 b x s l r h := n.move (hf.block b n.lt hb)
end
theorem HAt.set {w : World} {p : Option Nat} {a : Int} (h : HAt w p a) {g o : Nat} (u : Value) (hne : o ≠ 35 ∨ p ≠ some g) : HAt (w.setCell ⟨g, o, none⟩ u) p a := by
  cases p with
  | none => exact h
  | some b =>
    refine (World.cell?_setCell_other _ _ _ _ (fun e => ?_)).trans h
    have e1 : g = b := congrArg Addr.block e
    have e2 : o = 35 := congrArg Addr.off e
    subst e1 e2
    rcases hne with hne | hne
    · exact hne rfl
    · exact hne rfl

/-- The set's own block. -/
structure SetAt (w : World) (g : Nat) (root : Option Nat) (sz nd : Int) (ch : Bool) : Prop where
  blk : w.heap[g]? = some (.cells [.pointer (ptrA root), .int .i64 sz, .int .i64 nd, .bool ch].toArray 63 (0, 0))
section
variable {w w1 : World} {g : Nat} {root : Option Nat} {sz nd : Int} {ch : Bool}
theorem SetAt.free (n : SetAt w g root sz nd ch) (o : Nat) : w.frozen? ⟨g, o, none⟩ = false := blk_frozen n.blk _
theorem SetAt.c0 (n : SetAt w g root sz nd ch) : w.cell? ⟨g, 0, none⟩ = some (.pointer (ptrA root)) := by rw [cell_at n.blk]; rfl
theorem SetAt.c1 (n : SetAt w g root sz nd ch) : w.cell? ⟨g, 1, none⟩ = some (.int .i64 sz) := by rw [cell_at n.blk]; rfl
theorem SetAt.c2 (n : SetAt w g root sz nd ch) : w.cell? ⟨g, 2, none⟩ = some (.int .i64 nd) := by rw [cell_at n.blk]; rfl
theorem SetAt.c3 (n : SetAt w g root sz nd ch) : w.cell? ⟨g, 3, none⟩ = some (.bool ch) := by rw [cell_at n.blk]; rfl
theorem SetAt.lt (n : SetAt w g root sz nd ch) : g < w.heap.size := (Array.getElem?_eq_some_iff.1 n.blk).1
theorem SetAt.move (n : SetAt w g root sz nd ch) (hm : w1.heap[g]? = w.heap[g]?) : SetAt w1 g root sz nd ch := ⟨hm.trans n.blk⟩
theorem SetAt.far (n : SetAt w g root sz nd ch) {p : Addr} (hp : g ≠ p.block) (u : Value) : SetAt (w.setCell p u) g root sz nd ch := n.move (Below.heap_setCell w p u g hp)
theorem SetAt.alloc (n : SetAt w g root sz nd ch) (o : Obj) : SetAt (w.alloc o) g root sz nd ch := n.move (Below.heap_alloc w o g n.lt)
theorem SetAt.fr {F : Nat → Prop} (n : SetAt w g root sz nd ch) (hf : Fr F w w1) (hg : ¬ F g) : SetAt w1 g root sz nd ch := n.move (hf.block g n.lt hg)
theorem SetAt.set0 (n : SetAt w g root sz nd ch) (r : Option Nat) : SetAt (w.setCell ⟨g, 0, none⟩ (.pointer (ptrA r))) g r sz nd ch := ⟨by rw [store_at n.blk (by simp)]; rfl⟩
theorem SetAt.set1 (n : SetAt w g root sz nd ch) (z : Int) : SetAt (w.setCell ⟨g, 1, none⟩ (.int .i64 z)) g root z nd ch := ⟨by rw [store_at n.blk (by simp)]; rfl⟩
theorem SetAt.set2 (n : SetAt w g root sz nd ch) (z : Int) : SetAt (w.setCell ⟨g, 2, none⟩ (.int .i64 z)) g root sz z ch := ⟨by rw [store_at n.blk (by simp)]; rfl⟩
theorem SetAt.set3 (n : SetAt w g root sz nd ch) (c : Bool) : SetAt (w.setCell ⟨g, 3, none⟩ (.bool c)) g root sz nd c := ⟨by rw [store_at n.blk (by simp)]; rfl⟩
end

set_option maxRecDepth 100000 in
theorem exists_calls {w : World} {b : Nat} {x : Int} {s : List Int} {l r : Option Nat} {h q : Int} (n : NodeAt w b x s l r h) (hx : 0 ≤ x) (h1 : x ≤ q) (h2 : q < x + 2048) (h3 : q < 18446744073709551616) :
    Calls Tryd.prog 45 #[.pointer (some ⟨b, 0, none⟩), .int .u64 q] w fun e w' => e = .returned (.bool (bget s (q - x).toNat)) ∧ w = w' := by
  have f0 := n.c0
  obtain ⟨o, rfl⟩ : ∃ o : Nat, q = x + o := ⟨(q - x).toNat, by omega⟩
  have f1 := n.cbit (o / 64) (by omega)
  clear n
  have e3 : IntKind.u64.wrap (x + (o : Int) - x) = o := by rw [IntKind.wrap_u64]; omega
  have e4 : (x + (o : Int) - x).toNat = o := by omega
  rw [e4]
  clear e4
  have b1 : (0 : Int) ≤ (o : Int) / 64 := by omega
  have b2 : (o : Int) / 64 < 32 := by omega
  go_enter Tryd.func45, Tryd.ntmps45
  go_wp2
  go_ret
  exact ⟨rfl, rfl⟩

/-- 'n.set(seq, &c)': the bit is put; c is true if it was not there. -/
def setW (w : World) (b : Nat) (s : List Int) (o : Nat) (g : Nat) : World :=
  if bget s o then w else ((w.drew.setCell ⟨b, 1 + o / 64, none⟩ (.int .u64 (bits .or .u64 (s[o / 64]?.getD 0) (IntKind.u64.wrap (2 ^ (o % 64)))))).setCell ⟨g, 3, none⟩ (.bool true))
set_option maxRecDepth 100000 in
theorem set_calls {w : World} {b g : Nat} {x : Int} {s : List Int} {l r root : Option Nat} {h q sz nd : Int} {ch : Bool} (n : NodeAt w b x s l r h) (n2 : SetAt w g root sz nd ch) (hbg : b ≠ g) (hx : 0 ≤ x) (h1 : x ≤ q) (h2 : q < x + 2048) (h3 : q < 18446744073709551616) :
    Calls Tryd.prog 61 #[.pointer (some ⟨b, 0, none⟩), .int .u64 q, .pointer (some ⟨g, 3, none⟩)] w fun e w' => e = .returned (.tuple #[]) ∧ setW w b s (q - x).toNat g = w' := by
  have f0 := n.c0
  obtain ⟨o, rfl⟩ : ∃ o : Nat, q = x + o := ⟨(q - x).toNat, by omega⟩
  have f1 := n.cbit (o / 64) (by omega)
  have z1 := n.free (1 + o / 64)
  have f3 := n2.c3
  have z3 := n2.free 3
  clear n n2
  have e3 : IntKind.u64.wrap (x + (o : Int) - x) = o := by rw [IntKind.wrap_u64]; omega
  have e4 : (x + (o : Int) - x).toNat = o := by omega
  rw [e4]
  clear e4
  have b1 : (0 : Int) ≤ (o : Int) / 64 := by omega
  have b2 : (o : Int) / 64 < 32 := by omega
  have hgb : g ≠ b := Ne.symm hbg
  by_cases hb : bget s o = true
  · have hw : setW w b s o g = w := by rw [setW, if_pos hb]
    rw [hw]
    have d1 : (bits .and .u64 (s[o / 64]?.getD 0) (IntKind.u64.wrap (2 ^ (o % 64))) == 0) = false := by simpa [bget] using hb
    clear hw hb
    go_enter Tryd.func61, Tryd.ntmps61
    go_wp2
    go_end0
    exact ⟨rfl, rfl⟩
  · rw [setW, if_neg hb]
    have d1 : (bits .and .u64 (s[o / 64]?.getD 0) (IntKind.u64.wrap (2 ^ (o % 64))) == 0) = true := by simpa [bget] using hb
    clear hb
    go_enter Tryd.func61, Tryd.ntmps61
    go_wp2
    have e5 : ((o : Int) / 64).toNat = o / 64 := by omega
    refine region_tail 11 (by kernel_rfl) (by kernel_rfl) (fun wd hwd => ?_)
    have f1d : wd.cell? ⟨b, 1 + o / 64, none⟩ = some (.int .u64 (s.getD (o / 64) 0)) := by rw [hwd.out]; exact f1
    have z1d : wd.frozen? ⟨b, 1 + o / 64, none⟩ = false := by rw [hwd.out]; exact z1
    have f3d : wd.cell? ⟨g, 3, none⟩ = some (.bool ch) := by rw [hwd.out]; exact f3
    have z3d : wd.frozen? ⟨g, 3, none⟩ = false := by rw [hwd.out]; exact z3
    simp only [List.take_succ_cons, List.take_zero, List.drop_succ_cons, List.drop_zero]
    repeat still_step
    refine wpStill_nil ?_
    go_wp2
    go_end0
    rw [hwd.out]
    exact ⟨rfl, rfl⟩
/-- What putting or taking away a bit leaves. -/
structure NodePut (w w' : World) (b g : Nat) (x : Int) (s : List Int) (l r : Option Nat) (h : Int) (root : Option Nat) (sz nd : Int) (ch : Bool) : Prop where
  node : NodeAt w' b x s l r h
  set : SetAt w' g root sz nd ch
  fr : Fr (fun k => k = b ∨ k = g) w w'
  size : w'.heap.size = w.heap.size
theorem setCell_size (w : World) (p : Addr) (v : Value) : (w.setCell p v).heap.size = w.heap.size := by simp [World.setCell]
theorem set_put {w : World} {b g : Nat} {x : Int} {s : List Int} {l r root : Option Nat} {h q sz nd : Int} {ch : Bool} (n : NodeAt w b x s l r h) (n2 : SetAt w g root sz nd ch) (hbg : b ≠ g) (hx : 0 ≤ x) (h1 : x ≤ q) (h2 : q < x + 2048) (h3 : q < 18446744073709551616) :
    Calls Tryd.prog 61 #[.pointer (some ⟨b, 0, none⟩), .int .u64 q, .pointer (some ⟨g, 3, none⟩)] w fun e w' => e = .returned (.tuple #[]) ∧ NodePut w w' b g x (bput s (q - x).toNat) l r h root sz nd (ch || !bget s (q - x).toNat) := by
  refine (set_calls n n2 hbg hx h1 h2 h3).mono ?_
  rintro e w' ⟨rfl, rfl⟩
  refine ⟨rfl, ?_⟩
  unfold setW bput
  by_cases hb : bget s (q - x).toNat = true
  · rw [if_pos hb, if_pos hb, hb]
    simp only [Bool.not_true, Bool.or_false]
    exact ⟨n, n2, Fr.refl _ _, rfl⟩
  · rw [if_neg hb, if_neg hb]
    have hb' : bget s (q - x).toNat = false := by simpa using hb
    rw [hb']
    simp only [Bool.not_false, Bool.or_true]
    have ho : (q - x).toNat / 64 < 32 := by omega
    refine ⟨((n.drew).setBit _ ho _).far hbg _, ((n2.move (w1 := w.drew) rfl).far (Ne.symm hbg) _).set3 _, ((Fr.refl _ _).drew.set (.inl (.inl rfl)) _).set (.inl (.inr rfl)) _, by rw [setCell_size, setCell_size]; rfl⟩

theorem NodeAt.rowAt {w : World} {b : Nat} {x : Int} {s : List Int} {l r : Option Nat} {h : Int} (n : NodeAt w b x s l r h) : w.rangeAt b 1 (s.map (Value.int .u64)) := by
  intro j v hv
  have hj : j < s.length := by have := (List.getElem?_eq_some_iff.1 hv).1; simpa using this
  rw [n.cbit j (by rw [← n.len]; exact hj), ← hv]
  simp [List.getD_eq_getElem?_getD, List.getElem?_eq_getElem hj]
/-- A node's words, read as a whole; one of them. -/
theorem NodeAt.load76 {w : World} {b : Nat} {x : Int} {s : List Int} {l r : Option Nat} {h : Int} (n : NodeAt w b x s l r h) : (Instr.loadAt 76 (.pointer (some ⟨b, 1, none⟩))).run Tryd.prog w = .ok (.agg (s.map (Value.int .u64)).toArray) w :=
  run_loadAt_mid w b 1 76 _ _ n.rowAt Tryd.underlying76 rfl (by rw [List.length_map, n.len]; kernel_rfl)
theorem index76 {s : List Int} (hs : s.length = 32) (k : Nat) (hk : k < 32) (w : World) : (Instr.index 76 (.agg (s.map (Value.int .u64)).toArray) (.int .i64 (k : Int))).run Tryd.prog w = .ok (.int .u64 (s.getD k 0)) w := by
  have h1 : (0 : Int) ≤ (k : Int) ∧ (k : Int) < (32 : Nat) := by omega
  have h2 : s[k]? = some (s.getD k 0) := by rw [List.getD_eq_getElem?_getD, List.getElem?_eq_getElem (by omega)]; rfl
  have h3 : (sizeOf 23).run Tryd.prog w = .ok 1 w := by kernel_rfl
  have h4 : (isAgg 23).run Tryd.prog w = .ok false w := by kernel_rfl
  have h5 : ((k : Int).toNat * 1) = k := by omega
  unfold Instr.index
  simp only [asIntOf, Sem.run_bind, Sem.run_pure, Result.andThen_ok, run_underlying Tryd.underlying76]
  rw [if_pos h1]
  simp only [Sem.run_bind, h3, Result.andThen_ok, part, h4, h5, Bool.false_eq_true, if_false, List.getElem?_toArray, List.getElem?_map, h2, Option.map_some, Sem.run_pure]
/-- An element of a whole array that was read, in a plain region. -/
theorem wpList_index {P : Program} {ops : Array Oper} {rest : List Oper} {op : Oper} {a : Act} {w : World} {Q : Exit → Act → World → Prop} (hgd : op.guard = none) (ty : TypeId) (x i : Operand) (ho : op.op = .index ty x i) {u j v : Value} (hu : a.eval x = u) (hj : a.eval i = j)
    (hr : (Instr.index ty u j).run P w = .ok v w) (h : wpList P ops Q rest (a.put op.dst v) w) : wpList P ops Q (op :: rest) a w := by
  subst hu hj
  refine wpList_plain hgd fun _ hK => ?_
  unfold Oper.wp execOp
  simp only [ho, Sem.run_bind, Sem.run_pure, Result.andThen_ok, hr]
  exact hK _ _ h
theorem NodeAt.len76 {w : World} {b : Nat} {x : Int} {s : List Int} {l r : Option Nat} {h : Int} (n : NodeAt w b x s l r h) : (Tryd.prog.info? 76).map (·.size) = some (s.map (Value.int .u64)).length := by rw [List.length_map, n.len]; kernel_rfl
theorem wpList_build {P : Program} {ops : Array Oper} {rest : List Oper} {op : Oper} {a : Act} {w : World} {Q : Exit → Act → World → Prop} (hgd : op.guard = none) (ty : TypeId) (ps : Array (Nat × Operand)) (ho : op.op = .build ty ps) {us : Array (Nat × Value)} {v : Value} (hu : (ps.map fun (i, x) => (i, a.eval x)) = us)
    (hr : (Instr.build ty us).run P w = .ok v w) (h : wpList P ops Q rest (a.put op.dst v) w) : wpList P ops Q (op :: rest) a w := by
  subst hu
  refine wpList_plain hgd fun _ hK => ?_
  unfold Oper.wp execOp
  simp only [ho, Sem.run_bind, Sem.run_pure, Result.andThen_ok, hr]
  exact hK _ _ h
theorem build78 (y : Int) (w : World) : (Instr.build 78 #[(0, .int .u64 y), (4, .int .i64 1)]).run Tryd.prog w = .ok (.agg (nodeCells y zeros none none 1).toArray) w := by kernel_rfl
theorem node_new (w : World) (y : Int) : NodeAt (w.alloc (.cells (nodeCells y zeros none none 1).toArray 78)) w.heap.size y zeros none none 1 := ⟨rfl, heap_alloc_new w _⟩
theorem bget_zeros (o : Nat) : bget zeros o = false := by
  unfold bget
  have h0 : zeros[o / 64]?.getD 0 = 0 := by
    unfold zeros
    rw [List.getElem?_replicate]
    split <;> rfl
  rw [h0]
  have : ∀ m : Int, bits .and .u64 0 m = 0 := by
    intro m
    unfold Go.bits
    show IntKind.u64.wrap (((BitVec.ofInt IntKind.u64.bits 0) &&& (BitVec.ofInt IntKind.u64.bits m)).toNat : Int) = 0
    have z : BitVec.ofInt IntKind.u64.bits 0 = 0#(IntKind.u64.bits) := by decide
    rw [z, BitVec.zero_and]
    decide
  rw [this]
  rfl
end Go.Proofs.YtebgaedalbdhaaaDoor.Av
