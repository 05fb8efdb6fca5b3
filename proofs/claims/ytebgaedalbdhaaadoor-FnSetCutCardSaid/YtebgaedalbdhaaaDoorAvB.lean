/- Nodes of the balanced tree in memory: what a node's block holds, and what stores do to it. -/
import Derived.Test.YtebgaedalbdhaaaDoorProg
import Derived.Test.YtebgaedalbdhaaaDoorWMore
namespace Go.Proofs.YtebgaedalbdhaaaDoor.Av
open Go.RowKit Go.Proofs.YtebgaedalbdhaaaDoorW.PrintWords Go.Proofs.YtebgaedalbdhaaaDoorW.PrintLast Go.Proofs.YtebgaedalbdhaaaDoorW.PrintMore
set_option linter.unusedSimpArgs false
set_option linter.unusedVariables false

def ptrA : Option Nat → Option Addr
  | none => none
  | some b => some ⟨b, 0, none⟩
/-- A node's cells: its least number, its words, its two sides, its height. -/
def nodeCells (x : Int) (s : List Int) (l r : Option Nat) (h : Int) : List Value :=
  .int .u64 x :: (s.map (Value.int .u64) ++ [.pointer (ptrA l), .pointer (ptrA r), .int .i64 h])
structure NodeAt (w : World) (b : Nat) (x : Int) (s : List Int) (l r : Option Nat) (h : Int) : Prop where
  len : s.length = 32
  blk : w.heap[b]? = some (.cells (nodeCells x s l r h).toArray 78 (0, 0))
section
variable {w w1 : World} {b : Nat} {x : Int} {s : List Int} {l r : Option Nat} {h : Int}
theorem cell_at {g o : Nat} {cur : List Value} {T : TypeId} (hb : w.heap[g]? = some (.cells cur.toArray T (0, 0))) : w.cell? ⟨g, o, none⟩ = cur[o]? := by
  rw [cell_of_row w g _ _ T (0, 0) hb]
  simp
theorem NodeAt.free (n : NodeAt w b x s l r h) (o : Nat) : w.frozen? ⟨b, o, none⟩ = false := blk_frozen n.blk _
theorem NodeAt.c0 (n : NodeAt w b x s l r h) : w.cell? ⟨b, 0, none⟩ = some (.int .u64 x) := by rw [cell_at n.blk]; rfl
theorem NodeAt.cbit (n : NodeAt w b x s l r h) (i : Nat) (hi : i < 32) : w.cell? ⟨b, 1 + i, none⟩ = some (.int .u64 (s.getD i 0)) := by
  rw [cell_at n.blk, Nat.add_comm]
  have := n.len
  simp [nodeCells, List.getElem?_append, this, hi, List.getD_eq_getElem?_getD]
theorem NodeAt.cl (n : NodeAt w b x s l r h) : w.cell? ⟨b, 33, none⟩ = some (.pointer (ptrA l)) := by
  rw [cell_at n.blk]
  have := n.len
  simp [nodeCells, List.getElem?_append, this]
theorem NodeAt.cr (n : NodeAt w b x s l r h) : w.cell? ⟨b, 34, none⟩ = some (.pointer (ptrA r)) := by
  rw [cell_at n.blk]
  have := n.len
  simp [nodeCells, List.getElem?_append, this]
theorem NodeAt.ch (n : NodeAt w b x s l r h) : w.cell? ⟨b, 35, none⟩ = some (.int .i64 h) := by
  rw [cell_at n.blk]
  have := n.len
  simp [nodeCells, List.getElem?_append, this]
theorem NodeAt.move (n : NodeAt w b x s l r h) (hm : w1.heap[b]? = w.heap[b]?) : NodeAt w1 b x s l r h := ⟨n.len, hm.trans n.blk⟩
theorem NodeAt.lt (n : NodeAt w b x s l r h) : b < w.heap.size := (Array.getElem?_eq_some_iff.1 n.blk).1
theorem NodeAt.far (n : NodeAt w b x s l r h) {p : Addr} (hp : b ≠ p.block) (u : Value) : NodeAt (w.setCell p u) b x s l r h := n.move (Below.heap_setCell w p u b hp)
theorem NodeAt.alloc (n : NodeAt w b x s l r h) (o : Obj) : NodeAt (w.alloc o) b x s l r h := n.move (Below.heap_alloc w o b n.lt)
theorem NodeAt.drew (n : NodeAt w b x s l r h) : NodeAt w.drew b x s l r h := n.move rfl
theorem NodeAt.drewN (n : NodeAt w b x s l r h) (k : Nat) : NodeAt (w.drewN k) b x s l r h := n.move rfl
theorem store_at {g o : Nat} {cur : List Value} {T : TypeId} (hb : w.heap[g]? = some (.cells cur.toArray T (0, 0))) (ho : o < cur.length) (u : Value) : (w.setCell ⟨g, o, none⟩ u).heap[g]? = some (.cells (cur.set o u).toArray T (0, 0)) := by
  obtain ⟨cur', c1, c2, c3⟩ := setCells_row [u] o w cur.toArray hb (by simp; omega)
  have hw : w.setCells g o [u] = w.setCell ⟨g, o, none⟩ u := rfl
  rw [hw] at c1
  have he : cur' = (cur.set o u).toArray := by
    apply Array.toList_inj.1
    rw [c3]
    simp
    rw [List.set_eq_take_append_cons_drop, if_pos ho]
  rw [he] at c1
  exact c1
theorem NodeAt.setH (n : NodeAt w b x s l r h) (h' : Int) : NodeAt (w.setCell ⟨b, 35, none⟩ (.int .i64 h')) b x s l r h' := by
  have hl := n.len
  refine ⟨hl, ?_⟩
  rw [store_at n.blk (by simp [nodeCells, hl])]
  congr 3
  simp [nodeCells, List.set_append, hl]
theorem NodeAt.setL (n : NodeAt w b x s l r h) (l' : Option Nat) : NodeAt (w.setCell ⟨b, 33, none⟩ (.pointer (ptrA l'))) b x s l' r h := by
  have hl := n.len
  refine ⟨hl, ?_⟩
  rw [store_at n.blk (by simp [nodeCells, hl])]
  congr 3
  simp [nodeCells, List.set_append, hl]
theorem NodeAt.setR (n : NodeAt w b x s l r h) (r' : Option Nat) : NodeAt (w.setCell ⟨b, 34, none⟩ (.pointer (ptrA r'))) b x s l r' h := by
  have hl := n.len
  refine ⟨hl, ?_⟩
  rw [store_at n.blk (by simp [nodeCells, hl])]
  congr 3
  simp [nodeCells, List.set_append, hl]
theorem NodeAt.setBit (n : NodeAt w b x s l r h) (i : Nat) (hi : i < 32) (u : Int) : NodeAt (w.setCell ⟨b, 1 + i, none⟩ (.int .u64 u)) b x (s.set i u) l r h := by
  have hl := n.len
  refine ⟨by simpa using hl, ?_⟩
  rw [store_at n.blk (by simp [nodeCells, hl]; omega)]
  congr 3
  rw [Nat.add_comm]
  simp [nodeCells, List.set_append, hl, hi, List.map_set]
end
/-- A node's height, 0 of none. -/
def HAt (w : World) (p : Option Nat) (a : Int) : Prop :=
  match p with
  | none => a = 0
  | some b => w.cell? ⟨b, 35, none⟩ = some (.int .i64 a)

set_option maxRecDepth 100000 in
theorem maxH_calls {w : World} {b : Nat} {x : Int} {s : List Int} {l r : Option Nat} {h a c : Int} (n : NodeAt w b x s l r h) (hl : HAt w l a) (hr : HAt w r c) :
    Calls Tryd.prog 69 #[.pointer (some ⟨b, 0, none⟩)] w fun e w' => e = .returned (.int .i64 (if c < a then a else c)) ∧ w = w' := by
  have f1 := n.cl
  have f2 := n.cr
  clear n
  by_cases hac : c < a
  · rw [if_pos hac]
    rcases l with _ | l <;> rcases r with _ | r <;> simp only [HAt] at hl hr <;> (try subst hl) <;> (try subst hr) <;> simp only [ptrA] at f1 f2 <;> first
      | omega
      | (go_enter Tryd.func69, Tryd.ntmps69
         go_wp2
         go_ret
         exact ⟨rfl, rfl⟩)
  · rw [if_neg hac]
    rcases l with _ | l <;> rcases r with _ | r <;> simp only [HAt] at hl hr <;> (try subst hl) <;> (try subst hr) <;> simp only [ptrA] at f1 f2 <;>
      (go_enter Tryd.func69, Tryd.ntmps69
       go_wp2
       go_ret
       exact ⟨rfl, rfl⟩)
set_option maxRecDepth 100000 in
theorem balF_calls {w : World} {b : Nat} {x : Int} {s : List Int} {l r : Option Nat} {h a c : Int} (n : NodeAt w b x s l r h) (hl : HAt w l a) (hr : HAt w r c) (ha : 0 ≤ a ∧ a ≤ 1000000) (hc : 0 ≤ c ∧ c ≤ 1000000) :
    Calls Tryd.prog 70 #[.pointer (some ⟨b, 0, none⟩)] w fun e w' => e = .returned (.int .i64 (a - c)) ∧ w = w' := by
  have f1 := n.cl
  have f2 := n.cr
  clear n
  obtain ⟨a1, a2⟩ := ha
  obtain ⟨c1, c2⟩ := hc
  rcases l with _ | l <;> rcases r with _ | r <;> simp only [HAt] at hl hr <;> (try subst hl) <;> (try subst hr) <;> simp only [ptrA] at f1 f2 <;>
    (go_enter Tryd.func70, Tryd.ntmps70
     go_wp2
     go_ret
     exact ⟨by simp, rfl⟩)
set_option maxRecDepth 100000 in
theorem balF_nil {w : World} : Calls Tryd.prog 70 #[.pointer none] w fun e w' => e = .returned (.int .i64 0) ∧ w = w' := by
  go_enter Tryd.func70, Tryd.ntmps70
  go_wp2
  go_ret
  exact ⟨rfl, rfl⟩
set_option maxRecDepth 100000 in
theorem maxH_nil {w : World} : Calls Tryd.prog 69 #[.pointer none] w fun e w' => e = .returned (.int .i64 0) ∧ w = w' := by
  go_enter Tryd.func69, Tryd.ntmps69
  go_wp2
  go_ret
  exact ⟨rfl, rfl⟩
end Go.Proofs.YtebgaedalbdhaaaDoor.Av
