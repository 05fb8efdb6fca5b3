/- Words for walks, beside the print's: the conversions []byte(s) (a constant's row that is marked; a text's bytes in a new row). -/
import Derived.Test.YtjhmpcbpbdkddaaGreatWMore
import Derived.Lib.ConvBytes
import Derived.Lib.OthersKept
import Derived.Deep.Onto
import Derived.Laws.RangeAny
namespace Go.Proofs.YtjhmpcbpbdkddaaGreat.Wk
open Go.RowKit Go.Proofs.YtjhmpcbpbdkddaaGreatW.PrintWords Go.Proofs.YtjhmpcbpbdkddaaGreatW.PrintLast Go.Proofs.YtjhmpcbpbdkddaaGreatW.PrintMore
set_option linter.unusedVariables false

theorem freeze_at (w : World) (a : Addr) (k : Nat) (h : k ≠ a.block) (n : Nat) : (w.freeze a n).heap[k]? = w.heap[k]? := by
  unfold World.freeze
  split
  · rfl
  · simp only [Array.getElem?_modify]
    rw [if_neg (fun e => h e.symm)]
theorem freeze_size (w : World) (a : Addr) (n : Nat) : (w.freeze a n).heap.size = w.heap.size := by
  unfold World.freeze
  split
  · rfl
  · simp
theorem freeze_cell (w : World) (a : Addr) (n : Nat) (p : Addr) : (w.freeze a n).cell? p = w.cell? p := by
  by_cases h : p.block = a.block
  · unfold World.freeze
    split
    · rfl
    · unfold World.cell?
      simp only [Array.getElem?_modify, h, if_true]
      cases w.heap[a.block]? with
      | none => rfl
      | some o => cases o <;> rfl
  · unfold World.cell?
    rw [freeze_at w a p.block h n]
theorem below_freeze {N : Nat} {w0 w : World} (h : Below N w0 w) (a : Addr) (n : Nat) (ha : N ≤ a.block) : Below N w0 (w.freeze a n) :=
  ⟨by unfold World.freeze; split <;> exact h.os, by unfold World.freeze; split <;> exact h.tape, by unfold World.freeze; split <;> exact h.output, by rw [freeze_size]; exact h.size,
    fun k hk => (freeze_at w a k (by omega) n).trans (h.block k hk)⟩
/-- What reads cell by cell alone. -/
theorem C_cells {w w1 : World} {k : IntKind} {A : Option Addr} {n : Nat} {xs : List Int} (h : Kd.C (Kd.int k) w A n xs) (hc : ∀ p, w1.cell? p = w.cell? p) : Kd.C (Kd.int k) w1 A n xs := by
  refine Kd.C_of_reads (h1 := fun _ => rfl) (enc := Value.int k) (d := (0 : Int)) ?_
  have h2 := Kd.reads_of_C (h1 := fun _ => rfl) (enc := Value.int k) (d := (0 : Int)) h
  exact ⟨h2.1, h2.2.1, fun hn => by
    obtain ⟨ad, e, hr⟩ := h2.2.2 hn
    exact ⟨ad, e, fun j hj => (hc _).trans (hr j hj)⟩⟩
/-- A constant's row turned to its own type: it is marked, and reads as it did. -/
theorem conv_same {P : Program} {t e : TypeId} (ht : P.underlying t = some (.slice e)) (he : P.underlying e = some (.int .u8)) {w w0 : World} {N base : Nat} {ok : Nat → Prop} {A : Option Addr} {n c : Nat} {xs : List Int}
    (h : Kd.R (Kd.int .u8) e w base ok (.slice A n c) xs) (hn : 0 < xs.length) (hb : N ≤ base) (hB : Below N w0 w) :
    ∃ w1, (convert t t (.slice A n c)).run P w = .ok (.slice A n c) w1 ∧ Kd.C (Kd.int .u8) w1 A n xs ∧ Below N w0 w1 ∧ w1.heap.size = w.heap.size ∧ ∀ p, w1.cell? p = w.cell? p := by
  have hR := Kd.R_reads' h
  have hl : xs.length = n := hR.1.symm
  obtain ⟨h0, inner, ho, hr⟩ := h
  rcases ho.2 with ⟨e1, e2⟩ | ⟨g, cap, cur, e1, hg, hh, r⟩
  · omega
  · injection e1 with eA eN eC
    subst eA eC
    have hsh : w.shape? g = some (e, cur.size) := by unfold World.shape?; rw [hh]
    refine ⟨w.freeze ⟨g, cur.size, none⟩ 1, ?_, ?_, below_freeze hB _ _ (by show N ≤ g; omega), freeze_size _ _ _, freeze_cell _ _ _⟩
    · simp [convert, run_underlying ht, run_underlying he, markStringish, hsh]
    · have h3 := hR.2.2
      rw [hl] at h3
      exact C_cells h3 (freeze_cell _ _ _)
/-- A text's bytes in a row of their own. -/
theorem conv_bytes {P : Program} {src t e : TypeId} {u : TypeDesc} (hs : P.underlying src = some .string) (ht : P.underlying t = some (.slice e)) (he : P.underlying e = some (.int .u8)) {w w0 : World} {N : Nat} (s : ByteArray) (hsz : s.size ≤ 140737488351232) (hN : N ≤ w.heap.size) (hB : Below N w0 w) :
    ∃ A c w1, (convert src t (.string s)).run P w = .ok (.slice A s.size c) w1 ∧ Kd.C (Kd.int .u8) w1 A s.size (bytesOf s) ∧ s.size ≤ c ∧ Below N w0 w1 ∧ Below w.heap.size w w1 := by
  have hBw : ∀ {M : Nat} {v : World}, M ≤ w.heap.size → Below M v w → Below M v (Lib.bytesWorld w e s) := fun {M v} hM hb => by
    refine ⟨?_, ?_, ?_, by rw [Lib.bytesWorld_size]; have := hb.size; omega, fun k hk => (Lib.bytesWorld_at_old w e s k (by omega)).trans (hb.block k hk)⟩
    · have : (Lib.bytesWorld w e s).os = w.os := by unfold Lib.bytesWorld World.freeze; split <;> rfl
      rw [this]; exact hb.os
    · have : (Lib.bytesWorld w e s).tape = w.tape := by unfold Lib.bytesWorld World.freeze; split <;> rfl
      rw [this]; exact hb.tape
    · have : (Lib.bytesWorld w e s).output = w.output := by unfold Lib.bytesWorld World.freeze; split <;> rfl
      rw [this]; exact hb.output
  refine ⟨some ⟨w.heap.size, 0, none⟩, grownCap w s.size 0 e, Lib.bytesWorld w e s, Lib.run_convert_string_bytes w src t e s hs ht he, ?_, ?_, hBw hN hB, hBw (Nat.le_refl _) (Below.refl _ _)⟩
  · refine Kd.C_of_reads (h1 := fun _ => rfl) (enc := Value.int .u8) (d := (0 : Int)) ⟨by simp [bytesOf], by omega, fun hn => ⟨_, rfl, fun j hj => ?_⟩⟩
    rw [add_plain, Lib.bytesWorld_cell w e s j hj]
    have e : (bytesOf s).getD j 0 = ((s.data.toList.getD j 0).toNat : Int) := by
      unfold bytesOf
      rw [List.getD_eq_getElem?_getD, List.getD_eq_getElem?_getD, List.getElem?_map]
      cases s.data.toList[j]? <;> rfl
    rw [e]
  · unfold grownCap Question.cut
    exact Nat.le_add_right _ _

section
variable {P : Program} {ops : Array Oper} {Q : Exit → Act → World → Prop} {rest : List Oper} {o : Oper} {a : Act}
/-- An operation of a plain region that yields a value. -/
theorem valueL_ {w w1 : World} {v : Value} (N : Option Tmp) (hd : o.dst = N) (hg : o.guard = none) (hrun : (execOp a.eval o).run P w = .ok (.value v) w1) (h : wpList P ops Q rest (a.put N v) w1) : wpList P ops Q (o :: rest) a w := by
  refine wpList_plain hg fun K hK => ?_
  unfold Oper.wp
  rw [hrun]
  subst hd
  exact hK _ _ h
/-- A store of a plain region. -/
theorem skipL_ {w w1 : World} (hd : o.dst = none) (hg : o.guard = none) (hrun : (execOp a.eval o).run P w = .ok .skip w1) (h : wpList P ops Q rest a w1) : wpList P ops Q (o :: rest) a w := by
  refine wpList_plain hg fun K hK => ?_
  unfold Oper.wp
  rw [hrun]
  show K (a.put o.dst undef) w1
  rw [hd]
  exact hK _ _ h
/-- A local array that is made empty: 'var a [n]T', 'a := [n]T{}'. -/
theorem arrL_ {o1 o2 o3 : Oper} {w : World} (zs : Array Value) {T : TypeId} {N1 N2 : Tmp} (h1 : o1.dst = some N1) (g1 : o1.guard = none) (h2 : o2.dst = some N2) (g2 : o2.guard = none) (h3 : o3.dst = none) (g3 : o3.guard = none)
    (hb : ∀ (a : Act) w, (execOp a.eval o1).run P w = .ok (.value (.agg zs)) w) (ha : ∀ (a : Act) w, (execOp a.eval o2).run P w = .ok (.value (.pointer (some ⟨w.heap.size, 0, none⟩))) (w.alloc (.cells zs T)))
    (ho3 : o3.op = .store T (.tmp N2) (.tmp N1)) (hi : (P.info? T).map (·.size) = some zs.size) (hone : ∀ q ∈ zs.toList, q.oneCell' = true)
    (e1 : ((a.put (some N1) (.agg zs)).put (some N2) (.pointer (some ⟨w.heap.size, 0, none⟩))).eval (.tmp N2) = .pointer (some ⟨w.heap.size, 0, none⟩)) (e2 : ((a.put (some N1) (.agg zs)).put (some N2) (.pointer (some ⟨w.heap.size, 0, none⟩))).eval (.tmp N1) = .agg zs)
    (h : ∀ w2 cur, Below w.heap.size w w2 → w2.heap[w.heap.size]? = some (.cells cur T (0, 0)) → cur.toList = zs.toList → w2.heap.size = w.heap.size + 1 → wpList P ops Q rest ((a.put (some N1) (.agg zs)).put (some N2) (.pointer (some ⟨w.heap.size, 0, none⟩))) w2) :
    wpList P ops Q (o1 :: o2 :: o3 :: rest) a w := by
  refine valueL_ (some N1) h1 g1 (hb _ _) (valueL_ (some N2) h2 g2 (ha _ _) ?_)
  have hh : (w.alloc (.cells zs T)).heap[w.heap.size]? = some (.cells zs T (0, 0)) := heap_alloc_new w _
  have hrun : (Instr.storeAt T (.pointer (some ⟨w.heap.size, 0, none⟩)) (.agg zs)).run P (w.alloc (.cells zs T)) = .ok () ((w.alloc (.cells zs T)).setCells w.heap.size 0 zs.toList) :=
    run_store_run T (.agg zs) zs.toList hh rfl (by rw [hi, Array.length_toList]) (by simp) hone
  obtain ⟨cur', c1, c2, c3⟩ := setCells_row zs.toList 0 (w.alloc (.cells zs T)) zs hh (by simp)
  obtain ⟨s1, s2, s3, s4⟩ := setCells_same w.heap.size zs.toList 0 (w.alloc (.cells zs T))
  refine skipL_ h3 g3 (w1 := (w.alloc (.cells zs T)).setCells w.heap.size 0 zs.toList) ?_ (h _ cur' ?_ c1 ?_ ?_)
  · unfold execOp
    simp only [ho3, e1, e2, Sem.run_bind, Sem.run_pure, Result.andThen_ok, hrun]
  · refine ⟨s1, s2, s3, by rw [s4]; simp, fun k hk => ?_⟩
    rw [setCells_far _ _ k (by omega)]
    exact Below.heap_alloc w _ k hk
  · rw [c3]; simp
  · rw [s4]; simp
/-- Two local arrays that are made empty. -/
theorem arr2L_ {o1 o2 o3 o4 o5 o6 : Oper} {w : World} (zs : Array Value) {T : TypeId} {N1 N2 N3 N4 : Tmp} (h1 : o1.dst = some N1) (g1 : o1.guard = none) (h2 : o2.dst = some N2) (g2 : o2.guard = none) (h3 : o3.dst = some N3) (g3 : o3.guard = none) (h4 : o4.dst = some N4) (g4 : o4.guard = none) (h5 : o5.dst = none) (g5 : o5.guard = none) (h6 : o6.dst = none) (g6 : o6.guard = none)
    (hb : ∀ (a : Act) w, (execOp a.eval o1).run P w = .ok (.value (.agg zs)) w) (hb2 : ∀ (a : Act) w, (execOp a.eval o2).run P w = .ok (.value (.agg zs)) w) (ha : ∀ (a : Act) w, (execOp a.eval o3).run P w = .ok (.value (.pointer (some ⟨w.heap.size, 0, none⟩))) (w.alloc (.cells zs T))) (ha2 : ∀ (a : Act) w, (execOp a.eval o4).run P w = .ok (.value (.pointer (some ⟨w.heap.size, 0, none⟩))) (w.alloc (.cells zs T)))
    (ho5 : o5.op = .store T (.tmp N3) (.tmp N1)) (ho6 : o6.op = .store T (.tmp N4) (.tmp N2)) (hi : (P.info? T).map (·.size) = some zs.size) (hone : ∀ q ∈ zs.toList, q.oneCell' = true)
    (a4 : Act) (e0 : a4 = ((((a.put (some N1) (.agg zs)).put (some N2) (.agg zs)).put (some N3) (.pointer (some ⟨w.heap.size, 0, none⟩))).put (some N4) (.pointer (some ⟨w.heap.size + 1, 0, none⟩))))
    (e1 : a4.eval (.tmp N3) = .pointer (some ⟨w.heap.size, 0, none⟩)) (e2 : a4.eval (.tmp N1) = .agg zs) (e3 : a4.eval (.tmp N4) = .pointer (some ⟨w.heap.size + 1, 0, none⟩)) (e4 : a4.eval (.tmp N2) = .agg zs)
    (h : ∀ w2 cur cur2, Below w.heap.size w w2 → w2.heap[w.heap.size]? = some (.cells cur T (0, 0)) → w2.heap[w.heap.size + 1]? = some (.cells cur2 T (0, 0)) → cur.toList = zs.toList → cur2.toList = zs.toList → w2.heap.size = w.heap.size + 2 → wpList P ops Q rest a4 w2) :
    wpList P ops Q (o1 :: o2 :: o3 :: o4 :: o5 :: o6 :: rest) a w := by
  refine valueL_ (some N1) h1 g1 (hb _ _) (valueL_ (some N2) h2 g2 (hb2 _ _) (valueL_ (some N3) h3 g3 (ha _ _) (valueL_ (some N4) h4 g4 (ha2 _ _) ?_)))
  have hs1 : (w.alloc (.cells zs T)).heap.size = w.heap.size + 1 := by simp
  have hs2 : ((w.alloc (.cells zs T)).alloc (.cells zs T)).heap.size = w.heap.size + 2 := by simp
  have hh : (w.alloc (.cells zs T)).heap[w.heap.size]? = some (.cells zs T (0, 0)) := heap_alloc_new w _
  have hh1 : ((w.alloc (.cells zs T)).alloc (.cells zs T)).heap[w.heap.size]? = some (.cells zs T (0, 0)) := (Below.heap_alloc _ _ _ (by omega)).trans hh
  have hh2 : ((w.alloc (.cells zs T)).alloc (.cells zs T)).heap[w.heap.size + 1]? = some (.cells zs T (0, 0)) := by rw [← hs1]; exact heap_alloc_new _ _
  rw [hs1, ← e0]
  have hrun : (Instr.storeAt T (.pointer (some ⟨w.heap.size, 0, none⟩)) (.agg zs)).run P ((w.alloc (.cells zs T)).alloc (.cells zs T)) = .ok () (((w.alloc (.cells zs T)).alloc (.cells zs T)).setCells w.heap.size 0 zs.toList) :=
    run_store_run T (.agg zs) zs.toList hh1 rfl (by rw [hi, Array.length_toList]) (by simp) hone
  obtain ⟨cur', c1, c2, c3⟩ := setCells_row zs.toList 0 ((w.alloc (.cells zs T)).alloc (.cells zs T)) zs hh1 (by simp)
  obtain ⟨s1, s2, s3, s4⟩ := setCells_same w.heap.size zs.toList 0 ((w.alloc (.cells zs T)).alloc (.cells zs T))
  have far := fun k (h : k ≠ w.heap.size) => setCells_far (g := w.heap.size) zs.toList 0 (w := (w.alloc (.cells zs T)).alloc (.cells zs T)) k h
  generalize ((w.alloc (.cells zs T)).alloc (.cells zs T)).setCells w.heap.size 0 zs.toList = W2 at *
  have hh3 : W2.heap[w.heap.size + 1]? = some (.cells zs T (0, 0)) := (far _ (by omega)).trans hh2
  have hrun2 : (Instr.storeAt T (.pointer (some ⟨w.heap.size + 1, 0, none⟩)) (.agg zs)).run P W2 = .ok () (W2.setCells (w.heap.size + 1) 0 zs.toList) :=
    run_store_run T (.agg zs) zs.toList hh3 rfl (by rw [hi, Array.length_toList]) (by simp) hone
  obtain ⟨cur2', d1, d2, d3⟩ := setCells_row zs.toList 0 W2 zs hh3 (by simp)
  obtain ⟨t1, t2, t3, t4⟩ := setCells_same (w.heap.size + 1) zs.toList 0 W2
  refine skipL_ h5 g5 (w1 := W2) ?_ (skipL_ h6 g6 (w1 := W2.setCells (w.heap.size + 1) 0 zs.toList) ?_ (h _ cur' cur2' ?_ ?_ d1 ?_ ?_ ?_))
  · unfold execOp
    simp only [ho5, e1, e2, Sem.run_bind, Sem.run_pure, Result.andThen_ok, hrun]
  · unfold execOp
    simp only [ho6, e3, e4, Sem.run_bind, Sem.run_pure, Result.andThen_ok, hrun2]
  · refine ⟨t1.trans s1, t2.trans s2, t3.trans s3, by rw [t4, s4]; omega, fun k hk => ?_⟩
    rw [setCells_far _ _ k (by omega), far k (by omega)]
    exact (Below.heap_alloc _ _ k (by omega)).trans (Below.heap_alloc w _ k hk)
  · rw [setCells_far _ _ _ (by omega)]; exact c1
  · rw [c3]; simp
  · rw [d3]; simp
  · rw [t4, s4]; exact hs2
end

/-- A slice of one-cell elements in a block of the call's own, of whatever type (a local array's, a row's), from its begin on. -/
def AR (w : World) (base : Nat) (v : Value) (cs : List Value) : Prop :=
  ∃ g cap cur T, v = .slice (some ⟨g, 0, none⟩) cs.length cap ∧ base ≤ g ∧ w.heap[g]? = some (.cells cur T (0, 0)) ∧ cs.length ≤ cap ∧ cap ≤ cur.size ∧ cap ≤ maxLen ∧ cur.toList.take cs.length = cs
theorem AR.made {w : World} {g base : Nat} {cur : Array Value} {T : TypeId} {n : Nat} (h : w.heap[g]? = some (.cells cur T (0, 0))) (hb : base ≤ g) (hn : n ≤ cur.size) (hm : n ≤ maxLen) : AR w base (.slice (some ⟨g, 0, none⟩) 0 n) [] :=
  ⟨g, n, cur, T, rfl, hb, h, Nat.zero_le _, hn, hm, by simp⟩
theorem AR.alloc {w : World} {base : Nat} {v : Value} {cs : List Value} (h : AR w base v cs) (o : Obj) : AR (w.alloc o) base v cs := by
  obtain ⟨g, cap, cur, T, hv, hb, hg, r⟩ := h
  exact ⟨g, cap, cur, T, hv, hb, (Below.heap_alloc w o g (Array.getElem?_eq_some_iff.1 hg).1).trans hg, r⟩
theorem AR.drew {w : World} {base : Nat} {v : Value} {cs : List Value} (h : AR w base v cs) : AR w.drew base v cs := h
theorem AR.drewN {w : World} {base : Nat} {v : Value} {cs : List Value} (h : AR w base v cs) (n : Nat) : AR (w.drewN n) base v cs := h
theorem AR.below {w w1 : World} {base N : Nat} {v : Value} {cs : List Value} (h : AR w base v cs) (hb : Below w.heap.size w w1) : AR w1 base v cs := by
  obtain ⟨g, cap, cur, T, hv, hb1, hg, r⟩ := h
  exact ⟨g, cap, cur, T, hv, hb1, (hb.block g (Array.getElem?_eq_some_iff.1 hg).1).trans hg, r⟩
theorem AR.cell {w : World} {base : Nat} {v : Value} {cs : List Value} (h : AR w base v cs) : ∃ g cap, v = .slice (some ⟨g, 0, none⟩) cs.length cap ∧ cs.length ≤ cap ∧ cap ≤ maxLen ∧ base ≤ g ∧ ∀ j, j < cs.length → w.cell? ⟨g, j, none⟩ = cs[j]? := by
  obtain ⟨g, cap, cur, T, hv, hb, hg, h1, h2, h3, h4⟩ := h
  refine ⟨g, cap, hv, h1, h3, hb, fun j hj => ?_⟩
  rw [cell_of_row w g _ cur T (0, 0) hg]
  conv => rhs; rw [← h4]
  rw [List.getElem?_take_of_lt hj, Array.getElem?_toList]
/-- Texts, as a row that is read. -/
theorem AR.strings {w : World} {base : Nat} {v : Value} {xs : List ByteArray} (h : AR w base v (xs.map Value.string)) : ∃ A c, v = .slice A xs.length c ∧ xs.length ≤ c ∧ Kd.C Kd.string w A xs.length xs := by
  obtain ⟨g, cap, rfl, h1, h2, h3, h4⟩ := h.cell
  rw [List.length_map] at h1 h4 ⊢
  refine ⟨_, _, rfl, h1, Kd.C_of_reads (h1 := fun _ => rfl) (enc := Value.string) (d := ByteArray.empty) ⟨rfl, by simp only [maxLen] at h2; omega, fun _ => ⟨_, rfl, fun j hj => ?_⟩⟩⟩
  rw [add_plain, h4 j hj, List.getElem?_map, List.getElem?_eq_getElem hj]
  simp [List.getD_eq_getElem?_getD, hj]
theorem AR.of_own {w : World} {base e n : Nat} {v : Value} {cs : List Value} (h : w.ownsRow base e 1 v n cs) (hn : 0 < n) : AR w base v cs := by
  obtain ⟨h1, h2⟩ := h
  rcases h2 with ⟨_, h0⟩ | ⟨g, cap, cur, rfl, hb, hg, hnc, hcm, hcs, htake⟩
  · omega
  · rw [Nat.mul_one] at h1 htake hcs
    subst h1
    exact ⟨g, cap, cur, e, rfl, hb, hg, hnc, by omega, hcm, htake⟩
section
variable {P : Program} {ops : Array Oper} {Q : Exit → Act → World → Prop} {rest : List Oper} {o : Oper} {a : Act}
/-- One element more. -/
theorem AR.run_append {W w0 : World} {N base : Nat} (t ty e : TypeId) (z : Value) (bytes : Nat) (ht : P.underlying t = some (.slice e)) (hinfo : (P.info? e).map (fun i => (i.zero, i.size, i.bytes)) = some (some z, 1, bytes)) (hz : z.cells.size = 1)
    {v : Value} {cs : List Value} (h : AR W base v cs) (hN : N ≤ base) (hbW : base ≤ W.heap.size) (hB : Below N w0 W) (ad : Addr) (c : Nat) (x : Value) (hx : W.cell? ad = some x) (hone : x.oneCell' = true) (hl : (cs.length + 1) * bytes ≤ 140737488355328) (h63 : cs.length + 1 ≤ maxLen) :
    ∃ v' w', (Builtin.append_ #[t, t] ty #[v, .slice (some ad) 1 c]).run P W = .ok v' w' ∧ AR w' base v' (cs ++ [x]) ∧ Below N w0 w' ∧ W.heap.size ≤ w'.heap.size ∧ (∀ k, k < W.heap.size → some k ≠ v.ownBlock → w'.heap[k]? = W.heap[k]?) ∧ (v'.ownBlock = v.ownBlock ∨ ∃ k, v'.ownBlock = some k ∧ W.heap.size ≤ k) := by
  obtain ⟨i0, hi, hzz⟩ := Option.map_eq_some_iff.1 hinfo
  simp only [Prod.mk.injEq] at hzz
  obtain ⟨hz0, hz1, hz2⟩ := hzz
  have hnews : ∀ j u, [x][j]? = some u → W.cell? (ad.add j) = some u := by
    intro j u hu
    cases j with
    | zero =>
      simp at hu; subst hu
      have : ad.add 0 = ad := by unfold Addr.add; cases ad; split <;> simp_all
      rw [this]; exact hx
    | succ j => simp at hu
  obtain ⟨g, cap, cur, T, rfl, hb, hg, h1, h2, h3, h4⟩ := h
  have hglt : g < W.heap.size := (Array.getElem?_eq_some_iff.1 hg).1
  by_cases hr : cs.length + 1 ≤ cap
  · have hrun := run_append_room_cells (P := P) W t ty e i0 ht hi g 0 cs.length cap ad 1 c [x] (by simp [hz1]) hnews (by simpa using hone) hr
      (fun j hj => by simp at hj; subst hj; rw [cell_of_row W g _ cur T (0, 0) hg]; simp [hz1]; omega) (fun j _ => blk_frozen hg _)
    rw [hz1, Nat.zero_add, Nat.mul_one] at hrun
    obtain ⟨cur', c1, c2, c3⟩ := setCells_row [x] cs.length W cur hg (by simp; omega)
    obtain ⟨s1, s2, s3, s4⟩ := setCells_same g [x] cs.length W
    refine ⟨_, _, hrun, ⟨g, cap, cur', T, by simp, hb, c1, by simp; omega, by omega, h3, ?_⟩, ⟨s1.trans hB.os, s2.trans hB.tape, s3.trans hB.output, by rw [s4]; exact hB.size, fun k hk => ?_⟩, by rw [s4]; exact Nat.le_refl _, fun k hk hne => setCells_far _ _ k (fun e => hne (by simp [Value.ownBlock, e])), .inl rfl⟩
    · rw [c3]
      simp
      rw [List.take_append]
      have hl1 : (List.take cs.length cur.toList).length = cs.length := by rw [h4]
      rw [hl1, h4]
      simp
      exact List.take_of_length_le (by omega)
    · rw [setCells_far _ _ k (by omega)]; exact hB.block k hk
  · obtain ⟨v', w', hrun, hown, hgr⟩ := run_append_arg_grows (P := P) W t ty e i0 z 1 bytes ht hi hz0 hz1 hz2 hz (by omega) ⟨g, 0, none⟩ cs.length cap cs (by simp)
      (fun j u hu => by
        have hj : j < cs.length := by
          rcases Nat.lt_or_ge j cs.length with h | h
          · exact h
          · rw [List.getElem?_eq_none h] at hu; cases hu
        rw [add_plain, cell_of_row W g _ cur T (0, 0) hg, ← hu]
        conv => rhs; rw [← h4]
        rw [List.getElem?_take_of_lt hj, Array.getElem?_toList])
      ad 1 c [x] (by simp) hnews (by omega) h63 hl
    refine ⟨v', w', hrun, AR.of_own (own_weaken hown hbW) (by omega), ⟨hgr.os.trans hB.os, hgr.tape.trans hB.tape, hgr.output.trans hB.output, Nat.le_trans hB.size hgr.size, fun k hk => ?_⟩, hgr.size, fun k hk _ => hgr.block k hk (by simp), ?_⟩
    · exact (hgr.block k (by omega) (by simp)).trans (hB.block k hk)
    · right
      rcases hown.2 with ⟨_, h0⟩ | ⟨g', cap', cur', rfl, hb', _⟩
      · omega
      · exact ⟨g', rfl, hb'⟩
theorem AR.append {W w0 : World} {N base : Nat} (hgd : o.guard = none) (s x : Operand) (t : TypeId) (e : TypeId) (z : Value) (bytes : Nat) (ho : o.op = .call { callee := .builtin .append, args := #[s, x], argTypes := #[t, t] })
    (ht : P.underlying t = some (.slice e)) (hinfo : (P.info? e).map (fun i => (i.zero, i.size, i.bytes)) = some (some z, 1, bytes)) (hz : z.cells.size = 1)
    {v : Value} {cs : List Value} (hs : a.eval s = v) (h : AR W base v cs) (hN : N ≤ base) (hbW : base ≤ W.heap.size) (hB : Below N w0 W) (ad : Addr) (c : Nat) (u : Value) (hx : a.eval x = .slice (some ad) 1 c) (hu : W.cell? ad = some u) (hone : u.oneCell' = true) (hl : (cs.length + 1) * bytes ≤ 140737488355328) (h63 : cs.length + 1 ≤ maxLen)
    (hK : ∀ v' w', AR w' base v' (cs ++ [u]) → Below N w0 w' → W.heap.size ≤ w'.heap.size → (∀ k, k < W.heap.size → some k ≠ v.ownBlock → w'.heap[k]? = W.heap[k]?) → (v'.ownBlock = v.ownBlock ∨ ∃ k, v'.ownBlock = some k ∧ W.heap.size ≤ k) → wpList P ops Q rest (a.put o.dst v') w') : wpList P ops Q (o :: rest) a W := by
  refine wpList_plain hgd fun K hK' => ?_
  obtain ⟨v', w', hrun, r1, r2, r3, r4, r5⟩ := AR.run_append (P := P) t o.type e z bytes ht hinfo hz h hN hbW hB ad c u hu hone hl h63
  unfold Oper.wp
  simp [execOp, ho, resolve, invoke, builtin, hs, hx, hrun, Result.andThen]
  exact hK' _ _ (hK v' w' r1 r2 r3 r4 r5)
end

/-- All but the block of v's is as it was. -/
def Fr (w : World) (v : Value) (w' : World) : Prop := (∀ k, k < w.heap.size → some k ≠ v.ownBlock → w'.heap[k]? = w.heap[k]?) ∧ w.heap.size ≤ w'.heap.size
theorem Fr.refl (w : World) (v : Value) : Fr w v w := ⟨fun _ _ _ => rfl, Nat.le_refl _⟩
theorem AR.frame {w w' : World} {base : Nat} {v v2 : Value} {cs : List Value} (h : AR w base v cs) (hF : Fr w v2 w') (hne : v.ownBlock ≠ v2.ownBlock) : AR w' base v cs := by
  obtain ⟨g, cap, cur, T, hv, hb1, hg, r⟩ := h
  refine ⟨g, cap, cur, T, hv, hb1, (hF.1 g (Array.getElem?_eq_some_iff.1 hg).1 ?_).trans hg, r⟩
  rw [hv] at hne
  simpa [Value.ownBlock] using hne
theorem frame_step {w W w' : World} {v v0 : Value} (hF : Fr w v W) (hV : v0.ownBlock = v.ownBlock ∨ ∃ k, v0.ownBlock = some k ∧ w.heap.size ≤ k)
    {W2 : World} (hW : (∀ k, k < W.heap.size → W2.heap[k]? = W.heap[k]?) ∧ W.heap.size ≤ W2.heap.size) (h1 : W2.heap.size ≤ w'.heap.size) (h2 : ∀ k, k < W2.heap.size → some k ≠ v0.ownBlock → w'.heap[k]? = W2.heap[k]?) : Fr w v w' := by
  have hF2 := hF.2
  have hW2 := hW.2
  refine ⟨fun k hk hne => ?_, by omega⟩
  rw [h2 k (by omega) ?_, hW.1 k (by omega), hF.1 k hk hne]
  rcases hV with h | ⟨k', h, hk'⟩
  · rw [h]; exact hne
  · rw [h]; intro e; injection e with e; omega
theorem own_step {w W : World} {v v0 v' : Value} (hF : Fr w v W) (hV : v0.ownBlock = v.ownBlock ∨ ∃ k, v0.ownBlock = some k ∧ w.heap.size ≤ k)
    {n : Nat} (hn : W.heap.size ≤ n) (h : v'.ownBlock = v0.ownBlock ∨ ∃ k, v'.ownBlock = some k ∧ n ≤ k) : v'.ownBlock = v.ownBlock ∨ ∃ k, v'.ownBlock = some k ∧ w.heap.size ≤ k := by
  have hF2 := hF.2
  rcases h with h | ⟨k, h, hk⟩
  · rcases hV with hv | ⟨k', hv, hk'⟩
    · exact .inl (h.trans hv)
    · exact .inr ⟨k', h.trans hv, hk'⟩
  · exact .inr ⟨k, h, by omega⟩
theorem shape_of {w : World} {g n : Nat} {cur : Array Value} {T : TypeId} {fr : Nat × Nat} (h : w.heap[g]? = some (.cells cur T fr)) (hn : cur.size = n) : w.shape? g = some (T, n) := by
  unfold World.shape?; rw [h]; subst hn; rfl
theorem alloc_frame (W : World) (o : Obj) : (∀ k, k < W.heap.size → (W.alloc o).heap[k]? = W.heap[k]?) ∧ W.heap.size ≤ (W.alloc o).heap.size := ⟨fun k hk => Below.heap_alloc W o k hk, by simp⟩

/-! ### a row of bytes that is written cell by cell -/
/-- The row in block g holds xs; nothing else that lay in w0 has turned. -/
structure RowW (e : TypeId) (w0 W : World) (g : Nat) (xs : List Value) : Prop where
  row : W.heap[g]? = some (.cells xs.toArray e (0, 0))
  os : W.os = w0.os
  tape : W.tape = w0.tape
  output : W.output = w0.output
  size : w0.heap.size ≤ W.heap.size
  block : ∀ k, k < w0.heap.size → k ≠ g → W.heap[k]? = w0.heap[k]?
theorem RowW.cell {e : TypeId} {w0 W : World} {g : Nat} {xs : List Value} (h : RowW e w0 W g xs) (i : Nat) (u : Value) (hi : xs[i]? = some u) : W.cell? ⟨g, i, none⟩ = some u ∧ W.frozen? ⟨g, i, none⟩ = false := by
  refine ⟨?_, blk_frozen h.row _⟩
  rw [cell_of_row W g _ _ e (0, 0) h.row]
  simpa using hi
theorem RowW.alloc {e : TypeId} {w0 W : World} {g : Nat} {xs : List Value} (h : RowW e w0 W g xs) (o : Obj) : RowW e w0 (W.alloc o) g xs :=
  ⟨(Below.heap_alloc W o g (Array.getElem?_eq_some_iff.1 h.row).1).trans h.row, h.os, h.tape, h.output, Nat.le_trans h.size (by simp), fun k hk hne => (Below.heap_alloc W o k (by have := h.size; omega)).trans (h.block k hk hne)⟩
theorem RowW.drew {e : TypeId} {w0 W : World} {g : Nat} {xs : List Value} (h : RowW e w0 W g xs) : RowW e w0 W.drew g xs := ⟨h.row, h.os, h.tape, h.output, h.size, h.block⟩
theorem RowW.store {e : TypeId} {w0 W : World} {g : Nat} {xs : List Value} (h : RowW e w0 W g xs) (i : Nat) (u : Value) (hi : i < xs.length) : RowW e w0 (W.setCell ⟨g, i, none⟩ u) g (xs.set i u) := by
  obtain ⟨cur', c1, c2, c3⟩ := setCells_row [u] i W xs.toArray h.row (by simp; omega)
  obtain ⟨s1, s2, s3, s4⟩ := setCells_same g [u] i W
  have hw : W.setCells g i [u] = W.setCell ⟨g, i, none⟩ u := rfl
  rw [hw] at c1 s1 s2 s3 s4
  have he : cur' = (xs.set i u).toArray := by
    apply Array.toList_inj.1
    rw [c3]
    simp
    rw [List.set_eq_take_append_cons_drop, if_pos hi]
  rw [he] at c1
  refine ⟨c1, s1.trans h.os, s2.trans h.tape, s3.trans h.output, by rw [s4]; exact h.size, fun k hk hne => ?_⟩
  rw [← hw, setCells_far _ _ k hne]
  exact h.block k hk hne
theorem RowW.self {e : TypeId} {w0 W : World} {g : Nat} {xs : List Value} (h : RowW e w0 W g xs) : RowW e W W g xs := ⟨h.row, rfl, rfl, rfl, Nat.le_refl _, fun _ _ _ => rfl⟩
theorem RowW.trans {e : TypeId} {w0 w1 W : World} {g : Nat} {xs ys : List Value} (h : RowW e w0 w1 g xs) (k : RowW e w1 W g ys) : RowW e w0 W g ys :=
  ⟨k.row, k.os.trans h.os, k.tape.trans h.tape, k.output.trans h.output, Nat.le_trans h.size k.size, fun j hj hne => (k.block j (by have := h.size; omega) hne).trans (h.block j hj hne)⟩

/-! ### range over a text -/
theorem decode_tail (s : ByteArray) (pos : Nat) (h : pos < s.size) : ∀ k, 1 ≤ k → k < (Utf8.decode s pos).2 → pos + k < s.size ∧ 128 ≤ (s.get! (pos + k)).toNat := by
  have hc : ∀ k, ((decide (pos + k < s.size) && (s.get! (pos + k)).toNat / 64 == 2) = true) → pos + k < s.size ∧ 128 ≤ (s.get! (pos + k)).toNat := by
    intro k hk
    simp only [Bool.and_eq_true, decide_eq_true_eq, beq_iff_eq] at hk
    exact ⟨hk.1, by omega⟩
  intro k h1 h2
  have hcc : ∀ k, (s.get! (pos + k)).toNat / 64 = 2 → 128 ≤ (s.get! (pos + k)).toNat := fun k hk => by omega
  simp only [Utf8.decode] at h2
  split at h2
  · simp at h2; omega
  · split at h2
    · rename_i hh
      simp only [Bool.and_eq_true] at hh
      have a1 := hc 1 (by simp only [Bool.and_eq_true]; exact hh.2)
      split at h2 <;> simp at h2
      · obtain rfl : k = 1 := by omega
        exact a1
      · omega
    · split at h2
      · rename_i hh
        simp only [Bool.and_eq_true] at hh
        have a1 := hc 1 (by simp only [Bool.and_eq_true]; exact hh.1.2)
        have a2 := hc 2 (by simp only [Bool.and_eq_true]; exact hh.2)
        split at h2 <;> simp at h2
        · rcases (show k = 1 ∨ k = 2 by omega) with rfl | rfl <;> assumption
        · omega
      · split at h2
        · rename_i hh
          simp only [Bool.and_eq_true] at hh
          have a1 := hc 1 (by simp only [Bool.and_eq_true]; exact hh.1.1.2)
          have a2 := hc 2 (by simp only [Bool.and_eq_true]; exact hh.1.2)
          have a3 := hc 3 (by simp only [Bool.and_eq_true]; exact hh.2)
          split at h2 <;> simp at h2
          · rcases (show k = 1 ∨ k = 2 ∨ k = 3 by omega) with rfl | rfl | rfl <;> assumption
          · omega
        · simp at h2; omega
theorem bt_get (s : ByteArray) (i : Nat) (h : i < s.size) : bt s (i : Int) = ((s.get! i).toNat : Int) := by
  have : s.get! i = s[i]'h := by
    simp [ByteArray.get!, getElem!_pos, h]; rfl
  rw [this]
  unfold bt
  simp [h]
theorem bt_at (s : ByteArray) (i : Nat) (h : i < s.size) : bt s (i : Int) = ((s[i]'h).toNat : Int) := by
  unfold bt
  simp [h]
/-- What a step of a range over a text yields: a small byte itself; or a great rune, and great bytes are passed. -/
theorem decode_step (s : ByteArray) (pos : Nat) (h : pos < s.size) : ∃ c n : Nat, Utf8.decode s pos = (c, n) ∧ 1 ≤ n ∧ c ≤ 2147483647 ∧
    ((c < 128 ∧ n = 1 ∧ bt s (pos : Int) = (c : Int)) ∨ (128 ≤ c ∧ ∀ j, pos ≤ j → j < pos + n → j < s.size ∧ 128 ≤ bt s (j : Int))) := by
  have hg : s.get! pos = s[pos]'h := by simp [ByteArray.get!, getElem!_pos, h]; rfl
  by_cases ha : (s[pos]'h).toNat < 128
  · have hd := decode_ascii s pos h ha
    exact ⟨_, _, hd, Nat.le_refl _, by omega, .inl ⟨ha, rfl, by unfold bt; simp [h]⟩⟩
  · obtain ⟨c, n, hd⟩ : ∃ c n, Utf8.decode s pos = (c, n) := ⟨_, _, rfl⟩
    have hh := decode_high s pos h (by omega)
    have ht := decode_tail s pos h
    have hle := decode_le s pos
    rw [hd] at hh ht hle
    simp only at hh ht hle
    refine ⟨c, n, hd, hh.2, hle, .inr ⟨hh.1, fun j hj1 hj2 => ?_⟩⟩
    by_cases e : j = pos
    · subst e
      exact ⟨h, by rw [bt_get s j h, hg]; omega⟩
    · obtain ⟨a1, a2⟩ := ht (j - pos) (by omega) (by omega)
      have ej : pos + (j - pos) = j := by omega
      rw [ej] at a1 a2
      exact ⟨a1, by rw [bt_get s j a1]; exact Int.ofNat_le.mpr a2⟩

end Go.Proofs.YtjhmpcbpbdkddaaGreat.Wk
