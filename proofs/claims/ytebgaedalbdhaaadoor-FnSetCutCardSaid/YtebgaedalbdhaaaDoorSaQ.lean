/- A set's bytes: rows of bytes that are written in place; the library's writers; Encode. -/
import Derived.Test.YtebgaedalbdhaaaDoorSaO
namespace Go.Proofs.YtebgaedalbdhaaaDoor.Av
open Go.RowKit Go.Proofs.YtebgaedalbdhaaaDoorW.PrintWords Go.Proofs.YtebgaedalbdhaaaDoorW.PrintLast Go.Proofs.YtebgaedalbdhaaaDoorW.PrintMore
set_option linter.unusedVariables false
set_option linter.unusedSimpArgs false

/-- A block of n bytes, whose first cells are known. -/
structure Buf (W : World) (g n : Nat) (hd : List Value) : Prop where
  row : ∃ xs : List Value, W.heap[g]? = some (.cells xs.toArray 5 (0, 0)) ∧ xs.length = n ∧ xs.take hd.length = hd ∧ ∀ u ∈ xs, u.oneCell' = true
section
variable {W W' : World} {g n : Nat} {hd : List Value}
theorem Buf.lt (h : Buf W g n hd) : g < W.heap.size := by
  obtain ⟨xs, hb, _⟩ := h.row
  exact (Array.getElem?_eq_some_iff.1 hb).1
theorem Buf.cell (h : Buf W g n hd) (j : Nat) (hj : j < n) : ∃ u, W.cell? ⟨g, j, none⟩ = some u := by
  obtain ⟨xs, hb, hl, _⟩ := h.row
  exact ⟨xs[j]'(by omega), by rw [cell_at hb, List.getElem?_eq_getElem]⟩
theorem Buf.free (h : Buf W g n hd) (j : Nat) : W.frozen? ⟨g, j, none⟩ = false := by
  obtain ⟨xs, hb, _⟩ := h.row
  exact blk_frozen hb _
theorem Buf.known (h : Buf W g n hd) (j : Nat) (u : Value) (hu : hd[j]? = some u) : W.cell? ⟨g, j, none⟩ = some u := by
  obtain ⟨xs, hb, _, ht, _⟩ := h.row
  have hj := (List.getElem?_eq_some_iff.1 hu).1
  rw [cell_at hb, ← hu, ← List.getElem?_take_of_lt hj, ht]
theorem Buf.move (h : Buf W g n hd) (hm : W'.heap[g]? = W.heap[g]?) : Buf W' g n hd := by
  obtain ⟨xs, hb, r⟩ := h.row
  exact ⟨xs, hm.trans hb, r⟩
theorem Buf.fr {F : Nat → Prop} (h : Buf W g n hd) (hf : Fr F W W') (hg : ¬ F g) : Buf W' g n hd := h.move (hf.block g h.lt hg)
theorem Buf.alloc (h : Buf W g n hd) (o : Obj) : Buf (W.alloc o) g n hd := h.move (Below.heap_alloc W o g h.lt)
theorem Buf.far (h : Buf W g n hd) {p : Addr} (hp : g ≠ p.block) (u : Value) : Buf (W.setCell p u) g n hd := h.move (Below.heap_setCell W p u g hp)
theorem Buf.store (h : Buf W g n hd) (j : Nat) (hj : j < n) (hk : hd.length ≤ j) (u : Value) (hu : u.oneCell' = true := by rfl) : Buf (W.setCell ⟨g, j, none⟩ u) g n hd := by
  obtain ⟨xs, hb, hl, ht, ho⟩ := h.row
  refine ⟨xs.set j u, store_at hb (by omega) u, by simpa using hl, by rw [List.take_set_of_le hk, ht], fun v hv => ?_⟩
  rcases List.mem_or_eq_of_mem_set hv with hv | rfl
  · exact ho v hv
  · exact hu
/-- The next cell is laid down. -/
theorem Buf.put (h : Buf W g n hd) (hk : hd.length < n) (u : Value) (hu : u.oneCell' = true := by rfl) : Buf (W.setCell ⟨g, hd.length, none⟩ u) g n (hd ++ [u]) := by
  obtain ⟨xs, hb, hl, ht, ho⟩ := h.row
  refine ⟨xs.set hd.length u, store_at hb (by omega) u, by simpa using hl, ?_, fun v hv => ?_⟩
  · rw [List.length_append, List.length_singleton, List.take_add_one, List.take_set_of_le (Nat.le_refl _), ht]
    simp [hl, hk]
  · rcases List.mem_or_eq_of_mem_set hv with hv | rfl
    · exact ho v hv
    · exact hu
end
theorem Buf.puts {W : World} {g n : Nat} {hd : List Value} (h : Buf W g n hd) (j : Nat) (hj : j = hd.length) (hk : j < n) (u : Value) (hu : u.oneCell' = true := by rfl) : Buf (W.setCell ⟨g, j, none⟩ u) g n (hd ++ [u]) := by
  subst hj
  exact h.put hk u hu
theorem Fr.put {w W : World} {g : Nat} (h : Fr (fun k => k = g) w W) (j : Nat) (u : Value) : Fr (fun k => k = g) w (W.setCell ⟨g, j, none⟩ u) := h.set (p := ⟨g, j, none⟩) (.inl rfl) u
def PutsPost (W : World) (g n : Nat) (hd : List Value) (e : Ending) (W' : World) : Prop := e = .returned (.tuple #[]) ∧ Buf W' g n hd ∧ Fr (fun k => k = g) W W'
set_option maxHeartbeats 4000000 in
set_option maxRecDepth 100000 in
theorem put64_calls {W : World} {g n o m c : Nat} {hd : List Value} {v : Int} (h : Buf W g n hd) (ho : hd.length ≤ o) (hn : o + 8 ≤ n) (hm : 8 ≤ m) :
    Calls Tryd.prog 56 #[.agg #[], .slice (some ⟨g, o, none⟩) m c, .int .u64 v] W (PutsPost W g n hd) := by
  have H := Aside0.mk h
  clear h
  go_enter Tryd.func56, Tryd.ntmps56
  go_upto_region 1 with (fail)
  have HB1 := Aside0.mk (H.out.alloc (.cells #[] 84))
  have HF1 := Aside0.mk ((Fr.refl (fun k => k = g) W).alloc (.cells #[] 84))
  generalize W.alloc (.cells #[] 84) = W1 at *
  obtain ⟨x0, f0⟩ := HB1.out.cell (o + 0) (by omega)
  obtain ⟨x1, f1⟩ := HB1.out.cell (o + 1) (by omega)
  obtain ⟨x2, f2⟩ := HB1.out.cell (o + 2) (by omega)
  obtain ⟨x3, f3⟩ := HB1.out.cell (o + 3) (by omega)
  obtain ⟨x4, f4⟩ := HB1.out.cell (o + 4) (by omega)
  obtain ⟨x5, f5⟩ := HB1.out.cell (o + 5) (by omega)
  obtain ⟨x6, f6⟩ := HB1.out.cell (o + 6) (by omega)
  obtain ⟨x7, f7⟩ := HB1.out.cell (o + 7) (by omega)
  have z0 := HB1.out.free (o + 0)
  have z1 := HB1.out.free (o + 1)
  have z2 := HB1.out.free (o + 2)
  have z3 := HB1.out.free (o + 3)
  have z4 := HB1.out.free (o + 4)
  have z5 := HB1.out.free (o + 5)
  have z6 := HB1.out.free (o + 6)
  have z7 := HB1.out.free (o + 7)
  rw [Nat.add_zero] at f0 z0
  have m0 : (0 : Int) < (m : Int) := by omega
  have m1 : (1 : Int) < (m : Int) := by omega
  have m2 : (2 : Int) < (m : Int) := by omega
  have m3 : (3 : Int) < (m : Int) := by omega
  have m4 : (4 : Int) < (m : Int) := by omega
  have m5 : (5 : Int) < (m : Int) := by omega
  have m6 : (6 : Int) < (m : Int) := by omega
  have m7 : (7 : Int) < (m : Int) := by omega
  have m9 : 0 < m := by omega
  go_wp2
  go_end0
  exact ⟨rfl, ((((((((HB1.out.store o (by omega) (by omega) _).store (o + 1) (by omega) (by omega) _).store (o + 2) (by omega) (by omega) _).store (o + 3) (by omega) (by omega) _).store (o + 4) (by omega) (by omega) _).store (o + 5) (by omega) (by omega) _).store (o + 6) (by omega) (by omega) _).store (o + 7) (by omega) (by omega) _), ((((((((HF1.out.put o _).put (o + 1) _).put (o + 2) _).put (o + 3) _).put (o + 4) _).put (o + 5) _).put (o + 6) _).put (o + 7) _)⟩
set_option maxHeartbeats 4000000 in
set_option maxRecDepth 100000 in
theorem put16_calls {W : World} {g n o m c : Nat} {hd : List Value} {v : Int} (h : Buf W g n hd) (ho : hd.length ≤ o) (hn : o + 2 ≤ n) (hm : 2 ≤ m) :
    Calls Tryd.prog 57 #[.agg #[], .slice (some ⟨g, o, none⟩) m c, .int .u16 v] W (PutsPost W g n hd) := by
  have H := Aside0.mk h
  clear h
  go_enter Tryd.func57, Tryd.ntmps57
  go_upto_region 1 with (fail)
  have HB1 := Aside0.mk (H.out.alloc (.cells #[] 84))
  have HF1 := Aside0.mk ((Fr.refl (fun k => k = g) W).alloc (.cells #[] 84))
  generalize W.alloc (.cells #[] 84) = W1 at *
  obtain ⟨x0, f0⟩ := HB1.out.cell (o + 0) (by omega)
  obtain ⟨x1, f1⟩ := HB1.out.cell (o + 1) (by omega)
  have z0 := HB1.out.free (o + 0)
  have z1 := HB1.out.free (o + 1)
  rw [Nat.add_zero] at f0 z0
  have m0 : (0 : Int) < (m : Int) := by omega
  have m1 : (1 : Int) < (m : Int) := by omega
  have m9 : 0 < m := by omega
  go_wp2
  go_end0
  exact ⟨rfl, ((HB1.out.store o (by omega) (by omega) _).store (o + 1) (by omega) (by omega) _), ((HF1.out.put o _).put (o + 1) _)⟩
set_option maxHeartbeats 4000000 in
set_option maxRecDepth 100000 in
theorem put32_calls {W : World} {g n o m c : Nat} {hd : List Value} {v : Int} (h : Buf W g n hd) (ho : hd.length ≤ o) (hn : o + 4 ≤ n) (hm : 4 ≤ m) :
    Calls Tryd.prog 53 #[.agg #[], .slice (some ⟨g, o, none⟩) m c, .int .u32 v] W (PutsPost W g n hd) := by
  have H := Aside0.mk h
  clear h
  go_enter Tryd.func53, Tryd.ntmps53
  go_upto_region 1 with (fail)
  have HB1 := Aside0.mk (H.out.alloc (.cells #[] 84))
  have HF1 := Aside0.mk ((Fr.refl (fun k => k = g) W).alloc (.cells #[] 84))
  generalize W.alloc (.cells #[] 84) = W1 at *
  obtain ⟨x0, f0⟩ := HB1.out.cell (o + 0) (by omega)
  obtain ⟨x1, f1⟩ := HB1.out.cell (o + 1) (by omega)
  obtain ⟨x2, f2⟩ := HB1.out.cell (o + 2) (by omega)
  obtain ⟨x3, f3⟩ := HB1.out.cell (o + 3) (by omega)
  have z0 := HB1.out.free (o + 0)
  have z1 := HB1.out.free (o + 1)
  have z2 := HB1.out.free (o + 2)
  have z3 := HB1.out.free (o + 3)
  rw [Nat.add_zero] at f0 z0
  have m0 : (0 : Int) < (m : Int) := by omega
  have m1 : (1 : Int) < (m : Int) := by omega
  have m2 : (2 : Int) < (m : Int) := by omega
  have m3 : (3 : Int) < (m : Int) := by omega
  have m9 : 0 < m := by omega
  go_wp2
  go_end0
  exact ⟨rfl, ((((HB1.out.store o (by omega) (by omega) _).store (o + 1) (by omega) (by omega) _).store (o + 2) (by omega) (by omega) _).store (o + 3) (by omega) (by omega) _), ((((HF1.out.put o _).put (o + 1) _).put (o + 2) _).put (o + 3) _)⟩
/-- What a number's four bytes are, the least first. -/
def le4 (v : Int) : List Value := [.int .u8 (v % 256), .int .u8 (v / 256), .int .u8 0, .int .u8 0]
def PutHPost (W : World) (g n : Nat) (hd : List Value) (e : Ending) (W' : World) : Prop := e = .returned (.tuple #[]) ∧ Buf W' g n hd ∧ Fr (fun k => k = g) W W'
set_option maxHeartbeats 4000000 in
set_option maxRecDepth 100000 in
theorem put32h_calls {W : World} {g n o m c : Nat} {hd : List Value} {v : Int} (h : Buf W g n hd) (ho : o = hd.length) (hn : o + 4 ≤ n) (hm : 4 ≤ m) (h0 : 0 ≤ v) (h1 : v < 65536) :
    Calls Tryd.prog 53 #[.agg #[], .slice (some ⟨g, o, none⟩) m c, .int .u32 v] W (PutHPost W g n (hd ++ le4 v)) := by
  have H := Aside0.mk h
  have HO := Aside0.mk ho
  clear h ho
  go_enter Tryd.func53, Tryd.ntmps53
  go_upto_region 1 with (fail)
  have HB1 := Aside0.mk (H.out.alloc (.cells #[] 84))
  have HF1 := Aside0.mk ((Fr.refl (fun k => k = g) W).alloc (.cells #[] 84))
  generalize W.alloc (.cells #[] 84) = W1 at *
  obtain ⟨x0, f0⟩ := HB1.out.cell (o + 0) (by omega)
  obtain ⟨x1, f1⟩ := HB1.out.cell (o + 1) (by omega)
  obtain ⟨x2, f2⟩ := HB1.out.cell (o + 2) (by omega)
  obtain ⟨x3, f3⟩ := HB1.out.cell (o + 3) (by omega)
  have z0 := HB1.out.free (o + 0)
  have z1 := HB1.out.free (o + 1)
  have z2 := HB1.out.free (o + 2)
  have z3 := HB1.out.free (o + 3)
  rw [Nat.add_zero] at f0 z0
  have m0 : (0 : Int) < (m : Int) := by omega
  have m1 : (1 : Int) < (m : Int) := by omega
  have m2 : (2 : Int) < (m : Int) := by omega
  have m3 : (3 : Int) < (m : Int) := by omega
  have m9 : 0 < m := by omega
  go_wp2
  go_end0
  have e2 : v / 65536 = 0 := by omega
  have e3 : v / 16777216 = 0 := by omega
  rw [e2, e3]
  have hb := ((((HB1.out.puts o HO.out (by omega) (.int .u8 (v % 256))).puts (o + 1) (by simp [HO.out]) (by omega) (.int .u8 (v / 256))).puts (o + 2) (by simp [HO.out]) (by omega) (.int .u8 0)).puts (o + 3) (by simp [HO.out]) (by omega) (.int .u8 0))
  refine ⟨rfl, ?_, (((HF1.out.put o _).put (o + 1) _).put (o + 2) _).put (o + 3) _⟩
  simpa [le4] using hb

/-! ### Encode -/
set_option maxRecDepth 100000 in
theorem nodes_calls {w : World} {g : Nat} {root : Option Nat} {sz nd : Int} {ch : Bool} (h : SetAt w g root sz nd ch) :
    Calls Tryd.prog 52 #[.pointer (some ⟨g, 0, none⟩)] w fun e w' => e = .returned (.int .i64 nd) ∧ w' = w := by
  have f2 := h.c2
  clear h
  go_enter Tryd.func52, Tryd.ntmps52
  go_wp2
  go_ret
  exact ⟨rfl, rfl⟩
def setV (root : Option Nat) (sz nd : Int) (ch : Bool) : Value := .agg #[.pointer (ptrA root), .int .i64 sz, .int .i64 nd, .bool ch]
theorem set_boxed (w : World) (root : Option Nat) (sz nd : Int) (ch : Bool) : SetAt (w.alloc (.cells #[.pointer (ptrA root), .int .i64 sz, .int .i64 nd, .bool ch] 63)) w.heap.size root sz nd ch := ⟨heap_alloc_new w _⟩
set_option maxRecDepth 100000 in
theorem encLen_calls {w : World} {root : Option Nat} {sz nd : Int} {ch : Bool} (h0 : 0 ≤ nd) (h1 : nd ≤ 1000000) :
    Calls Tryd.prog 40 #[.agg #[.pointer (ptrA root), .int .i64 sz, .int .i64 nd, .bool ch]] w fun e w' => e = .returned (.int .i64 (10 + nd * 266)) ∧ Fr (fun _ => False) w w' := by
  have HF := Aside0.mk ((Fr.refl (fun _ => False) w).alloc (.cells #[.pointer (ptrA root), .int .i64 sz, .int .i64 nd, .bool ch] 63))
  have HS := Aside0.mk (set_boxed w root sz nd ch)
  go_enter Tryd.func40, Tryd.ntmps40
  go_wp2_with fail
  refine (nodes_calls HS.out).mono ?_
  rintro e w' ⟨rfl, hw⟩
  subst w'
  go_wp2
  go_ret
  exact ⟨rfl, HF.out⟩
end Go.Proofs.YtebgaedalbdhaaaDoor.Av
