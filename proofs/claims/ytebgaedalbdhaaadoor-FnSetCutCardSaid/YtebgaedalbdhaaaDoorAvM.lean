/- The numbers of a set, gathered by a closure: impl.SetFirst, impl.all. -/
import Derived.Test.YtebgaedalbdhaaaDoorAvK
import Derived.Test.YtebgaedalbdhaaaDoorAvO
namespace Go.Proofs.YtebgaedalbdhaaaDoor.Av
open Go.RowKit Go.Proofs.YtebgaedalbdhaaaDoorW.PrintWords Go.Proofs.YtebgaedalbdhaaaDoorW.PrintLast Go.Proofs.YtebgaedalbdhaaaDoorW.PrintMore
set_option linter.unusedVariables false
set_option linter.unusedSimpArgs false

theorem info23 : (Tryd.prog.info? 23).map (fun i => (i.zero, i.size, i.bytes)) = some (some (.int .u64 0), 1, 8) := by kernel_rfl
/-- A slice variable in a box of its own, that numbers are put behind. -/
structure Bag (w0 W : World) (O : Nat) (v : Value) (done : List Int) : Prop where
  blk : W.heap[O]? = some (.cells #[v] 26 (0, 0))
  own : W.ownsRow w0.heap.size 23 1 v done.length (done.map (Value.int .u64))
  fr : Fr (fun k => k = O) w0 W
  low : O < w0.heap.size
def BagI (w0 : World) (O : Nat) (done : List Int) (W : World) : Prop := ∃ v, Bag w0 W O v done
section
variable {w0 W w3 : World} {O : Nat} {v : Value} {done : List Int}
theorem Bag.c0 (h : Bag w0 W O v done) : W.cell? ⟨O, 0, none⟩ = some v := by rw [cell_at h.blk]; rfl
theorem Bag.app_blk (h : Bag w0 W O v done) {o : Obj} (hg : (W.alloc o).grownBy w3 v.ownBlock) : w3.heap[O]? = some (.cells #[v] 26 (0, 0)) := by
  have hl := h.low
  have hs := h.fr.size
  rw [hg.block O (by simp; omega) (fun e => by have := (h.own.lt O e.symm).1; omega), heap_alloc_old W o (by omega)]
  exact h.blk
theorem Bag.app (h : Bag w0 W O v done) {x : Int} {o : Obj} {gg cap : Nat} (hown : w3.ownsRow w0.heap.size 23 1 (.slice (some ⟨gg, 0, none⟩) (done.length + 1) cap) (done.length + 1) (done.map (Value.int .u64) ++ [.int .u64 x])) (hg : (W.alloc o).grownBy w3 v.ownBlock) :
    Bag w0 (w3.setCell ⟨O, 0, none⟩ (.slice (some ⟨gg, 0, none⟩) (done.length + 1) cap)) O (.slice (some ⟨gg, 0, none⟩) (done.length + 1) cap) (done ++ [x]) := by
  have hl := h.low
  have hb := h.app_blk hg
  have hf : Fr (fun k => k = O) w3 (w3.setCell ⟨O, 0, none⟩ (.slice (some ⟨gg, 0, none⟩) (done.length + 1) cap)) := (Fr.refl (fun k => k = O) w3).set (p := ⟨O, 0, none⟩) (.inl rfl) _
  have h1 : Fr (fun k => k = O) w0 w3 := (h.fr.trans ((Fr.refl (fun _ => False) W).alloc o) (fun _ _ h => h.elim)).trans (Fr.grown hg) (fun k hk e => by have := (h.own.lt k e).1; omega)
  refine ⟨by rw [store_at hb (by simp)]; rfl, ?_, h1.trans hf (fun _ _ h => h), hl⟩
  have := ownsRow_fr hown hf (fun k hk e => by
    have := (hown.lt k hk).1
    omega)
  simpa using this
end
theorem bag_free {W : World} {O : Nat} {v : Value} (h : W.heap[O]? = some (.cells #[v] 26 (0, 0))) : W.frozen? ⟨O, 0, none⟩ = false := by
  have : W.heap[O]? = some (.cells [v].toArray 26 (0, 0)) := h
  exact blk_frozen this _
theorem bag_cell {W : World} {O : Nat} {v : Value} (h : W.heap[O]? = some (.cells #[v] 26 (0, 0))) : W.cell? ⟨O, 0, none⟩ = some v := by
  rw [cell_at h]; rfl
theorem num_cell (b : Int) : ∀ u ∈ [Value.int .u64 b], u.oneCell' = true := fun u h => by
  rcases List.mem_singleton.1 h with rfl
  rfl
theorem room47' {n : Nat} (h : n ≤ 1000000) : (n + 1) * 8 ≤ 140737488355328 := by omega
theorem room63' {n : Nat} (h : n ≤ 1000000) : n + 1 ≤ maxLen := by unfold maxLen; omega
theorem Bag.base {w0 W : World} {O : Nat} {v : Value} {done : List Int} (h : Bag w0 W O v done) {o : Obj} : w0.heap.size ≤ (W.alloc o).heap.size := by
  have := h.fr.size
  simp
  omega
set_option maxHeartbeats 4000000 in
set_option maxRecDepth 100000 in
theorem all1_calls {w0 W : World} {O : Nat} {done : List Int} (x : Int) (h : BagI w0 O done W) (hd : done.length ≤ 1000000) :
    Calls Tryd.prog 48 (#[.int .u64 x] ++ #[.pointer (some ⟨O, 0, none⟩)]) W fun e w' => e = .returned (.bool true) ∧ BagI w0 O (done ++ [x]) w' := by
  obtain ⟨v, h⟩ := h
  obtain ⟨i0, hi0, hz0, hz1, hz2⟩ := info_parts info23
  have HINF := Aside0.mk hi0
  have HINZ := Aside0.mk hz0
  have HINS := Aside0.mk hz1
  have HINB := Aside0.mk hz2
  have HB := Aside0.mk h
  have HD := Aside0.mk hd
  have f0 := h.c0
  clear hi0 hz0 hz1 hz2 h hd
  show Calls Tryd.prog 48 #[.int .u64 x, .pointer (some ⟨O, 0, none⟩)] W _
  go_enter Tryd.func48, Tryd.ntmps48
  go_upto_region 2 with (refine wpList_append_lies _ rfl _ _ _ rfl w0.heap.size 23 i0 (.int .u64 0) 1 8 (by kernel_rfl) HINF.out HINZ.out HINS.out HINB.out rfl Nat.one_pos v _ _ rfl (HB.out.own.alloc _) ⟨W.heap.size, 0, none⟩ 1 1 [.int .u64 x] rfl rfl (new_one W _ _) (num_cell _) Nat.one_pos (room63' HD.out) (room47' HD.out) HB.out.base _ rfl (fun gg cap w3 hown hgrow hat hlt => ?_); have f6 := bag_cell (HB.out.app_blk hgrow); have z6 := bag_free (HB.out.app_blk hgrow); have HB2 := Aside0.mk (HB.out.app hown hgrow); clear hown hgrow hat hlt f0)
  generalize w3.setCell _ _ = w4 at *
  clear f6 z6
  go_wp2
  go_ret
  exact ⟨rfl, _, HB2.out⟩
set_option maxHeartbeats 4000000 in
set_option maxRecDepth 100000 in
theorem first1_calls {w0 W : World} {O M : Nat} {most : Int} (hM : w0.heap[M]? = some (.cells #[.int .i64 most] 3 (0, 0))) (hMO : M ≠ O) {done : List Int} (x : Int) (h : BagI w0 O done W) (hd : done.length ≤ 1000000) :
    Calls Tryd.prog 44 (#[.int .u64 x] ++ #[.pointer (some ⟨O, 0, none⟩), .pointer (some ⟨M, 0, none⟩)]) W fun e w' => e = .returned (.bool (decide (((done.length + 1 : Nat) : Int) < most))) ∧ BagI w0 O (done ++ [x]) w' := by
  obtain ⟨v, h⟩ := h
  obtain ⟨i0, hi0, hz0, hz1, hz2⟩ := info_parts info23
  have HINF := Aside0.mk hi0
  have HINZ := Aside0.mk hz0
  have HINS := Aside0.mk hz1
  have HINB := Aside0.mk hz2
  have HB := Aside0.mk h
  have HD := Aside0.mk hd
  have f0 := h.c0
  clear hi0 hz0 hz1 hz2 h hd
  have HM := Aside0.mk hM
  have HMO := Aside0.mk hMO
  clear hM hMO
  show Calls Tryd.prog 44 #[.int .u64 x, .pointer (some ⟨O, 0, none⟩), .pointer (some ⟨M, 0, none⟩)] W _
  go_enter Tryd.func44, Tryd.ntmps44
  go_upto_region 2 with (refine wpList_append_lies _ rfl _ _ _ rfl w0.heap.size 23 i0 (.int .u64 0) 1 8 (by kernel_rfl) HINF.out HINZ.out HINS.out HINB.out rfl Nat.one_pos v _ _ rfl (HB.out.own.alloc _) ⟨W.heap.size, 0, none⟩ 1 1 [.int .u64 x] rfl rfl (new_one W _ _) (num_cell _) Nat.one_pos (room63' HD.out) (room47' HD.out) HB.out.base _ rfl (fun gg cap w3 hown hgrow hat hlt => ?_); have f6 := bag_cell (HB.out.app_blk hgrow); have z6 := bag_free (HB.out.app_blk hgrow); have HB2 := Aside0.mk (HB.out.app hown hgrow); clear hown hgrow hat hlt f0)
  generalize w3.setCell _ _ = w4 at *
  clear f6 z6
  have f7 := HB2.out.c0
  have hMl : M < w0.heap.size := (Array.getElem?_eq_some_iff.1 HM.out).1
  have f8 : w4.cell? ⟨M, 0, none⟩ = some (.int .i64 most) := by
    rw [cell_at ((HB2.out.fr.block M hMl HMO.out).trans HM.out)]; rfl
  clear hMl
  go_wp2
  go_ret
  exact ⟨rfl, _, HB2.out⟩
/-- What a set's own numbers call: 'Range'. -/
theorem range_calls (f : FuncId) (cap : Array Value) (hcall : ∀ vs W, (callFunc f vs).run Tryd.prog W = .ok (.enter f vs) W) (cont : List Int → Int → Bool) (I : List Int → World → Prop) {g : Nat} {t : T} {sz nd : Int}
    (hcb : ∀ done x W, (∃ r, t.nums = done ++ x :: r) → I done W → Calls Tryd.prog f (#[.int .u64 x] ++ cap) W fun e w' => e = .returned (.bool (cont done x)) ∧ I (done ++ [x]) w')
    (hdrew : ∀ done W, I done W → TabAt W ∧ SetIs W g t sz nd) {w : World} (hI : I [] w) :
    Calls Tryd.prog 43 #[.pointer (some ⟨g, 0, none⟩), .func (.func f) #[] cap] w fun e w' => e = .returned (.tuple #[]) ∧ I (run cont [] t.nums).1 w' := by
  have HC := Aside0.mk (iter_calls f cap hcall cont t.nums I hcb (fun done W h => (hdrew done W h).1) t (hdrew _ _ hI).2.wf (fun done W h => (hdrew done W h).2.lies) [] [] w (by simp) hI)
  have f0 := (hdrew _ _ hI).2.set.c0
  clear hcall hcb hdrew hI
  go_enter Tryd.func43, Tryd.ntmps43
  go_wp2_with fail
  refine HC.out.mono ?_
  rintro e w1 ⟨rfl, h⟩
  have H := Aside0.mk h
  clear h HC f0
  go_wp2
  go_end0
  exact ⟨rfl, H.out⟩
end Go.Proofs.YtebgaedalbdhaaaDoor.Av
