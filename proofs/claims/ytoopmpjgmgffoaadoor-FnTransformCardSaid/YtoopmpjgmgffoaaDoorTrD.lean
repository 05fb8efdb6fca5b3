/- isValidLiteralSubject over slices.Values. -/
import Derived.Test.YtoopmpjgmgffoaaDoorTrC
import Derived.RangeFuncBox
import Derived.RangeFuncLeaves
import Derived.RangeFuncKeeps
import Derived.RangeFuncFrom
import Derived.RangeFuncGives
import Derived.RangeFuncBound
import Derived.Shelf.Abstract
import Derived.WalkKit
import Derived.OwnWalkIn
import Derived.TacticsInMore
import Derived.LoopNIn
import Derived.LoopIn
namespace Go.Proofs.YtoopmpjgmgffoaaDoor.Tr
open Go.RowKit Go.Proofs.YtoopmpjgmgffoaaDoor.Pl Go.Proofs.YtoopmpjgmgffoaaDoorW.PrintWords Go.Proofs.YtoopmpjgmgffoaaDoorW.PrintLast Go.Proofs.YtoopmpjgmgffoaaDoorW.PrintMore Go.Proofs.YtoopmpjgmgffoaaDoor.GFnTransformBack Go.Proofs.YtoopmpjgmgffoaaDoor.PlFnTransformBack
set_option linter.unusedVariables false
set_option linter.unusedSimpArgs false
section
attribute [local go_sem] Oper.semAt_some
open Go.Shelf
def seqUpto {α : Type} (f : Nat → α) (k : Nat) : List α := (List.range k).map f
theorem seqUpto_succ {α : Type} (f : Nat → α) (k : Nat) : seqUpto f (k + 1) = seqUpto f k ++ [f k] := by simp [seqUpto, List.range_succ]
theorem seqUpto_length {α : Type} (f : Nat → α) (k : Nat) : (seqUpto f k).length = k := by simp [seqUpto]
theorem seqUpto_all (zs : List ByteArray) : seqUpto (fun j => zs[j]?.getD ByteArray.empty) zs.length = zs := by
  apply List.ext_getElem
  · simp [seqUpto]
  intro i h1 h2
  simp [seqUpto, h2]
set_option maxRecDepth 100000 in
set_option maxHeartbeats 2000000 in
theorem values1_in (F : Fence) (n : Nat) (h7 : F.fn 59) (hro : F.round = none) (hn : 1 ≤ n) (l Bs n₀ len cap : Nat) (A : Option Addr) (zs : List ByteArray) (hreach : len * 16 ≤ 140737488355328) (J Jx : List ByteArray → World → Prop)
    (hY : ∀ pre x W, J pre W → pre.length < len → YieldAt F (n - 1) Tryd.prog l #[.string x] W fun e W' =>
      (e = .returned (.bool true) ∧ J (pre ++ [x]) W' ∧ Below n₀ W W') ∨ (e = .returned (.bool false) ∧ Jx (pre ++ [x]) W'))
    (W : World) (hBs : W.cell? ⟨Bs, 0, none⟩ = some (.slice A len cap)) (hc : ∀ j, j < len → ∃ b, A = some ⟨b, 0, none⟩ ∧ b < n₀ ∧ W.cell? ⟨b, j, none⟩ = some (.string (zs[j]?.getD ByteArray.empty))) (h0 : J [] W) :
    CallsIn F n Tryd.prog 59 #[.func (.yield l) #[] #[], .pointer (some ⟨Bs, 0, none⟩)] W fun e W' => (∃ v, e = .returned v) ∧
      ((∃ ys, ys = seqUpto (fun j => zs[j]?.getD ByteArray.empty) len ∧ J ys W') ∨ (∃ pre, (∃ k, k ≤ len ∧ pre = seqUpto (fun j => zs[j]?.getD ByteArray.empty) k) ∧ Jx pre W')) := by
  refine callsIn_of_wp Tryd.func59 rfl h7 ?_ hro
  simp only [Tryd.ntmps59, List.size_toArray, List.length_cons, List.length_nil, Nat.reduceAdd, Nat.reduceSub, Array.replicate_succ, Array.replicate_zero, List.push_toArray, List.append_toArray, List.nil_append, List.cons_append]
  have HC := Aside0.mk hc
  clear hc
  gi_wp2
  gi_loopw [7] (fun i wr => ∃ k : Nat, k ≤ len ∧ i = .int .i64 k ∧ J (seqUpto (fun j => zs[j]?.getD ByteArray.empty) k) wr ∧ Below n₀ W wr)
    (fun i _ => len - (intOf i).toNat)
  case atStart => exact ⟨0, Nat.zero_le _, rfl, h0, Below.refl _ _⟩
  case round =>
    obtain ⟨k, hk, rfl, hJs, hnx⟩ := hrel
    by_cases hlt : k < len
    · obtain ⟨b, rfl, hb, hcx⟩ := HC.out k hlt
      obtain ⟨fn, tmps, assign, body, hy, hR⟩ := hY _ (zs[k]?.getD ByteArray.empty) wr hJs (by rw [seqUpto_length]; exact hlt)
      have hcx' : wr.cell? ⟨b, k, none⟩ = some (.string (zs[k]?.getD ByteArray.empty)) := (hnx.cell (p := ⟨b, k, none⟩) hb).trans hcx
      gi_wp2
      refine hR.mono ?_
      rintro e W3 (⟨rfl, hJ3, hk3⟩ | ⟨rfl, hJx3⟩)
      · gi_wp2
        go_roundw
        case rel => exact ⟨k + 1, by omega, by simp, by rw [seqUpto_succ]; exact hJ3, hnx.trans hk3⟩
        case measure => simp [intOf]; omega
      gi_wp2
      refine bodyPost_ret (results_none rfl _ _ _) rfl ?_
      exact ⟨⟨_, rfl⟩, .inr ⟨_, ⟨k + 1, by omega, (seqUpto_succ _ _).symm⟩, hJx3⟩⟩
    obtain rfl : k = len := by omega
    gi_wp2
    go_end0
    exact ⟨⟨_, rfl⟩, .inl ⟨_, rfl, hJs⟩⟩
theorem seqUpto_take (zs : List ByteArray) {k : Nat} (hk : k ≤ zs.length) : seqUpto (fun j => zs[j]?.getD ByteArray.empty) k = zs.take k := by
  apply List.ext_getElem
  · simp [seqUpto, hk]
  intro i h1 h2
  have : i < zs.length := by simp [seqUpto] at h1; omega
  simp [seqUpto, this]
set_option maxHeartbeats 1000000 in
theorem values_calls (a : Option Addr) (len cap : Nat) (w : World) :
    Calls Tryd.prog 48 #[.slice a len cap] w fun e w' => e = .returned (.func (.func 59) #[] #[.pointer (some ⟨w.heap.size, 0, none⟩)]) ∧ w' = w.alloc (.cells #[.slice a len cap] 30) := by
  go_enter Tryd.func48, Tryd.ntmps48
  go_wp2
  go_ret
  exact ⟨rfl, rfl⟩
def litOk (t : ByteArray) : Bool := decide (t.size ≠ 0) && (decide (1 < t.size) || (decide (bt t 0 ≠ 42) && decide (bt t 0 ≠ 62)))
theorem litOk_0 (t : ByteArray) (h : t.size = 0) : litOk t = false := by simp [litOk, h]
theorem litOk_1 (t : ByteArray) (h : 1 < t.size) : litOk t = true := by
  unfold litOk
  rw [decide_eq_true (show t.size ≠ 0 by omega), decide_eq_true h]; rfl
theorem litOk_2 (t : ByteArray) (h : 0 < t.size) (h1 : t.size ≤ 1) (hb : ((t[0]'h).toNat : Int) = 42 ∨ ((t[0]'h).toNat : Int) = 62) : litOk t = false := by
  unfold litOk
  have e : bt t 0 = ((t[0]'h).toNat : Int) := Wk.bt_at t 0 h
  rw [e, decide_eq_false (show ¬ 1 < t.size by omega)]
  rcases hb with hb | hb <;> simp [hb]
theorem litOk_3 (t : ByteArray) (h : 0 < t.size) (h1 : ((t[0]'h).toNat : Int) ≠ 42) (h2 : ((t[0]'h).toNat : Int) ≠ 62) : litOk t = true := by
  unfold litOk
  have e : bt t 0 = ((t[0]'h).toNat : Int) := Wk.bt_at t 0 h
  rw [e, decide_eq_true (show t.size ≠ 0 by omega), decide_eq_true h1, decide_eq_true h2]; simp
theorem values_stops (F : Fence) (n : Nat) (h7 : F.fn 59) (hro : F.round = none) (hn : 1 ≤ n) (Bs n₀ : Nat) (A : Option Addr) (cap : Nat) (zs : List ByteArray) (hreach : zs.length * 16 ≤ 140737488355328) (w : World) (hBs : Bs < w.heap.size) (hn₀ : n₀ ≤ w.heap.size)
    (hc : w.cell? ⟨Bs, 0, none⟩ = some (.slice A zs.length cap)) (hI : ∀ j, j < zs.length → ∃ b, A = some ⟨b, 0, none⟩ ∧ b < n₀ ∧ w.cell? ⟨b, j, none⟩ = some (.string (zs[j]?.getD ByteArray.empty))) :
    SeqStopsK F n Tryd.prog 59 #[.pointer (some ⟨Bs, 0, none⟩)] (fun x : ByteArray => #[Value.string x]) (Below n₀) (fun ys => ys = zs) (fun pre => pre <+: zs) zs.length w := fun l J Jx W hW _ _ hY h0 => by
  have hc' := (hW.cell (p := ⟨Bs, 0, none⟩) hBs).trans hc
  refine (values1_in F n h7 hro hn l Bs n₀ zs.length cap A zs hreach J Jx hY W hc' (fun j hj => by
    obtain ⟨b, e, hb, hcell⟩ := hI j hj
    exact ⟨b, e, hb, (hW.cell (p := ⟨b, j, none⟩) (show b < _ by omega)).trans hcell⟩) h0).mono ?_
  rintro e W' ⟨he, ⟨ys, rfl, hj⟩ | ⟨pre, ⟨k, hk, rfl⟩, hj⟩⟩
  · exact ⟨he, .inl ⟨_, seqUpto_all zs, hj⟩⟩
  exact ⟨he, .inr ⟨_, by rw [seqUpto_take zs hk]; exact List.take_prefix _ _, hj⟩⟩
set_option maxRecDepth 100000 in
set_option maxHeartbeats 2000000 in
theorem isValidLit_in (F : Fence) (n : Nat) (h3 : F.fn 47) (h7 : F.fn 59) (hro : F.round = none) (hn : 3 ≤ n) (Bs : Nat) (A : Option Addr) (cap : Nat) (zs : List ByteArray) (hreach : zs.length * 16 ≤ 140737488355328) (w : World) (hBs : Bs < w.heap.size)
    (hc : w.cell? ⟨Bs, 0, none⟩ = some (.slice A zs.length cap)) (hI : ∀ j, j < zs.length → ∃ b, A = some ⟨b, 0, none⟩ ∧ b < w.heap.size ∧ w.cell? ⟨b, j, none⟩ = some (.string (zs[j]?.getD ByteArray.empty))) :
    CallsIn F n Tryd.prog 47 #[.func (.func 59) #[] #[.pointer (some ⟨Bs, 0, none⟩)]] w fun e W' => e = .returned (.bool (zs.all litOk)) ∧ Below w.heap.size w W' := by
  have h1 : 1 ≤ n := by omega
  refine callsIn_of_wp_marks Tryd.func47 rfl h3 ?_ hro
  simp only [Tryd.ntmps47, List.size_toArray, List.length_cons, List.length_nil, Nat.reduceAdd, Nat.reduceSub, Array.replicate_succ, Array.replicate_zero, List.push_toArray, List.append_toArray, List.nil_append, List.cons_append]
  have HI := Aside0.mk hI
  clear hI
  gi_wp2
  have bR := Boxed.new w 4 (.bool false)
  have hB0 : Below w.heap.size w (w.alloc (.cells #[.bool false] 4)) := (Below.refl _ w).alloc (Nat.le_refl _) _
  refine wpIn_rangeFunc_ownG hro h1 (gf := 59) (lb := #[.pointer (some ⟨Bs, 0, none⟩)]) rfl h7 (enters_of Tryd.func59 (by kernel_rfl) rfl)
    (values_stops F (n - 1) h7 hro (by omega) Bs w.heap.size A cap zs hreach _ (by simp; omega) (by simp) ((hB0.cell (p := ⟨Bs, 0, none⟩) hBs).trans hc) (fun j hj => by
      obtain ⟨b, e, hb, hcell⟩ := HI.out j hj
      exact ⟨b, e, hb, (hB0.cell (p := ⟨b, j, none⟩) hb).trans hcell⟩)) belowK_t (belowK_b (by simp)) (Below.refl _ _) (fun _ => rfl)
    (fun pre W => ((∀ y ∈ pre, litOk y = true) ∧ W.cell? ⟨w.heap.size, 0, none⟩ = some (.bool false) ∧ W.frozen? ⟨w.heap.size, 0, none⟩ = false) ∧ Below w.heap.size w W)
    (fun c pre W => (c = .ret ∧ (∃ y, y ∈ pre ∧ litOk y = false) ∧ W.cell? ⟨w.heap.size, 0, none⟩ = some (.bool false)) ∧ Below w.heap.size w W)
    (OwnFrom.and (Own.from (fun s A B row hs hg hr => ⟨hs.1, cell_kept hs.2.1 hg hr, (frozen_kept hs.2.1 hg hr).trans hs.2.2⟩) _) (ownFrom_below (Nat.le_refl _) (by simp)))
    (fun c => OwnFrom.and (Own.from (fun s A B row hs hg hr => ⟨hs.1, hs.2.1, cell_kept hs.2.2 hg hr⟩) _) (ownFrom_below (Nat.le_refl _) (by simp)))
    ⟨⟨by simp, bR.cell, bR.frozen⟩, hB0⟩
    (fun x => { tmps := #[.func (.func 59) #[] #[.pointer (some ⟨Bs, 0, none⟩)], undef, .pointer (some ⟨w.heap.size, 0, none⟩), .string x, .func (.func 59) #[] #[.pointer (some ⟨Bs, 0, none⟩)], .string x, undef, undef, undef, undef, undef, undef, undef, undef, undef, undef, undef], defers := [] }) ?assign ?body ?done ?stop
  case assign =>
    intro l x W K hK
    gi_wp2
    exact hK
  case body =>
    rintro l pre x W ⟨⟨hp, hcr, hfr⟩, hB⟩ _
    gi_wp2
    · rename_i g0
      have e0 : (x.size : Int) = 0 := eq_of_beq g0
      exact ⟨(KeepsOthers.setCell _ _ _).from _, ⟨rfl, ⟨x, List.mem_append.2 (.inr (by simp)), litOk_0 x (by omega)⟩, World.cell?_setCell_same' _ _ _ (by rw [hcr]; rfl)⟩, hB.setCell (p := ⟨w.heap.size, 0, none⟩) (Nat.le_refl _) _⟩
    · rename_i g0 g1
      exact ⟨KeepsFrom.refl _ _, Below.refl _ _, ⟨fun y hy => (List.mem_append.1 hy).elim (hp y) (fun e => by simp at e; rw [e]; exact litOk_1 x (by omega)), hcr, hfr⟩, hB⟩
    · rename_i g0 g1 g2 g3 g4
      exact ⟨(KeepsOthers.setCell _ _ _).from _, ⟨rfl, ⟨x, List.mem_append.2 (.inr (by simp)), litOk_2 x g2 (by omega) (.inl (eq_of_beq g3))⟩, World.cell?_setCell_same' _ _ _ (by rw [hcr]; rfl)⟩, hB.setCell (p := ⟨w.heap.size, 0, none⟩) (Nat.le_refl _) _⟩
    · rename_i g0 g1 g2 g3 g4
      exact ⟨(KeepsOthers.setCell _ _ _).from _, ⟨rfl, ⟨x, List.mem_append.2 (.inr (by simp)), litOk_2 x g2 (by omega) (.inr (eq_of_beq g4))⟩, World.cell?_setCell_same' _ _ _ (by rw [hcr]; rfl)⟩, hB.setCell (p := ⟨w.heap.size, 0, none⟩) (Nat.le_refl _) _⟩
    · rename_i g0 g1 g2 g3 g4
      exact ⟨KeepsFrom.refl _ _, Below.refl _ _, ⟨fun y hy => (List.mem_append.1 hy).elim (hp y) (fun e => by simp at e; rw [e]; exact litOk_3 x g2 (ne_of_beq_false g3) (ne_of_beq_false g4)), hcr, hfr⟩, hB⟩
    rename_i g2
    have e0 := ne_of_beq_false ‹((x.size : Int) == 0) = false›
    exact absurd g2 (by omega)
  case done =>
    rintro D ys W hD rfl ⟨⟨hne, hcr, hfr⟩, hB⟩ hK
    gi_wp2
    have hK' := (KeepsOthers.setCell W ⟨w.heap.size, 0, none⟩ (.bool true)).same D _ hK rfl
    refine ⟨by simp, .inl ⟨_, _, rfl, run_takeDeferred hK', ?_⟩⟩
    have hc5 := cell_kept (World.cell?_setCell_same' W ⟨w.heap.size, 0, none⟩ (.bool true) (by rw [hcr]; rfl)) (grownBy_putObj' _ D (.deferred none)) (fun r e => by cases e; exact ⟨_, hK', rfl⟩)
    refine ⟨.bool true, ?_, by rw [List.all_eq_true.2 hne], (hB.setCell (p := ⟨w.heap.size, 0, none⟩) (Nat.le_refl _) _).trans (belowK_b (w := w) (Nat.le_refl _) _ D _ _ (by simp at hD; omega) hK' rfl rfl)⟩
    simp [results, Tryd.f47, go_sem, hc5]
  case stop =>
    rintro D c pre W hD hpre ⟨⟨rfl, ⟨y, hy, hy2⟩, hcr⟩, hB⟩ hK
    gi_wp2
    refine ⟨by simp, .inl ⟨_, _, rfl, run_takeDeferred hK, ?_⟩⟩
    have hc5 := cell_kept hcr (grownBy_putObj' _ D (.deferred none)) (fun r e => by cases e; exact ⟨_, hK, rfl⟩)
    refine ⟨.bool false, ?_, by rw [show zs.all litOk = false from List.all_eq_false.2 ⟨y, hpre.subset hy, by rw [hy2]; simp⟩], hB.trans (belowK_b (w := w) (Nat.le_refl _) W D _ _ (by simp at hD; omega) hK rfl rfl)⟩
    simp [results, Tryd.f47, go_sem, hc5]
end
theorem isLit_calls {w : World} {Bs g c : Nat} {zs : List ByteArray} (hl : zs.length * 16 ≤ 140737488355328) (hB : w.cell? ⟨Bs, 0, none⟩ = some (.slice (some ⟨g, 0, none⟩) zs.length c)) (hC : Kd.C Kd.string w (some ⟨g, 0, none⟩) zs.length zs) :
    Calls Tryd.prog 47 #[.func (.func 59) #[] #[.pointer (some ⟨Bs, 0, none⟩)]] w fun e w' => e = .returned (.bool (zs.all litOk)) ∧ Below w.heap.size w w' :=
  (isValidLit_in { fn := fun _ => True } 3 trivial trivial rfl (Nat.le_refl _) Bs (some ⟨g, 0, none⟩) c zs hl w (World.block_lt_of_cell? w ⟨Bs, 0, none⟩ hB) hB (fun j hj => by
    obtain ⟨ad, e, hc⟩ := hC.2.2 (by omega)
    injection e with e
    subst e
    obtain ⟨cs, -, hk, hcell⟩ := hc j _ (List.getElem?_eq_getElem hj)
    have hk : cs = [.string zs[j]] := hk
    subst hk
    have h1 := hcell 0 _ rfl
    have h2 : (⟨g, 0, none⟩ : Addr).add (j * 1 + 0) = ⟨g, j, none⟩ := by rw [Nat.mul_one, Nat.add_zero, Go.Proofs.YtoopmpjgmgffoaaDoor.Bs.add_at]
    have h3 : w.cell? ⟨g, j, none⟩ = some (.string zs[j]) := h2 ▸ h1
    exact ⟨g, rfl, World.block_lt_of_cell? w _ h3, by rw [h3, List.getElem?_eq_getElem hj]; rfl⟩)).calls (fun k d hd => by cases hd)
end Go.Proofs.YtoopmpjgmgffoaaDoor.Tr
