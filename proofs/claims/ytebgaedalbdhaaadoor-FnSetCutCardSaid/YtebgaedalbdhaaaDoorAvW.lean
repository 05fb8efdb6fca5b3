/- All numbers of a set, the first ones: impl.all, impl.SetFirst. -/
import Derived.Test.YtebgaedalbdhaaaDoorAvM
namespace Go.Proofs.YtebgaedalbdhaaaDoor.Av
open Go.RowKit Go.Proofs.YtebgaedalbdhaaaDoorW.PrintWords Go.Proofs.YtebgaedalbdhaaaDoorW.PrintLast Go.Proofs.YtebgaedalbdhaaaDoorW.PrintMore
set_option linter.unusedVariables false
set_option linter.unusedSimpArgs false

theorem TabAt.fr {F : Nat → Prop} {w w1 : World} (h : TabAt w) (hf : Fr F w w1) (hn : ¬ F 4) : TabAt w1 := fun j hj => by
  have hlt := World.block_lt_of_cell? w _ (h j hj)
  exact (World.cell?_of_block (hf.block 4 hlt hn)).trans (h j hj)
theorem TabAt.lt {w : World} (h : TabAt w) : 4 < w.heap.size := World.block_lt_of_cell? w _ (h 0 (by omega))
theorem run_all (c : List Int → Int → Bool) (hc : ∀ d x, c d x = true) : ∀ (l d : List Int), run c d l = (d ++ l, true)
  | [], d => by rw [run, List.append_nil]
  | x :: l, d => by rw [run, if_pos (hc d x), run_all c hc l, List.append_assoc]; rfl
theorem run_cut (n : Nat) : ∀ (l d : List Int), d.length < n → (run (fun d _ => decide (((d.length + 1 : Nat) : Int) < n)) d l).1 = d ++ l.take (n - d.length)
  | [], d, _ => by rw [run]; simp
  | x :: l, d, h => by
    rw [run]
    split
    · rename_i hc
      rw [decide_eq_true_eq] at hc
      rw [run_cut n l (d ++ [x]) (by simp; omega)]
      obtain ⟨k, hk⟩ : ∃ k, n - d.length = k + 1 := ⟨n - d.length - 1, by omega⟩
      rw [hk, List.take_succ_cons, show n - (d ++ [x]).length = k by simp; omega, List.append_assoc]
      rfl
    · rename_i hc
      rw [decide_eq_true_eq] at hc
      rw [show n - d.length = 1 by omega]
      rfl
/-- Numbers in a slice of its own. -/
structure NumRow (w w1 : World) (v : Value) (L : List Int) : Prop where
  own : w1.ownsRow w.heap.size 23 1 v L.length (L.map (Value.int .u64))
  fr : Fr (fun _ => False) w w1
theorem ownsRow_low {w : World} {base base2 : Nat} {e : TypeId} {size : Nat} {v : Value} {n : Nat} {xs : List Value} (h : w.ownsRow base e size v n xs) (hb : base2 ≤ base) : w.ownsRow base2 e size v n xs := by
  refine ⟨h.1, ?_⟩
  rcases h.2 with hx | ⟨gg, cap, cur, e, hb, rest⟩
  · exact .inl hx
  · exact .inr ⟨gg, cap, cur, e, by omega, rest⟩
theorem bag_new {w : World} : Bag (w.alloc (.cells #[.slice none 0 0] 26)) (w.alloc (.cells #[.slice none 0 0] 26)) w.heap.size (.slice none 0 0) [] :=
  ⟨heap_alloc_new w _, ⟨rfl, .inl ⟨rfl, rfl⟩⟩, Fr.refl _ _, by simp⟩
set_option maxHeartbeats 4000000 in
set_option maxRecDepth 100000 in
theorem all_calls {w : World} {g : Nat} {t : T} {sz nd : Int} {L : List Int} (h : SetIs w g t sz nd) (hT : TabAt w) (hL : t.nums = L) (hn : L.length ≤ 1000000) :
    Calls Tryd.prog 34 #[.pointer (some ⟨g, 0, none⟩)] w fun e w' => ∃ v, e = .returned v ∧ NumRow w w' v L := by
  have H := Aside0.mk h
  have HT := Aside0.mk hT
  have HL := Aside0.mk hL
  have HN := Aside0.mk hn
  clear h hT hL hn
  go_enter Tryd.func34, Tryd.ntmps34
  go_wp2_with fail
  obtain ⟨w0, hw0⟩ : ∃ w0, w0 = w.alloc (.cells #[.slice none 0 0] 26) := ⟨_, rfl⟩
  have HB : Aside0 (Bag w0 w0 w.heap.size (.slice none 0 0) []) := ⟨hw0 ▸ bag_new⟩
  have HF : Aside0 (Fr (fun _ => False) w w0) := ⟨hw0 ▸ (Fr.refl _ w).alloc _⟩
  rw [← hw0]
  have HD : Aside0 (∀ done W, BagI w0 w.heap.size done W → TabAt W ∧ SetIs W g t sz nd) := ⟨fun done W hB => by
    obtain ⟨v, hB⟩ := hB
    refine ⟨(HT.out.fr HF.out (fun h => h)).fr hB.fr (fun e => ?_), (H.out.fr HF.out (fun _ _ h => h)).fr hB.fr (fun k hk e => ?_)⟩
    · have := HT.out.lt; omega
    · have := H.out.lt k hk; omega⟩
  refine (range_calls 48 _ (fun vs W => rfl) (fun _ _ => true) (BagI w0 w.heap.size) (t := t) (sz := sz) (nd := nd) (fun done x W hr hI => all1_calls x hI ?_) HD.out ⟨_, HB.out⟩).mono ?_
  · obtain ⟨r, hr⟩ := hr
    have := HN.out
    rw [← HL.out, hr, List.length_append] at this
    omega
  rintro e w1 ⟨rfl, v, h⟩
  rw [run_all _ (fun _ _ => rfl), List.nil_append, HL.out] at h
  have HB2 := Aside0.mk h
  have f0 := h.c0
  have HS : Aside0 (w.heap.size ≤ w0.heap.size) := ⟨HF.out.size⟩
  clear h HD HB hw0
  go_wp2
  go_ret
  exact ⟨_, rfl, ownsRow_low HB2.out.own HS.out, HF.out.trans HB2.out.fr (fun k hk e => by omega)⟩
set_option maxHeartbeats 4000000 in
set_option maxRecDepth 100000 in
theorem first_calls {w : World} {A : Option Addr} {acts : List Deed} {c n : Nat} (hA : ActsR w A acts) (hok : ∀ a ∈ acts, okDeed none a) (hn : acts.length ≤ 1000) (hT : TabAt w) (h0 : 0 < n) :
    Calls Tryd.prog 28 #[.slice A acts.length c, .int .i64 n] w fun e w' => ∃ v, e = .returned v ∧ NumRow w w' v ((plays [] acts).take n) := by
  have HA := Aside0.mk hA
  have HOK := Aside0.mk hok
  have HT := Aside0.mk hT
  have H0 := Aside0.mk h0
  clear hA hok hT h0
  go_enter Tryd.func28, Tryd.ntmps28
  go_wp2_with fail
  obtain ⟨wA, hwA⟩ : ∃ wA, wA = (w.alloc (.cells #[.int .i64 n] 3)).alloc (.cells #[.slice none 0 0] 26) := ⟨_, rfl⟩
  have HFA : Aside0 (Fr (fun _ => False) w wA) := ⟨hwA ▸ ((Fr.refl _ w).alloc _).alloc _⟩
  have HM : Aside0 (wA.heap[w.heap.size]? = some (.cells #[.int .i64 n] 3 (0, 0))) := ⟨by rw [hwA, heap_alloc_old _ _ (by simp)]; exact heap_alloc_new w _⟩
  have HO : Aside0 (wA.heap[w.heap.size + 1]? = some (.cells #[.slice none 0 0] 26 (0, 0))) := ⟨by
    rw [hwA, show w.heap.size + 1 = (w.alloc (.cells #[.int .i64 n] 3)).heap.size by simp]; exact heap_alloc_new _ _⟩
  have HSA : Aside0 (wA.heap.size = w.heap.size + 2) := ⟨by rw [hwA]; simp⟩
  rw [← hwA]
  clear hwA
  refine (made_calls (HA.out.fr HFA.out (fun _ _ h => h)) HOK.out hn).mono ?_
  rintro e w0 ⟨g, t, sz, nd, rfl, h⟩
  have H := Aside0.mk h
  have HB : Aside0 (Bag w0 w0 (w.heap.size + 1) (.slice none 0 0) []) := ⟨⟨(h.fr.block _ (by have := HSA.out; omega) (fun h => h)).trans HO.out, ⟨rfl, .inl ⟨rfl, rfl⟩⟩, Fr.refl _ _, by have := HSA.out; have := h.fr.size; omega⟩⟩
  have HM0 : Aside0 (w0.heap[w.heap.size]? = some (.cells #[.int .i64 n] 3 (0, 0))) := ⟨(h.fr.block _ (by have := HSA.out; omega) (fun h => h)).trans HM.out⟩
  have HD : Aside0 (∀ done W, BagI w0 (w.heap.size + 1) done W → TabAt W ∧ SetIs W g t sz nd) := ⟨fun done W hB => by
    obtain ⟨v, hB⟩ := hB
    have := HSA.out
    refine ⟨((HT.out.fr HFA.out (fun h => h)).fr H.out.fr (fun h => h)).fr hB.fr (fun e => ?_), H.out.is.fr hB.fr (fun k hk e => ?_)⟩
    · have := HT.out.lt; omega
    · have := H.out.low k hk; omega⟩
  have HL : Aside0 ((plays [] acts).length ≤ 1000) := ⟨by have := plays_len acts []; simp at this; omega⟩
  clear h HM HO
  go_wp2_with fail
  refine (range_calls 44 _ (fun vs W => rfl) (fun d _ => decide (((d.length + 1 : Nat) : Int) < n)) (BagI w0 (w.heap.size + 1)) (t := t) (sz := sz) (nd := nd) (fun done x W hr hI => first1_calls HM0.out (by omega) x hI ?_) HD.out ⟨_, HB.out⟩).mono ?_
  · obtain ⟨r, hr⟩ := hr
    have := HL.out
    rw [← H.out.rep.nums, hr, List.length_append] at this
    omega
  rintro e w1 ⟨rfl, v, h⟩
  rw [run_cut n t.nums [] H0.out, List.nil_append, H.out.rep.nums] at h
  have HB2 := Aside0.mk h
  have f0 := h.c0
  have HF := Aside0.mk (HFA.out.trans H.out.fr (fun _ _ h => h))
  clear h HD HB
  go_wp2
  go_ret
  exact ⟨_, rfl, ownsRow_low HB2.out.own HF.out.size, HF.out.trans HB2.out.fr (fun k hk e => by omega)⟩
end Go.Proofs.YtebgaedalbdhaaaDoor.Av
