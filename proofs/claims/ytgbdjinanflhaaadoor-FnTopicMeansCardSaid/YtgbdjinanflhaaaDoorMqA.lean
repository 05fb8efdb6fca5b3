/- server.mqttToNATSSubjectConversion: what it computes; its closure, by hand. -/
import Derived.Test.YtgbdjinanflhaaaDoorPlWalk
import Derived.Test.YtgbdjinanflhaaaDoorBt
import Derived.Test.YtgbdjinanflhaaaDoorProg
import Derived.Laws.MakeOwn
import Derived.IntWalk
import Derived.Deep.RegionLaw
namespace Go.Proofs.YtgbdjinanflhaaaDoor.Mq
open Go.RowKit Go.Proofs.YtgbdjinanflhaaaDoorW.PrintWords Go.Proofs.YtgbdjinanflhaaaDoorW.PrintLast Go.Proofs.YtgbdjinanflhaaaDoorW.PrintMore
set_option linter.unusedVariables false
set_option linter.unusedSimpArgs false

def iC (xs : List Int) : List Value := xs.map (Value.int .u8)
theorem iC_one (xs : List Int) : ∀ u ∈ iC xs, u.oneCell' = true := fun u hu => by
  obtain ⟨b, _, rfl⟩ := List.mem_map.1 hu
  rfl
theorem iC_len (xs : List Int) : (iC xs).length = xs.length := by simp [iC]
theorem iC_app (a b : List Int) : iC a ++ iC b = iC (a ++ b) := by simp [iC]
theorem info5 : (Tryd.prog.info? 5).map (fun i => (i.zero, i.size, i.bytes)) = some (some (.int .u8 0), 1, 1) := by kernel_rfl
theorem elem5 : ∃ i, Bs.ElemK Tryd.prog 23 5 i (.int .u8 0) 1 1 := Bs.elem_of (by kernel_rfl) info5 (by kernel_rfl) (by omega) (by omega)
theorem cell_of {w w' : World} {ad : Addr} {l : List Int} {n : Nat} (hR : Kd.C (Kd.int .u8) w (some ad) n l) (hB : Below w.heap.size w w') {i : Nat} {x : Int} (hx : l[i]? = some x) : w'.cell? (ad.add i) = some (.int .u8 x) := by
  have hi := (List.getElem?_eq_some_iff.1 hx).1
  obtain rfl : l.length = n := hR.1
  obtain ⟨ad', e, hc⟩ := Kd.at_int (Kd.C_below hR hB) (i : Int) (by omega) (by omega)
  injection e with e
  subst e
  rw [Int.toNat_natCast] at hc
  rw [hc]
  simp [rd, List.getD_eq_getElem?_getD, hx]
theorem read_C {w : World} {X : Option Addr} {l : List Int} {n : Nat} (hR : Kd.C (Kd.int .u8) w X n l) : Bs.ReadG w X n 1 (iC l) := by
  obtain rfl : l.length = n := hR.1
  refine ⟨by simp [iC], iC_one _, fun h0 => ?_⟩
  obtain ⟨ad, rfl, -⟩ := hR.2.2 (by simpa [iC] using h0)
  refine ⟨ad, rfl, fun k u hu => ?_⟩
  rw [iC, List.getElem?_map, Option.map_eq_some_iff] at hu
  obtain ⟨z, hz, rfl⟩ := hu
  exact cell_of hR (Below.refl _ _) hz
theorem new_calls (s : ByteArray) (w : World) : Calls Tryd.prog 35 #[.string s] w fun e w' => (∃ t v, e = .returned (.iface t v)) ∧ Below w.heap.size w w' := by
  go_enter Tryd.func35, Tryd.ntmps35
  go_wp2
  go_ret
  exact ⟨⟨_, _, rfl⟩, below_alloc (Below.refl _ _) _⟩
/-- The captured variables: the flag, the text, what has been written. -/
structure Cap (w : World) (bc bm br : Nat) (cp : Bool) (mt res : Value) : Prop where
  c : Bs.Blk w bc 4 [.bool cp]
  m : Bs.Blk w bm 23 [mt]
  r : Bs.Blk w br 23 [res]
  cm : bc ≠ bm
  cr : bc ≠ br
  mr : bm ≠ br
def MkPost (w1 w : World) (bc bm br : Nat) (mt : Value) (l : List Int) (i : Nat) (e : Ending) (w' : World) : Prop :=
  e = .returned (.tuple #[]) ∧ Below w1.heap.size w1 w' ∧ w.heap.size ≤ w'.heap.size ∧ ∃ v, Cap w' bc bm br true mt v ∧ w'.ownsRow w.heap.size 5 1 v i (iC (l.take i))
set_option maxHeartbeats 8000000 in
set_option maxRecDepth 100000 in
theorem mk_calls {w1 w : World} {bc bm br n c i : Nat} {X : Option Addr} {res : Value} {l : List Int} (hC : Cap w bc bm br false (.slice X n c) res) (hb : Below w1.heap.size w1 w) (h1 : w1.heap.size ≤ bc) (h2 : w1.heap.size ≤ br) (hR : Kd.C (Kd.int .u8) w1 X n l) (hc : n ≤ c) (hn : n ≤ 100000) (hi : i ≤ n) :
    Calls Tryd.prog 34 #[.int .i64 i, .pointer (some ⟨bc, 0, none⟩), .pointer (some ⟨bm, 0, none⟩), .pointer (some ⟨br, 0, none⟩)] w (MkPost w1 w bc bm br (.slice X n c) l i) := by
  have HC := Aside0.mk hC
  have HB := Aside0.mk hb
  have H1 := Aside0.mk (And.intro h1 h2)
  have HR : Aside0 (∀ W, Below w1.heap.size w1 W → Kd.C (Kd.int .u8) W X n l) := ⟨fun W hW => Kd.C_below hR hW⟩
  have HN := Aside0.mk (And.intro hc (And.intro hn hi))
  obtain ⟨i0, hK⟩ := elem5
  have K5 := Aside0.mk hK
  have f1 := hC.c.cell 0 (v := .bool false) rfl
  have z1 := hC.c.free 0
  have f2 : (w.setCell ⟨bc, 0, none⟩ (.bool true)).cell? ⟨bm, 0, none⟩ = some (.slice X n c) := (hC.m.far (p := ⟨bc, 0, none⟩) (by simpa using hC.cm.symm) _).cell 0 rfl
  have HB2 := Aside0.mk (hb.setCell (p := ⟨bc, 0, none⟩) h1 (.bool true))
  have HC2 : Aside0 (Cap (w.setCell ⟨bc, 0, none⟩ (.bool true)) bc bm br true (.slice X n c) res) := ⟨⟨hC.c.set 0 (by simp) _, hC.m.far (p := ⟨bc, 0, none⟩) (by simpa using hC.cm.symm) _, hC.r.far (p := ⟨bc, 0, none⟩) (by simpa using hC.cr.symm) _, hC.cm, hC.cr, hC.mr⟩⟩
  have HSZ : Aside0 ((w.setCell ⟨bc, 0, none⟩ (.bool true)).heap.size = w.heap.size) := ⟨Bs.setCell_size _ _ _⟩
  have n0 : (0 : Int) ≤ (n : Int) := by omega
  have n1 : (n : Int) ≤ 100000 := by omega
  have i0' : (0 : Int) ≤ (i : Int) := by omega
  have i1 : (i : Int) ≤ (c : Int) := by omega
  have i2 : (i : Int) ≤ (n : Int) := by omega
  clear hC hb h1 h2 hR hc hn hi hK
  go_enter Tryd.func34, Tryd.ntmps34
  go_upto_region 1 with (fail)
  generalize w.setCell ⟨bc, 0, none⟩ (.bool true) = w2 at *
  obtain ⟨w3, hm, ho, hg⟩ := run_make_own (P := Tryd.prog) w2 w.heap.size 23 5 i0 (.int .u8 0) 1 K5.out.under K5.out.info K5.out.zero K5.out.sz .i64 .i64 (n + 10) (by rw [K5.out.by_]; have := HN.out; omega) (by have := HN.out; unfold maxLen; omega) (by rw [HSZ.out]; exact Nat.le_refl _)
  rw [show ((n + 10 : Nat) : Int) = (n : Int) + 10 from by omega] at hm
  have e1 : w2.heap.size = w.heap.size := HSZ.out
  have hlt := HC2.out.r.lt
  have HG := Aside0.mk hg
  have HO := Aside0.mk ho
  have HC3 : Aside0 (Cap w3 bc bm br true (.slice X n c) res) := ⟨⟨HC2.out.c.move (hg.block _ HC2.out.c.lt (by simp)), HC2.out.m.move (hg.block _ HC2.out.m.lt (by simp)), HC2.out.r.move (hg.block _ HC2.out.r.lt (by simp)), HC2.out.cm, HC2.out.cr, HC2.out.mr⟩⟩
  have HB3 : Aside0 (Below w1.heap.size w1 w3) := ⟨HB2.out.trans ⟨hg.os, hg.tape, hg.output, hg.size, fun k hk => hg.block k (by have := HB2.out.size; omega) (by simp)⟩⟩
  have HS3 : Aside0 (w.heap.size ≤ w3.heap.size) := ⟨by rw [← e1]; exact hg.size⟩
  have f3 := HC3.out.r.cell 0 (v := res) rfl
  have z3 := HC3.out.r.free 0
  clear ho hg e1 hlt
  obtain ⟨g, hg2⟩ : ∃ g, g = w2.heap.size := ⟨_, rfl⟩
  rw [← hg2] at hm HO
  have HGE : Aside0 (w.heap.size ≤ g ∧ bc < g ∧ bm < g ∧ br < g) := ⟨by have := HC2.out.c.lt; have := HC2.out.m.lt; have := HC2.out.r.lt; have := HSZ.out; omega⟩
  clear hg2 HSZ HG
  have HC4 : Aside0 (Cap (w3.setCell ⟨br, 0, none⟩ (.slice (some ⟨g, 0, none⟩) 0 (n + 10))) bc bm br true (.slice X n c) (.slice (some ⟨g, 0, none⟩) 0 (n + 10))) := ⟨⟨HC3.out.c.far (p := ⟨br, 0, none⟩) (by simpa using HC3.out.cr) _, HC3.out.m.far (p := ⟨br, 0, none⟩) (by simpa using HC3.out.mr) _, HC3.out.r.set 0 (by simp) _, HC3.out.cm, HC3.out.cr, HC3.out.mr⟩⟩
  have HB4 := Aside0.mk (HB3.out.setCell (p := ⟨br, 0, none⟩) H1.out.2 (.slice (some ⟨g, 0, none⟩) 0 (n + 10)))
  have HS4 : Aside0 (w.heap.size ≤ (w3.setCell ⟨br, 0, none⟩ (.slice (some ⟨g, 0, none⟩) 0 (n + 10))).heap.size) := ⟨by rw [Bs.setCell_size]; exact HS3.out⟩
  have HO4 : Aside0 ((w3.setCell ⟨br, 0, none⟩ (.slice (some ⟨g, 0, none⟩) 0 (n + 10))).ownsRow w.heap.size 5 1 (.slice (some ⟨g, 0, none⟩) 0 (n + 10)) 0 []) := ⟨Bs.ownsRow_block HO.out (fun k hk => by
    obtain rfl : g = k := by simpa [Value.ownBlock] using hk
    exact Below.heap_setCell _ _ _ _ (by have := HGE.out; simp; omega))⟩
  by_cases hi0 : 0 < i
  · go_upto_region 3 with (fail)
    generalize w3.setCell ⟨br, 0, none⟩ (.slice (some ⟨g, 0, none⟩) 0 (n + 10)) = w4 at *
    clear HC2 HB2 HC3 HB3 HS3 HO f1 z1 f2 f3 z3 hm
    refine Bs.region_tail 4 (by kernel_rfl) (by kernel_rfl) (fun wd hwd => ?_)
    have HC5 : Aside0 (Cap wd bc bm br true (.slice X n c) (.slice (some ⟨g, 0, none⟩) 0 (n + 10))) := ⟨by rw [hwd.out]; exact ⟨HC4.out.c.drew, HC4.out.m.drew, HC4.out.r.drew, HC4.out.cm, HC4.out.cr, HC4.out.mr⟩⟩
    have HB5 : Aside0 (Below w1.heap.size w1 wd) := ⟨by rw [hwd.out]; exact HB4.out.drew⟩
    have HS5 : Aside0 (w.heap.size ≤ wd.heap.size) := ⟨by rw [hwd.out]; exact HS4.out⟩
    have HO5 : Aside0 (wd.ownsRow w.heap.size 5 1 (.slice (some ⟨g, 0, none⟩) 0 (n + 10)) 0 []) := ⟨by rw [hwd.out]; exact HO4.out⟩
    clear hwd HC4 HB4 HS4 HO4
    have f4 := HC5.out.r.cell 0 (v := .slice (some ⟨g, 0, none⟩) 0 (n + 10)) rfl
    have f5 := HC5.out.m.cell 0 (v := .slice X n c) rfl
    have z4 := HC5.out.r.free 0
    simp only [List.take_succ_cons, List.take_zero, List.drop_succ_cons, List.drop_zero]
    repeat still_step
    refine wpStill_nil ?_
    have hC := HR.out wd HB5.out
    obtain rfl : l.length = n := hC.1
    have hT := Kd.C_take hC HN.out.2.2
    have hlen : (l.take i).length = i := by rw [List.length_take]; have := HN.out; omega
    rw [hlen] at hT
    have HRD := Aside0.mk (read_C hT)
    clear hC hT hlen
    refine Bs.wpList_ownG K5.out rfl (.tmp 11) (.tmp 14) rfl (base := w.heap.size) (v := .slice (some ⟨g, 0, none⟩) 0 (l.length + 10)) (n := 0) (xs := []) (m := i) (ys := iC (l.take i)) rfl HO5.out HS5.out rfl HRD.out (by have := HN.out; omega) (fun v1 w5 h1 hg1 ha1 => ?_)
    rw [Nat.zero_add, List.nil_append] at h1
    have hbl : ∀ k, k < g → k < wd.heap.size → w5.heap[k]? = wd.heap[k]? := fun k hk hk2 => hg1.block k hk2 (by simp [Value.ownBlock]; omega)
    have hge := HGE.out
    have hv1 : ∀ k, v1.ownBlock = some k → g ≤ k := fun k hk => by
      rcases ha1 with h | h
      · rw [h] at hk
        have : g = k := by simpa [Value.ownBlock] using hk
        omega
      · rw [h] at hk
        injection hk with hk
        have := HC5.out.c.lt
        have := Bs.own_base HO5.out (k := g) rfl
        omega
    have HC6 : Aside0 (Cap w5 bc bm br true (.slice X l.length c) (.slice (some ⟨g, 0, none⟩) 0 (l.length + 10))) := ⟨⟨HC5.out.c.move (hbl _ hge.2.1 HC5.out.c.lt), HC5.out.m.move (hbl _ hge.2.2.1 HC5.out.m.lt), HC5.out.r.move (hbl _ hge.2.2.2 HC5.out.r.lt), HC5.out.cm, HC5.out.cr, HC5.out.mr⟩⟩
    have HB6 : Aside0 (Below w1.heap.size w1 w5) := ⟨HB5.out.trans ⟨hg1.os, hg1.tape, hg1.output, hg1.size, fun k hk => hbl k (by have := HB.out.size; omega) (by have := HB5.out.size; omega)⟩⟩
    have HC7 : Aside0 (Cap (w5.setCell ⟨br, 0, none⟩ v1) bc bm br true (.slice X l.length c) v1) := ⟨⟨HC6.out.c.far (p := ⟨br, 0, none⟩) (by simpa using HC6.out.cr) _, HC6.out.m.far (p := ⟨br, 0, none⟩) (by simpa using HC6.out.mr) _, HC6.out.r.set 0 (by simp) _, HC6.out.cm, HC6.out.cr, HC6.out.mr⟩⟩
    have HB7 := Aside0.mk (HB6.out.setCell (p := ⟨br, 0, none⟩) H1.out.2 v1)
    have HS7 : Aside0 (w.heap.size ≤ (w5.setCell ⟨br, 0, none⟩ v1).heap.size) := ⟨by rw [Bs.setCell_size]; exact Nat.le_trans HS5.out hg1.size⟩
    have HO7 : Aside0 ((w5.setCell ⟨br, 0, none⟩ v1).ownsRow w.heap.size 5 1 v1 i (iC (l.take i))) := ⟨Bs.ownsRow_block h1 (fun k hk => Below.heap_setCell _ _ _ _ (by have := hv1 k hk; simp; omega))⟩
    obtain ⟨q, q1, q2, rfl⟩ : ∃ q q1 q2, v1 = .slice q q1 q2 := by
      rcases h1.2 with ⟨e, -⟩ | ⟨g, cap, cur, e, -⟩
      · exact ⟨_, _, _, e⟩
      · exact ⟨_, _, _, e⟩
    have f6 := HC6.out.r.cell 0 (v := .slice (some ⟨g, 0, none⟩) 0 (l.length + 10)) rfl
    have z6 := HC6.out.r.free 0
    clear h1 hg1 ha1 hbl hge hv1 HC5 HB5 HS5 HO5 HRD f4 f5 z4 HC6 HB6
    go_wp2
    go_end0
    exact ⟨rfl, HB7.out, HS7.out, _, HC7.out, HO7.out⟩
  · obtain rfl : i = 0 := by omega
    go_wp2
    go_end0
    exact ⟨rfl, HB4.out, HS4.out, _, HC4.out, HO4.out⟩
end Go.Proofs.YtgbdjinanflhaaaDoor.Mq
