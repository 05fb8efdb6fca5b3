/- A set's bytes: Encode, impl.SetEncode. -/
import Derived.Test.YtebgaedalbdhaaaDoorSaR
import Derived.Deep.OwnRows
import Derived.RegionTactic
namespace Go.Proofs.YtebgaedalbdhaaaDoor.Av
open Go.RowKit Go.Proofs.YtebgaedalbdhaaaDoorW.PrintWords Go.Proofs.YtebgaedalbdhaaaDoorW.PrintLast Go.Proofs.YtebgaedalbdhaaaDoorW.PrintMore
set_option linter.unusedVariables false
set_option linter.unusedSimpArgs false

theorem info5 : (Tryd.prog.info? 5).map (fun i => (i.zero, i.size, i.bytes)) = some (some (.int .u8 0), 1, 1) := by kernel_rfl
def EncodePost (w : World) (t : T) (sz : Int) (m : Nat) (e : Ending) (w' : World) : Prop :=
  ∃ g : Nat, e = .returned (.slice (some ⟨g, 0, none⟩) (10 + 266 * t.flat.length) (10 + 266 * m)) ∧ Buf w' g (10 + 266 * m) ([.int .u8 22, .int .u8 2] ++ le4 m ++ le4 sz) ∧ Fr (fun _ => False) w w'
theorem made_all (n : Nat) : ∀ u ∈ madeCells #[.int .u8 0] n, u = .int .u8 0 := by
  intro u hu
  unfold madeCells at hu
  obtain ⟨i, _, rfl⟩ := Array.mem_map.1 hu
  have h0 : i % (#[Value.int .u8 0] : Array Value).size = 0 := Nat.mod_one i
  rw [h0]
  rfl
theorem made_buf (w : World) (n : Nat) : Buf (w.alloc (.cells (madeCells #[.int .u8 0] n) 5)) w.heap.size n [] :=
  ⟨(madeCells #[.int .u8 0] n).toList, by rw [Array.toArray_toList]; exact heap_alloc_new w _, by rw [Array.length_toList]; simp [madeCells], rfl, fun u hu => by
    have := made_all n u (by simpa using hu)
    subst this
    rfl⟩
set_option maxHeartbeats 8000000 in
set_option maxRecDepth 100000 in
theorem encode_calls {w : World} {t : T} {sz : Int} {m : Nat} (hL : Lies w t) (hn : t.flat.length ≤ m) (hm : m ≤ 1000) (q0 : 0 ≤ sz) (q1 : sz ≤ 65535) :
    Calls Tryd.prog 39 #[.agg #[.pointer (ptrA t.ptr), .int .i64 sz, .int .i64 (m : Int), .bool false], .slice none 0 0] w (EncodePost w t sz m) := by
  obtain ⟨i5, hi5, hz5, hs5, hb5⟩ := info_parts info5
  have HI5 := Aside0.mk hi5
  have HZ5 := Aside0.mk hz5
  have HS5 := Aside0.mk hs5
  have HB5 := Aside0.mk hb5
  have HL := Aside0.mk hL
  have HN := Aside0.mk hn
  have m0 : (0 : Int) ≤ (m : Int) := by omega
  have m1 : (m : Int) ≤ 1000 := by omega
  clear hL hn hi5 hz5 hs5 hb5
  go_enter Tryd.func39, Tryd.ntmps39
  go_upto_region 1 with (fail)
  have HF1 := Aside0.mk (((Fr.refl (fun _ => False) w).alloc (.cells #[.pointer (ptrA t.ptr), .int .i64 sz, .int .i64 (m : Int), .bool false] 63)).alloc (.cells #[.slice none 0 0] 48))
  have HS1 := Aside0.mk ((set_boxed w t.ptr sz (m : Int) false).alloc (.cells #[.slice none 0 0] 48))
  have HBX : Aside0 (((w.alloc (.cells #[.pointer (ptrA t.ptr), .int .i64 sz, .int .i64 (m : Int), .bool false] 63)).alloc (.cells #[.slice none 0 0] 48)).heap[w.heap.size + 1]? = some (.cells [.slice none 0 0].toArray 48 (0, 0))) := ⟨by
    have := heap_alloc_new (w.alloc (.cells #[.pointer (ptrA t.ptr), .int .i64 sz, .int .i64 (m : Int), .bool false] 63)) (.cells #[.slice none 0 0] 48)
    simpa using this⟩
  have HZ1 : Aside0 (((w.alloc (.cells #[.pointer (ptrA t.ptr), .int .i64 sz, .int .i64 (m : Int), .bool false] 63)).alloc (.cells #[.slice none 0 0] 48)).heap.size = w.heap.size + 2) := ⟨by simp⟩
  generalize (w.alloc (.cells #[.pointer (ptrA t.ptr), .int .i64 sz, .int .i64 (m : Int), .bool false] 63)).alloc (.cells #[.slice none 0 0] 48) = w1 at *
  obtain ⟨S0, hS0⟩ : ∃ S0, S0 = w.heap.size := ⟨_, rfl⟩
  have HS0 := Aside0.mk hS0
  rw [← hS0] at HS1 HBX HZ1 ⊢
  clear hS0
  refine region_tail 2 (by kernel_rfl) (by kernel_rfl) (fun wd hwd => ?_)
  have HF2 : Aside0 (Fr (fun _ => False) w wd) := ⟨by rw [hwd.out]; exact HF1.out.drew⟩
  have HS2 : Aside0 (SetAt wd S0 t.ptr sz (m : Int) false) := ⟨by rw [hwd.out]; exact HS1.out.move rfl⟩
  have HBX2 : Aside0 (wd.heap[S0 + 1]? = some (.cells [.slice none 0 0].toArray 48 (0, 0))) := ⟨by rw [hwd.out]; exact HBX.out⟩
  have HZ2 : Aside0 (wd.heap.size = S0 + 2) := ⟨by rw [hwd.out]; exact HZ1.out⟩
  have c0 := HS2.out.c0
  have c1 := HS2.out.c1
  have c2 := HS2.out.c2
  have c3 := HS2.out.c3
  clear hwd HF1 HS1 HBX HZ1
  simp only [List.take_succ_cons, List.take_zero, List.drop_succ_cons, List.drop_zero]
  still_call (nodes_calls HS2.out)
  repeat still_step
  refine wpStill_nil ?_
  clear c0 c1 c2 c3
  obtain ⟨n, hn⟩ : ∃ n : Nat, n = 10 + 266 * m := ⟨_, rfl⟩
  have HNN := Aside0.mk hn
  have EL := encLen_calls (w := wd) (root := t.ptr) (sz := sz) (ch := false) m0 (by omega)
  rw [show (10 + (m : Int) * 266) = (n : Int) by omega] at EL
  replace EL := Aside0.mk EL
  have n0 : (0 : Int) < (n : Int) := by omega
  have n1 : (n : Int) ≤ 1000000 := by omega
  clear hn
  go_wp2_with fail
  refine EL.out.mono ?_
  rintro e w2 ⟨rfl, hf⟩
  have HF3 := Aside0.mk (HF2.out.trans hf (fun _ _ h => h))
  have HS3 : Aside0 (SetAt w2 S0 t.ptr sz (m : Int) false) := ⟨HS2.out.fr hf (fun h => h)⟩
  have HBX3 : Aside0 (w2.heap[S0 + 1]? = some (.cells [.slice none 0 0].toArray 48 (0, 0))) := ⟨(hf.block _ (by have := HZ2.out; omega) (fun h => h)).trans HBX2.out⟩
  have HZ3 : Aside0 (S0 + 2 ≤ w2.heap.size) := ⟨by have := HZ2.out; have := hf.size; omega⟩
  clear hf EL HF2 HS2 HBX2 HZ2
  have f1 : w2.cell? ⟨S0 + 1, 0, none⟩ = some (.slice none 0 0) := cell_at HBX3.out
  have z1 : w2.frozen? ⟨S0 + 1, 0, none⟩ = false := blk_frozen HBX3.out _
  go_upto_region 3 with (fail)
  have HBF := Aside0.mk (made_buf w2 n)
  have HF4 := Aside0.mk (HF3.out.alloc (.cells (madeCells #[.int .u8 0] n) 5))
  have HS4 := Aside0.mk (HS3.out.alloc (.cells (madeCells #[.int .u8 0] n) 5))
  have HBX4 : Aside0 ((w2.alloc (.cells (madeCells #[.int .u8 0] n) 5)).heap[S0 + 1]? = some (.cells [.slice none 0 0].toArray 48 (0, 0))) := ⟨(Below.heap_alloc w2 _ _ (by have := HZ3.out; omega)).trans HBX3.out⟩
  have f2 : (w2.alloc (.cells (madeCells #[.int .u8 0] n) 5)).cell? ⟨S0 + 1, 0, none⟩ = some (.slice none 0 0) := cell_at HBX4.out
  have z2 : (w2.alloc (.cells (madeCells #[.int .u8 0] n) 5)).frozen? ⟨S0 + 1, 0, none⟩ = false := blk_frozen HBX4.out _
  go_upto_region 5 with (refine wpList_make_row _ rfl _ _ 48 rfl 5 i5 (.int .u8 0) (by kernel_rfl) HI5.out HZ5.out HS5.out rfl .i64 .i64 n rfl rfl (by rw [HB5.out]; omega) (by omega) ?_)
  have HB5b : Aside0 (Buf ((w2.alloc (Obj.cells (madeCells #[Value.int IntKind.u8 0] n) 5)).setCell ⟨S0 + 1, 0, none⟩ (.slice (some ⟨w2.heap.size, 0, none⟩) n n)) w2.heap.size n []) := ⟨HBF.out.far (by have := HZ3.out; show w2.heap.size ≠ S0 + 1; omega) _⟩
  have HBX5 : Aside0 (((w2.alloc (Obj.cells (madeCells #[Value.int IntKind.u8 0] n) 5)).setCell ⟨S0 + 1, 0, none⟩ (.slice (some ⟨w2.heap.size, 0, none⟩) n n)).heap[S0 + 1]? = some (.cells [.slice (some ⟨w2.heap.size, 0, none⟩) n n].toArray 48 (0, 0))) := ⟨store_at HBX4.out (by simp) _⟩
  have HS5 : Aside0 (SetAt ((w2.alloc (Obj.cells (madeCells #[Value.int IntKind.u8 0] n) 5)).setCell ⟨S0 + 1, 0, none⟩ (.slice (some ⟨w2.heap.size, 0, none⟩) n n)) S0 t.ptr sz (m : Int) false) := ⟨HS4.out.far (by show S0 ≠ S0 + 1; omega) _⟩
  have HF5 : Aside0 (Fr (fun _ => False) w ((w2.alloc (Obj.cells (madeCells #[Value.int IntKind.u8 0] n) 5)).setCell ⟨S0 + 1, 0, none⟩ (.slice (some ⟨w2.heap.size, 0, none⟩) n n))) := ⟨HF4.out.set (p := ⟨S0 + 1, 0, none⟩) (.inr (by have := HS0.out; show w.heap.size ≤ S0 + 1; omega)) _⟩
  have HZ5 : Aside0 (((w2.alloc (Obj.cells (madeCells #[Value.int IntKind.u8 0] n) 5)).setCell ⟨S0 + 1, 0, none⟩ (.slice (some ⟨w2.heap.size, 0, none⟩) n n)).heap.size = w2.heap.size + 1) := ⟨by rw [setCell_size]; simp⟩
  generalize (w2.alloc (Obj.cells (madeCells #[Value.int IntKind.u8 0] n) 5)).setCell ⟨S0 + 1, 0, none⟩ (.slice (some ⟨w2.heap.size, 0, none⟩) n n) = w3 at *
  obtain ⟨G, hG⟩ : ∃ G, G = w2.heap.size := ⟨_, rfl⟩
  rw [← hG] at HB5b HBX5 HZ5 HZ3 ⊢
  clear hG HBF HF4 HS4 HBX4 f1 z1 f2 z2 HBX3 HS3 HF3
  go_upto_region 6 with (fail)
  have HB6 := Aside0.mk (HB5b.out.alloc (.cells #[] 84))
  have HBX6 : Aside0 ((w3.alloc (.cells #[] 84)).heap[S0 + 1]? = some (.cells [.slice (some ⟨G, 0, none⟩) n n].toArray 48 (0, 0))) := ⟨(Below.heap_alloc w3 _ _ (by have := HZ5.out; have := HZ3.out; omega)).trans HBX5.out⟩
  have HS6 := Aside0.mk (HS5.out.alloc (.cells #[] 84))
  have HF6 := Aside0.mk (HF5.out.alloc (.cells #[] 84))
  have HZ6 : Aside0 ((w3.alloc (.cells #[] 84)).heap.size = G + 2) := ⟨by have := HZ5.out; simp; omega⟩
  generalize w3.alloc (.cells #[] 84) = w4 at *
  obtain ⟨LB, hLB⟩ : ∃ LB, LB = w3.heap.size := ⟨_, rfl⟩
  rw [← hLB]
  clear hLB HB5b HBX5 HS5 HF5 HZ5
  have f1 : w4.cell? ⟨S0 + 1, 0, none⟩ = some (.slice (some ⟨G, 0, none⟩) n n) := cell_at HBX6.out
  have n2 : (1 : Int) < (n : Int) := by have := HNN.out; omega
  obtain ⟨x0, f2⟩ := HB6.out.cell 0 (by omega)
  obtain ⟨x1, f3⟩ := HB6.out.cell 1 (by omega)
  have z2 := HB6.out.free 0
  have z3 := HB6.out.free 1
  have g1 : G ≠ S0 + 1 := by have := HZ3.out; omega
  have g2 : S0 + 1 ≠ G := Ne.symm g1
  go_region
  have HB7 : Aside0 (Buf ((w4.setCell ⟨G, 0, none⟩ (.int .u8 22)).setCell ⟨G, 1, none⟩ (.int .u8 2)).drew G n [.int .u8 22, .int .u8 2]) := ⟨((HB6.out.puts 0 rfl (by omega) (.int .u8 22)).puts 1 rfl (by omega) (.int .u8 2)).move rfl⟩
  have HBX7 : Aside0 (((w4.setCell ⟨G, 0, none⟩ (.int .u8 22)).setCell ⟨G, 1, none⟩ (.int .u8 2)).drew.heap[S0 + 1]? = some (.cells [.slice (some ⟨G, 0, none⟩) n n].toArray 48 (0, 0))) := ⟨(Below.heap_setCell _ _ _ (S0 + 1) g2).trans ((Below.heap_setCell _ _ _ (S0 + 1) g2).trans HBX6.out)⟩
  have HS7 : Aside0 (SetAt ((w4.setCell ⟨G, 0, none⟩ (.int .u8 22)).setCell ⟨G, 1, none⟩ (.int .u8 2)).drew S0 t.ptr sz (m : Int) false) := ⟨((HS6.out.far (by have := HZ3.out; show S0 ≠ G; omega) _).far (by have := HZ3.out; show S0 ≠ G; omega) _).move rfl⟩
  have HF7 : Aside0 (Fr (fun _ => False) w ((w4.setCell ⟨G, 0, none⟩ (.int .u8 22)).setCell ⟨G, 1, none⟩ (.int .u8 2)).drew) := ⟨((HF6.out.set (p := ⟨G, 0, none⟩) (.inr (by have := HS0.out; have := HZ3.out; show w.heap.size ≤ G; omega)) _).set (p := ⟨G, 1, none⟩) (.inr (by have := HS0.out; have := HZ3.out; show w.heap.size ≤ G; omega)) _).drew⟩
  have HZ7 : Aside0 (((w4.setCell ⟨G, 0, none⟩ (.int .u8 22)).setCell ⟨G, 1, none⟩ (.int .u8 2)).drew.heap.size = G + 2) := ⟨by show ((w4.setCell _ _).setCell _ _).heap.size = _; rw [setCell_size, setCell_size]; exact HZ6.out⟩
  generalize ((w4.setCell ⟨G, 0, none⟩ (.int .u8 22)).setCell ⟨G, 1, none⟩ (.int .u8 2)).drew = w5 at *
  clear f1 f2 f3 z2 z3 HB6 HBX6 HS6 HF6 HZ6
  go_upto_region 8 with (fail)
  have HB8 := Aside0.mk (HB7.out.alloc (.cells #[.int .i64 2] 3))
  have HBX8 : Aside0 ((w5.alloc (.cells #[.int .i64 2] 3)).heap[S0 + 1]? = some (.cells [.slice (some ⟨G, 0, none⟩) n n].toArray 48 (0, 0))) := ⟨(Below.heap_alloc w5 _ _ (by have := HZ7.out; have := HZ3.out; omega)).trans HBX7.out⟩
  have HS8 := Aside0.mk (HS7.out.alloc (.cells #[.int .i64 2] 3))
  have HF8 := Aside0.mk (HF7.out.alloc (.cells #[.int .i64 2] 3))
  have HIB8 : Aside0 ((w5.alloc (.cells #[.int .i64 2] 3)).heap[G + 2]? = some (.cells [.int .i64 2].toArray 3 (0, 0))) := ⟨by have := heap_alloc_new w5 (.cells #[.int .i64 2] 3); rw [HZ7.out] at this; exact this⟩
  rw [HZ7.out]
  generalize w5.alloc (.cells #[.int .i64 2] 3) = w6 at *
  clear HB7 HBX7 HS7 HF7 HZ7
  refine region_tail 6 (by kernel_rfl) (by kernel_rfl) (fun wd hwd => ?_)
  have HB9 : Aside0 (Buf wd G n [.int .u8 22, .int .u8 2]) := ⟨by rw [hwd.out]; exact HB8.out.move rfl⟩
  have HBX9 : Aside0 (wd.heap[S0 + 1]? = some (.cells [.slice (some ⟨G, 0, none⟩) n n].toArray 48 (0, 0))) := ⟨by rw [hwd.out]; exact HBX8.out⟩
  have HS9 : Aside0 (SetAt wd S0 t.ptr sz (m : Int) false) := ⟨by rw [hwd.out]; exact HS8.out.move rfl⟩
  have HF9 : Aside0 (Fr (fun _ => False) w wd) := ⟨by rw [hwd.out]; exact HF8.out.drew⟩
  have HIB9 : Aside0 (wd.heap[G + 2]? = some (.cells [.int .i64 2].toArray 3 (0, 0))) := ⟨by rw [hwd.out]; exact HIB8.out⟩
  clear hwd HB8 HBX8 HS8 HF8 HIB8
  have f1 : wd.cell? ⟨S0 + 1, 0, none⟩ = some (.slice (some ⟨G, 0, none⟩) n n) := cell_at HBX9.out
  have f2 : wd.cell? ⟨G + 2, 0, none⟩ = some (.int .i64 2) := cell_at HIB9.out
  have e1 : IntKind.u32.wrap (m : Int) = (m : Int) := by rw [IntKind.wrap_u32]; omega
  have n3 : n ≠ 2 := by have := HNN.out; omega
  have n4 : 2 ≤ n := by have := HNN.out; omega
  have n5 : (2 : Int) ≤ (n : Int) := by omega
  simp only [List.take_succ_cons, List.take_zero, List.drop_succ_cons, List.drop_zero]
  repeat still_step
  refine wpStill_nil ?_
  clear f1 f2 e1
  go_wp2_with fail
  refine (put32h_calls HB9.out rfl (by have := HNN.out; simp; omega) (by have := HNN.out; omega) m0 (by omega)).mono ?_
  rintro e w7 ⟨rfl, hb, hf⟩
  have HB10 := Aside0.mk hb
  have HBX10 : Aside0 (w7.heap[S0 + 1]? = some (.cells [.slice (some ⟨G, 0, none⟩) n n].toArray 48 (0, 0))) := ⟨(hf.block _ (Array.getElem?_eq_some_iff.1 HBX9.out).1 (fun e => g2 e)).trans HBX9.out⟩
  have HS10 : Aside0 (SetAt w7 S0 t.ptr sz (m : Int) false) := ⟨HS9.out.fr hf (fun e => by have := HZ3.out; omega)⟩
  have HF10 : Aside0 (Fr (fun _ => False) w w7) := ⟨HF9.out.trans hf (fun j hj e => by have := HZ3.out; have := HS0.out; omega)⟩
  have HIB10 : Aside0 (w7.heap[G + 2]? = some (.cells [.int .i64 2].toArray 3 (0, 0))) := ⟨(hf.block _ (Array.getElem?_eq_some_iff.1 HIB9.out).1 (fun e => by omega)).trans HIB9.out⟩
  clear hb hf HB9 HBX9 HS9 HF9 HIB9 n3 n4 n5
  go_upto_region 9 with (fail)
  refine region_tail 8 (by kernel_rfl) (by kernel_rfl) (fun wd2 hwd => ?_)
  have HB11 : Aside0 (Buf wd2 G n ([.int .u8 22, .int .u8 2] ++ le4 m)) := ⟨by rw [hwd.out]; exact HB10.out.move rfl⟩
  have HBX11 : Aside0 (wd2.heap[S0 + 1]? = some (.cells [.slice (some ⟨G, 0, none⟩) n n].toArray 48 (0, 0))) := ⟨by rw [hwd.out]; exact HBX10.out⟩
  have HS11 : Aside0 (SetAt wd2 S0 t.ptr sz (m : Int) false) := ⟨by rw [hwd.out]; exact HS10.out.move rfl⟩
  have HF11 : Aside0 (Fr (fun _ => False) w wd2) := ⟨by rw [hwd.out]; exact HF10.out.drew⟩
  have HIB11 : Aside0 (wd2.heap[G + 2]? = some (.cells [.int .i64 2].toArray 3 (0, 0))) := ⟨by rw [hwd.out]; exact HIB10.out⟩
  clear hwd HB10 HBX10 HS10 HF10 HIB10
  have f1 : wd2.cell? ⟨S0 + 1, 0, none⟩ = some (.slice (some ⟨G, 0, none⟩) n n) := cell_at HBX11.out
  have f2 : wd2.cell? ⟨G + 2, 0, none⟩ = some (.int .i64 2) := cell_at HIB11.out
  have f3 := HS11.out.c1
  have n3 : n ≠ 6 := by have := HNN.out; omega
  have n4 : 6 ≤ n := by have := HNN.out; omega
  have n5 : (6 : Int) ≤ (n : Int) := by omega
  have e1 : IntKind.i64.wrap (2 + 4) = 6 := by decide
  have e2 : IntKind.i64.wrap 6 = 6 := by decide
  have e3 : IntKind.u32.wrap sz = sz := by rw [IntKind.wrap_u32]; omega
  simp only [List.take_succ_cons, List.take_zero, List.drop_succ_cons, List.drop_zero]
  repeat still_step
  refine wpStill_nil ?_
  clear f1 f2 f3 e1 e2 e3
  go_wp2_with fail
  refine (put32h_calls HB11.out (by simp [le4]) (by have := HNN.out; omega) (by have := HNN.out; omega) q0 (by omega)).mono ?_
  rintro e w8 ⟨rfl, hb, hf⟩
  have HB12 := Aside0.mk hb
  have HBX12 : Aside0 (w8.heap[S0 + 1]? = some (.cells [.slice (some ⟨G, 0, none⟩) n n].toArray 48 (0, 0))) := ⟨(hf.block _ (Array.getElem?_eq_some_iff.1 HBX11.out).1 (fun e => g2 e)).trans HBX11.out⟩
  have HS12 : Aside0 (SetAt w8 S0 t.ptr sz (m : Int) false) := ⟨HS11.out.fr hf (fun e => by have := HZ3.out; omega)⟩
  have HF12 : Aside0 (Fr (fun _ => False) w w8) := ⟨HF11.out.trans hf (fun j hj e => by have := HZ3.out; have := HS0.out; omega)⟩
  have HIB12 : Aside0 (w8.heap[G + 2]? = some (.cells [.int .i64 2].toArray 3 (0, 0))) := ⟨(hf.block _ (Array.getElem?_eq_some_iff.1 HIB11.out).1 (fun e => by omega)).trans HIB11.out⟩
  clear hb hf HB11 HBX11 HS11 HF11 HIB11 n3 n4 n5
  have f2 : w8.cell? ⟨G + 2, 0, none⟩ = some (.int .i64 2) := cell_at HIB12.out
  have z2 : w8.frozen? ⟨G + 2, 0, none⟩ = false := blk_frozen HIB12.out _
  go_upto_region 11 with (fail)
  have HE : Aside0 (EncI (w8.setCell ⟨G + 2, 0, none⟩ (.int .i64 10)) (w8.setCell ⟨G + 2, 0, none⟩ (.int .i64 10)) G n ([.int .u8 22, .int .u8 2] ++ le4 m ++ le4 sz) (S0 + 1) (G + 2) 0) :=
    ⟨HB12.out.far (by show G ≠ G + 2; omega) _, (Below.heap_setCell _ _ _ (S0 + 1) (by have := HZ3.out; show S0 + 1 ≠ G + 2; omega)).trans HBX12.out, store_at HIB12.out (by simp) _, Fr.refl _ _, by simp [le4], g1, by omega, by have := HZ3.out; omega⟩
  have HS13 : Aside0 (SetAt (w8.setCell ⟨G + 2, 0, none⟩ (.int .i64 10)) S0 t.ptr sz (m : Int) false) := ⟨HS12.out.far (by have := HZ3.out; show S0 ≠ G + 2; omega) _⟩
  have HF13 : Aside0 (Fr (fun _ => False) w (w8.setCell ⟨G + 2, 0, none⟩ (.int .i64 10))) := ⟨HF12.out.set (p := ⟨G + 2, 0, none⟩) (.inr (by have := HZ3.out; have := HS0.out; show w.heap.size ≤ G + 2; omega)) _⟩
  generalize w8.setCell ⟨G + 2, 0, none⟩ (.int .i64 10) = w9 at *
  clear f2 z2 HB12 HBX12 HS12 HF12 HIB12
  have f3 := HS13.out.c0
  go_wp2_with fail
  refine (recs_calls (by omega) t 0 w9 (HL.out.fr HF13.out (fun _ _ h => h)) (fun j hj => by have := HL.out.lt j hj; have := HZ3.out; have := HS0.out; omega) HE.out (by have := HN.out; have := HNN.out; omega)).mono ?_
  rintro e w10 ⟨rfl, hE⟩
  have HE2 := Aside0.mk hE
  have HF14 : Aside0 (Fr (fun _ => False) w w10) := ⟨HF13.out.trans hE.fr (fun j hj e => by have := HZ3.out; have := HS0.out; omega)⟩
  have f1 : w10.cell? ⟨S0 + 1, 0, none⟩ = some (.slice (some ⟨G, 0, none⟩) n n) := cell_at HE2.out.bbox
  have f2 := cell_at (o := 0) HE2.out.ibox
  simp only [Nat.zero_add] at f2
  obtain ⟨q, hq⟩ : ∃ q, q = 10 + 266 * t.flat.length := ⟨_, rfl⟩
  have HQ := Aside0.mk hq
  replace f2 : w10.cell? ⟨G + 2, 0, none⟩ = some (.int .i64 (q : Int)) := by rw [hq]; exact f2
  have q2 : (0 : Int) ≤ (q : Int) := by omega
  have q3 : (q : Int) ≤ (n : Int) := by have := HN.out; have := HNN.out; omega
  clear hE hq f3
  go_wp2
  go_ret
  refine ⟨G, ?_, ?_, HF14.out⟩
  · show Ending.returned (.slice (some ⟨G, 0, none⟩) q n) = _
    rw [HQ.out, HNN.out]
  · rw [← HNN.out]; exact HE2.out.buf
end Go.Proofs.YtebgaedalbdhaaaDoor.Av
