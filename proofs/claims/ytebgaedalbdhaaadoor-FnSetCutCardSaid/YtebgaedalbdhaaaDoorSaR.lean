/- A set's bytes: a node's record; all records. -/
import Derived.Test.YtebgaedalbdhaaaDoorSaQ
namespace Go.Proofs.YtebgaedalbdhaaaDoor.Av
open Go.RowKit Go.Proofs.YtebgaedalbdhaaaDoorW.PrintWords Go.Proofs.YtebgaedalbdhaaaDoorW.PrintLast Go.Proofs.YtebgaedalbdhaaaDoorW.PrintMore
set_option linter.unusedVariables false
set_option linter.unusedSimpArgs false

/-- What Encode has behind k records: its bytes, the boxes of the slice and of the place. -/
structure EncI (w0 W : World) (g n : Nat) (hd : List Value) (bb ib : Nat) (k : Nat) : Prop where
  buf : Buf W g n hd
  bbox : W.heap[bb]? = some (.cells [.slice (some ⟨g, 0, none⟩) n n].toArray 48 (0, 0))
  ibox : W.heap[ib]? = some (.cells [.int .i64 ((10 + 266 * k : Nat) : Int)].toArray 3 (0, 0))
  fr : Fr (fun j => j = g ∨ j = ib) w0 W
  hd : hd.length ≤ 10
  ne : g ≠ bb ∧ g ≠ ib ∧ bb ≠ ib
section
variable {w0 W W' : World} {g n bb ib k : Nat} {hd : List Value}
theorem EncI.put (h : EncI w0 W g n hd bb ib k) (hb : Buf W' g n hd) (hf : Fr (fun j => j = g) W W') : EncI w0 W' g n hd bb ib k :=
  ⟨hb, (hf.block bb (Array.getElem?_eq_some_iff.1 h.bbox).1 (fun e => h.ne.1 e.symm)).trans h.bbox, (hf.block ib (Array.getElem?_eq_some_iff.1 h.ibox).1 (fun e => h.ne.2.1 e.symm)).trans h.ibox, h.fr.trans hf (fun j _ e => .inl e), h.hd, h.ne⟩
theorem EncI.drew (h : EncI w0 W g n hd bb ib k) : EncI w0 W.drew g n hd bb ib k := ⟨h.buf.move rfl, h.bbox, h.ibox, h.fr.drew, h.hd, h.ne⟩
theorem EncI.next (h : EncI w0 W g n hd bb ib k) : EncI w0 (W.setCell ⟨ib, 0, none⟩ (.int .i64 ((10 + 266 * (k + 1) : Nat) : Int))) g n hd bb ib (k + 1) :=
  ⟨h.buf.far h.ne.2.1 _, (Below.heap_setCell W _ _ bb h.ne.2.2).trans h.bbox, store_at h.ibox (by simp) _, h.fr.set (p := ⟨ib, 0, none⟩) (.inl (.inr rfl)) _, h.hd, h.ne⟩
end
set_option maxHeartbeats 8000000 in
set_option maxRecDepth 100000 in
theorem rec_calls {w0 W : World} {g n bb ib lb k : Nat} {hd : List Value} {b : Nat} {x : Int} {s : List Int} {l r : Option Nat} {h : Int} (hI : EncI w0 W g n hd bb ib k) (hn : 10 + 266 * (k + 1) ≤ n) (hm : n ≤ 1000000000) (N : NodeAt W b x s l r h) (hb : b ≠ g ∧ b ≠ ib) :
    Calls Tryd.prog 55 (#[.pointer (some ⟨b, 0, none⟩)] ++ #[.pointer (some ⟨bb, 0, none⟩), .pointer (some ⟨ib, 0, none⟩), .pointer (some ⟨lb, 0, none⟩)]) W fun e w' => e = .returned (.tuple #[]) ∧ EncI w0 w' g n hd bb ib (k + 1) := by
  have HI := Aside0.mk hI
  have HN := Aside0.mk N
  have HBN := Aside0.mk hb
  clear hI N hb
  show Calls Tryd.prog 55 #[.pointer (some ⟨b, 0, none⟩), .pointer (some ⟨bb, 0, none⟩), .pointer (some ⟨ib, 0, none⟩), .pointer (some ⟨lb, 0, none⟩)] W _
  have f1 : W.cell? ⟨bb, 0, none⟩ = some (.slice (some ⟨g, 0, none⟩) n n) := cell_at HI.out.bbox
  have f2 : W.cell? ⟨ib, 0, none⟩ = some (.int .i64 ((10 + 266 * k : Nat) : Int)) := cell_at HI.out.ibox
  obtain ⟨i, hi⟩ : ∃ i : Nat, i = 10 + 266 * k := ⟨_, rfl⟩
  have HIK := Aside0.mk hi
  rw [← hi] at f2
  have i0 : (0 : Int) ≤ (i : Int) := by omega
  have i1 : (i : Int) + 266 ≤ (n : Int) := by omega
  have i2 : (i : Int) ≤ (n : Int) := by omega
  have i3 : (n : Int) ≤ 1000000000 := by omega
  have e1 : ((i : Int) + 266).toNat = i + 266 := by omega
  clear hi hn hm
  go_enter Tryd.func55, Tryd.ntmps55
  go_upto_region 1 with (fail)
  clear f1
  have c0 := HN.out.c0
  refine region_tail 6 (by kernel_rfl) (by kernel_rfl) (fun wd hwd => ?_)
  have HI2 : Aside0 (EncI w0 wd g n hd bb ib k) := ⟨by rw [hwd.out]; exact HI.out.drew⟩
  have HN2 : Aside0 (NodeAt wd b x s l r h) := ⟨by rw [hwd.out]; exact HN.out.drew⟩
  replace c0 : wd.cell? ⟨b, 0, none⟩ = some (.int .u64 x) := HN2.out.c0
  clear hwd f2
  simp only [List.take_succ_cons, List.take_zero, List.drop_succ_cons, List.drop_zero]
  repeat still_step
  refine wpStill_nil ?_
  go_wp2_with fail
  refine (put64_calls (v := x) HI2.out.buf (by have := HI2.out.hd; have := HIK.out; omega) (by omega) (by omega)).mono ?_
  rintro e w1 ⟨rfl, hb, hf⟩
  have HI3 := Aside0.mk (HI2.out.put hb hf)
  have HN3 : Aside0 (NodeAt w1 b x s l r h) := ⟨HN2.out.fr hf (fun e => HBN.out.1 e)⟩
  clear hb hf c0 HI HN HI2 HN2
  go_wp2
  go_loopg [19] 32 (fun m v w' => ∃ j : Nat, j ≤ 32 ∧ v = .int .i64 j ∧ Aside0 (32 - j ≤ m ∧ EncI w0 w' g n hd bb ib k ∧ NodeAt w' b x s l r h))
  case atStart => exact ⟨0, by omega, rfl, ⟨by omega, HI3.out, HN3.out⟩⟩
  case round =>
    obtain ⟨j, hj, rfl, HU⟩ := hrel
    have HM := Aside0.mk HU.out.1
    have HI := Aside0.mk HU.out.2.1
    have HN := Aside0.mk HU.out.2.2
    clear HU HI3 HN3
    by_cases hlt : j < 32
    · have c0 := HN.out.cbit j hlt
      obtain ⟨y, hy⟩ : ∃ y, y = s.getD j 0 := ⟨_, rfl⟩
      rw [← hy] at c0
      have j0 : (0 : Int) ≤ (j : Int) := by omega
      have j1 : (j : Int) < 32 := by omega
      have e2 : IntKind.i64.wrap ((j : Int) * 8) = (j : Int) * 8 := by rw [IntKind.wrap_i64]; omega
      have e3 : IntKind.i64.wrap (8 + (j : Int) * 8) = 8 + (j : Int) * 8 := by rw [IntKind.wrap_i64]; omega
      have e4 : (8 + (j : Int) * 8).toNat = 8 + j * 8 := by omega
      have j2 : (0 : Int) ≤ 8 + (j : Int) * 8 := by omega
      have j3 : 8 + (j : Int) * 8 ≤ 266 := by omega
      have j4 : n - i ≠ 8 + j * 8 := by omega
      have j5 : 8 + j * 8 ≤ n - i := by omega
      clear hy hj
      go_upto_region 5 with (fail)
      refine region_tail 12 (by kernel_rfl) (by kernel_rfl) (fun wd hwd => ?_)
      have HI2 : Aside0 (EncI w0 wd g n hd bb ib k) := ⟨by rw [hwd.out]; exact HI.out.drew⟩
      have HN2 : Aside0 (NodeAt wd b x s l r h) := ⟨by rw [hwd.out]; exact HN.out.drew⟩
      replace c0 : wd.cell? ⟨b, 1 + j, none⟩ = some (.int .u64 y) := by rw [hwd.out]; exact c0
      clear hwd HI HN
      simp only [List.take_succ_cons, List.take_zero, List.drop_succ_cons, List.drop_zero]
      repeat still_step
      refine wpStill_nil ?_
      clear c0
      go_wp2_with fail
      refine (put64_calls (v := y) HI2.out.buf (by have := HI2.out.hd; have := HIK.out; omega) (by omega) (by omega)).mono ?_
      rintro e w2 ⟨rfl, hb, hf⟩
      have HI4 := Aside0.mk (HI2.out.put hb hf)
      have HN4 : Aside0 (NodeAt w2 b x s l r h) := ⟨HN2.out.fr hf (fun e => HBN.out.1 e)⟩
      clear hb hf HI2 HN2 e2 e3 e4 j2 j3 j4 j5
      go_wp2
      go_roundg (32 - (j + 1))
      case measure => have := HM.out; omega
      case rel => exact ⟨j + 1, by omega, by go_num, ⟨Nat.le_refl _, HI4.out, HN4.out⟩⟩
    · have he : j = 32 := by omega
      subst he
      have c0 := HN.out.ch
      have j4 : n - i ≠ 264 := by omega
      have j5 : 264 ≤ n - i := by omega
      clear hj hlt
      go_upto_region 7 with (fail)
      refine region_tail 8 (by kernel_rfl) (by kernel_rfl) (fun wd hwd => ?_)
      have HI2 : Aside0 (EncI w0 wd g n hd bb ib k) := ⟨by rw [hwd.out]; exact HI.out.drew⟩
      replace c0 : wd.cell? ⟨b, 35, none⟩ = some (.int .i64 h) := by rw [hwd.out]; exact c0
      clear hwd HI HN
      simp only [List.take_succ_cons, List.take_zero, List.drop_succ_cons, List.drop_zero]
      repeat still_step
      refine wpStill_nil ?_
      clear c0
      go_wp2_with fail
      refine (put16_calls HI2.out.buf (by have := HI2.out.hd; have := HIK.out; omega) (by omega) (by omega)).mono ?_
      rintro e w2 ⟨rfl, hb, hf⟩
      have HI4 := Aside0.mk (HI2.out.put hb hf)
      have f2 : w2.cell? ⟨ib, 0, none⟩ = some (.int .i64 (i : Int)) := by rw [HIK.out]; exact cell_at HI4.out.ibox
      have z2 : w2.frozen? ⟨ib, 0, none⟩ = false := blk_frozen HI4.out.ibox _
      have HX := Aside0.mk HI4.out.next
      have e5 : ((10 + 266 * (k + 1) : Nat) : Int) = (i : Int) + 266 := by have := HIK.out; omega
      rw [e5] at HX
      clear hb hf HI2 j4 j5 e5
      go_wp2
      go_end0
      exact ⟨rfl, HX.out⟩
/-- All records of a tree. -/
def EncPost (w0 : World) (g n : Nat) (hd : List Value) (bb ib k : Nat) (e : Ending) (w' : World) : Prop := e = .returned (.tuple #[]) ∧ EncI w0 w' g n hd bb ib k
set_option maxHeartbeats 8000000 in
set_option maxRecDepth 100000 in
theorem recs_calls {w0 : World} {g n bb ib lb : Nat} {hd : List Value} (hm : n ≤ 1000000000) : ∀ (t : T) (k : Nat) (W : World), Lies w0 t → (∀ j ∈ t.ids, j ≠ g ∧ j ≠ ib) → EncI w0 W g n hd bb ib k → 10 + 266 * (k + t.flat.length) ≤ n →
    Calls Tryd.prog 54 #[.pointer (ptrA t.ptr), .func (.func 55) #[] #[.pointer (some ⟨bb, 0, none⟩), .pointer (some ⟨ib, 0, none⟩), .pointer (some ⟨lb, 0, none⟩)]] W (EncPost w0 g n hd bb ib (k + t.flat.length)) := by
  intro t
  induction t with
  | nil =>
    intro k W _ _ hI _
    have HI := Aside0.mk hI
    clear hI
    show Calls Tryd.prog 54 #[.pointer none, _] W _
    go_enter Tryd.func54, Tryd.ntmps54
    go_wp2
    go_end0
    exact ⟨rfl, HI.out⟩
  | node b x s l r ihl ihr =>
    intro k W hL hid hI hn
    rw [flat_len_node] at hn
    have HN := Aside0.mk hL.1
    have HLN : Aside0 (b ≠ g ∧ b ≠ ib) := ⟨hid b (by simp [T.ids_node])⟩
    have HI := Aside0.mk hI
    have IHL : Aside0 (∀ W, EncI w0 W g n hd bb ib (k + 1) → Calls Tryd.prog 54 _ W _) := ⟨fun W hI => ihl (k + 1) W hL.2.1 (fun j hj => hid j (by rw [T.ids_node]; exact List.mem_append_left _ hj)) hI (by omega)⟩
    have IHR : Aside0 (∀ W, EncI w0 W g n hd bb ib (k + 1 + l.flat.length) → Calls Tryd.prog 54 _ W _) := ⟨fun W hI => ihr (k + 1 + l.flat.length) W hL.2.2 (fun j hj => hid j (by rw [T.ids_node]; exact List.mem_append_right _ (List.mem_cons_of_mem _ hj))) hI (by omega)⟩
    have HE : Aside0 (k + (T.node b x s l r).flat.length = k + 1 + l.flat.length + r.flat.length) := ⟨by rw [flat_len_node]; omega⟩
    rw [HE.out]
    have hn2 : 10 + 266 * (k + 1) ≤ n := by omega
    have HN2 := Aside0.mk hn2
    have HCALL : Aside0 (∀ vs W, (callFunc 55 vs).run Tryd.prog W = .ok (.enter 55 vs) W) := ⟨fun vs W => rfl⟩
    clear hL hid hI ihl ihr hn hn2
    show Calls Tryd.prog 54 #[.pointer (some ⟨b, 0, none⟩), _] W _
    go_enter Tryd.func54, Tryd.ntmps54
    go_wp2_with (refine wpList_callf rfl _ rfl (.tmp 6) rfl rfl rfl HCALL.out ?_)
    refine (rec_calls HI.out HN2.out hm (HN.out.fr HI.out.fr (fun e => by rcases e with e | e; exact HLN.out.1 e; exact HLN.out.2 e)) HLN.out).mono ?_
    rintro e w1 ⟨rfl, h1⟩
    have H1 := Aside0.mk h1
    have hn1 : NodeAt w1 b x s l.ptr r.ptr (T.node b x s l r).ht := HN.out.fr h1.fr (fun e => by rcases e with e | e; exact HLN.out.1 e; exact HLN.out.2 e)
    have f33 := hn1.cl
    clear h1 HI hn1
    go_wp2_with fail
    refine (IHL.out w1 H1.out).mono ?_
    rintro e w2 ⟨rfl, h2⟩
    have H2 := Aside0.mk h2
    have hn2 : NodeAt w2 b x s l.ptr r.ptr (T.node b x s l r).ht := HN.out.fr h2.fr (fun e => by rcases e with e | e; exact HLN.out.1 e; exact HLN.out.2 e)
    have f34 := hn2.cr
    clear h2 H1 hn2 f33
    go_wp2_with fail
    refine (IHR.out w2 H2.out).mono ?_
    rintro e w3 ⟨rfl, h3⟩
    have H3 := Aside0.mk h3
    clear h3 f34
    go_wp2
    go_end0
    exact ⟨rfl, H3.out⟩
end Go.Proofs.YtebgaedalbdhaaaDoor.Av
