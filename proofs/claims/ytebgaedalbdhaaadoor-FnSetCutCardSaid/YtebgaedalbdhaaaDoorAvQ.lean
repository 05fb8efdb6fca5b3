/- A node turned about with one of its sides: what is left in memory. -/
import Derived.Test.YtebgaedalbdhaaaDoorAvR
namespace Go.Proofs.YtebgaedalbdhaaaDoor.Av
open Go.RowKit Go.Proofs.YtebgaedalbdhaaaDoorW.PrintWords Go.Proofs.YtebgaedalbdhaaaDoorW.PrintLast Go.Proofs.YtebgaedalbdhaaaDoorW.PrintMore
set_option linter.unusedVariables false
set_option linter.unusedSimpArgs false

structure RotPut (w w' : World) (b c : Nat) (A B : Prop) : Prop where
  one : A
  two : B
  fr : Fr (fun k => k = b ∨ k = c) w w'
  size : w'.heap.size = w.heap.size

set_option maxHeartbeats 1000000 in
set_option maxRecDepth 100000 in
theorem rotR_calls {w : World} {b c : Nat} {x x' : Int} {s s' : List Int} {i o p : Option Nat} {h h' a d e : Int} (n : NodeAt w b x s (some c) p h) (m : NodeAt w c x' s' o i h') (ho : HAt w o a) (hi : HAt w i d) (hp : HAt w p e) (hbc : b ≠ c) (ob : o ≠ some b) (oc : o ≠ some c) (ib : i ≠ some b) (ic : i ≠ some c) (pb : p ≠ some b) (pc : p ≠ some c) (ha : 0 ≤ a ∧ a ≤ 1000000) (hd : 0 ≤ d ∧ d ≤ 1000000) (he : 0 ≤ e ∧ e ≤ 1000000) :
    Calls Tryd.prog 72 #[.pointer (some ⟨b, 0, none⟩)] w fun en w' => en = .returned (.pointer (some ⟨c, 0, none⟩)) ∧ RotPut w w' b c (NodeAt w' b x s i p ((if e < d then d else e) + 1)) (NodeAt w' c x' s' o (some b) ((if ((if e < d then d else e) + 1) < a then a else ((if e < d then d else e) + 1)) + 1)) := by
  have f1 := n.cl
  have f2 := m.cr
  have z1 := n.free 33
  have z2 := m.free 34
  have z3 := n.free 35
  have z4 := m.free 35
  have f3 := n.ch
  have f4 := m.ch
  have hcb : c ≠ b := Ne.symm hbc
  have N := Aside0.mk n
  have M := Aside0.mk m
  have HO := Aside0.mk ho
  have HI := Aside0.mk hi
  have HP := Aside0.mk hp
  have OB := Aside0.mk ob
  have IB := Aside0.mk ib
  have PB := Aside0.mk pb
  have OC := Aside0.mk oc
  clear n m ho hi hp ob ib pb oc ic pc
  simp only [ptrA] at f1
  obtain ⟨M1, hM1⟩ : ∃ M1 : Int, M1 = if e < d then d else e := ⟨_, rfl⟩
  have hb1 : 0 ≤ M1 ∧ M1 ≤ 1000000 := by rw [hM1]; split <;> omega
  obtain ⟨u1, u2⟩ := hb1
  obtain ⟨M2, hM2⟩ : ∃ M2 : Int, M2 = if (M1 + 1) < a then a else (M1 + 1) := ⟨_, rfl⟩
  have hb2 : 0 ≤ M2 ∧ M2 ≤ 1000001 := by rw [hM2]; split <;> omega
  obtain ⟨u3, u4⟩ := hb2
  have HM1 := Aside0.mk hM1
  have HM2 := Aside0.mk hM2
  rw [← hM1, ← hM2]
  clear hM1 hM2 ha hd he
  go_enter Tryd.func72, Tryd.ntmps72
  go_wp2_with fail
  refine (maxH_calls ((N.out.setL i).far (p := ⟨c, 34, none⟩) hbc (.pointer (some ⟨b, 0, none⟩))) ((HI.out.set _ (.inl (by decide))).set _ (.inl (by decide))) ((HP.out.set _ (.inl (by decide))).set _ (.inl (by decide)))).mono ?_
  rintro en w' ⟨rfl, rfl⟩
  rw [← HM1.out]
  go_wp2_with fail
  refine (maxH_calls ((M.out.far (p := ⟨b, 33, none⟩) hcb (.pointer (ptrA i))).setR (some b) |>.far (p := ⟨b, 35, none⟩) hcb (.int .i64 (M1 + 1))) (((HO.out.set _ (.inl (by decide))).set _ (.inl (by decide))).set _ (.inr OB.out)) (c := M1 + 1) ?hb).mono ?_
  case hb => exact (((N.out.setL i).far (p := ⟨c, 34, none⟩) hbc (.pointer (some ⟨b, 0, none⟩))).setH (M1 + 1)).ch
  rintro en w' ⟨rfl, rfl⟩
  rw [← HM2.out]
  go_wp2
  go_ret
  refine ⟨rfl, ⟨((((N.out.setL i).far (p := ⟨c, 34, none⟩) hbc (.pointer (some ⟨b, 0, none⟩))).setH (M1 + 1)).far (p := ⟨c, 35, none⟩) hbc _), (((M.out.far (p := ⟨b, 33, none⟩) hcb (.pointer (ptrA i))).setR (some b) |>.far (p := ⟨b, 35, none⟩) hcb (.int .i64 (M1 + 1))).setH _), ?_, ?_⟩⟩
  · exact ((((Fr.refl _ _).set (.inl (.inl rfl)) _).set (.inl (.inr rfl)) _).set (.inl (.inl rfl)) _).set (.inl (.inr rfl)) _
  · rw [setCell_size, setCell_size, setCell_size, setCell_size]

set_option maxHeartbeats 1000000 in
set_option maxRecDepth 100000 in
theorem rotL_calls {w : World} {b c : Nat} {x x' : Int} {s s' : List Int} {i o p : Option Nat} {h h' a d e : Int} (n : NodeAt w b x s p (some c) h) (m : NodeAt w c x' s' i o h') (ho : HAt w o a) (hi : HAt w i d) (hp : HAt w p e) (hbc : b ≠ c) (ob : o ≠ some b) (oc : o ≠ some c) (ib : i ≠ some b) (ic : i ≠ some c) (pb : p ≠ some b) (pc : p ≠ some c) (ha : 0 ≤ a ∧ a ≤ 1000000) (hd : 0 ≤ d ∧ d ≤ 1000000) (he : 0 ≤ e ∧ e ≤ 1000000) :
    Calls Tryd.prog 71 #[.pointer (some ⟨b, 0, none⟩)] w fun en w' => en = .returned (.pointer (some ⟨c, 0, none⟩)) ∧ RotPut w w' b c (NodeAt w' b x s p i ((if d < e then e else d) + 1)) (NodeAt w' c x' s' (some b) o ((if a < ((if d < e then e else d) + 1) then ((if d < e then e else d) + 1) else a) + 1)) := by
  have f1 := n.cr
  have f2 := m.cl
  have z1 := n.free 34
  have z2 := m.free 33
  have z3 := n.free 35
  have z4 := m.free 35
  have f3 := n.ch
  have f4 := m.ch
  have hcb : c ≠ b := Ne.symm hbc
  have N := Aside0.mk n
  have M := Aside0.mk m
  have HO := Aside0.mk ho
  have HI := Aside0.mk hi
  have HP := Aside0.mk hp
  have OB := Aside0.mk ob
  have IB := Aside0.mk ib
  have PB := Aside0.mk pb
  have OC := Aside0.mk oc
  clear n m ho hi hp ob ib pb oc ic pc
  simp only [ptrA] at f1
  obtain ⟨M1, hM1⟩ : ∃ M1 : Int, M1 = if d < e then e else d := ⟨_, rfl⟩
  have hb1 : 0 ≤ M1 ∧ M1 ≤ 1000000 := by rw [hM1]; split <;> omega
  obtain ⟨u1, u2⟩ := hb1
  obtain ⟨M2, hM2⟩ : ∃ M2 : Int, M2 = if a < (M1 + 1) then (M1 + 1) else a := ⟨_, rfl⟩
  have hb2 : 0 ≤ M2 ∧ M2 ≤ 1000001 := by rw [hM2]; split <;> omega
  obtain ⟨u3, u4⟩ := hb2
  have HM1 := Aside0.mk hM1
  have HM2 := Aside0.mk hM2
  rw [← hM1, ← hM2]
  clear hM1 hM2 ha hd he
  go_enter Tryd.func71, Tryd.ntmps71
  go_wp2_with fail
  refine (maxH_calls ((N.out.setR i).far (p := ⟨c, 33, none⟩) hbc (.pointer (some ⟨b, 0, none⟩))) ((HP.out.set _ (.inl (by decide))).set _ (.inl (by decide))) ((HI.out.set _ (.inl (by decide))).set _ (.inl (by decide)))).mono ?_
  rintro en w' ⟨rfl, rfl⟩
  rw [← HM1.out]
  go_wp2_with fail
  refine (maxH_calls ((M.out.far (p := ⟨b, 34, none⟩) hcb (.pointer (ptrA i))).setL (some b) |>.far (p := ⟨b, 35, none⟩) hcb (.int .i64 (M1 + 1))) (a := M1 + 1) ?hb (((HO.out.set _ (.inl (by decide))).set _ (.inl (by decide))).set _ (.inr OB.out))).mono ?_
  case hb => exact (((N.out.setR i).far (p := ⟨c, 33, none⟩) hbc (.pointer (some ⟨b, 0, none⟩))).setH (M1 + 1)).ch
  rintro en w' ⟨rfl, rfl⟩
  rw [← HM2.out]
  go_wp2
  go_ret
  refine ⟨rfl, ⟨((((N.out.setR i).far (p := ⟨c, 33, none⟩) hbc (.pointer (some ⟨b, 0, none⟩))).setH (M1 + 1)).far (p := ⟨c, 35, none⟩) hbc _), (((M.out.far (p := ⟨b, 34, none⟩) hcb (.pointer (ptrA i))).setL (some b) |>.far (p := ⟨b, 35, none⟩) hcb (.int .i64 (M1 + 1))).setH _), ?_, ?_⟩⟩
  · exact ((((Fr.refl _ _).set (.inl (.inl rfl)) _).set (.inl (.inr rfl)) _).set (.inl (.inl rfl)) _).set (.inl (.inr rfl)) _
  · rw [setCell_size, setCell_size, setCell_size, setCell_size]
end Go.Proofs.YtebgaedalbdhaaaDoor.Av
