/- Sets told their least number: impl.one, SetInitialMin, impl.SetFrom, impl.SetLate. -/
import Derived.Test.YtebgaedalbdhaaaDoorSaF
namespace Go.Proofs.YtebgaedalbdhaaaDoor.Av
open Go.RowKit Go.Proofs.YtebgaedalbdhaaaDoorW.PrintWords Go.Proofs.YtebgaedalbdhaaaDoorW.PrintLast Go.Proofs.YtebgaedalbdhaaaDoorW.PrintMore
set_option linter.unusedVariables false
set_option linter.unusedSimpArgs false

set_option maxRecDepth 100000 in
theorem one_nil {w : World} : Calls Tryd.prog 36 #[.nilIface] w fun e w' => e = .returned (.int .i64 0) ∧ w = w' := by
  go_enter Tryd.func36, Tryd.ntmps36
  go_wp2
  go_ret
  exact ⟨rfl, rfl⟩
set_option maxRecDepth 100000 in
theorem one_err {w : World} {ty : TypeId} {a : Option Addr} : Calls Tryd.prog 36 #[.iface ty (.pointer a)] w fun e w' => e = .returned (.int .i64 1) ∧ w = w' := by
  go_enter Tryd.func36, Tryd.ntmps36
  go_wp2
  go_ret
  exact ⟨rfl, rfl⟩
/-- A set with one node, of numbers none. -/
def told (id : Nat) (mn : Int) : T := .node id mn zeros .nil .nil
theorem zero_words (base : Int) : (List.range' 0 32).flatMap (fun (j : Nat) => wordNums (base + (j : Int) * 64) (zeros.getD j 0).toNat) = [] := by
  rw [List.flatMap_eq_nil_iff]
  intro j hj
  have : zeros.getD j 0 = 0 := by
    have hz : ∀ j, zeros.getD j 0 = 0 := by
      intro j
      unfold zeros
      rw [List.getD_eq_getElem?_getD, List.getElem?_replicate]
      split <;> rfl
    exact hz j
  rw [this]
  exact wordNums_zero _
theorem told_rep (id : Nat) (mn : Int) : Rep (told id mn) 0 1 [] 1 := by
  refine ⟨?_, ?_, rfl, by omega, by omega, Nat.le_refl _⟩
  · show [] ++ nodeFrom mn zeros 0 ++ [] = []
    rw [List.nil_append, List.append_nil]
    exact zero_words mn
  · exact List.pairwise_singleton _ _
theorem told_is {w : World} {g id : Nat} {mn sz : Int} (hs : SetAt w g (some id) sz 1 false) (hn : NodeAt w id mn zeros none none 1) (hne : id ≠ g) (h0 : 0 ≤ mn) (h1 : mn + 2048 < 18446744073709551616) : SetIs w g (told id mn) sz 1 :=
  ⟨hs, ⟨hn, trivial, trivial⟩, List.pairwise_singleton _ _, (fun h => by
    rcases List.mem_singleton.1 h with h
    exact hne h.symm), fun p hp => by
    rcases List.mem_singleton.1 hp with rfl
    exact NW_iff.2 ⟨h0, h1, words_zeros⟩⟩
theorem setIs_bare {w : World} {g : Nat} {sz nd : Int} (h : SetAt w g none sz nd false) : SetIs w g .nil sz nd := ⟨h, trivial, .nil, (fun h => by cases h), fun p hp => by cases hp⟩
def ToldPost (w : World) (g : Nat) (mn sz : Int) (e : Ending) (w' : World) : Prop := ∃ id, w.heap.size ≤ id ∧ e = .returned .nilIface ∧ SetIs w' g (told id mn) sz 1 ∧ Fr (fun k => k = g) w w'
set_option maxHeartbeats 4000000 in
set_option maxRecDepth 100000 in
theorem told_new {w : World} {g : Nat} {sz nd : Int} (h : SetAt w g none sz nd false) (mn : Int) (h0 : 0 ≤ mn) (h1 : mn + 2048 < 18446744073709551616) :
    Calls Tryd.prog 37 #[.pointer (some ⟨g, 0, none⟩), .int .u64 mn] w (ToldPost w g mn sz) := by
  have H := Aside0.mk h
  clear h
  go_enter Tryd.func37, Tryd.ntmps37
  go_wp2_with fail
  refine (sisEmpty (setIs_bare H.out)).mono ?_
  rintro e w' ⟨rfl, hw⟩
  subst w'
  rw [show T.nil.ptr.isNone = true from rfl]
  have hgl := H.out.lt
  have f0 := H.out.c0
  have f2 := H.out.c2
  have z0 := H.out.free 0
  have z2 := H.out.free 2
  rw [show ptrA none = none from rfl] at f0
  go_upto_region 4 with (fail)
  generalize hw : ((w.setCell ⟨g, 0, none⟩ (.pointer (some ⟨w.heap.size, 0, none⟩))).setCell ⟨g, 2, none⟩ (.int .i64 1)) = w0
  have hs0 : w0.heap.size = w.heap.size := by rw [← hw, setCell_size, setCell_size]
  have S0 : SetAt w0 g (some w.heap.size) sz 1 false := by rw [← hw]; exact (H.out.set0 (some w.heap.size)).set2 1
  have F0 : Fr (fun k => k = g) w w0 := by rw [← hw]; exact ((Fr.refl (fun k => k = g) w).set (p := ⟨g, 0, none⟩) (.inl rfl) _).set (p := ⟨g, 2, none⟩) (.inl rfl) _
  generalize hw1 : w0.alloc _ = w1
  have HN : Aside0 (NodeAt w1 w.heap.size mn zeros none none 1) := ⟨by rw [← hw1, ← hs0]; exact node_new w0 mn⟩
  have S1 : Aside0 (SetAt w1 g (some w.heap.size) sz 1 false) := ⟨by rw [← hw1]; exact S0.alloc _⟩
  have F1 : Aside0 (Fr (fun k => k = g) w w1) := ⟨by rw [← hw1]; exact F0.alloc _⟩
  clear hw hs0 S0 F0 hw1 f0 f2 z0 z2
  go_wp2
  go_ret
  exact ⟨w.heap.size, Nat.le_refl _, rfl, told_is S1.out HN.out (by omega) h0 h1, F1.out⟩
set_option maxHeartbeats 4000000 in
set_option maxRecDepth 100000 in
theorem told_late {w : World} {g : Nat} {t : T} {sz nd mn : Int} {ty : TypeId} {a : Option Addr} (h : SetIs w g t sz nd) (ht : t ≠ .nil) (hG : w.cell? ⟨0, 0, none⟩ = some (.iface ty (.pointer a))) :
    Calls Tryd.prog 37 #[.pointer (some ⟨g, 0, none⟩), .int .u64 mn] w fun e w' => e = .returned (.iface ty (.pointer a)) ∧ w = w' := by
  have H := Aside0.mk h
  have e1 : t.ptr.isNone = false := by
    cases t with
    | nil => exact absurd rfl ht
    | node b x s l r => rfl
  clear h ht
  go_enter Tryd.func37, Tryd.ntmps37
  go_wp2_with fail
  refine (sisEmpty H.out).mono ?_
  rintro e w' ⟨rfl, hw⟩
  subst w'
  rw [e1]
  go_wp2
  go_ret
  exact ⟨rfl, rfl⟩
set_option maxHeartbeats 4000000 in
set_option maxRecDepth 100000 in
theorem setLate_calls {w : World} {A : Option Addr} {acts : List Deed} {c : Nat} {mn : Int} {ty : TypeId} {a : Option Addr} (hA : ActsR w A acts) (hok : ∀ a ∈ acts, okDeed none a) (hn : acts.length ≤ 1000) (h0 : 0 ≤ mn) (h1 : mn + 2048 < 18446744073709551616) (hG : w.cell? ⟨0, 0, none⟩ = some (.iface ty (.pointer a))) :
    Calls Tryd.prog 23 #[.slice A acts.length c, .int .u64 mn] w fun e w' => e = .returned (.int .i64 (if plays [] acts = [] then 0 else 1)) ∧ Fr (fun _ => False) w w' := by
  have HA := Aside0.mk hA
  have HOK := Aside0.mk hok
  have HG := Aside0.mk hG
  obtain ⟨R, hR⟩ : ∃ R : Int, R = if plays [] acts = [] then 0 else 1 := ⟨_, rfl⟩
  have HR := Aside0.mk hR
  rw [← hR]
  clear hA hok hG hR
  go_enter Tryd.func23, Tryd.ntmps23
  go_wp2_with fail
  refine (made_calls HA.out HOK.out hn).mono ?_
  rintro e w1 ⟨g, t, sz, nd, rfl, h⟩
  have H := Aside0.mk h
  have HS := Aside0.mk h.setR
  have HG1 : Aside0 (w1.cell? ⟨0, 0, none⟩ = some (.iface ty (.pointer a))) := ⟨(World.cell?_of_block (h.fr.block 0 (World.block_lt_of_cell? w _ HG.out) (fun h => h))).trans HG.out⟩
  clear h
  by_cases hL : plays [] acts = []
  · have ht := HS.out.tight hL
    subst ht
    have hr := HR.out
    rw [if_pos hL] at hr
    subst hr
    clear HR
    go_wp2_with fail
    refine (told_new H.out.is.set mn h0 h1).mono ?_
    rintro e w2 ⟨id, hid, rfl, hs, hf⟩
    have HF : Aside0 (Fr (fun _ => False) w w2) := ⟨H.out.fr.trans hf (fun k hk e => by have := H.out.low g (.inl rfl); omega)⟩
    clear hs hf
    go_wp2_with fail
    refine one_nil.mono ?_
    rintro e w' ⟨rfl, hw⟩
    subst w'
    go_wp2
    go_ret
    exact ⟨rfl, HF.out⟩
  · have ht : t ≠ .nil := fun e => by subst e; exact hL HS.out.nums.symm
    have hr := HR.out
    rw [if_neg hL] at hr
    subst hr
    clear HR
    go_wp2_with fail
    refine (told_late H.out.is ht HG1.out).mono ?_
    rintro e w' ⟨rfl, hw⟩
    subst w'
    go_wp2_with fail
    refine one_err.mono ?_
    rintro e w' ⟨rfl, hw⟩
    subst w'
    go_wp2
    go_ret
    exact ⟨rfl, H.out.fr⟩
end Go.Proofs.YtebgaedalbdhaaaDoor.Av
