/- A list's small functions: a new node, a new level, a new list, the kind of an error. -/
import Derived.Test.YtimffhpnfdikoaaDoorLsF
namespace Go.Proofs.YtimffhpnfdikoaaDoor.Ls
open Go.RowKit Go.Maps Go.Proofs.YtimffhpnfdikoaaDoor.Bs Go.Proofs.YtimffhpnfdikoaaDoorW.PrintWords Go.Proofs.YtimffhpnfdikoaaDoorW.PrintLast Go.Proofs.YtimffhpnfdikoaaDoorW.PrintMore
set_option linter.unusedVariables false
set_option linter.unusedSimpArgs false
set_option maxRecDepth 100000 in
theorem newNode_calls {W : World} : Calls Tryd.prog 62 #[] W (fun en w' => en = .returned (.pointer (some ⟨W.heap.size + 1, 0, none⟩)) ∧ Blk w' (W.heap.size + 1) 95 [.pointer none, .map (some W.heap.size)] ∧ Mp VS w' W.heap.size 0 (fun _ => none) ∧ Same W w' ∧ W.heap.size + 1 < w'.heap.size) := by
  have hmm := @run_makeMap Tryd.prog
  go_enter Tryd.func62, Tryd.ntmps62
  go_wp2
  go_ret
  have h1 := Blk.new (W.alloc (.map #[] 0)) 95 [.pointer none, .map (some W.heap.size)]
  have e1 : (W.alloc (.map #[] 0)).heap.size = W.heap.size + 1 := by simp
  rw [e1] at h1
  exact ⟨rfl, h1, (Mp.made VS W).fr ((Fr.refl (fun _ => False) _).alloc _) (fun h => h), ((Fr.refl _ W).alloc _).alloc _, h1.lt⟩
set_option maxRecDepth 100000 in
theorem newLevel_calls {W : World} : Calls Tryd.prog 58 #[] W (fun en w' => en = .returned (.pointer (some ⟨W.heap.size + 1, 0, none⟩)) ∧ Blk w' (W.heap.size + 1) 85 [.map (some W.heap.size), .pointer none, .pointer none] ∧ Mp VN w' W.heap.size 0 (fun _ => none) ∧ Same W w' ∧ W.heap.size + 1 < w'.heap.size) := by
  have hmm := @run_makeMap Tryd.prog
  go_enter Tryd.func58, Tryd.ntmps58
  go_wp2
  go_ret
  have h1 := Blk.new (W.alloc (.map #[] 0)) 85 [.map (some W.heap.size), .pointer none, .pointer none]
  have e1 : (W.alloc (.map #[] 0)).heap.size = W.heap.size + 1 := by simp
  rw [e1] at h1
  exact ⟨rfl, h1, (Mp.made VN W).fr ((Fr.refl (fun _ => False) _).alloc _) (fun h => h), ((Fr.refl _ W).alloc _).alloc _, h1.lt⟩
set_option maxRecDepth 100000 in
/-- A new list: nothing lies in it. -/
theorem newList_calls {W : World} : Calls Tryd.prog 47 #[] W (fun en w' => ∃ L, en = .returned (.pointer (some ⟨L, 0, none⟩)) ∧ Li w' W.heap.size L 0 (fun _ _ => none) True 0 ∧ Same W w') := by
  go_enter Tryd.func47, Tryd.ntmps47
  go_wp2_with fail
  refine newLevel_calls.mono ?_
  rintro e w1 ⟨rfl, hL, hM, hS, hs⟩
  have hz := Aside0.mk hL
  have hm := Aside0.mk hM
  have HS := Aside0.mk hS
  have hsz := Aside0.mk hs
  clear hL hM hS hs
  go_wp2_with fail
  go_ret
  have h1 := hz.out
  have h2 := hm.out
  have h3 := HS.out
  have h4 := hsz.out
  have hb := Blk.new w1 81 (hdr 0 0 (.pointer (some ⟨W.heap.size + 1, 0, none⟩)) 0)
  have hf : Same w1 (w1.alloc (.cells (hdr 0 0 (.pointer (some ⟨W.heap.size + 1, 0, none⟩)) 0).toArray 81)) := (Fr.refl _ w1).alloc _
  refine ⟨w1.heap.size, rfl, ⟨fun _ => none, fun p => if p = [] then some (W.heap.size + 1, W.heap.size) else none, ?_⟩, h3.trans hf (fun _ _ h => h)⟩
  have k0 : ∀ p u, kid (fun _ => none) p u = none := fun _ _ => rfl
  have one : ∀ p (x : Nat × Nat), (fun p : Path => if p = [] then some (W.heap.size + 1, W.heap.size) else none) p = some x → p = [] ∧ x = (W.heap.size + 1, W.heap.size) := fun p x hx => by
    dsimp only at hx
    split at hx
    · injection hx with hx
      exact ⟨by assumption, hx.symm⟩
    · cases hx
  have s1 := hf.size
  refine ⟨by omega, Nat.le_trans (by omega : W.heap.size ≤ w1.heap.size) s1, ⟨fun p x hx => ?_, (fun p x hx => by cases hx), fun p q x y hx hy _ => (one p x hx).1.trans (one q y hy).1.symm, (fun p q x y hx => by cases hx), (fun p q x y hx hy => by cases hy), (fun p t x hx => by cases hx), fun p x hp hx => absurd (one p x hx).1 hp, rfl⟩, ⟨_, if_pos rfl, hb⟩, fun _ _ _ => rfl, (fun _ q y hq => by cases hq)⟩
  obtain ⟨rfl, rfl⟩ := one p x hx
  refine ⟨by omega, by omega, h1.fr hf (fun h => h), (h2.fr hf (fun h => h)).congr (fun u => ?_)⟩
  unfold kids
  rw [k0]
  split <;> rfl
/-- The kind of an error: nil 0, else 1. -/
inductive IsErr : Int → Value → Prop
  | nil : IsErr 0 .nilIface
  | err (t : TypeId) (a : Addr) : IsErr 1 (.iface t (.pointer (some a)))
theorem one_calls {W : World} {k : Int} {v : Value} (h : IsErr k v) : Calls Tryd.prog 48 #[v] W (fun en w' => en = .returned (.int .i64 k) ∧ w' = W) := by
  cases h with
  | nil =>
    go_enter Tryd.func48, Tryd.ntmps48
    go_wp2
    go_ret
    exact ⟨rfl, rfl⟩
  | err t a =>
    go_enter Tryd.func48, Tryd.ntmps48
    go_wp2
    go_ret
    exact ⟨rfl, rfl⟩
end Go.Proofs.YtimffhpnfdikoaaDoor.Ls
