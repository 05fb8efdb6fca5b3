/- Trees in memory; a node's side turned about, as trees. -/
import Derived.Test.YtebgaedalbdhaaaDoorAvQ
namespace Go.Proofs.YtebgaedalbdhaaaDoor.Av
open Go.RowKit Go.Proofs.YtebgaedalbdhaaaDoorW.PrintWords Go.Proofs.YtebgaedalbdhaaaDoorW.PrintLast Go.Proofs.YtebgaedalbdhaaaDoorW.PrintMore
set_option linter.unusedVariables false
set_option linter.unusedSimpArgs false

/-- A tree lies in memory. -/
def Lies (w : World) : T → Prop
  | .nil => True
  | .node b x s l r => NodeAt w b x s l.ptr r.ptr (T.node b x s l r).ht ∧ Lies w l ∧ Lies w r
theorem T.ptr_mem {t : T} {b : Nat} (h : t.ptr = some b) : b ∈ t.ids := by
  cases t with
  | nil => cases h
  | node c x s l r => injection h with h; subst h; simp [T.ids_node]
theorem Lies.hat {w : World} {t : T} (h : Lies w t) : HAt w t.ptr t.ht := by
  cases t with
  | nil => exact rfl
  | node b x s l r => exact h.1.ch
theorem Lies.move {w w1 : World} : ∀ {t : T}, Lies w t → (∀ k ∈ t.ids, w1.heap[k]? = w.heap[k]?) → Lies w1 t
  | .nil, _, _ => trivial
  | .node b x s l r, h, hm => ⟨h.1.move (hm b (by simp [T.ids_node])), Lies.move h.2.1 (fun k hk => hm k (by rw [T.ids_node]; exact List.mem_append_left _ hk)), Lies.move h.2.2 (fun k hk => hm k (by rw [T.ids_node]; exact List.mem_append_right _ (List.mem_cons_of_mem _ hk)))⟩
theorem Lies.lt {w : World} : ∀ {t : T}, Lies w t → ∀ k ∈ t.ids, k < w.heap.size
  | .nil, _, _, hk => by cases hk
  | .node b x s l r, h, k, hk => by
    rw [T.ids_node] at hk
    rcases List.mem_append.1 hk with hk | hk
    · exact Lies.lt h.2.1 k hk
    · rcases List.mem_cons.1 hk with rfl | hk
      · exact h.1.lt
      · exact Lies.lt h.2.2 k hk
theorem Lies.fr {F : Nat → Prop} {w w1 : World} {t : T} (h : Lies w t) (hf : Fr F w w1) (hn : ∀ k ∈ t.ids, ¬ F k) : Lies w1 t :=
  h.move (fun k hk => hf.block k (h.lt k hk) (hn k hk))
theorem Lies.far {w : World} {t : T} (h : Lies w t) {p : Addr} (hp : p.block ∉ t.ids) (u : Value) : Lies (w.setCell p u) t :=
  h.move (fun k hk => Below.heap_setCell w p u k (by rintro rfl; exact hp hk))
theorem Lies.alloc {w : World} {t : T} (h : Lies w t) (o : Obj) : Lies (w.alloc o) t := h.move (fun k hk => Below.heap_alloc w o k (h.lt k hk))

/-- What turning about, or setting right, leaves. -/
structure TreePut (w w' : World) (t t' : T) : Prop where
  lies : Lies w' t'
  fr : Fr (fun k => k ∈ t.ids) w w'
  size : w'.heap.size = w.heap.size

theorem nodup_node {b : Nat} {x : Int} {s : List Int} {l r : T} (h : (T.node b x s l r).ids.Nodup) : l.ids.Nodup ∧ r.ids.Nodup ∧ b ∉ l.ids ∧ b ∉ r.ids ∧ ∀ k, k ∈ l.ids → k ∉ r.ids := by
  rw [T.ids_node, List.nodup_append, List.nodup_cons] at h
  obtain ⟨h1, ⟨h2, h3⟩, h4⟩ := h
  exact ⟨h1, h3, fun hb => h4 b hb b List.mem_cons_self rfl, h2, fun k hk hr => h4 k hk k (List.mem_cons_of_mem _ hr) rfl⟩
theorem ptr_ne {t : T} {b : Nat} (h : b ∉ t.ids) : t.ptr ≠ some b := fun e => h (T.ptr_mem e)
theorem ht_bound {t : T} (h : t.flat.length ≤ 1000000) : 0 ≤ t.ht ∧ t.ht ≤ 1000000 := ⟨t.ht_nonneg, by have := t.ht_le; omega⟩
theorem flat_len_node {b : Nat} {x : Int} {s : List Int} {l r : T} : (T.node b x s l r).flat.length = l.flat.length + r.flat.length + 1 := by rw [T.flat_node]; simp; omega

theorem rotR_tree {w : World} {b c : Nat} {x x' h : Int} {s s' : List Int} {l' r' r : T} (n : NodeAt w b x s (some c) r.ptr h) (hl : Lies w (.node c x' s' l' r')) (hr : Lies w r) (hd : (T.node b x s (.node c x' s' l' r') r).ids.Nodup) (hz : (T.node b x s (.node c x' s' l' r') r).flat.length ≤ 1000000) :
    Calls Tryd.prog 72 #[.pointer (some ⟨b, 0, none⟩)] w fun e w' => e = .returned (.pointer (some ⟨c, 0, none⟩)) ∧ TreePut w w' (T.node b x s (.node c x' s' l' r') r) (T.node b x s (.node c x' s' l' r') r).rotR := by
  obtain ⟨d1, d2, d3, d4, d5⟩ := nodup_node hd
  obtain ⟨e1, e2, e3, e4, e5⟩ := nodup_node d1
  rw [flat_len_node, flat_len_node] at hz
  have m1 : ∀ k ∈ l'.ids, k ∈ (T.node c x' s' l' r').ids := fun k hk => by rw [T.ids_node]; exact List.mem_append_left _ hk
  have m2 : ∀ k ∈ r'.ids, k ∈ (T.node c x' s' l' r').ids := fun k hk => by rw [T.ids_node]; exact List.mem_append_right _ (List.mem_cons_of_mem _ hk)
  have m3 : c ∈ (T.node c x' s' l' r').ids := by simp [T.ids_node]
  have hbc : b ≠ c := fun e => d3 (e ▸ m3)
  refine (rotR_calls n hl.1 hl.2.1.hat hl.2.2.hat hr.hat hbc (ptr_ne (fun h => d3 (m1 _ h))) (ptr_ne e3) (ptr_ne (fun h => d3 (m2 _ h))) (ptr_ne e4) (ptr_ne d4) (ptr_ne (d5 c m3)) (ht_bound (by omega)) (ht_bound (by omega)) (ht_bound (by omega))).mono ?_
  rintro en w' ⟨rfl, p⟩
  refine ⟨rfl, ⟨?_, p.fr.mono (fun k hk => ?_), p.size⟩⟩
  · have a1 : Lies w' l' := hl.2.1.fr p.fr (fun k hk => by rintro (rfl | rfl); exact d3 (m1 _ hk); exact e3 hk)
    have a2 : Lies w' r' := hl.2.2.fr p.fr (fun k hk => by rintro (rfl | rfl); exact d3 (m2 _ hk); exact e4 hk)
    have a3 : Lies w' r := hr.fr p.fr (fun k hk => by rintro (rfl | rfl); exact d4 hk; exact d5 _ m3 hk)
    exact ⟨p.two, a1, p.one, a2, a3⟩
  · rcases hk with rfl | rfl
    · simp [T.ids_node]
    · simp [T.ids_node]
theorem rotL_tree {w : World} {b c : Nat} {x x' h : Int} {s s' : List Int} {l' r' l : T} (n : NodeAt w b x s l.ptr (some c) h) (hr : Lies w (.node c x' s' l' r')) (hl : Lies w l) (hd : (T.node b x s l (.node c x' s' l' r')).ids.Nodup) (hz : (T.node b x s l (.node c x' s' l' r')).flat.length ≤ 1000000) :
    Calls Tryd.prog 71 #[.pointer (some ⟨b, 0, none⟩)] w fun e w' => e = .returned (.pointer (some ⟨c, 0, none⟩)) ∧ TreePut w w' (T.node b x s l (.node c x' s' l' r')) (T.node b x s l (.node c x' s' l' r')).rotL := by
  obtain ⟨d1, d2, d3, d4, d5⟩ := nodup_node hd
  obtain ⟨e1, e2, e3, e4, e5⟩ := nodup_node d2
  rw [flat_len_node, flat_len_node] at hz
  have m1 : ∀ k ∈ l'.ids, k ∈ (T.node c x' s' l' r').ids := fun k hk => by rw [T.ids_node]; exact List.mem_append_left _ hk
  have m2 : ∀ k ∈ r'.ids, k ∈ (T.node c x' s' l' r').ids := fun k hk => by rw [T.ids_node]; exact List.mem_append_right _ (List.mem_cons_of_mem _ hk)
  have m3 : c ∈ (T.node c x' s' l' r').ids := by simp [T.ids_node]
  have hbc : b ≠ c := fun e => d4 (e ▸ m3)
  refine (rotL_calls n hr.1 hr.2.2.hat hr.2.1.hat hl.hat hbc (ptr_ne (fun h => d4 (m2 _ h))) (ptr_ne e4) (ptr_ne (fun h => d4 (m1 _ h))) (ptr_ne e3) (ptr_ne d3) (ptr_ne (fun h => d5 c h m3)) (ht_bound (by omega)) (ht_bound (by omega)) (ht_bound (by omega))).mono ?_
  rintro en w' ⟨rfl, p⟩
  refine ⟨rfl, ⟨?_, p.fr.mono (fun k hk => ?_), p.size⟩⟩
  · have a1 : Lies w' l' := hr.2.1.fr p.fr (fun k hk => by rintro (rfl | rfl); exact d4 (m1 _ hk); exact e3 hk)
    have a2 : Lies w' r' := hr.2.2.fr p.fr (fun k hk => by rintro (rfl | rfl); exact d4 (m2 _ hk); exact e4 hk)
    have a3 : Lies w' l := hl.fr p.fr (fun k hk => by rintro (rfl | rfl); exact d3 hk; exact d5 _ hk m3)
    exact ⟨p.two, ⟨p.one, a3, a1⟩, a2⟩
  · rcases hk with rfl | rfl
    · simp [T.ids_node]
    · simp [T.ids_node]
theorem balF_tree {w : World} {t : T} (h : Lies w t) (hz : t.flat.length ≤ 1000000) : Calls Tryd.prog 70 #[.pointer (ptrA t.ptr)] w fun e w' => e = .returned (.int .i64 t.bf) ∧ w = w' := by
  cases t with
  | nil => exact balF_nil
  | node b x s l r =>
    rw [flat_len_node] at hz
    exact balF_calls h.1 h.2.1.hat h.2.2.hat (ht_bound (by omega)) (ht_bound (by omega))
theorem bf_neg {b : Nat} {x : Int} {s : List Int} {l r : T} (h : (T.node b x s l r).bf < 0) : ∃ b' x' s' l' r', r = .node b' x' s' l' r' := by
  cases r with
  | nil => have := l.ht_nonneg; simp [T.bf, T.ht] at h; omega
  | node b' x' s' l' r' => exact ⟨_, _, _, _, _, rfl⟩
theorem bf_pos {b : Nat} {x : Int} {s : List Int} {l r : T} (h : 0 < (T.node b x s l r).bf) : ∃ b' x' s' l' r', l = .node b' x' s' l' r' := by
  cases l with
  | nil => have := r.ht_nonneg; simp [T.bf, T.ht] at h; omega
  | node b' x' s' l' r' => exact ⟨_, _, _, _, _, rfl⟩
end Go.Proofs.YtebgaedalbdhaaaDoor.Av
