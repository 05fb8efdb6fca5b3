/- Rows of a call's own, apart from each other. -/
import Derived.Test.YtoopmpjgmgffoaaDoorBt
import Derived.Test.YtoopmpjgmgffoaaDoorGFnTransformBackx0
namespace Go.Proofs.YtoopmpjgmgffoaaDoor.Tr
open Go.RowKit Go.Proofs.YtoopmpjgmgffoaaDoor.Bs Go.Proofs.YtoopmpjgmgffoaaDoorW.PrintWords Go.Proofs.YtoopmpjgmgffoaaDoorW.PrintLast Go.Proofs.YtoopmpjgmgffoaaDoorW.PrintMore Go.Proofs.YtoopmpjgmgffoaaDoor.GFnTransformBack
set_option linter.unusedVariables false
set_option linter.unusedSimpArgs false
structure Row where
  e : TypeId
  v : Value
  xs : List Value
def nilRow (e : TypeId) : Row := ⟨e, .slice none 0 0, []⟩
def put (r : Nat → Row) (i : Nat) (x : Row) : Nat → Row := fun j => if j = i then x else r j
theorem put_same (r : Nat → Row) (i : Nat) (x : Row) : put r i x i = x := by unfold put; rw [if_pos rfl]
theorem put_other (r : Nat → Row) {i j : Nat} (x : Row) (h : j ≠ i) : put r i x j = r j := by unfold put; rw [if_neg h]
structure Zone (W : World) (B : Nat) (r : Nat → Row) : Prop where
  own : ∀ i, W.ownsRow B (r i).e 1 (r i).v (r i).xs.length (r i).xs
  sep : ∀ i j, i ≠ j → ∀ k, (r i).v.ownBlock = some k → (r j).v.ownBlock ≠ some k
section
variable {W W' : World} {B : Nat} {r : Nat → Row}
theorem Zone.lt (h : Zone W B r) {i k : Nat} (hk : (r i).v.ownBlock = some k) : k < W.heap.size := (own_base (h.own i) hk).2
theorem Zone.ge (h : Zone W B r) {i k : Nat} (hk : (r i).v.ownBlock = some k) : B ≤ k := (own_base (h.own i) hk).1
theorem Zone.move (h : Zone W B r) (hm : ∀ i k, (r i).v.ownBlock = some k → W'.heap[k]? = W.heap[k]?) : Zone W' B r := ⟨fun i => ownsRow_block (h.own i) (hm i), h.sep⟩
theorem Zone.fr {F : Nat → Prop} (h : Zone W B r) (hf : Fr F W W') (hn : ∀ k, B ≤ k → k < W.heap.size → ¬ F k) : Zone W' B r := h.move fun i k hk => hf.block k (h.lt hk) (hn k (h.ge hk) (h.lt hk))
theorem Zone.same (h : Zone W B r) (hf : Same W W') : Zone W' B r := h.fr hf (fun _ _ _ h => h)
theorem Zone.alloc (h : Zone W B r) (o : Obj) : Zone (W.alloc o) B r := h.same ((Fr.refl _ W).alloc o)
theorem Zone.drew (h : Zone W B r) : Zone W.drew B r := h.same (Fr.refl _ W).drew
theorem Zone.set (h : Zone W B r) {g : Nat} {T : TypeId} {cs : List Value} (hb : Blk W g T cs) (hT : ∀ i, (r i).e ≠ T) (o : Nat) (u : Value) : Zone (W.setCell ⟨g, o, none⟩ u) B r :=
  h.move fun i k hk => Below.heap_setCell W ⟨g, o, none⟩ u k (fun e => by
    have e : k = g := e
    subst e
    obtain ⟨cells, hc⟩ := own_typed (h.own i) k hk
    rw [hb.blk] at hc
    injection hc with hc
    injection hc with h1 h2 h3
    exact hT i h2.symm)
theorem Zone.append (h : Zone W B r) (i : Nat) {v' : Value} {n' : Nat} {xs' : List Value} (ho : W'.ownsRow B (r i).e 1 v' n' xs') (hn : n' = xs'.length) (hg : W.grownBy W' (r i).v.ownBlock) (hat : v'.ownBlock = (r i).v.ownBlock ∨ v'.ownBlock = some W.heap.size) : Zone W' B (put r i ⟨(r i).e, v', xs'⟩) := by
  subst hn
  refine ⟨fun j => ?_, fun a b hab k ha hb => ?_⟩
  · by_cases hj : j = i
    · subst hj
      rw [put_same]
      exact ho
    rw [put_other _ _ hj]
    exact ownsRow_block (h.own j) (fun k hk => hg.block k (h.lt hk) (fun e => h.sep j i hj k hk e.symm))
  by_cases h1 : a = i
  · subst h1
    rw [put_same] at ha
    rw [put_other _ _ (fun e => hab e.symm)] at hb
    rcases hat with hat | hat
    · exact h.sep a b hab k (hat ▸ ha) hb
    have := h.lt hb
    rw [hat] at ha
    injection ha with ha
    omega
  rw [put_other _ _ h1] at ha
  by_cases h2 : b = i
  · subst h2
    rw [put_same] at hb
    rcases hat with hat | hat
    · exact h.sep a b hab k ha (hat ▸ hb)
    have := h.lt ha
    rw [hat] at hb
    injection hb with hb
    omega
  rw [put_other _ _ h2] at hb
  exact h.sep a b hab k ha hb
theorem Zone.lay (h : Zone W B r) (i j : Nat) (hij : i ≠ j) (e : TypeId) : Zone W B (put (put r j (r i)) i (nilRow e)) := by
  have hz : (nilRow e).v.ownBlock = none := rfl
  refine ⟨fun a => ?_, fun a b hab k ha hb => ?_⟩
  · by_cases h1 : a = i
    · subst h1
      rw [put_same]
      exact ⟨rfl, .inl ⟨rfl, rfl⟩⟩
    rw [put_other _ _ h1]
    by_cases h2 : a = j
    · subst h2
      rw [put_same]
      exact h.own i
    rw [put_other _ _ h2]
    exact h.own a
  have key : ∀ c, (put (put r j (r i)) i (nilRow e) c).v.ownBlock = some k → (c = j ∧ (r i).v.ownBlock = some k) ∨ (c ≠ i ∧ c ≠ j ∧ (r c).v.ownBlock = some k) := fun c hc => by
    by_cases h1 : c = i
    · subst h1
      rw [put_same, hz] at hc
      cases hc
    rw [put_other _ _ h1] at hc
    by_cases h2 : c = j
    · subst h2
      rw [put_same] at hc
      exact .inl ⟨rfl, hc⟩
    rw [put_other _ _ h2] at hc
    exact .inr ⟨h1, h2, hc⟩
  rcases key a ha with ⟨e1, k1⟩ | ⟨e1, f1, k1⟩ <;> rcases key b hb with ⟨e2, k2⟩ | ⟨e2, f2, k2⟩
  · exact hab (e1.trans e2.symm)
  · exact h.sep i b (fun e => e2 e.symm) k k1 k2
  · exact h.sep a i e1 k k1 k2
  exact h.sep a b hab k k1 k2
theorem zone_nil (W : World) (B : Nat) (f : Nat → TypeId) : Zone W B (fun i => nilRow (f i)) := ⟨fun i => ⟨rfl, .inl ⟨rfl, rfl⟩⟩, fun i j _ k hk => by cases hk⟩
end
theorem row_K {α : Type} (d : Kd α) (hs : d.sz = 1) {W : World} {B n : Nat} {e : TypeId} {v : Value} {us : List Value} {L : List α} (h : W.ownsRow B e 1 v n us) (hn : n = L.length) (hlen : us.length = L.length) (hL : L.length ≤ 1000000)
    (hone : ∀ u ∈ us, u.oneCell' = true) (hK : ∀ (j : Nat) (u : Value) (p : α), us[j]? = some u → L[j]? = some p → d.K W p [u]) : ∃ A c, v = .slice A L.length c ∧ L.length ≤ c ∧ d.C W A L.length L := by
  subst hn
  obtain ⟨A, c, rfl, hc, hr⟩ := read_own (w := W) (W := W) h hone
  refine ⟨A, c, rfl, hc, rfl, by omega, fun h0 => ?_⟩
  obtain ⟨ad, e2, hcell⟩ := hr.read (by omega)
  refine ⟨ad, e2, fun j p hj => ?_⟩
  have hj2 : j < us.length := by
    have := (List.getElem?_eq_some_iff.1 hj).1
    omega
  refine ⟨[us[j]], by rw [hs]; rfl, hK j _ p (List.getElem?_eq_getElem hj2) hj, fun i u hu => ?_⟩
  match i with
  | 0 =>
    injection hu with hu
    subst hu
    rw [hs, Nat.mul_one, Nat.add_zero]
    exact hcell _ _ (List.getElem?_eq_getElem hj2)
  | i + 1 => simp at hu
theorem row_C {α : Type} (enc : α → Value) (h1 : ∀ x, (enc x).oneCell' = true) {W : World} {B n : Nat} {e : TypeId} {v : Value} {L : List α} (h : W.ownsRow B e 1 v n (L.map enc)) (hn : n = L.length) (hL : L.length ≤ 1000000) :
    ∃ A c, v = .slice A L.length c ∧ L.length ≤ c ∧ (Kd.scalar enc h1).C W A L.length L :=
  row_K _ rfl h hn (by simp) hL (fun u hu => by
    obtain ⟨z, _, rfl⟩ := List.mem_map.1 hu
    exact h1 z) (fun j u p hu hp => by
    rw [List.getElem?_map, hp] at hu
    injection hu with hu
    subst hu
    rfl)
theorem rg_C {α : Type} (enc : α → Value) (h1 : ∀ x, (enc x).oneCell' = true) {W : World} {A : Option Addr} {L : List α} (h : (Kd.scalar enc h1).C W A L.length L) : ReadG W A L.length 1 (L.map enc) :=
  ⟨by simp, fun u hu => by
    obtain ⟨z, _, rfl⟩ := List.mem_map.1 hu
    exact h1 z, fun h0 => by
    obtain ⟨ad, e, hc⟩ := h.2.2 (by simpa using h0)
    refine ⟨ad, e, fun j u hu => ?_⟩
    rw [List.getElem?_map] at hu
    obtain ⟨p, hp, rfl⟩ := Option.map_eq_some_iff.1 hu
    obtain ⟨c, hs, hk, hcell⟩ := hc j p hp
    have hk : c = [enc p] := hk
    subst hk
    have := hcell 0 _ rfl
    rw [Nat.add_zero] at this
    have h1 : (Kd.scalar enc h1).sz = 1 := rfl
    rw [h1, Nat.mul_one] at this
    exact this⟩
end Go.Proofs.YtoopmpjgmgffoaaDoor.Tr
