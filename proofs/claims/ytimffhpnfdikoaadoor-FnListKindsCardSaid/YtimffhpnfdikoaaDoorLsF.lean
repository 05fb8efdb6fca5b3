/- A list of interest in memory: a node is pruned; the steps of puts and takes on the whole. -/
import Derived.Test.YtimffhpnfdikoaaDoorLsE
namespace Go.Proofs.YtimffhpnfdikoaaDoor.Ls
open Go.RowKit Go.Maps Go.Proofs.YtimffhpnfdikoaaDoor.Bs Go.Proofs.YtimffhpnfdikoaaDoorW.PrintWords Go.Proofs.YtimffhpnfdikoaaDoorW.PrintLast Go.Proofs.YtimffhpnfdikoaaDoorW.PrintMore
set_option linter.unusedVariables false
set_option linter.unusedSimpArgs false
section
variable {w w' : World} {B L K : Nat} {nd lv : Pm} {sub : Path → Int → Option ByteArray} {E : Path → Prop} {ex : Prop} {a c cnt : Int}
theorem del_some {nd : Pm} {q p : Path} {z : Nat × Nat} (h : del nd q p = some z) : p ≠ q ∧ nd p = some z := by
  unfold del at h
  split at h
  · cases h
  · exact ⟨by assumption, h⟩
/-- A node without kids is pruned, and its level with it. -/
theorem Tri.prune (h : Tri w B K nd lv sub) {p : Path} {t : ByteArray} {x : Nat × Nat} (hx : lv p = some x) (hk : ∀ u, nd (p ++ [t] ++ [u]) = none) (hf : Fr (fun k => k = x.1 ∨ k = x.2) w w')
    (hL : Blk w' x.1 85 [.map (some x.2), ptrA (kid (del nd (p ++ [t])) p star), ptrA (kid (del nd (p ++ [t])) p full)]) (hM : Mp VN w' x.2 K (kids (del nd (p ++ [t])) p)) :
    Tri w' B K (del nd (p ++ [t])) (del lv (p ++ [t])) sub := by
  obtain ⟨bx1, bx2, hxB, hxM⟩ := h.lev p x hx
  refine ⟨fun q z hz => ?_, fun q z hz => ?_, fun q q' z z' hz hz' he => ?_, fun q q' z z' hz hz' he => ?_, fun q q' z z' hz hz' => ?_, fun q u z hz => ?_, fun q z hq hz => ?_, ?_⟩
  · obtain ⟨e1, e2⟩ := del_some hz
    obtain ⟨b1, b2, zB, zM⟩ := h.lev q z e2
    by_cases hqp : q = p
    · subst hqp
      rw [hx] at e2
      injection e2 with e2
      subst e2
      exact ⟨b1, b2, hL, hM⟩
    · have n1 : ¬ (z.1 = x.1 ∨ z.1 = x.2) := fun e => by
        rcases e with e | e
        · exact hqp (h.linj q p z x e2 hx (.inl e))
        · exact map_ne zB hxM e
      have n2 : ¬ (z.2 = x.1 ∨ z.2 = x.2) := fun e => by
        rcases e with e | e
        · exact map_ne hxB zM e.symm
        · exact hqp (h.linj q p z x e2 hx (.inr e))
      rw [kid_del hqp, kid_del hqp]
      exact ⟨b1, b2, zB.fr hf n1, (zM.fr hf n2).congr (kids_del hqp)⟩
  · obtain ⟨e1, e2⟩ := del_some hz
    obtain ⟨b1, b2, zB, zM⟩ := h.node q z e2
    have n1 : ¬ (z.1 = x.1 ∨ z.1 = x.2) := fun e => by
      rcases e with e | e
      · exact blk_ne zB hxB (by decide) e
      · exact map_ne zB hxM e
    have n2 : ¬ (z.2 = x.1 ∨ z.2 = x.2) := fun e => by
      rcases e with e | e
      · exact map_ne hxB zM e.symm
      · exact h.cross p q x z hx e2 e.symm
    have e3 : del lv (p ++ [t]) q = lv q := by unfold del; rw [if_neg e1]
    rw [e3]
    exact ⟨b1, b2, zB.fr hf n1, zM.fr hf n2⟩
  · exact h.linj q q' z z' (del_some hz).2 (del_some hz').2 he
  · exact h.ninj q q' z z' (del_some hz).2 (del_some hz').2 he
  · exact h.cross q q' z z' (del_some hz).2 (del_some hz').2
  · obtain ⟨e1, e2⟩ := del_some hz
    obtain ⟨y', hy'⟩ := h.up q u z e2
    unfold del
    rw [if_neg]
    · exact ⟨y', hy'⟩
    · rintro rfl
      rw [hk u] at e2
      cases e2
  · obtain ⟨e1, e2⟩ := del_some hz
    obtain ⟨y', hy'⟩ := h.lvnd q z hq e2
    unfold del
    rw [if_neg e1]
    exact ⟨y', hy'⟩
  · unfold del
    split
    · rfl
    · exact h.nonil
theorem Lx.congrE (h : Lx w B L K sub E ex a c cnt nd lv) {E' : Path → Prop} {ex' : Prop} (hE : ex' → ex ∧ ∀ q, E q → E' q) : Lx w B L K sub E' ex' a c cnt nd lv :=
  ⟨h.base, h.size, h.tri, h.head, h.out, fun hx q y hq => by
    obtain ⟨h1, h2⟩ := hE hx
    rcases h.live h1 q y hq with e | e
    · exact .inl (h2 q e)
    · exact .inr e⟩
theorem Lx.mono (h : Lx w B L K sub E ex a c cnt nd lv) {K' : Nat} (hK : K ≤ K') : Lx w B L K' sub E ex a c cnt nd lv :=
  ⟨h.base, h.size, ⟨fun p x hp => by obtain ⟨a, b, c, d⟩ := h.tri.lev p x hp; exact ⟨a, b, c, d.mono hK⟩, fun p x hp => by obtain ⟨a, b, c, d⟩ := h.tri.node p x hp; exact ⟨a, b, c, d.mono hK⟩, h.tri.linj, h.tri.ninj, h.tri.cross, h.tri.up, h.tri.lvnd, h.tri.nonil⟩, h.head, h.out, h.live⟩
theorem setS_none (hout : ∀ p, nd p = none → ∀ v, sub p v = none) {q : Path} (hq : nd q = none) : setS sub q (fun _ => none) = sub := by
  funext p v
  unfold setS
  split
  · subst_vars
    exact (hout _ hq v).symm
  · rfl
/-- The head of a list is no level's, no node's, no map. -/
theorem Lx.headK (h : Lx w B L K sub E ex a c cnt nd lv) {F : Nat → Prop} (hf : Fr F w w') (hL : ¬ F L) {x : Nat × Nat} (hx : lv [] = some x) : Blk w' L 81 (hdr a c (.pointer (some ⟨x.1, 0, none⟩)) cnt) := by
  obtain ⟨y, hy, hh⟩ := h.head
  rw [hx] at hy
  injection hy with hy
  subst hy
  exact hh.fr hf hL
theorem Lx.neLev (h : Lx w B L K sub E ex a c cnt nd lv) {p : Path} {x : Nat × Nat} (hx : lv p = some x) : ¬ (L = x.1 ∨ L = x.2) := by
  obtain ⟨y, hy, hh⟩ := h.head
  obtain ⟨_, _, hB, hM⟩ := h.tri.lev p x hx
  rintro (e | e)
  · exact blk_ne hh hB (by decide) e
  · exact map_ne hh hM e
theorem Lx.neNode (h : Lx w B L K sub E ex a c cnt nd lv) {p : Path} {x : Nat × Nat} (hx : nd p = some x) : L ≠ x.1 ∧ L ≠ x.2 := by
  obtain ⟨y, hy, hh⟩ := h.head
  obtain ⟨_, _, hB, hM⟩ := h.tri.node p x hx
  exact ⟨blk_ne hh hB (by decide), map_ne hh hM⟩
theorem Lx.newNode (h : Lx w B L K sub E ex a c cnt nd lv) {p : Path} {t : ByteArray} {x y : Nat × Nat} (hx : lv p = some x) (hn : nd (p ++ [t]) = none) (hf : Fr (fun k => k = x.1 ∨ k = x.2) w w') (h1 : w.heap.size ≤ y.1) (h2 : w.heap.size ≤ y.2)
    (hN : Blk w' y.1 95 [.pointer none, .map (some y.2)]) (hS : Mp VS w' y.2 (K + 1) (fun _ => none)) (hL : Blk w' x.1 85 [.map (some x.2), ptrA (kid (upd nd (p ++ [t]) y) p star), ptrA (kid (upd nd (p ++ [t]) y) p full)]) (hM : Mp VN w' x.2 (K + 1) (kids (upd nd (p ++ [t]) y) p)) :
    Lx w' B L (K + 1) sub (fun q => E q ∨ q = p ++ [t]) ex a c cnt (upd nd (p ++ [t]) y) lv := by
  have h3 := h.size
  have h4 := hf.size
  refine ⟨h.base, by omega, ?_, ?_, fun q hq v => ?_, fun hx' q z hz => ?_⟩
  · have := h.tri.newNode hx hn hf h.size h1 h2 hN hS hL hM
    rwa [setS_none h.out hn] at this
  · obtain ⟨z, hz, hh⟩ := h.head
    exact ⟨z, hz, h.headK hf (h.neLev hx) hz⟩
  · unfold upd at hq
    split at hq
    · cases hq
    · exact h.out q hq v
  · unfold upd at hz
    split at hz
    · exact .inl (.inr (by assumption))
    · rcases h.live hx' q z hz with e | e
      · exact .inl (.inl e)
      · exact .inr e
theorem Lx.newLevel (h : Lx w B L K sub E ex a c cnt nd lv) {q : Path} {x y : Nat × Nat} (hx : nd q = some x) (hn : lv q = none) (hf : Fr (fun k => k = x.1) w w') (h1 : w.heap.size ≤ y.1) (h2 : w.heap.size ≤ y.2)
    (hL : Blk w' y.1 85 [.map (some y.2), .pointer none, .pointer none]) (hM : Mp VN w' y.2 K (fun _ => none)) (hN : Blk w' x.1 95 [.pointer (some ⟨y.1, 0, none⟩), .map (some x.2)]) : Lx w' B L K sub E ex a c cnt nd (upd lv q y) := by
  have h3 := h.size
  have h4 := hf.size
  refine ⟨h.base, by omega, h.tri.newLevel hx hn hf h.size h1 h2 hL hM hN, ?_, h.out, h.live⟩
  obtain ⟨z, hz, hh⟩ := h.head
  refine ⟨z, ?_, h.headK hf (h.neNode hx).1 hz⟩
  unfold upd
  rw [if_neg]
  · exact hz
  · rintro rfl
    rw [hz] at hn
    cases hn
theorem Lx.subs (h : Lx w B L K sub E ex a c cnt nd lv) {q : Path} {x : Nat × Nat} (hx : nd q = some x) {K' : Nat} (hK : K ≤ K') (hf : Fr (fun k => k = x.2) w w') {m : Int → Option ByteArray} (hM : Mp VS w' x.2 K' m) {E' : Path → Prop} {ex' : Prop}
    (hl : ex' → Live nd (setS sub q m) E') : Lx w' B L K' (setS sub q m) E' ex' a c cnt nd lv := by
  have h3 := h.size
  have h4 := hf.size
  refine ⟨h.base, by omega, h.tri.subs hx hK hf hM, ?_, fun p hp v => ?_, hl⟩
  · obtain ⟨z, hz, hh⟩ := h.head
    exact ⟨z, hz, h.headK hf (h.neNode hx).2 hz⟩
  · unfold setS
    split
    · subst_vars
      rw [hx] at hp
      cases hp
    · exact h.out p hp v
theorem Lx.prune (h : Lx w B L K sub E ex a c cnt nd lv) {p : Path} {t : ByteArray} {x : Nat × Nat} (hx : lv p = some x) (hk : ∀ u, nd (p ++ [t] ++ [u]) = none) (hs : ∀ v, sub (p ++ [t]) v = none) (hf : Fr (fun k => k = x.1 ∨ k = x.2) w w')
    (hL : Blk w' x.1 85 [.map (some x.2), ptrA (kid (del nd (p ++ [t])) p star), ptrA (kid (del nd (p ++ [t])) p full)]) (hM : Mp VN w' x.2 K (kids (del nd (p ++ [t])) p)) {E' : Path → Prop} (hE : ∀ q, q ≠ p ++ [t] → E q → E' q) : 
    Lx w' B L K sub E' ex a c cnt (del nd (p ++ [t])) (del lv (p ++ [t])) := by
  have h3 := h.size
  have h4 := hf.size
  refine ⟨h.base, by omega, h.tri.prune hx hk hf hL hM, ?_, fun q hq v => ?_, fun hx' q z hz => ?_⟩
  · obtain ⟨z, hz, hh⟩ := h.head
    refine ⟨z, ?_, h.headK hf (h.neLev hx) hz⟩
    unfold del
    rw [if_neg (fun e => ne_nil p t e.symm)]
    exact hz
  · unfold del at hq
    split at hq
    · subst_vars
      exact hs v
    · exact h.out q hq v
  · obtain ⟨e1, e2⟩ := del_some hz
    rcases h.live hx' q z e2 with e | e
    · exact .inl (hE q e1 e)
    · exact .inr e
/-! ### one token's place in a level -/
theorem kid_same (t : ByteArray) (p : Path) (y : Nat × Nat) : kid (upd nd (p ++ [t]) y) p t = some y.1 := by unfold kid upd; rw [if_pos rfl]; rfl
theorem kid_other {t u : ByteArray} (p : Path) (y : Nat × Nat) (h : u ≠ t) : kid (upd nd (p ++ [t]) y) p u = kid nd p u := by
  unfold kid upd
  rw [if_neg]
  intro e
  have := List.append_inj_right' e rfl
  injection this with this
  exact h this
theorem kid_gone (t : ByteArray) (p : Path) : kid (del nd (p ++ [t])) p t = none := by unfold kid del; rw [if_pos rfl]; rfl
theorem kid_kept {t u : ByteArray} (p : Path) (h : u ≠ t) : kid (del nd (p ++ [t])) p u = kid nd p u := by
  unfold kid del
  rw [if_neg]
  intro e
  have := List.append_inj_right' e rfl
  injection this with this
  exact h this
theorem kids_put {t : ByteArray} (p : Path) (y : Nat × Nat) (h1 : t ≠ star) (h2 : t ≠ full) (u : ByteArray) : kids (upd nd (p ++ [t]) y) p u = upd (kids nd p) t (some y.1) u := by
  unfold upd
  split
  · subst_vars
    unfold kids
    rw [if_neg (by rintro (e | e); exact h1 e; exact h2 e)]
    show Option.map some (kid (upd nd (p ++ [u]) y) p u) = _
    rw [kid_same]
    rfl
  · unfold kids
    show (if _ then none else Option.map some (kid (upd nd (p ++ [t]) y) p u)) = _
    rw [kid_other p y (by assumption)]
theorem kids_sign {t : ByteArray} (p : Path) (y : Nat × Nat) (h : t = star ∨ t = full) (u : ByteArray) : kids (upd nd (p ++ [t]) y) p u = kids nd p u := by
  unfold kids
  split
  · rfl
  · rw [kid_other p y]
    rintro rfl
    exact absurd h (by assumption)
theorem kids_rem {t : ByteArray} (p : Path) (h1 : t ≠ star) (h2 : t ≠ full) (u : ByteArray) : kids (del nd (p ++ [t])) p u = del (kids nd p) t u := by
  by_cases hu : u = t
  · subst hu
    unfold kids
    rw [kid_gone]
    unfold del
    rw [if_pos rfl]
    split <;> rfl
  · have e : del (kids nd p) t u = kids nd p u := by unfold del; rw [if_neg hu]
    rw [e]
    unfold kids
    rw [kid_kept p hu]
theorem kids_unsign {t : ByteArray} (p : Path) (h : t = star ∨ t = full) (u : ByteArray) : kids (del nd (p ++ [t])) p u = kids nd p u := by
  unfold kids
  split
  · rfl
  · rw [kid_kept p]
    rintro rfl
    exact absurd h (by assumption)
theorem kids_get {t : ByteArray} (p : Path) (h1 : t ≠ star) (h2 : t ≠ full) : (kids nd p t).getD none = kid nd p t := by
  unfold kids
  rw [if_neg (by rintro (e | e); exact h1 e; exact h2 e)]
  cases kid nd p t <;> rfl
end
end Go.Proofs.YtimffhpnfdikoaaDoor.Ls
