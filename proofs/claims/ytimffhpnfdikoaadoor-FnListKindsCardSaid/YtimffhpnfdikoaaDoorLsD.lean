/- A list of interest in memory: levels and nodes by the paths of tokens that lead to them; what one step of a put or a take makes of it. -/
import Derived.Test.YtimffhpnfdikoaaDoorLsC
import Derived.Carry
namespace Go.Proofs.YtimffhpnfdikoaaDoor.Ls
open Go.RowKit Go.Maps Go.Proofs.YtimffhpnfdikoaaDoor.Bs Go.Proofs.YtimffhpnfdikoaaDoorW.PrintWords Go.Proofs.YtimffhpnfdikoaaDoorW.PrintLast Go.Proofs.YtimffhpnfdikoaaDoorW.PrintMore
set_option linter.unusedVariables false
set_option linter.unusedSimpArgs false
abbrev Path := List ByteArray
abbrev Pm := Path → Option (Nat × Nat)
def star : ByteArray := ⟨#[42]⟩
def full : ByteArray := ⟨#[62]⟩
def kid (nd : Pm) (p : Path) (t : ByteArray) : Option Nat := (nd (p ++ [t])).map Prod.fst
def kids (nd : Pm) (p : Path) : ByteArray → Option (Option Nat) := fun t => if t = star ∨ t = full then none else (kid nd p t).map some
def setS (sub : Path → Int → Option ByteArray) (q : Path) (m : Int → Option ByteArray) : Path → Int → Option ByteArray := fun p => if p = q then m else sub p
theorem blk_ne {w : World} {b b' : Nat} {T T' : TypeId} {cs cs' : List Value} (h : Blk w b T cs) (h' : Blk w b' T' cs') (hT : T ≠ T') : b ≠ b' := by
  rintro rfl
  have := h.blk.symm.trans h'.blk
  injection this with this
  injection this with _ this _
  exact hT this
theorem map_ne {kt et mt : TypeId} {κ β : Type} {V : KV kt et mt κ β} {w : World} {b M K : Nat} {T : TypeId} {cs : List Value} {m : κ → Option β} (h : Blk w b T cs) (h' : Mp V w M K m) : b ≠ M := by
  rintro rfl
  obtain ⟨es, c, e⟩ := h'.blk
  rw [h.blk] at e
  cases e
structure Tri (w : World) (B K : Nat) (nd lv : Pm) (sub : Path → Int → Option ByteArray) : Prop where
  lev : ∀ p x, lv p = some x → B ≤ x.1 ∧ B ≤ x.2 ∧ Blk w x.1 85 [.map (some x.2), ptrA (kid nd p star), ptrA (kid nd p full)] ∧ Mp VN w x.2 K (kids nd p)
  node : ∀ p x, nd p = some x → B ≤ x.1 ∧ B ≤ x.2 ∧ Blk w x.1 95 [ptrA ((lv p).map Prod.fst), .map (some x.2)] ∧ Mp VS w x.2 K (sub p)
  linj : ∀ p q x y, lv p = some x → lv q = some y → (x.1 = y.1 ∨ x.2 = y.2) → p = q
  ninj : ∀ p q x y, nd p = some x → nd q = some y → (x.1 = y.1 ∨ x.2 = y.2) → p = q
  cross : ∀ p q x y, lv p = some x → nd q = some y → x.2 ≠ y.2
  up : ∀ p t x, nd (p ++ [t]) = some x → ∃ y, lv p = some y
  lvnd : ∀ p x, p ≠ [] → lv p = some x → ∃ y, nd p = some y
  nonil : nd [] = none
section
variable {w w' : World} {B K : Nat} {nd lv : Pm} {sub : Path → Int → Option ByteArray}
theorem kid_upd {p q : Path} {t : ByteArray} {x : Nat × Nat} (h : q ≠ p) (u : ByteArray) : kid (upd nd (p ++ [t]) x) q u = kid nd q u := by
  unfold kid upd
  rw [if_neg]
  intro e
  exact h (List.append_inj_left' e rfl)
theorem kids_upd {p q : Path} {t : ByteArray} {x : Nat × Nat} (h : q ≠ p) : ∀ u, kids (upd nd (p ++ [t]) x) q u = kids nd q u := by
  intro u
  unfold kids
  rw [kid_upd h]
theorem kid_del {p q : Path} {t : ByteArray} (h : q ≠ p) (u : ByteArray) : kid (del nd (p ++ [t])) q u = kid nd q u := by
  unfold kid del
  rw [if_neg]
  intro e
  exact h (List.append_inj_left' e rfl)
theorem kids_del {p q : Path} {t : ByteArray} (h : q ≠ p) : ∀ u, kids (del nd (p ++ [t])) q u = kids nd q u := by
  intro u
  unfold kids
  rw [kid_del h]
/-- A level that was not turned. -/
theorem Tri.levK (h : Tri w B K nd lv sub) {F : Nat → Prop} (hf : Fr F w w') {q : Path} {y : Nat × Nat} (hy : lv q = some y) (h1 : ¬ F y.1) (h2 : ¬ F y.2) {K' : Nat} (hK : K ≤ K') : Blk w' y.1 85 [.map (some y.2), ptrA (kid nd q star), ptrA (kid nd q full)] ∧ Mp VN w' y.2 K' (kids nd q) := by
  obtain ⟨-, -, a, b⟩ := h.lev q y hy
  exact ⟨a.fr hf h1, (b.fr hf h2).mono hK⟩
theorem Tri.nodeK (h : Tri w B K nd lv sub) {F : Nat → Prop} (hf : Fr F w w') {q : Path} {y : Nat × Nat} (hy : nd q = some y) (h1 : ¬ F y.1) (h2 : ¬ F y.2) {K' : Nat} (hK : K ≤ K') : Blk w' y.1 95 [ptrA ((lv q).map Prod.fst), .map (some y.2)] ∧ Mp VS w' y.2 K' (sub q) := by
  obtain ⟨-, -, a, b⟩ := h.node q y hy
  exact ⟨a.fr hf h1, (b.fr hf h2).mono hK⟩
theorem Tri.lv_none (h : Tri w B K nd lv sub) {q : Path} (hq : q ≠ []) (hn : nd q = none) : lv q = none := by
  cases hl : lv q with
  | none => rfl
  | some x =>
    obtain ⟨y, hy⟩ := h.lvnd q x hq hl
    rw [hn] at hy
    cases hy
theorem ne_nil (p : Path) (t : ByteArray) : p ++ [t] ≠ [] := by simp
/-- A new node below a level. -/
theorem Tri.newNode (h : Tri w B K nd lv sub) {p : Path} {t : ByteArray} {x y : Nat × Nat} (hx : lv p = some x) (hn : nd (p ++ [t]) = none) (hf : Fr (fun k => k = x.1 ∨ k = x.2) w w') (hB : B ≤ w.heap.size) (h1 : w.heap.size ≤ y.1) (h2 : w.heap.size ≤ y.2)
    (hN : Blk w' y.1 95 [.pointer none, .map (some y.2)]) (hS : Mp VS w' y.2 (K + 1) (fun _ => none)) (hL : Blk w' x.1 85 [.map (some x.2), ptrA (kid (upd nd (p ++ [t]) y) p star), ptrA (kid (upd nd (p ++ [t]) y) p full)]) (hM : Mp VN w' x.2 (K + 1) (kids (upd nd (p ++ [t]) y) p)) :
    Tri w' B (K + 1) (upd nd (p ++ [t]) y) lv (setS sub (p ++ [t]) (fun _ => none)) := by
  obtain ⟨bx1, bx2, hxB, hxM⟩ := h.lev p x hx
  have hup : ∀ q z, upd nd (p ++ [t]) y q = some z → (q = p ++ [t] ∧ z = y) ∨ (q ≠ p ++ [t] ∧ nd q = some z) := fun q z hz => by
    unfold upd at hz
    split at hz
    · injection hz with hz
      exact .inl ⟨by assumption, hz.symm⟩
    · exact .inr ⟨by assumption, hz⟩
  have old : ∀ q z, nd q = some z → z.1 < w.heap.size ∧ z.2 < w.heap.size := fun q z hz => by
    obtain ⟨-, -, a, b⟩ := h.node q z hz
    exact ⟨a.lt, b.lt⟩
  refine ⟨fun q z hz => ?_, fun q z hz => ?_, h.linj, fun q q' z z' hz hz' he => ?_, fun q q' z z' hz hz' => ?_, fun q u z hz => ?_, fun q z hq hz => ?_, ?_⟩
  · obtain ⟨b1, b2, zB, zM⟩ := h.lev q z hz
    by_cases hqp : q = p
    · subst hqp
      rw [hx] at hz
      injection hz with hz
      subst hz
      exact ⟨b1, b2, hL, hM⟩
    · have n1 : ¬ (z.1 = x.1 ∨ z.1 = x.2) := fun e => by
        rcases e with e | e
        · exact hqp (h.linj q p z x hz hx (.inl e))
        · exact map_ne zB hxM e
      have n2 : ¬ (z.2 = x.1 ∨ z.2 = x.2) := fun e => by
        rcases e with e | e
        · exact map_ne hxB zM e.symm
        · exact hqp (h.linj q p z x hz hx (.inr e))
      rw [kid_upd hqp, kid_upd hqp]
      exact ⟨b1, b2, zB.fr hf n1, ((zM.fr hf n2).mono (Nat.le_succ _)).congr (kids_upd hqp)⟩
  · rcases hup q z hz with ⟨e1, e2⟩ | ⟨e1, e2⟩
    · subst e1 e2
      refine ⟨by omega, by omega, ?_, ?_⟩
      · rw [h.lv_none (ne_nil p t) hn]
        exact hN
      · unfold setS
        rw [if_pos rfl]
        exact hS
    · obtain ⟨b1, b2, zB, zM⟩ := h.node q z e2
      have n1 : ¬ (z.1 = x.1 ∨ z.1 = x.2) := fun e => by
        rcases e with e | e
        · exact blk_ne zB hxB (by decide) e
        · exact map_ne zB hxM e
      have n2 : ¬ (z.2 = x.1 ∨ z.2 = x.2) := fun e => by
        rcases e with e | e
        · exact map_ne hxB zM e.symm
        · exact h.cross p q x z hx e2 e.symm
      refine ⟨b1, b2, zB.fr hf n1, ?_⟩
      unfold setS
      rw [if_neg e1]
      exact (zM.fr hf n2).mono (Nat.le_succ _)
  · rcases hup q z hz with ⟨e1, e2⟩ | ⟨e1, e2⟩
    · rcases hup q' z' hz' with ⟨g1, g2⟩ | ⟨g1, g2⟩
      · rw [e1, g1]
      · obtain ⟨o1, o2⟩ := old q' z' g2
        subst e2
        omega
    · rcases hup q' z' hz' with ⟨g1, g2⟩ | ⟨g1, g2⟩
      · obtain ⟨o1, o2⟩ := old q z e2
        subst g2
        omega
      · exact h.ninj q q' z z' e2 g2 he
  · rcases hup q' z' hz' with ⟨g1, g2⟩ | ⟨g1, g2⟩
    · obtain ⟨-, -, zB, zM⟩ := h.lev q z hz
      have := zM.lt
      subst g2
      omega
    · exact h.cross q q' z z' hz g2
  · rcases hup _ z hz with ⟨g1, g2⟩ | ⟨g1, g2⟩
    · have := List.append_inj_left' g1 rfl
      subst this
      exact ⟨x, hx⟩
    · exact h.up q u z g2
  · obtain ⟨y', hy'⟩ := h.lvnd q z hq hz
    unfold upd
    split
    · exact ⟨_, rfl⟩
    · exact ⟨y', hy'⟩
  · unfold upd
    rw [if_neg (fun e => ne_nil p t e.symm)]
    exact h.nonil
/-- A new level below a node. -/
theorem Tri.newLevel (h : Tri w B K nd lv sub) {q : Path} {x y : Nat × Nat} (hx : nd q = some x) (hn : lv q = none) (hf : Fr (fun k => k = x.1) w w') (hB : B ≤ w.heap.size) (h1 : w.heap.size ≤ y.1) (h2 : w.heap.size ≤ y.2)
    (hL : Blk w' y.1 85 [.map (some y.2), .pointer none, .pointer none]) (hM : Mp VN w' y.2 K (fun _ => none)) (hN : Blk w' x.1 95 [.pointer (some ⟨y.1, 0, none⟩), .map (some x.2)]) :
    Tri w' B K nd (upd lv q y) sub := by
  obtain ⟨bx1, bx2, hxB, hxM⟩ := h.node q x hx
  have hno : ∀ u, nd (q ++ [u]) = none := fun u => by
    cases hu : nd (q ++ [u]) with
    | none => rfl
    | some z =>
      obtain ⟨z', hz'⟩ := h.up q u z hu
      rw [hn] at hz'
      cases hz'
  have hup : ∀ p z, upd lv q y p = some z → (p = q ∧ z = y) ∨ (p ≠ q ∧ lv p = some z) := fun p z hz => by
    unfold upd at hz
    split at hz
    · injection hz with hz
      exact .inl ⟨by assumption, hz.symm⟩
    · exact .inr ⟨by assumption, hz⟩
  have old : ∀ p z, lv p = some z → z.1 < w.heap.size ∧ z.2 < w.heap.size := fun p z hz => by
    obtain ⟨-, -, a, b⟩ := h.lev p z hz
    exact ⟨a.lt, b.lt⟩
  refine ⟨fun p z hz => ?_, fun p z hz => ?_, fun p p' z z' hz hz' he => ?_, h.ninj, fun p p' z z' hz hz' => ?_, fun p u z hz => ?_, fun p z hp hz => ?_, h.nonil⟩
  · rcases hup p z hz with ⟨e1, e2⟩ | ⟨e1, e2⟩
    · subst e1 e2
      have k0 : ∀ u, kid nd p u = none := fun u => by unfold kid; rw [hno u]; rfl
      rw [k0, k0]
      exact ⟨by omega, by omega, hL, hM.congr (fun u => by unfold kids; rw [k0]; split <;> rfl)⟩
    · obtain ⟨b1, b2, zB, zM⟩ := h.lev p z e2
      exact ⟨b1, b2, zB.fr hf (blk_ne zB hxB (by decide)), zM.fr hf (fun e => map_ne hxB zM e.symm)⟩
  · obtain ⟨b1, b2, zB, zM⟩ := h.node p z hz
    by_cases hpq : p = q
    · subst hpq
      rw [hx] at hz
      injection hz with hz
      subst hz
      refine ⟨b1, b2, ?_, zM.fr hf (fun e => map_ne hxB zM e.symm)⟩
      unfold upd
      rw [if_pos rfl]
      exact hN
    · refine ⟨b1, b2, ?_, zM.fr hf (fun e => map_ne hxB zM e.symm)⟩
      have e : upd lv q y p = lv p := by unfold upd; rw [if_neg hpq]
      rw [e]
      exact zB.fr hf (fun e => hpq (h.ninj p q z x hz hx (.inl e)))
  · rcases hup p z hz with ⟨e1, e2⟩ | ⟨e1, e2⟩
    · rcases hup p' z' hz' with ⟨g1, g2⟩ | ⟨g1, g2⟩
      · rw [e1, g1]
      · obtain ⟨o1, o2⟩ := old p' z' g2
        subst e2
        omega
    · rcases hup p' z' hz' with ⟨g1, g2⟩ | ⟨g1, g2⟩
      · obtain ⟨o1, o2⟩ := old p z e2
        subst g2
        omega
      · exact h.linj p p' z z' e2 g2 he
  · rcases hup p z hz with ⟨e1, e2⟩ | ⟨e1, e2⟩
    · obtain ⟨-, -, zB, zM⟩ := h.node p' z' hz'
      have := zM.lt
      subst e2
      omega
    · exact h.cross p p' z z' e2 hz'
  · obtain ⟨y', hy'⟩ := h.up p u z hz
    unfold upd
    split
    · exact ⟨_, rfl⟩
    · exact ⟨y', hy'⟩
  · rcases hup p z hz with ⟨e1, e2⟩ | ⟨e1, e2⟩
    · rw [e1]
      exact ⟨x, hx⟩
    · exact h.lvnd p z hp e2
/-- A node's subjects are turned. -/
theorem Tri.subs (h : Tri w B K nd lv sub) {q : Path} {x : Nat × Nat} (hx : nd q = some x) {K' : Nat} (hK : K ≤ K') (hf : Fr (fun k => k = x.2) w w') {m : Int → Option ByteArray} (hM : Mp VS w' x.2 K' m) : Tri w' B K' nd lv (setS sub q m) := by
  obtain ⟨bx1, bx2, hxB, hxM⟩ := h.node q x hx
  refine ⟨fun p z hz => ?_, fun p z hz => ?_, h.linj, h.ninj, h.cross, h.up, h.lvnd, h.nonil⟩
  · obtain ⟨b1, b2, zB, zM⟩ := h.lev p z hz
    exact ⟨b1, b2, zB.fr hf (map_ne zB hxM), (zM.fr hf (h.cross p q z x hz hx)).mono hK⟩
  · obtain ⟨b1, b2, zB, zM⟩ := h.node p z hz
    refine ⟨b1, b2, zB.fr hf (map_ne zB hxM), ?_⟩
    unfold setS
    by_cases hpq : p = q
    · subst hpq
      rw [hx] at hz
      injection hz with hz
      subst hz
      rw [if_pos rfl]
      exact hM
    · rw [if_neg hpq]
      exact (zM.fr hf (fun e => hpq (h.ninj p q z x hz hx (.inr e)))).mono hK
end
end Go.Proofs.YtimffhpnfdikoaaDoor.Ls
