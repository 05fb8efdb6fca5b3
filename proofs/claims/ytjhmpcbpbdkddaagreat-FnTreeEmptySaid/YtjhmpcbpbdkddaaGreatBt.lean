/- Rows of the call's own, told by their base alone (other blocks may have been written since). -/
import Derived.Test.YtjhmpcbpbdkddaaGreatBs
namespace Go.Proofs.YtjhmpcbpbdkddaaGreat.Bs
open Go.RowKit Go.Proofs.YtjhmpcbpbdkddaaGreatW.PrintWords Go.Proofs.YtjhmpcbpbdkddaaGreatW.PrintLast Go.Proofs.YtjhmpcbpbdkddaaGreatW.PrintMore
set_option linter.unusedVariables false
set_option linter.unusedSimpArgs false

section
variable {P : Program} {W : World} {t e : TypeId} {i0 : TypeInfo} {z : Value} {size bytes : Nat}
set_option maxRecDepth 100000 in
theorem run_ownG (K : ElemK P t e i0 z size bytes) {base : Nat} {v : Value} {n m : Nat} {xs ys : List Value} (ty : TypeId) (h1 : W.ownsRow base e size v n xs) (hb : base ≤ W.heap.size) {X : Option Addr} {c : Nat} (hrd : ReadG W X m size ys) (hsz : n + m ≤ 1000000) :
    ∃ v' W', (Builtin.append_ #[t, t] ty #[v, .slice X m c]).run P W = .ok v' W' ∧ W'.ownsRow base e size v' (n + m) (xs ++ ys) ∧ W.grownBy W' v.ownBlock ∧ (v'.ownBlock = v.ownBlock ∨ v'.ownBlock = some W.heap.size) := by
  cases X with
  | none =>
    have hm : m = 0 := by
      rcases Nat.eq_zero_or_pos m with h | h
      · exact h
      · obtain ⟨ad, h', -⟩ := hrd.read (by rw [hrd.len]; exact Nat.mul_pos h K.pos)
        cases h'
    subst hm
    have hys : ys = [] := List.length_eq_zero_iff.1 (by rw [hrd.len]; omega)
    subst hys
    refine ⟨v, W, run_append_empty _ _ ty e i0 K.under K.info h1, by rw [List.append_nil]; exact h1, ⟨rfl, rfl, rfl, Nat.le_refl _, fun _ _ _ => rfl⟩, .inl rfl⟩
  | some ad =>
    obtain ⟨v', W', hrun, ho, hg, -, hat⟩ := run_append_own_at (P := P) W base t ty e i0 z size bytes K.under K.info K.zero K.sz K.by_ K.zs K.pos v n _ h1 ad m c ys hrd.len
      (fun j u hu => by
        obtain ⟨ad', e, hc⟩ := hrd.read (by have := (List.getElem?_eq_some_iff.1 hu).1; omega)
        injection e with e
        subst e
        exact hc j u hu)
      hrd.one (by unfold maxLen; omega) (by
        have := Nat.mul_le_mul hsz K.small
        omega) hb
    exact ⟨v', W', hrun, ho, hg, hat⟩
theorem step_ownG (K : ElemK P t e i0 z size bytes) {ops : Array Oper} {o : Oper} {a : Act} {KK : Act → World → Prop} {Q : Exit → Act → World → Prop} {E : Prop} (hgd : o.guard = none) (s x : Operand)
    (ho : o.op = .call { callee := .builtin .append, args := #[s, x], argTypes := #[t, t] }) {base : Nat} {v : Value} {n m : Nat} {xs ys : List Value} (hs : a.eval s = v) (h1 : W.ownsRow base e size v n xs) (hb : base ≤ W.heap.size) {X : Option Addr} {c : Nat} (hx : a.eval x = .slice X m c) (hr : ReadG W X m size ys)
    (hsz : n + m ≤ 1000000) (h : ∀ v' W', W'.ownsRow base e size v' (n + m) (xs ++ ys) → W.grownBy W' v.ownBlock → (v'.ownBlock = v.ownBlock ∨ v'.ownBlock = some W.heap.size) → KK (a.put o.dst v') W') :
    if Region.wanted o (yielded ops a.tmps) = true then Oper.wp P o a W KK Q else E := by
  have hw : Region.wanted o (yielded ops a.tmps) = true := by simp [Region.wanted, hgd]
  rw [if_pos hw]
  obtain ⟨v', W', hrun, k1, k2, k3⟩ := run_ownG (c := c) K o.type h1 hb hr hsz
  unfold Oper.wp execOp
  simp only [ho, resolve, invoke, builtin, Sem.run_bind, Sem.run_pure, Result.andThen_ok, List.map_toArray, List.map_cons, List.map_nil, hs, hx, hrun]
  exact h v' W' k1 k2 k3
theorem wpList_ownG (K : ElemK P t e i0 z size bytes) {ops : Array Oper} {rest : List Oper} {o : Oper} {a : Act} {Q : Exit → Act → World → Prop} (hw : Region.wanted o (yielded ops a.tmps) = true) (s x : Operand)
    (ho : o.op = .call { callee := .builtin .append, args := #[s, x], argTypes := #[t, t] }) {base : Nat} {v : Value} {n m : Nat} {xs ys : List Value} (hs : a.eval s = v) (h1 : W.ownsRow base e size v n xs) (hb : base ≤ W.heap.size) {X : Option Addr} {c : Nat} (hx : a.eval x = .slice X m c) (hr : ReadG W X m size ys)
    (hsz : n + m ≤ 1000000) (h : ∀ v' W', W'.ownsRow base e size v' (n + m) (xs ++ ys) → W.grownBy W' v.ownBlock → (v'.ownBlock = v.ownBlock ∨ v'.ownBlock = some W.heap.size) → wpList P ops Q rest (a.put o.dst v') W') :
    wpList P ops Q (o :: rest) a W := by
  refine wpList_step fun KK hK => ?_
  rw [if_pos hw]
  obtain ⟨v', W', hrun, k1, k2, k3⟩ := run_ownG (c := c) K o.type h1 hb hr hsz
  unfold Oper.wp execOp
  simp only [ho, resolve, invoke, builtin, Sem.run_bind, Sem.run_pure, Result.andThen_ok, List.map_toArray, List.map_cons, List.map_nil, hs, hx, hrun]
  exact hK _ _ (h v' W' k1 k2 k3)
end
/-- A block that the append did not turn. -/
theorem grown_block {w w' : World} {v : Value} {k : Nat} (h : w.grownBy w' v.ownBlock) (hk : k < w.heap.size) (hne : v.ownBlock ≠ some k) : w'.heap[k]? = w.heap[k]? := h.block k hk (fun e => hne e.symm)
theorem ownsRow_block {w w' : World} {base : Nat} {e : TypeId} {size n : Nat} {v : Value} {xs : List Value} (h : w.ownsRow base e size v n xs) (hn : ∀ k, v.ownBlock = some k → w'.heap[k]? = w.heap[k]?) : w'.ownsRow base e size v n xs := by
  refine ⟨h.1, ?_⟩
  rcases h.2 with hx | ⟨g, cap, cur, rfl, hb, hgg, rest⟩
  · exact .inl hx
  · exact .inr ⟨g, cap, cur, rfl, hb, (hn g rfl).trans hgg, rest⟩
theorem own_base {w : World} {base : Nat} {e : TypeId} {size n : Nat} {v : Value} {xs : List Value} (h : w.ownsRow base e size v n xs) {k : Nat} (hk : v.ownBlock = some k) : base ≤ k ∧ k < w.heap.size := by
  rcases h.2 with ⟨rfl, -⟩ | ⟨g, cap, cur, rfl, hb, hgg, -⟩
  · cases hk
  · have : g = k := by simpa [Value.ownBlock] using hk
    subst this
    exact ⟨hb, (Array.getElem?_eq_some_iff.1 hgg).1⟩
end Go.Proofs.YtjhmpcbpbdkddaaGreat.Bs
