/- Loops over a map, told by a function. -/
import Derived.Test.YtimffhpnfdikoaaDoorLsB
namespace Go.Proofs.YtimffhpnfdikoaaDoor.Ls
open Go.RowKit Go.Maps Go.Proofs.YtimffhpnfdikoaaDoor.Bs Go.Proofs.YtimffhpnfdikoaaDoorW.PrintWords Go.Proofs.YtimffhpnfdikoaaDoorW.PrintLast Go.Proofs.YtimffhpnfdikoaaDoorW.PrintMore
set_option linter.unusedVariables false
set_option linter.unusedSimpArgs false
/-- A loop over the map in block M is under way, its iterator in block r: lf says of which keys the round is still to come. -/
structure Mr {kt et mt : TypeId} {κ β : Type} (V : KV kt et mt κ β) (w : World) (M r K : Nat) (m : κ → Option β) (lf : κ → Bool) (cnt : Nat) : Prop where
  ex : ∃ n D left, n ≤ K ∧ w.ranges Tryd.prog kt V.R M r n D left cnt ∧ Rd V D m ∧ (∀ s, V.okK s → left (V.litK s) = lf s)
  dm : ∀ s, lf s = true → V.okK s ∧ ∃ e, m s = some e
section
variable {kt et mt : TypeId} {κ β : Type} {V : KV kt et mt κ β} {w w1 : World} {M r K cnt : Nat} {m : κ → Option β} {lf : κ → Bool}
theorem Mr.mp (h : Mr V w M r K m lf cnt) : Mp V w M K m := by
  obtain ⟨n, D, left, hn, hr, hd, hl⟩ := h.ex
  exact ⟨n, D, hn, hr.owns, hd⟩
theorem Mr.lt (h : Mr V w M r K m lf cnt) : r < w.heap.size := by
  obtain ⟨n, D, left, hn, hr, hd, hl⟩ := h.ex
  exact hr.lt
theorem Mr.iter (h : Mr V w M r K m lf cnt) : ∃ a b c d, w.heap[r]? = some (.mapIter a b c d) := by
  obtain ⟨n, D, left, hn, ⟨es, clock, since, seen, c0, _, _, _, _, hr, _⟩, hd, hl⟩ := h.ex
  exact ⟨_, _, _, _, hr⟩
theorem Mr.move (h : Mr V w M r K m lf cnt) (h1 : w1.heap[M]? = w.heap[M]?) (h2 : w1.heap[r]? = w.heap[r]?) : Mr V w1 M r K m lf cnt := by
  obtain ⟨n, D, left, hn, ⟨es, clock, since, seen, c0, hb, a1, a2, a3, hr, a4⟩, hd, hl⟩ := h.ex
  exact ⟨⟨n, D, left, hn, ⟨es, clock, since, seen, c0, h1.trans hb, a1, a2, a3, h2.trans hr, a4⟩, hd, hl⟩, h.dm⟩
theorem Mr.fr {F : Nat → Prop} (h : Mr V w M r K m lf cnt) (hf : Fr F w w1) (hb : ¬ F M) (hr : ¬ F r) : Mr V w1 M r K m lf cnt := h.move (hf.block M h.mp.lt hb) (hf.block r h.lt hr)
theorem Mr.left_eq (h : Mr V w M r K m lf cnt) : w.rangeLeft M r = cnt := by
  obtain ⟨n, D, left, hn, hr, hd, hl⟩ := h.ex
  exact hr.left_eq
variable {ops : Array Oper} {rest : List Oper} {o : Oper} {a : Act} {Q : Exit → Act → World → Prop}
/-- 'range m'. -/
theorem wpList_mp_range (hg : o.guard = none) (mo : Operand) (hop : o.op = Op.range mt mo) (hm : a.eval mo = .map (some M)) (h : Mp V w M K m)
    (hK : ∀ w' cnt, Mr V w' M w.heap.size K m (fun s => (m s).isSome) cnt → Same w w' → wpList Tryd.prog ops Q rest (a.put o.dst (.pointer (some ⟨w.heap.size, 0, none⟩))) w') : wpList Tryd.prog ops Q (o :: rest) a w := by
  obtain ⟨n, D, hn, ho, hd⟩ := h.ex
  refine wpList_range_own w hg mo mt hop kt et V.keyed V.under V.R M n D hm ho ?_
  intro w' h1 h2 h3
  refine hK w' _ ⟨⟨n, D, _, hn, h1, hd, fun s hs => hd.has s hs⟩, fun s hs => ?_⟩ ((Fr.grown h2).mono (fun k hk => by cases hk))
  obtain ⟨e, he⟩ := Option.isSome_iff_exists.1 hs
  exact ⟨(hd.dom s e he).1, e, he⟩
set_option maxRecDepth 100000 in
/-- The step. -/
theorem wpList_mp_next [DecidableEq κ] (hg : o.guard = none) (it : Operand) (hop : o.op = Op.next it false) (hit : a.eval it = .pointer (some ⟨r, 0, none⟩)) (h : Mr V w M r K m lf cnt)
    (hDone : (∀ s, lf s = false) → wpList Tryd.prog ops Q rest (a.put o.dst (.tuple #[.bool false])) w)
    (hMore : ∀ (x : κ) (c : β) (w' : World) (cnt' : Nat), V.okK x → V.okV c → lf x = true → m x = some c → Mr V w' M r K m (fun z => lf z && !decide (z = x)) cnt' → cnt' < cnt → Fr (fun k => k = r) w w' →
      (Instr.entry (.pointer (some ⟨r, 0, none⟩))).run Tryd.prog w' = .ok (.tuple #[V.mkK x, V.mkV c]) w' → wpList Tryd.prog ops Q rest (a.put o.dst (.tuple #[.bool true, V.mkK x, V.mkV c])) w') : wpList Tryd.prog ops Q (o :: rest) a w := by
  obtain ⟨n, D, left, hn, hr, hd, hl⟩ := h.ex
  refine wpList_next_ranges w hg it hop kt V.keyed V.R V.mkK V.mkV (fun key kl hkey => by obtain ⟨x, h1, h2, h3⟩ := V.keyInv _ _ hkey; exact ⟨x, h2⟩) (fun v y hv => by obtain ⟨c, h1, h2, h3⟩ := V.valInv _ _ hv; exact ⟨c, h2⟩) M r n D left cnt hit hr ?_ ?_
  · intro h0 hz
    refine hDone (fun s => ?_)
    cases hs : lf s with
    | false => rfl
    | true =>
      obtain ⟨h1, -⟩ := h.dm s hs
      rw [← hl s h1, hz] at hs
      cases hs
  · intro x0 c0 kl y w' cnt' hkey hlk hv hat hrg hlt hgr hsz hen
    obtain ⟨x, h1, h2, h3⟩ := V.keyInv _ _ hkey
    obtain ⟨c, g1, g2, g3⟩ := V.valInv _ _ hv
    rw [h2, g2] at hen ⊢
    subst h3
    have hlx' : lf x = true := by rw [← hl x h1]; exact hlk
    obtain ⟨-, e, he⟩ := h.dm x hlx'
    have hc : m x = some c := by
      have q1 := (hat .nil).symm.trans (hd.val x e he .nil)
      rw [g3] at q1
      rw [he, V.encInj _ _ q1]
    refine hMore x c w' cnt' h1 g1 hlx' hc ⟨⟨n, D, _, hn, hrg, hd, fun s hs => ?_⟩, fun s hs => h.dm s ?_⟩ hlt ((Fr.grown hgr).mono (fun k hk => by injection hk with hk; exact hk.symm)) hen
    · show (left (V.litK s) && !(V.litK s).sameKey (V.litK x)) = _
      rw [hl s hs, V.same]
    · simp only [Bool.and_eq_true] at hs
      exact hs.1
end
end Go.Proofs.YtimffhpnfdikoaaDoor.Ls
