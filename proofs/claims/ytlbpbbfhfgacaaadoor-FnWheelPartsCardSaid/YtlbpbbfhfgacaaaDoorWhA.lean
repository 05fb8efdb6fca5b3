/- Maps from numbers to times, told by a function; the laws of map operations in its words. -/
import Derived.Test.YtlbpbbfhfgacaaaDoorBt
import Derived.Test.YtlbpbbfhfgacaaaDoorGFnWheelPartsx0
import Derived.Test.YtlbpbbfhfgacaaaDoorPlWalk
import Derived.Maps.RangeWalk
import Derived.Lib.OthersKept
namespace Go.Proofs.YtlbpbbfhfgacaaaDoor.Wh
open Go.RowKit Go.Maps Go.Proofs.YtlbpbbfhfgacaaaDoor.Bs Go.Proofs.YtlbpbbfhfgacaaaDoorW.PrintWords Go.Proofs.YtlbpbbfhfgacaaaDoorW.PrintLast Go.Proofs.YtlbpbbfhfgacaaaDoorW.PrintMore
set_option linter.unusedVariables false
set_option linter.unusedSimpArgs false

theorem law28 : Keyed Tryd.prog 28 := int_keyed Tryd.underlying28
abbrev U64 (s : Int) : Prop := (Lit.int .u64 s).wf = true
abbrev I64 (s : Int) : Prop := (Lit.int .i64 s).wf = true
abbrev Fm := Int → Option Int
def upd (m : Fm) (s e : Int) : Fm := fun x => if x = s then some e else m x
def del (m : Fm) (s : Int) : Fm := fun x => if x = s then none else m x
theorem key_ne {s x : Int} (h : x ≠ s) : (Lit.int .u64 x) ≠ (Lit.int .u64 s) := fun e => h (by injection e)
theorem key_ok (s : Int) : WideAt.IsKeyLit (.int .u64 s) := trivial
theorem same_key (x s : Int) : (Lit.int .u64 x).sameKey (.int .u64 s) = decide (x = s) := by
  by_cases h : x = s
  · subst h
    rw [WideAt.sameKey_self (key_ok x)]
    simp
  · rw [sameKey_ne (key_ne h)]
    simp [h]
/-- A reading that is the function m. -/
structure Rd (D : DataW Unit) (m : Fm) : Prop where
  isMap : IsMap D
  has : ∀ s, U64 s → Maps.has D (.int .u64 s) = (m s).isSome
  val : ∀ s c, m s = some c → ∀ z, D.atKey (.int .u64 s) z = .lit (.int .i64 c)
  dom : ∀ s c, m s = some c → U64 s ∧ I64 c
theorem Rd.put {D : DataW Unit} {m : Fm} (h : Rd D m) {s e : Int} (hs : U64 s) (he : I64 e) : Rd (D.put (.int .u64 s) (.lit (.int .i64 e))) (upd m s e) where
  isMap := h.isMap.put _ _
  has := fun x hx => by
    by_cases hxs : x = s
    · subst hxs
      rw [has_put_same h.isMap (key_ok x)]
      simp [upd]
    · rw [has_put_other (key_ne hxs), h.has x hx]
      simp [upd, hxs]
  val := fun x c hc z => by
    by_cases hxs : x = s
    · subst hxs
      rw [atKey_put_same h.isMap (key_ok x)]
      simp [upd] at hc
      rw [hc]
    · rw [atKey_put_other (key_ne hxs)]
      exact h.val x c (by simpa [upd, hxs] using hc) z
  dom := fun x c hc => by
    by_cases hxs : x = s
    · subst hxs
      simp [upd] at hc
      exact ⟨hs, hc ▸ he⟩
    · exact h.dom x c (by simpa [upd, hxs] using hc)
theorem Rd.del {D : DataW Unit} {m : Fm} (h : Rd D m) (s : Int) : Rd (D.del (.int .u64 s)) (del m s) where
  isMap := h.isMap.del _
  has := fun x hx => by
    by_cases hxs : x = s
    · subst hxs
      rw [has_del_same]
      simp [Wh.del]
    · rw [has_del_other (key_ne hxs), h.has x hx]
      simp [Wh.del, hxs]
  val := fun x c hc z => by
    by_cases hxs : x = s
    · subst hxs
      simp [Wh.del] at hc
    · rw [atKey_del_other (key_ne hxs)]
      exact h.val x c (by simpa [Wh.del, hxs] using hc) z
  dom := fun x c hc => by
    by_cases hxs : x = s
    · subst hxs
      simp [Wh.del] at hc
    · exact h.dom x c (by simpa [Wh.del, hxs] using hc)
theorem Rd.empty : Rd (.map []) (fun _ => none) where
  isMap := isMap_empty
  has := fun _ _ => rfl
  val := fun _ _ h => by cases h
  dom := fun _ _ h => by cases h
noncomputable abbrev elR : Value → Option (DataW Unit × List MemPlace) := plainElem Tryd.prog 2
/-- Every key of a map of numbers is a number. -/
theorem own_keys {w : World} {b n : Nat} {D : DataW Unit} (h : w.ownsMap Tryd.prog 28 elR b n D) {kl : Lit} (hk : Maps.has D kl = true) : ∃ s, kl = .int .u64 s ∧ U64 s := by
  obtain ⟨es, clock, hb, F, hs, rfl⟩ := h
  obtain ⟨p, hp, hpk⟩ := List.any_eq_true.1 hk
  obtain ⟨x, hx, rfl⟩ := List.mem_map.1 (mem_sorted.1 hp)
  obtain ⟨y, hy⟩ := F.reads x hx
  have hkey := WideElems.rd_key hy
  have e1 := WideAt.sameKey_eq hpk
  rw [WideElems.rg_of hy] at e1
  obtain ⟨s, h1, h2, h3⟩ := keyOf_int_inv Tryd.underlying28 hkey
  exact ⟨s, e1.symm.trans h2, h3⟩
theorem own_size0 {w : World} {b n : Nat} {D : DataW Unit} {m : Fm} (h : w.ownsMap Tryd.prog 28 elR b n D) (hm : Rd D m) : Maps.size D = 0 ↔ ∀ s, m s = none := by
  constructor
  · intro h0 s
    cases hs : m s with
    | none => rfl
    | some c =>
      have h1 := hm.has s (hm.dom s c hs).1
      rw [hs] at h1
      obtain ⟨es, rfl⟩ := hm.isMap
      have : es = [] := List.length_eq_zero_iff.1 h0
      subst this
      cases h1
  · intro h0
    obtain ⟨es, rfl⟩ := hm.isMap
    cases es with
    | nil => rfl
    | cons p r =>
      have hp : WideAt.IsKeyLit p.1 := by
        obtain ⟨es', e, -, hk⟩ := h.entries law28
        injection e with e
        subst e
        exact hk p (by simp)
      have hh : Maps.has (DataW.map (p :: r)) p.1 = true := List.any_eq_true.2 ⟨p, by simp, WideAt.sameKey_self hp⟩
      obtain ⟨s, e1, e2⟩ := own_keys h hh
      rw [e1, hm.has s e2, h0 s] at hh
      cases hh
/-- Block M is a map of at most K entries that is the function m. -/
structure Mp (w : World) (M K : Nat) (m : Fm) : Prop where
  ex : ∃ n D, n ≤ K ∧ w.ownsMap Tryd.prog 28 elR M n D ∧ Rd D m
section
variable {w w1 : World} {M K : Nat} {m : Fm}
theorem Mp.blk (h : Mp w M K m) : ∃ es c, w.heap[M]? = some (.map es c) := by
  obtain ⟨n, D, _, ⟨es, c, hb, _⟩, _⟩ := h.ex
  exact ⟨es, c, hb⟩
theorem Mp.lt (h : Mp w M K m) : M < w.heap.size := by
  obtain ⟨es, c, hb⟩ := h.blk
  exact (Array.getElem?_eq_some_iff.1 hb).1
theorem Mp.move (h : Mp w M K m) (hm : w1.heap[M]? = w.heap[M]?) : Mp w1 M K m := by
  obtain ⟨n, D, hn, ⟨es, c, hb, r⟩, hd⟩ := h.ex
  exact ⟨n, D, hn, ⟨es, c, hm.trans hb, r⟩, hd⟩
theorem Mp.mono (h : Mp w M K m) {K' : Nat} (hk : K ≤ K') : Mp w M K' m := by
  obtain ⟨n, D, hn, r⟩ := h.ex
  exact ⟨n, D, by omega, r⟩
theorem Mp.congr (h : Mp w M K m) {m' : Fm} (e : ∀ s, m' s = m s) : Mp w M K m' := by
  rw [show m' = m from funext e]
  exact h
theorem Mp.fr {F : Nat → Prop} (h : Mp w M K m) (hf : Fr F w w1) (hb : ¬ F M) : Mp w1 M K m := h.move (hf.block M h.lt hb)
theorem Mp.dom (h : Mp w M K m) {s c : Int} (hs : m s = some c) : U64 s ∧ I64 c := by
  obtain ⟨n, D, hn, ho, hd⟩ := h.ex
  exact hd.dom s c hs
theorem Mp.made (w : World) : Mp (w.alloc (.map #[] 0)) w.heap.size 0 (fun _ => none) := ⟨0, _, Nat.le_refl _, World.ownsMap_made w _ _ _, Rd.empty⟩
end
section
variable {w : World} {ops : Array Oper} {rest : List Oper} {o : Oper} {a : Act} {Q : Exit → Act → World → Prop} {M K : Nat} {m : Fm}
theorem zero2 (w : World) : (zeroValue 2).run Tryd.prog w = .ok (.int .i64 0) w := by
  kernel_rfl
/-- 'v, ok := m[k]'. -/
theorem wpList_mp_lookup (hg : o.guard = none) (mo x : Operand) (hop : o.op = Op.lookup 65 mo x true) (hm : a.eval mo = .map (some M)) (h : Mp w M K m) {s : Int} (hs : U64 s) (hx : a.eval x = .int .u64 s)
    (hK : ∀ c : Int, (∀ e, m s = some e → c = e) → wpList Tryd.prog ops Q rest (a.put o.dst (.tuple #[.int .i64 c, .bool (m s).isSome])) w) : wpList Tryd.prog ops Q (o :: rest) a w := by
  obtain ⟨n, D, hn, ho, hd⟩ := h.ex
  refine wpList_lookup_own_ok_int w hg mo x 65 hop 28 2 .i64 law28 Tryd.underlying65 Tryd.underlying2 (zero2 w) M n D hm ho _ _ hx (keyOf_int_mk Tryd.underlying28 hs) ?_
  intro c hat hwc
  rw [hd.has s hs]
  refine hK c (fun e he => ?_)
  have h1 := hd.val s e he (.lit (.int .i64 0))
  rw [h1] at hat
  injection hat with hat
  injection hat with _ hat
  exact hat.symm
/-- 'm[k] = v'. -/
theorem wpList_mp_update (hg : o.guard = none) (mo x v : Operand) (hop : o.op = Op.mapUpdate 65 mo x v) (hm : a.eval mo = .map (some M)) (h : Mp w M K m) (hKm : K < 1000000) {s e : Int} (hs : U64 s) (he : I64 e) (hx : a.eval x = .int .u64 s) (hv : a.eval v = .int .i64 e)
    (hK : ∀ w', Mp w' M (K + 1) (upd m s e) → Fr (fun k => k = M) w w' → wpList Tryd.prog ops Q rest (a.put o.dst undef) w') : wpList Tryd.prog ops Q (o :: rest) a w := by
  obtain ⟨n, D, hn, ho, hd⟩ := h.ex
  refine wpList_mapUpdate_own w hg mo x v 65 hop 28 2 law28 Tryd.underlying65 elR M n D hm ho (by unfold maxLen; omega) _ _ _ hx hv (keyOf_int_mk Tryd.underlying28 hs) _ [] (plainElem_int Tryd.underlying2 he) ?_
  intro w' h1 h2
  exact hK w' ⟨n + 1, _, by omega, h1, hd.put hs he⟩ ((Fr.grown h2).mono (fun k hk => by injection hk with hk; exact hk.symm))
/-- 'delete(m, k)'. -/
theorem wpList_mp_delete (hg : o.guard = none) (mo x : Operand) (hop : o.op = Op.call { callee := Callee.builtin Builtin.delete, args := #[mo, x], argTypes := #[65, 28] }) (hm : a.eval mo = .map (some M)) (h : Mp w M K m) {s : Int} (hs : U64 s) (hx : a.eval x = .int .u64 s)
    (hK : ∀ w', Mp w' M K (del m s) → Fr (fun k => k = M) w w' → wpList Tryd.prog ops Q rest (a.put o.dst (.tuple #[])) w') : wpList Tryd.prog ops Q (o :: rest) a w := by
  obtain ⟨n, D, hn, ho, hd⟩ := h.ex
  refine wpList_delete_own w hg mo x 65 28 hop 2 law28 Tryd.underlying65 elR M n D hm ho _ _ hx (keyOf_int_mk Tryd.underlying28 hs) ?_
  intro w' h1 h2
  exact hK w' ⟨n, _, hn, h1, hd.del s⟩ ((Fr.grown h2.grown).mono (fun k hk => by injection hk with hk; exact hk.symm))
/-- 'len(m)'. -/
theorem wpList_mp_len (hg : o.guard = none) (mo : Operand) (hop : o.op = Op.call { callee := Callee.builtin Builtin.len, args := #[mo], argTypes := #[65] }) (hm : a.eval mo = .map (some M)) (h : Mp w M K m)
    (hK : ∀ n : Nat, (n = 0 ↔ ∀ s, m s = none) → n ≤ K → wpList Tryd.prog ops Q rest (a.put o.dst (.int .i64 n)) w) : wpList Tryd.prog ops Q (o :: rest) a w := by
  obtain ⟨n, D, hn, ho, hd⟩ := h.ex
  refine wpList_len_own w hg mo 65 hop 28 2 Tryd.underlying65 elR M n D hm ho ?_
  exact hK _ (own_size0 ho hd) (Nat.le_trans ho.size_le hn)
end
/-- A loop over the map in block M is under way, its iterator in block r: lf says of which keys the round is still to come. -/
structure Mr (w : World) (M r K : Nat) (m : Fm) (lf : Int → Bool) (cnt : Nat) : Prop where
  ex : ∃ n D left, n ≤ K ∧ w.ranges Tryd.prog 28 elR M r n D left cnt ∧ Rd D m ∧ (∀ s, U64 s → left (.int .u64 s) = lf s)
  dm : ∀ s, lf s = true → U64 s ∧ ∃ e, m s = some e
section
variable {w w1 : World} {M r K cnt : Nat} {m : Fm} {lf : Int → Bool}
theorem Mr.mp (h : Mr w M r K m lf cnt) : Mp w M K m := by
  obtain ⟨n, D, left, hn, hr, hd, hl⟩ := h.ex
  exact ⟨n, D, hn, hr.owns, hd⟩
theorem Mr.lt (h : Mr w M r K m lf cnt) : r < w.heap.size := by
  obtain ⟨n, D, left, hn, hr, hd, hl⟩ := h.ex
  exact hr.lt
theorem Mr.iter (h : Mr w M r K m lf cnt) : ∃ a b c d, w.heap[r]? = some (.mapIter a b c d) := by
  obtain ⟨n, D, left, hn, ⟨es, clock, since, seen, c0, _, _, _, _, hr, _⟩, hd, hl⟩ := h.ex
  exact ⟨_, _, _, _, hr⟩
theorem Mr.move (h : Mr w M r K m lf cnt) (h1 : w1.heap[M]? = w.heap[M]?) (h2 : w1.heap[r]? = w.heap[r]?) : Mr w1 M r K m lf cnt := by
  obtain ⟨n, D, left, hn, ⟨es, clock, since, seen, c0, hb, a1, a2, a3, hr, a4⟩, hd, hl⟩ := h.ex
  exact ⟨⟨n, D, left, hn, ⟨es, clock, since, seen, c0, h1.trans hb, a1, a2, a3, h2.trans hr, a4⟩, hd, hl⟩, h.dm⟩
theorem Mr.fr {F : Nat → Prop} (h : Mr w M r K m lf cnt) (hf : Fr F w w1) (hb : ¬ F M) (hr : ¬ F r) : Mr w1 M r K m lf cnt := h.move (hf.block M h.mp.lt hb) (hf.block r h.lt hr)
theorem Mr.left_eq (h : Mr w M r K m lf cnt) : w.rangeLeft M r = cnt := by
  obtain ⟨n, D, left, hn, hr, hd, hl⟩ := h.ex
  exact hr.left_eq
variable {ops : Array Oper} {rest : List Oper} {o : Oper} {a : Act} {Q : Exit → Act → World → Prop}
/-- 'range m'. -/
theorem wpList_mp_range (hg : o.guard = none) (mo : Operand) (hop : o.op = Op.range 65 mo) (hm : a.eval mo = .map (some M)) (h : Mp w M K m)
    (hK : ∀ w' cnt, Mr w' M w.heap.size K m (fun s => (m s).isSome) cnt → Same w w' → wpList Tryd.prog ops Q rest (a.put o.dst (.pointer (some ⟨w.heap.size, 0, none⟩))) w') : wpList Tryd.prog ops Q (o :: rest) a w := by
  obtain ⟨n, D, hn, ho, hd⟩ := h.ex
  refine wpList_range_own w hg mo 65 hop 28 2 law28 Tryd.underlying65 elR M n D hm ho ?_
  intro w' h1 h2 h3
  refine hK w' _ ⟨⟨n, D, _, hn, h1, hd, fun s hs => hd.has s hs⟩, fun s hs => ?_⟩ ((Fr.grown h2).mono (fun k hk => by cases hk))
  obtain ⟨e, he⟩ := Option.isSome_iff_exists.1 hs
  exact ⟨(hd.dom s e he).1, e, he⟩
/-- The step. -/
theorem wpList_mp_next (hg : o.guard = none) (it : Operand) (hop : o.op = Op.next it false) (hit : a.eval it = .pointer (some ⟨r, 0, none⟩)) (h : Mr w M r K m lf cnt)
    (hDone : (∀ s, lf s = false) → wpList Tryd.prog ops Q rest (a.put o.dst (.tuple #[.bool false])) w)
    (hMore : ∀ (x c : Int) (w' : World) (cnt' : Nat), U64 x → I64 c → lf x = true → m x = some c → Mr w' M r K m (fun z => lf z && !decide (z = x)) cnt' → cnt' < cnt → Fr (fun k => k = r) w w' →
      (Instr.entry (.pointer (some ⟨r, 0, none⟩))).run Tryd.prog w' = .ok (.tuple #[.int .u64 x, .int .i64 c]) w' → wpList Tryd.prog ops Q rest (a.put o.dst (.tuple #[.bool true, .int .u64 x, .int .i64 c])) w') : wpList Tryd.prog ops Q (o :: rest) a w := by
  obtain ⟨n, D, left, hn, hr, hd, hl⟩ := h.ex
  refine wpList_next_ranges_ii w hg it hop 28 2 .u64 .i64 law28 Tryd.underlying28 Tryd.underlying2 M r n D left cnt hit hr ?_ ?_
  · intro h0 hz
    refine hDone (fun s => ?_)
    cases hs : lf s with
    | false => rfl
    | true =>
      obtain ⟨h1, -⟩ := h.dm s hs
      rw [← hl s h1, hz] at hs
      cases hs
  · intro x c w' cnt' hwx hwc hlx hat hrg hlt hgr hsz hen
    have hlx' : lf x = true := by rw [← hl x hwx]; exact hlx
    obtain ⟨-, e, he⟩ := h.dm x hlx'
    have hc : m x = some c := by
      have h1 := (hat .nil).symm.trans (hd.val x e he .nil)
      injection h1 with h1
      injection h1 with _ h1
      rw [h1]
      exact he
    refine hMore x c w' cnt' hwx hwc hlx' hc ⟨⟨n, D, _, hn, hrg, hd, fun s hs => ?_⟩, fun s hs => h.dm s ?_⟩ hlt ((Fr.grown hgr).mono (fun k hk => by injection hk with hk; exact hk.symm)) hen
    · show (left (.int .u64 s) && !(Lit.int .u64 s).sameKey (.int .u64 x)) = _
      rw [hl s hs, same_key]
    · simp only [Bool.and_eq_true] at hs
      exact hs.1
/-- 'delete(m, k)' in the round, of a key whose round is no more to come. -/
theorem wpList_mr_delete (hg : o.guard = none) (mo x : Operand) (hop : o.op = Op.call { callee := Callee.builtin Builtin.delete, args := #[mo, x], argTypes := #[65, 28] }) (hm : a.eval mo = .map (some M)) (h : Mr w M r K m lf cnt) {s : Int} (hs : U64 s) (hx : a.eval x = .int .u64 s) (hls : lf s = false)
    (hK : ∀ w' cnt', Mr w' M r K (del m s) lf cnt' → cnt' ≤ cnt → Fr (fun k => k = M) w w' → wpList Tryd.prog ops Q rest (a.put o.dst (.tuple #[])) w') : wpList Tryd.prog ops Q (o :: rest) a w := by
  obtain ⟨n, D, left, hn, hr, hd, hl⟩ := h.ex
  refine wpList_delete_ranges w hg mo x 65 28 hop 2 law28 Tryd.underlying65 elR M r n D left cnt hm hr _ _ hx (keyOf_int_mk Tryd.underlying28 hs) ?_
  intro w' cnt' h1 h2 h3
  refine hK w' cnt' ⟨⟨n, _, _, hn, h1, hd.del s, fun z hz => ?_⟩, fun z hz => ?_⟩ h2 ((Fr.grown h3.grown).mono (fun k hk => by injection hk with hk; exact hk.symm))
  · show (left (.int .u64 z) && !(Lit.int .u64 z).sameKey (.int .u64 s)) = _
    rw [hl z hz, same_key]
    by_cases hzs : z = s
    · subst hzs
      rw [hls]
      rfl
    · simp [hzs]
  · obtain ⟨h4, e, he⟩ := h.dm z hz
    refine ⟨h4, e, ?_⟩
    have hzs : z ≠ s := by
      rintro rfl
      rw [hls] at hz
      cases hz
    simpa [Wh.del, hzs] using he
end
end Go.Proofs.YtlbpbbfhfgacaaaDoor.Wh
