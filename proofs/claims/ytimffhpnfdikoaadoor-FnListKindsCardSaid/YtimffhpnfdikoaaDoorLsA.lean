/- Maps of whatever keys and elements, told by a function; the laws of map operations in its words. -/
import Derived.Test.YtimffhpnfdikoaaDoorBt
import Derived.Test.YtimffhpnfdikoaaDoorPlWalk
import Derived.Test.YtimffhpnfdikoaaDoorChecked
import Derived.Maps.RangeWalk
import Derived.Lib.OthersKept
namespace Go.Proofs.YtimffhpnfdikoaaDoor.Ls
open Go.RowKit Go.Maps Go.Proofs.YtimffhpnfdikoaaDoor.Bs Go.Proofs.YtimffhpnfdikoaaDoorW.PrintWords Go.Proofs.YtimffhpnfdikoaaDoorW.PrintLast Go.Proofs.YtimffhpnfdikoaaDoorW.PrintMore
set_option linter.unusedVariables false
set_option linter.unusedSimpArgs false
/-- A map's type: how its keys and its elements are told. -/
structure KV (kt et mt : TypeId) (κ β : Type) where
  mkK : κ → Value
  litK : κ → Lit
  okK : κ → Prop
  mkV : β → Value
  okV : β → Prop
  R : Value → Option (DataW Unit × List MemPlace)
  enc : β → DataW Unit
  zv : β
  keyed : Keyed Tryd.prog kt
  under : Tryd.prog.underlying mt = some (.map kt et)
  key : ∀ x, okK x → keyOf Tryd.prog kt (mkK x) = some (litK x)
  keyInv : ∀ v kl, keyOf Tryd.prog kt v = some kl → ∃ x, okK x ∧ v = mkK x ∧ kl = litK x
  litInj : ∀ x y, litK x = litK y → x = y
  isK : ∀ x, WideAt.IsKeyLit (litK x)
  val : ∀ b, okV b → R (mkV b) = some (enc b, [])
  valInv : ∀ v y, R v = some y → ∃ b, okV b ∧ v = mkV b ∧ y = (enc b, [])
  encInj : ∀ b c, enc b = enc c → b = c
  zero : ∀ w, (zeroValue et).run Tryd.prog w = .ok (mkV zv) w
  okz : okV zv
section
variable {kt et mt : TypeId} {κ β : Type} (V : KV kt et mt κ β)
def upd [DecidableEq κ] (m : κ → Option β) (s : κ) (e : β) : κ → Option β := fun x => if x = s then some e else m x
def del [DecidableEq κ] (m : κ → Option β) (s : κ) : κ → Option β := fun x => if x = s then none else m x
theorem KV.ne {x s : κ} (h : x ≠ s) : V.litK x ≠ V.litK s := fun e => h (V.litInj _ _ e)
theorem KV.same [DecidableEq κ] (x s : κ) : (V.litK x).sameKey (V.litK s) = decide (x = s) := by
  by_cases h : x = s
  · subst h
    rw [WideAt.sameKey_self (V.isK x)]
    simp
  · rw [sameKey_ne (V.ne h)]
    simp [h]
/-- A reading that is the function m. -/
structure Rd (D : DataW Unit) (m : κ → Option β) : Prop where
  isMap : IsMap D
  has : ∀ s, V.okK s → Maps.has D (V.litK s) = (m s).isSome
  val : ∀ s c, m s = some c → ∀ z, D.atKey (V.litK s) z = V.enc c
  dom : ∀ s c, m s = some c → V.okK s ∧ V.okV c
variable {V} {D : DataW Unit} {m : κ → Option β}
theorem Rd.put [DecidableEq κ] (h : Rd V D m) {s : κ} {e : β} (hs : V.okK s) (he : V.okV e) : Rd V (D.put (V.litK s) (V.enc e)) (upd m s e) where
  isMap := h.isMap.put _ _
  has := fun x hx => by
    by_cases hxs : x = s
    · subst hxs
      rw [has_put_same h.isMap (V.isK x)]
      simp [upd]
    · rw [has_put_other (V.ne hxs), h.has x hx]
      simp [upd, hxs]
  val := fun x c hc z => by
    by_cases hxs : x = s
    · subst hxs
      rw [atKey_put_same h.isMap (V.isK x)]
      simp [upd] at hc
      rw [hc]
    · rw [atKey_put_other (V.ne hxs)]
      exact h.val x c (by simpa [upd, hxs] using hc) z
  dom := fun x c hc => by
    by_cases hxs : x = s
    · subst hxs
      simp [upd] at hc
      exact ⟨hs, hc ▸ he⟩
    · exact h.dom x c (by simpa [upd, hxs] using hc)
theorem Rd.del [DecidableEq κ] (h : Rd V D m) (s : κ) : Rd V (D.del (V.litK s)) (del m s) where
  isMap := h.isMap.del _
  has := fun x hx => by
    by_cases hxs : x = s
    · subst hxs
      rw [has_del_same]
      simp [Ls.del]
    · rw [has_del_other (V.ne hxs), h.has x hx]
      simp [Ls.del, hxs]
  val := fun x c hc z => by
    by_cases hxs : x = s
    · subst hxs
      simp [Ls.del] at hc
    · rw [atKey_del_other (V.ne hxs)]
      exact h.val x c (by simpa [Ls.del, hxs] using hc) z
  dom := fun x c hc => by
    by_cases hxs : x = s
    · subst hxs
      simp [Ls.del] at hc
    · exact h.dom x c (by simpa [Ls.del, hxs] using hc)
theorem Rd.empty : Rd V (.map []) (fun _ => none) where
  isMap := isMap_empty
  has := fun _ _ => rfl
  val := fun _ _ h => by cases h
  dom := fun _ _ h => by cases h
theorem own_keys {w : World} {b n : Nat} (h : w.ownsMap Tryd.prog kt V.R b n D) {kl : Lit} (hk : Maps.has D kl = true) : ∃ s, kl = V.litK s ∧ V.okK s := by
  obtain ⟨es, clock, hb, F, hs, rfl⟩ := h
  obtain ⟨p, hp, hpk⟩ := List.any_eq_true.1 hk
  obtain ⟨x, hx, rfl⟩ := List.mem_map.1 (mem_sorted.1 hp)
  obtain ⟨y, hy⟩ := F.reads x hx
  have hkey := WideElems.rd_key hy
  have e1 := WideAt.sameKey_eq hpk
  rw [WideElems.rg_of hy] at e1
  obtain ⟨s, h1, h2, h3⟩ := V.keyInv _ _ hkey
  exact ⟨s, e1.symm.trans h3, h1⟩
theorem own_size0 {w : World} {b n : Nat} (h : w.ownsMap Tryd.prog kt V.R b n D) (hm : Rd V D m) : Maps.size D = 0 ↔ ∀ s, m s = none := by
  constructor
  · intro h0 s
    cases hs : m s with
    | none => rfl
    | some c =>
      have h1 := hm.has s (hm.dom s c hs).1
      rw [hs] at h1
      obtain ⟨es, rfl⟩ := hm.isMap
      have : es = [] := List.length_eq_zero_iff.1 h0
      subst this
      cases h1
  · intro h0
    obtain ⟨es, rfl⟩ := hm.isMap
    cases es with
    | nil => rfl
    | cons p r =>
      have hp : WideAt.IsKeyLit p.1 := by
        obtain ⟨es', e, -, hk⟩ := h.entries V.keyed
        injection e with e
        subst e
        exact hk p (by simp)
      have hh : Maps.has (DataW.map (p :: r)) p.1 = true := List.any_eq_true.2 ⟨p, by simp, WideAt.sameKey_self hp⟩
      obtain ⟨s, e1, e2⟩ := own_keys h hh
      rw [e1, hm.has s e2, h0 s] at hh
      cases hh
variable (V)
/-- Block M is a map of at most K entries that is the function m. -/
structure Mp (w : World) (M K : Nat) (m : κ → Option β) : Prop where
  ex : ∃ n D, n ≤ K ∧ w.ownsMap Tryd.prog kt V.R M n D ∧ Rd V D m
variable {V}
variable {w w1 : World} {M K : Nat}
theorem Mp.blk (h : Mp V w M K m) : ∃ es c, w.heap[M]? = some (.map es c) := by
  obtain ⟨n, D, _, ⟨es, c, hb, _⟩, _⟩ := h.ex
  exact ⟨es, c, hb⟩
theorem Mp.lt (h : Mp V w M K m) : M < w.heap.size := by
  obtain ⟨es, c, hb⟩ := h.blk
  exact (Array.getElem?_eq_some_iff.1 hb).1
theorem Mp.move (h : Mp V w M K m) (hm : w1.heap[M]? = w.heap[M]?) : Mp V w1 M K m := by
  obtain ⟨n, D, hn, ⟨es, c, hb, r⟩, hd⟩ := h.ex
  exact ⟨n, D, hn, ⟨es, c, hm.trans hb, r⟩, hd⟩
theorem Mp.mono (h : Mp V w M K m) {K' : Nat} (hk : K ≤ K') : Mp V w M K' m := by
  obtain ⟨n, D, hn, r⟩ := h.ex
  exact ⟨n, D, by omega, r⟩
theorem Mp.congr (h : Mp V w M K m) {m' : κ → Option β} (e : ∀ s, m' s = m s) : Mp V w M K m' := by
  rw [show m' = m from funext e]
  exact h
theorem Mp.fr {F : Nat → Prop} (h : Mp V w M K m) (hf : Fr F w w1) (hb : ¬ F M) : Mp V w1 M K m := h.move (hf.block M h.lt hb)
theorem Mp.dom (h : Mp V w M K m) {s : κ} {c : β} (hs : m s = some c) : V.okK s ∧ V.okV c := by
  obtain ⟨n, D, hn, ho, hd⟩ := h.ex
  exact hd.dom s c hs
theorem Mp.made (V : KV kt et mt κ β) (w : World) : Mp V (w.alloc (.map #[] 0)) w.heap.size 0 (fun _ => none) := ⟨0, _, Nat.le_refl _, World.ownsMap_made w _ _ _, Rd.empty⟩
variable {ops : Array Oper} {rest : List Oper} {o : Oper} {a : Act} {Q : Exit → Act → World → Prop}
theorem look_val (hd : Rd V D m) {s : κ} {v : Value} {ps : List MemPlace} (hv : V.R v = some (D.atKey (V.litK s) (V.enc V.zv), ps)) {c : β} (hs : m s = some c) : v = V.mkV c := by
  obtain ⟨b, h1, h2, h3⟩ := V.valInv _ _ hv
  injection h3 with h3 _
  rw [hd.val s c hs] at h3
  rw [h2, V.encInj _ _ h3]
theorem look_none (hd : Rd V D m) {s : κ} (hk : V.okK s) {v : Value} {ps : List MemPlace} (hv : V.R v = some (D.atKey (V.litK s) (V.enc V.zv), ps)) (hs : m s = none) : v = V.mkV V.zv := by
  have hh := hd.has s hk
  rw [hs] at hh
  rw [atKey_of_not_has hh] at hv
  obtain ⟨b, h1, h2, h3⟩ := V.valInv _ _ hv
  injection h3 with h3 _
  rw [h2, ← V.encInj _ _ h3]
/-- 'v, ok := m[k]'. -/
theorem wpList_mp_lookok (hg : o.guard = none) (mo x : Operand) (hop : o.op = Op.lookup mt mo x true) (hm : a.eval mo = .map (some M)) (h : Mp V w M K m) {s : κ} (hs : V.okK s) (hx : a.eval x = V.mkK s)
    (hK : wpList Tryd.prog ops Q rest (a.put o.dst (.tuple #[V.mkV ((m s).getD V.zv), .bool (m s).isSome])) w) : wpList Tryd.prog ops Q (o :: rest) a w := by
  obtain ⟨n, D, hn, ho, hd⟩ := h.ex
  refine wpList_lookup_own_ok w hg mo x mt hop kt et V.keyed V.under V.R (V.zero w) (V.enc V.zv) [] (V.val _ V.okz) M n D hm ho _ _ hx (V.key s hs) ?_
  intro v ps hv
  rw [hd.has s hs]
  cases hms : m s with
  | some c =>
    rw [look_val hd hv hms]
    rw [hms] at hK
    exact hK
  | none =>
    rw [look_none hd hs hv hms]
    rw [hms] at hK
    exact hK
/-- 'm[k]'. -/
theorem wpList_mp_look (hg : o.guard = none) (mo x : Operand) (hop : o.op = Op.lookup mt mo x false) (hm : a.eval mo = .map (some M)) (h : Mp V w M K m) {s : κ} (hs : V.okK s) (hx : a.eval x = V.mkK s)
    (hK : wpList Tryd.prog ops Q rest (a.put o.dst (V.mkV ((m s).getD V.zv))) w) : wpList Tryd.prog ops Q (o :: rest) a w := by
  obtain ⟨n, D, hn, ho, hd⟩ := h.ex
  refine wpList_plain hg fun K' hK' => ?_
  obtain ⟨v, ps, hrun, hv⟩ := ho.lookup V.keyed V.under (V.zero w) (V.val _ V.okz) (V.key s hs)
  unfold Oper.wp
  simp [execOp, hop, hm, hx, hrun, Result.andThen]
  refine hK' _ _ ?_
  cases hms : m s with
  | some c =>
    rw [look_val hd hv hms]
    rw [hms] at hK
    exact hK
  | none =>
    rw [look_none hd hs hv hms]
    rw [hms] at hK
    exact hK
/-- 'm[k] = v'. -/
theorem wpList_mp_update [DecidableEq κ] (hg : o.guard = none) (mo x v : Operand) (hop : o.op = Op.mapUpdate mt mo x v) (hm : a.eval mo = .map (some M)) (h : Mp V w M K m) (hKm : K < 1000000) {s : κ} {e : β} (hs : V.okK s) (he : V.okV e) (hx : a.eval x = V.mkK s) (hv : a.eval v = V.mkV e)
    (hK : ∀ w', Mp V w' M (K + 1) (upd m s e) → Fr (fun k => k = M) w w' → wpList Tryd.prog ops Q rest (a.put o.dst undef) w') : wpList Tryd.prog ops Q (o :: rest) a w := by
  obtain ⟨n, D, hn, ho, hd⟩ := h.ex
  refine wpList_mapUpdate_own w hg mo x v mt hop kt et V.keyed V.under V.R M n D hm ho (by unfold maxLen; omega) _ _ _ hx hv (V.key s hs) _ [] (V.val e he) ?_
  intro w' h1 h2
  exact hK w' ⟨n + 1, _, by omega, h1, hd.put hs he⟩ ((Fr.grown h2).mono (fun k hk => by injection hk with hk; exact hk.symm))
/-- 'delete(m, k)'. -/
theorem wpList_mp_delete [DecidableEq κ] (hg : o.guard = none) (mo x : Operand) (hop : o.op = Op.call { callee := Callee.builtin Builtin.delete, args := #[mo, x], argTypes := #[mt, kt] }) (hm : a.eval mo = .map (some M)) (h : Mp V w M K m) {s : κ} (hs : V.okK s) (hx : a.eval x = V.mkK s)
    (hK : ∀ w', Mp V w' M K (del m s) → Fr (fun k => k = M) w w' → wpList Tryd.prog ops Q rest (a.put o.dst (.tuple #[])) w') : wpList Tryd.prog ops Q (o :: rest) a w := by
  obtain ⟨n, D, hn, ho, hd⟩ := h.ex
  refine wpList_delete_own w hg mo x mt kt hop et V.keyed V.under V.R M n D hm ho _ _ hx (V.key s hs) ?_
  intro w' h1 h2
  exact hK w' ⟨n, _, hn, h1, hd.del s⟩ ((Fr.grown h2.grown).mono (fun k hk => by injection hk with hk; exact hk.symm))
/-- 'len(m)'. -/
theorem wpList_mp_len (hg : o.guard = none) (mo : Operand) (hop : o.op = Op.call { callee := Callee.builtin Builtin.len, args := #[mo], argTypes := #[mt] }) (hm : a.eval mo = .map (some M)) (h : Mp V w M K m)
    (hK : ∀ n : Nat, (n = 0 ↔ ∀ s, m s = none) → n ≤ K → wpList Tryd.prog ops Q rest (a.put o.dst (.int .i64 n)) w) : wpList Tryd.prog ops Q (o :: rest) a w := by
  obtain ⟨n, D, hn, ho, hd⟩ := h.ex
  refine wpList_len_own w hg mo mt hop kt et V.under V.R M n D hm ho ?_
  exact hK _ (own_size0 ho hd) (Nat.le_trans ho.size_le hn)
end
end Go.Proofs.YtimffhpnfdikoaaDoor.Ls
