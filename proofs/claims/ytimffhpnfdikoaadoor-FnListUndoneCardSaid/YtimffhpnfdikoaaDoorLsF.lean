/- Maps of whatever keys and elements, told by a function; the laws of map operations in its words. The two maps of a list of interest: nodes by tokens, subjects by values; loops over a map. Loops over a map, told by a function. A list of interest in memory: levels and nodes by the paths of tokens that lead to them; what one step of a put or a take makes of it. A list of interest in memory: its head and its lock, and the whole. A list of interest in memory: a node is pruned; the steps of puts and takes on the whole. -/
import Derived.Test.YtimffhpnfdikoaaDoorBt
import Derived.Test.YtimffhpnfdikoaaDoorPlWalk
import Derived.Test.YtimffhpnfdikoaaDoorChecked
import Derived.Maps.RangeWalk
import Derived.Lib.OthersKept
import Derived.StringKeys
import Derived.Carry
import Derived.Test.YtimffhpnfdikoaaDoorLocks
import Derived.Conc.RwLoneW
namespace Go.Proofs.YtimffhpnfdikoaaDoor.Ls
open Go.RowKit Go.Maps Go.Proofs.YtimffhpnfdikoaaDoor.Bs Go.Proofs.YtimffhpnfdikoaaDoorW.PrintWords Go.Proofs.YtimffhpnfdikoaaDoorW.PrintLast Go.Proofs.YtimffhpnfdikoaaDoorW.PrintMore
set_option linter.unusedVariables false
set_option linter.unusedSimpArgs false
/-- A map's type: how its keys and its elements are told. -/
structure KV (kt et mt : TypeId) (κ β : Type) where
  mkK : κ → Value
  litK : κ → Lit
  okK : κ → Prop
  mkV : β → Value
  okV : β → Prop
  R : Value → Option (DataW Unit × List MemPlace)
  enc : β → DataW Unit
  zv : β
  keyed : Keyed Tryd.prog kt
  under : Tryd.prog.underlying mt = some (.map kt et)
  key : ∀ x, okK x → keyOf Tryd.prog kt (mkK x) = some (litK x)
  keyInv : ∀ v kl, keyOf Tryd.prog kt v = some kl → ∃ x, okK x ∧ v = mkK x ∧ kl = litK x
  litInj : ∀ x y, litK x = litK y → x = y
  isK : ∀ x, WideAt.IsKeyLit (litK x)
  val : ∀ b, okV b → R (mkV b) = some (enc b, [])
  valInv : ∀ v y, R v = some y → ∃ b, okV b ∧ v = mkV b ∧ y = (enc b, [])
  encInj : ∀ b c, enc b = enc c → b = c
  zero : ∀ w, (zeroValue et).run Tryd.prog w = .ok (mkV zv) w
  okz : okV zv
section
variable {kt et mt : TypeId} {κ β : Type} (V : KV kt et mt κ β)
def upd [DecidableEq κ] (m : κ → Option β) (s : κ) (e : β) : κ → Option β := fun x => if x = s then some e else m x
def del [DecidableEq κ] (m : κ → Option β) (s : κ) : κ → Option β := fun x => if x = s then none else m x
theorem KV.ne {x s : κ} (h : x ≠ s) : V.litK x ≠ V.litK s := fun e => h (V.litInj _ _ e)
theorem KV.same [DecidableEq κ] (x s : κ) : (V.litK x).sameKey (V.litK s) = decide (x = s) := by
  by_cases h : x = s
  · subst h
    rw [WideAt.sameKey_self (V.isK x)]
    simp
  · rw [sameKey_ne (V.ne h)]
    simp [h]
/-- A reading that is the function m. -/
structure Rd (D : DataW Unit) (m : κ → Option β) : Prop where
  isMap : IsMap D
  has : ∀ s, V.okK s → Maps.has D (V.litK s) = (m s).isSome
  val : ∀ s c, m s = some c → ∀ z, D.atKey (V.litK s) z = V.enc c
  dom : ∀ s c, m s = some c → V.okK s ∧ V.okV c
variable {V} {D : DataW Unit} {m : κ → Option β}
theorem Rd.put [DecidableEq κ] (h : Rd V D m) {s : κ} {e : β} (hs : V.okK s) (he : V.okV e) : Rd V (D.put (V.litK s) (V.enc e)) (upd m s e) where
  isMap := h.isMap.put _ _
  has := fun x hx => by
    by_cases hxs : x = s
    · subst hxs
      rw [has_put_same h.isMap (V.isK x)]
      simp [upd]
    · rw [has_put_other (V.ne hxs), h.has x hx]
      simp [upd, hxs]
  val := fun x c hc z => by
    by_cases hxs : x = s
    · subst hxs
      rw [atKey_put_same h.isMap (V.isK x)]
      simp [upd] at hc
      rw [hc]
    · rw [atKey_put_other (V.ne hxs)]
      exact h.val x c (by simpa [upd, hxs] using hc) z
  dom := fun x c hc => by
    by_cases hxs : x = s
    · subst hxs
      simp [upd] at hc
      exact ⟨hs, hc ▸ he⟩
    · exact h.dom x c (by simpa [upd, hxs] using hc)
theorem Rd.del [DecidableEq κ] (h : Rd V D m) (s : κ) : Rd V (D.del (V.litK s)) (del m s) where
  isMap := h.isMap.del _
  has := fun x hx => by
    by_cases hxs : x = s
    · subst hxs
      rw [has_del_same]
      simp [Ls.del]
    · rw [has_del_other (V.ne hxs), h.has x hx]
      simp [Ls.del, hxs]
  val := fun x c hc z => by
    by_cases hxs : x = s
    · subst hxs
      simp [Ls.del] at hc
    · rw [atKey_del_other (V.ne hxs)]
      exact h.val x c (by simpa [Ls.del, hxs] using hc) z
  dom := fun x c hc => by
    by_cases hxs : x = s
    · subst hxs
      simp [Ls.del] at hc
    · exact h.dom x c (by simpa [Ls.del, hxs] using hc)
theorem Rd.empty : Rd V (.map []) (fun _ => none) where
  isMap := isMap_empty
  has := fun _ _ => rfl
  val := fun _ _ h => by cases h
  dom := fun _ _ h => by cases h
theorem own_keys {w : World} {b n : Nat} (h : w.ownsMap Tryd.prog kt V.R b n D) {kl : Lit} (hk : Maps.has D kl = true) : ∃ s, kl = V.litK s ∧ V.okK s := by
  obtain ⟨es, clock, hb, F, hs, rfl⟩ := h
  obtain ⟨p, hp, hpk⟩ := List.any_eq_true.1 hk
  obtain ⟨x, hx, rfl⟩ := List.mem_map.1 (mem_sorted.1 hp)
  obtain ⟨y, hy⟩ := F.reads x hx
  have hkey := WideElems.rd_key hy
  have e1 := WideAt.sameKey_eq hpk
  rw [WideElems.rg_of hy] at e1
  obtain ⟨s, h1, h2, h3⟩ := V.keyInv _ _ hkey
  exact ⟨s, e1.symm.trans h3, h1⟩
theorem own_size0 {w : World} {b n : Nat} (h : w.ownsMap Tryd.prog kt V.R b n D) (hm : Rd V D m) : Maps.size D = 0 ↔ ∀ s, m s = none := by
  constructor
  · intro h0 s
    cases hs : m s with
    | none => rfl
    | some c =>
      have h1 := hm.has s (hm.dom s c hs).1
      rw [hs] at h1
      obtain ⟨es, rfl⟩ := hm.isMap
      have : es = [] := List.length_eq_zero_iff.1 h0
      subst this
      cases h1
  · intro h0
    obtain ⟨es, rfl⟩ := hm.isMap
    cases es with
    | nil => rfl
    | cons p r =>
      have hp : WideAt.IsKeyLit p.1 := by
        obtain ⟨es', e, -, hk⟩ := h.entries V.keyed
        injection e with e
        subst e
        exact hk p (by simp)
      have hh : Maps.has (DataW.map (p :: r)) p.1 = true := List.any_eq_true.2 ⟨p, by simp, WideAt.sameKey_self hp⟩
      obtain ⟨s, e1, e2⟩ := own_keys h hh
      rw [e1, hm.has s e2, h0 s] at hh
      cases hh
variable (V)
/-- Block M is a map of at most K entries that is the function m. -/
structure Mp (w : World) (M K : Nat) (m : κ → Option β) : Prop where
  ex : ∃ n D, n ≤ K ∧ w.ownsMap Tryd.prog kt V.R M n D ∧ Rd V D m
variable {V}
variable {w w1 : World} {M K : Nat}
theorem Mp.blk (h : Mp V w M K m) : ∃ es c, w.heap[M]? = some (.map es c) := by
  obtain ⟨n, D, _, ⟨es, c, hb, _⟩, _⟩ := h.ex
  exact ⟨es, c, hb⟩
theorem Mp.lt (h : Mp V w M K m) : M < w.heap.size := by
  obtain ⟨es, c, hb⟩ := h.blk
  exact (Array.getElem?_eq_some_iff.1 hb).1
theorem Mp.move (h : Mp V w M K m) (hm : w1.heap[M]? = w.heap[M]?) : Mp V w1 M K m := by
  obtain ⟨n, D, hn, ⟨es, c, hb, r⟩, hd⟩ := h.ex
  exact ⟨n, D, hn, ⟨es, c, hm.trans hb, r⟩, hd⟩
theorem Mp.mono (h : Mp V w M K m) {K' : Nat} (hk : K ≤ K') : Mp V w M K' m := by
  obtain ⟨n, D, hn, r⟩ := h.ex
  exact ⟨n, D, by omega, r⟩
theorem Mp.congr (h : Mp V w M K m) {m' : κ → Option β} (e : ∀ s, m' s = m s) : Mp V w M K m' := by
  rw [show m' = m from funext e]
  exact h
theorem Mp.fr {F : Nat → Prop} (h : Mp V w M K m) (hf : Fr F w w1) (hb : ¬ F M) : Mp V w1 M K m := h.move (hf.block M h.lt hb)
theorem Mp.dom (h : Mp V w M K m) {s : κ} {c : β} (hs : m s = some c) : V.okK s ∧ V.okV c := by
  obtain ⟨n, D, hn, ho, hd⟩ := h.ex
  exact hd.dom s c hs
theorem Mp.made (V : KV kt et mt κ β) (w : World) : Mp V (w.alloc (.map #[] 0)) w.heap.size 0 (fun _ => none) := ⟨0, _, Nat.le_refl _, World.ownsMap_made w _ _ _, Rd.empty⟩
variable {ops : Array Oper} {rest : List Oper} {o : Oper} {a : Act} {Q : Exit → Act → World → Prop}
theorem look_val (hd : Rd V D m) {s : κ} {v : Value} {ps : List MemPlace} (hv : V.R v = some (D.atKey (V.litK s) (V.enc V.zv), ps)) {c : β} (hs : m s = some c) : v = V.mkV c := by
  obtain ⟨b, h1, h2, h3⟩ := V.valInv _ _ hv
  injection h3 with h3 _
  rw [hd.val s c hs] at h3
  rw [h2, V.encInj _ _ h3]
theorem look_none (hd : Rd V D m) {s : κ} (hk : V.okK s) {v : Value} {ps : List MemPlace} (hv : V.R v = some (D.atKey (V.litK s) (V.enc V.zv), ps)) (hs : m s = none) : v = V.mkV V.zv := by
  have hh := hd.has s hk
  rw [hs] at hh
  rw [atKey_of_not_has hh] at hv
  obtain ⟨b, h1, h2, h3⟩ := V.valInv _ _ hv
  injection h3 with h3 _
  rw [h2, ← V.encInj _ _ h3]
/-- 'v, ok := m[k]'. -/
theorem wpList_mp_lookok (hg : o.guard = none) (mo x : Operand) (hop : o.op = Op.lookup mt mo x true) (hm : a.eval mo = .map (some M)) (h : Mp V w M K m) {s : κ} (hs : V.okK s) (hx : a.eval x = V.mkK s)
    (hK : wpList Tryd.prog ops Q rest (a.put o.dst (.tuple #[V.mkV ((m s).getD V.zv), .bool (m s).isSome])) w) : wpList Tryd.prog ops Q (o :: rest) a w := by
  obtain ⟨n, D, hn, ho, hd⟩ := h.ex
  refine wpList_lookup_own_ok w hg mo x mt hop kt et V.keyed V.under V.R (V.zero w) (V.enc V.zv) [] (V.val _ V.okz) M n D hm ho _ _ hx (V.key s hs) ?_
  intro v ps hv
  rw [hd.has s hs]
  cases hms : m s with
  | some c =>
    rw [look_val hd hv hms]
    rw [hms] at hK
    exact hK
  | none =>
    rw [look_none hd hs hv hms]
    rw [hms] at hK
    exact hK
/-- 'm[k]'. -/
theorem wpList_mp_look (hg : o.guard = none) (mo x : Operand) (hop : o.op = Op.lookup mt mo x false) (hm : a.eval mo = .map (some M)) (h : Mp V w M K m) {s : κ} (hs : V.okK s) (hx : a.eval x = V.mkK s)
    (hK : wpList Tryd.prog ops Q rest (a.put o.dst (V.mkV ((m s).getD V.zv))) w) : wpList Tryd.prog ops Q (o :: rest) a w := by
  obtain ⟨n, D, hn, ho, hd⟩ := h.ex
  refine wpList_plain hg fun K' hK' => ?_
  obtain ⟨v, ps, hrun, hv⟩ := ho.lookup V.keyed V.under (V.zero w) (V.val _ V.okz) (V.key s hs)
  unfold Oper.wp
  simp [execOp, hop, hm, hx, hrun, Result.andThen]
  refine hK' _ _ ?_
  cases hms : m s with
  | some c =>
    rw [look_val hd hv hms]
    rw [hms] at hK
    exact hK
  | none =>
    rw [look_none hd hs hv hms]
    rw [hms] at hK
    exact hK
/-- 'm[k] = v'. -/
theorem wpList_mp_update [DecidableEq κ] (hg : o.guard = none) (mo x v : Operand) (hop : o.op = Op.mapUpdate mt mo x v) (hm : a.eval mo = .map (some M)) (h : Mp V w M K m) (hKm : K < 1000000) {s : κ} {e : β} (hs : V.okK s) (he : V.okV e) (hx : a.eval x = V.mkK s) (hv : a.eval v = V.mkV e)
    (hK : ∀ w', Mp V w' M (K + 1) (upd m s e) → Fr (fun k => k = M) w w' → wpList Tryd.prog ops Q rest (a.put o.dst undef) w') : wpList Tryd.prog ops Q (o :: rest) a w := by
  obtain ⟨n, D, hn, ho, hd⟩ := h.ex
  refine wpList_mapUpdate_own w hg mo x v mt hop kt et V.keyed V.under V.R M n D hm ho (by unfold maxLen; omega) _ _ _ hx hv (V.key s hs) _ [] (V.val e he) ?_
  intro w' h1 h2
  exact hK w' ⟨n + 1, _, by omega, h1, hd.put hs he⟩ ((Fr.grown h2).mono (fun k hk => by injection hk with hk; exact hk.symm))
/-- 'delete(m, k)'. -/
theorem wpList_mp_delete [DecidableEq κ] (hg : o.guard = none) (mo x : Operand) (hop : o.op = Op.call { callee := Callee.builtin Builtin.delete, args := #[mo, x], argTypes := #[mt, kt] }) (hm : a.eval mo = .map (some M)) (h : Mp V w M K m) {s : κ} (hs : V.okK s) (hx : a.eval x = V.mkK s)
    (hK : ∀ w', Mp V w' M K (del m s) → Fr (fun k => k = M) w w' → wpList Tryd.prog ops Q rest (a.put o.dst (.tuple #[])) w') : wpList Tryd.prog ops Q (o :: rest) a w := by
  obtain ⟨n, D, hn, ho, hd⟩ := h.ex
  refine wpList_delete_own w hg mo x mt kt hop et V.keyed V.under V.R M n D hm ho _ _ hx (V.key s hs) ?_
  intro w' h1 h2
  exact hK w' ⟨n, _, hn, h1, hd.del s⟩ ((Fr.grown h2.grown).mono (fun k hk => by injection hk with hk; exact hk.symm))
/-- 'len(m)'. -/
theorem wpList_mp_len (hg : o.guard = none) (mo : Operand) (hop : o.op = Op.call { callee := Callee.builtin Builtin.len, args := #[mo], argTypes := #[mt] }) (hm : a.eval mo = .map (some M)) (h : Mp V w M K m)
    (hK : ∀ n : Nat, (n = 0 ↔ ∀ s, m s = none) → n ≤ K → wpList Tryd.prog ops Q rest (a.put o.dst (.int .i64 n)) w) : wpList Tryd.prog ops Q (o :: rest) a w := by
  obtain ⟨n, D, hn, ho, hd⟩ := h.ex
  refine wpList_len_own w hg mo mt hop kt et V.under V.R M n D hm ho ?_
  exact hK _ (own_size0 ho hd) (Nat.le_trans ho.size_le hn)
end
end Go.Proofs.YtimffhpnfdikoaaDoor.Ls
namespace Go.Proofs.YtimffhpnfdikoaaDoor.Ls
open Go.RowKit Go.Maps Go.Proofs.YtimffhpnfdikoaaDoor.Bs Go.Proofs.YtimffhpnfdikoaaDoorW.PrintWords Go.Proofs.YtimffhpnfdikoaaDoorW.PrintLast Go.Proofs.YtimffhpnfdikoaaDoorW.PrintMore
set_option linter.unusedVariables false
set_option linter.unusedSimpArgs false
/-! ### subjects by values -/
theorem i64_keyInv (v : Value) (kl : Lit) (h : keyOf Tryd.prog 3 v = some kl) : ∃ x : Int, (Lit.int .i64 x).wf = true ∧ v = .int .i64 x ∧ kl = .int .i64 x := by
  obtain ⟨x, h1, h2, h3⟩ := keyOf_int_inv Tryd.underlying3 h
  exact ⟨x, h3, h1, h2⟩
noncomputable def strR : Value → Option (DataW Unit × List MemPlace) := plainElem Tryd.prog 9
theorem strR_inv (v : Value) (y : DataW Unit × List MemPlace) (h : strR v = some y) : ∃ b : ByteArray, b.size ≤ maxLen ∧ v = .string b ∧ y = (.lit (.string b.data.toList), []) := by
  have hu : Tryd.prog.underlying 9 = some .string := Tryd.underlying9
  unfold strR plainElem at h
  simp only [hu] at h
  cases v <;> simp at h
  obtain ⟨h1, h2⟩ := h
  exact ⟨_, h1, rfl, h2.symm⟩
noncomputable def VS : KV 3 9 93 Int ByteArray where
  mkK := fun x => .int .i64 x
  litK := fun x => .int .i64 x
  okK := fun x => (Lit.int .i64 x).wf = true
  mkV := fun b => .string b
  okV := fun b => b.size ≤ maxLen
  R := strR
  enc := fun b => .lit (.string b.data.toList)
  zv := ByteArray.empty
  keyed := int_keyed Tryd.underlying3
  under := Tryd.underlying93
  key := fun x hx => keyOf_int_mk Tryd.underlying3 hx
  keyInv := i64_keyInv
  litInj := fun x y h => by injection h
  isK := fun x => trivial
  val := fun b hb => plainElem_string Tryd.underlying9 hb
  valInv := strR_inv
  encInj := fun b c h => by
    injection h with h
    injection h with h
    cases b
    cases c
    congr 1
    exact Array.toList_inj.1 h
  zero := fun w => by kernel_rfl
  okz := Nat.zero_le _
/-! ### nodes by tokens -/
def ptrA : Option Nat → Value
  | none => .pointer none
  | some b => .pointer (some ⟨b, 0, none⟩)
def ptrR : Value → Option (DataW Unit × List MemPlace)
  | .pointer none => some (.nil, [])
  | .pointer (some ⟨b, 0, none⟩) => some (.lit (.int .u64 (b : Int)), [])
  | _ => none
theorem ptrR_inv (v : Value) (y : DataW Unit × List MemPlace) (h : ptrR v = some y) : ∃ b : Option Nat, True ∧ v = ptrA b ∧ y = ((match b with | none => DataW.nil | some b => .lit (.int .u64 (b : Int))), []) := by
  unfold ptrR at h
  split at h
  · injection h with h
    exact ⟨none, trivial, rfl, h.symm⟩
  · injection h with h
    exact ⟨some _, trivial, rfl, h.symm⟩
  · cases h
theorem str_keyInv (v : Value) (kl : Lit) (h : keyOf Tryd.prog 9 v = some kl) : ∃ x : ByteArray, x.size ≤ maxLen ∧ v = .string x ∧ kl = .string x.data.toList := by
  obtain ⟨s, h1, h2, h3⟩ := WideMaps.string_of_keyOf Tryd.underlying9 h
  exact ⟨s, h3, h1, h2⟩
noncomputable def VN : KV 9 83 82 ByteArray (Option Nat) where
  mkK := fun x => .string x
  litK := fun x => .string x.data.toList
  okK := fun x => x.size ≤ maxLen
  mkV := ptrA
  okV := fun _ => True
  R := ptrR
  enc := fun b => match b with | none => DataW.nil | some b => .lit (.int .u64 (b : Int))
  zv := none
  keyed := string_keyed Tryd.underlying9
  under := Tryd.underlying82
  key := fun x hx => WideMaps.keyOf_string_mk Tryd.underlying9 hx
  keyInv := str_keyInv
  litInj := fun x y h => by
    injection h with h
    cases x
    cases y
    congr 1
    exact Array.toList_inj.1 h
  isK := fun x => trivial
  val := fun b _ => by cases b <;> rfl
  valInv := ptrR_inv
  encInj := fun b c h => by
    cases b <;> cases c
    · rfl
    · cases h
    · cases h
    · injection h with h
      injection h with _ h
      congr 1
      omega
  zero := fun w => by kernel_rfl
  okz := trivial
end Go.Proofs.YtimffhpnfdikoaaDoor.Ls
namespace Go.Proofs.YtimffhpnfdikoaaDoor.Ls
open Go.RowKit Go.Maps Go.Proofs.YtimffhpnfdikoaaDoor.Bs Go.Proofs.YtimffhpnfdikoaaDoorW.PrintWords Go.Proofs.YtimffhpnfdikoaaDoorW.PrintLast Go.Proofs.YtimffhpnfdikoaaDoorW.PrintMore
set_option linter.unusedVariables false
set_option linter.unusedSimpArgs false
/-- A loop over the map in block M is under way, its iterator in block r: lf says of which keys the round is still to come. -/
structure Mr {kt et mt : TypeId} {κ β : Type} (V : KV kt et mt κ β) (w : World) (M r K : Nat) (m : κ → Option β) (lf : κ → Bool) (cnt : Nat) : Prop where
  ex : ∃ n D left, n ≤ K ∧ w.ranges Tryd.prog kt V.R M r n D left cnt ∧ Rd V D m ∧ (∀ s, V.okK s → left (V.litK s) = lf s)
  dm : ∀ s, lf s = true → V.okK s ∧ ∃ e, m s = some e
section
variable {kt et mt : TypeId} {κ β : Type} {V : KV kt et mt κ β} {w w1 : World} {M r K cnt : Nat} {m : κ → Option β} {lf : κ → Bool}
theorem Mr.mp (h : Mr V w M r K m lf cnt) : Mp V w M K m := by
  obtain ⟨n, D, left, hn, hr, hd, hl⟩ := h.ex
  exact ⟨n, D, hn, hr.owns, hd⟩
theorem Mr.lt (h : Mr V w M r K m lf cnt) : r < w.heap.size := by
  obtain ⟨n, D, left, hn, hr, hd, hl⟩ := h.ex
  exact hr.lt
theorem Mr.iter (h : Mr V w M r K m lf cnt) : ∃ a b c d, w.heap[r]? = some (.mapIter a b c d) := by
  obtain ⟨n, D, left, hn, ⟨es, clock, since, seen, c0, _, _, _, _, hr, _⟩, hd, hl⟩ := h.ex
  exact ⟨_, _, _, _, hr⟩
theorem Mr.move (h : Mr V w M r K m lf cnt) (h1 : w1.heap[M]? = w.heap[M]?) (h2 : w1.heap[r]? = w.heap[r]?) : Mr V w1 M r K m lf cnt := by
  obtain ⟨n, D, left, hn, ⟨es, clock, since, seen, c0, hb, a1, a2, a3, hr, a4⟩, hd, hl⟩ := h.ex
  exact ⟨⟨n, D, left, hn, ⟨es, clock, since, seen, c0, h1.trans hb, a1, a2, a3, h2.trans hr, a4⟩, hd, hl⟩, h.dm⟩
theorem Mr.fr {F : Nat → Prop} (h : Mr V w M r K m lf cnt) (hf : Fr F w w1) (hb : ¬ F M) (hr : ¬ F r) : Mr V w1 M r K m lf cnt := h.move (hf.block M h.mp.lt hb) (hf.block r h.lt hr)
theorem Mr.left_eq (h : Mr V w M r K m lf cnt) : w.rangeLeft M r = cnt := by
  obtain ⟨n, D, left, hn, hr, hd, hl⟩ := h.ex
  exact hr.left_eq
variable {ops : Array Oper} {rest : List Oper} {o : Oper} {a : Act} {Q : Exit → Act → World → Prop}
/-- 'range m'. -/
theorem wpList_mp_range (hg : o.guard = none) (mo : Operand) (hop : o.op = Op.range mt mo) (hm : a.eval mo = .map (some M)) (h : Mp V w M K m)
    (hK : ∀ w' cnt, Mr V w' M w.heap.size K m (fun s => (m s).isSome) cnt → Same w w' → wpList Tryd.prog ops Q rest (a.put o.dst (.pointer (some ⟨w.heap.size, 0, none⟩))) w') : wpList Tryd.prog ops Q (o :: rest) a w := by
  obtain ⟨n, D, hn, ho, hd⟩ := h.ex
  refine wpList_range_own w hg mo mt hop kt et V.keyed V.under V.R M n D hm ho ?_
  intro w' h1 h2 h3
  refine hK w' _ ⟨⟨n, D, _, hn, h1, hd, fun s hs => hd.has s hs⟩, fun s hs => ?_⟩ ((Fr.grown h2).mono (fun k hk => by cases hk))
  obtain ⟨e, he⟩ := Option.isSome_iff_exists.1 hs
  exact ⟨(hd.dom s e he).1, e, he⟩
set_option maxRecDepth 100000 in
/-- The step. -/
theorem wpList_mp_next [DecidableEq κ] (hg : o.guard = none) (it : Operand) (hop : o.op = Op.next it false) (hit : a.eval it = .pointer (some ⟨r, 0, none⟩)) (h : Mr V w M r K m lf cnt)
    (hDone : (∀ s, lf s = false) → wpList Tryd.prog ops Q rest (a.put o.dst (.tuple #[.bool false])) w)
    (hMore : ∀ (x : κ) (c : β) (w' : World) (cnt' : Nat), V.okK x → V.okV c → lf x = true → m x = some c → Mr V w' M r K m (fun z => lf z && !decide (z = x)) cnt' → cnt' < cnt → Fr (fun k => k = r) w w' →
      (Instr.entry (.pointer (some ⟨r, 0, none⟩))).run Tryd.prog w' = .ok (.tuple #[V.mkK x, V.mkV c]) w' → wpList Tryd.prog ops Q rest (a.put o.dst (.tuple #[.bool true, V.mkK x, V.mkV c])) w') : wpList Tryd.prog ops Q (o :: rest) a w := by
  obtain ⟨n, D, left, hn, hr, hd, hl⟩ := h.ex
  refine wpList_next_ranges w hg it hop kt V.keyed V.R V.mkK V.mkV (fun key kl hkey => by obtain ⟨x, h1, h2, h3⟩ := V.keyInv _ _ hkey; exact ⟨x, h2⟩) (fun v y hv => by obtain ⟨c, h1, h2, h3⟩ := V.valInv _ _ hv; exact ⟨c, h2⟩) M r n D left cnt hit hr ?_ ?_
  · intro h0 hz
    refine hDone (fun s => ?_)
    cases hs : lf s with
    | false => rfl
    | true =>
      obtain ⟨h1, -⟩ := h.dm s hs
      rw [← hl s h1, hz] at hs
      cases hs
  · intro x0 c0 kl y w' cnt' hkey hlk hv hat hrg hlt hgr hsz hen
    obtain ⟨x, h1, h2, h3⟩ := V.keyInv _ _ hkey
    obtain ⟨c, g1, g2, g3⟩ := V.valInv _ _ hv
    rw [h2, g2] at hen ⊢
    subst h3
    have hlx' : lf x = true := by rw [← hl x h1]; exact hlk
    obtain ⟨-, e, he⟩ := h.dm x hlx'
    have hc : m x = some c := by
      have q1 := (hat .nil).symm.trans (hd.val x e he .nil)
      rw [g3] at q1
      rw [he, V.encInj _ _ q1]
    refine hMore x c w' cnt' h1 g1 hlx' hc ⟨⟨n, D, _, hn, hrg, hd, fun s hs => ?_⟩, fun s hs => h.dm s ?_⟩ hlt ((Fr.grown hgr).mono (fun k hk => by injection hk with hk; exact hk.symm)) hen
    · show (left (V.litK s) && !(V.litK s).sameKey (V.litK x)) = _
      rw [hl s hs, V.same]
    · simp only [Bool.and_eq_true] at hs
      exact hs.1
end
end Go.Proofs.YtimffhpnfdikoaaDoor.Ls
namespace Go.Proofs.YtimffhpnfdikoaaDoor.Ls
open Go.RowKit Go.Maps Go.Proofs.YtimffhpnfdikoaaDoor.Bs Go.Proofs.YtimffhpnfdikoaaDoorW.PrintWords Go.Proofs.YtimffhpnfdikoaaDoorW.PrintLast Go.Proofs.YtimffhpnfdikoaaDoorW.PrintMore
set_option linter.unusedVariables false
set_option linter.unusedSimpArgs false
abbrev Path := List ByteArray
abbrev Pm := Path → Option (Nat × Nat)
def star : ByteArray := ⟨#[42]⟩
def full : ByteArray := ⟨#[62]⟩
def kid (nd : Pm) (p : Path) (t : ByteArray) : Option Nat := (nd (p ++ [t])).map Prod.fst
def kids (nd : Pm) (p : Path) : ByteArray → Option (Option Nat) := fun t => if t = star ∨ t = full then none else (kid nd p t).map some
def setS (sub : Path → Int → Option ByteArray) (q : Path) (m : Int → Option ByteArray) : Path → Int → Option ByteArray := fun p => if p = q then m else sub p
theorem blk_ne {w : World} {b b' : Nat} {T T' : TypeId} {cs cs' : List Value} (h : Blk w b T cs) (h' : Blk w b' T' cs') (hT : T ≠ T') : b ≠ b' := by
  rintro rfl
  have := h.blk.symm.trans h'.blk
  injection this with this
  injection this with _ this _
  exact hT this
theorem map_ne {kt et mt : TypeId} {κ β : Type} {V : KV kt et mt κ β} {w : World} {b M K : Nat} {T : TypeId} {cs : List Value} {m : κ → Option β} (h : Blk w b T cs) (h' : Mp V w M K m) : b ≠ M := by
  rintro rfl
  obtain ⟨es, c, e⟩ := h'.blk
  rw [h.blk] at e
  cases e
structure Tri (w : World) (B K : Nat) (nd lv : Pm) (sub : Path → Int → Option ByteArray) : Prop where
  lev : ∀ p x, lv p = some x → B ≤ x.1 ∧ B ≤ x.2 ∧ Blk w x.1 85 [.map (some x.2), ptrA (kid nd p star), ptrA (kid nd p full)] ∧ Mp VN w x.2 K (kids nd p)
  node : ∀ p x, nd p = some x → B ≤ x.1 ∧ B ≤ x.2 ∧ Blk w x.1 95 [ptrA ((lv p).map Prod.fst), .map (some x.2)] ∧ Mp VS w x.2 K (sub p)
  linj : ∀ p q x y, lv p = some x → lv q = some y → (x.1 = y.1 ∨ x.2 = y.2) → p = q
  ninj : ∀ p q x y, nd p = some x → nd q = some y → (x.1 = y.1 ∨ x.2 = y.2) → p = q
  cross : ∀ p q x y, lv p = some x → nd q = some y → x.2 ≠ y.2
  up : ∀ p t x, nd (p ++ [t]) = some x → ∃ y, lv p = some y
  lvnd : ∀ p x, p ≠ [] → lv p = some x → ∃ y, nd p = some y
  nonil : nd [] = none
section
variable {w w' : World} {B K : Nat} {nd lv : Pm} {sub : Path → Int → Option ByteArray}
theorem kid_upd {p q : Path} {t : ByteArray} {x : Nat × Nat} (h : q ≠ p) (u : ByteArray) : kid (upd nd (p ++ [t]) x) q u = kid nd q u := by
  unfold kid upd
  rw [if_neg]
  intro e
  exact h (List.append_inj_left' e rfl)
theorem kids_upd {p q : Path} {t : ByteArray} {x : Nat × Nat} (h : q ≠ p) : ∀ u, kids (upd nd (p ++ [t]) x) q u = kids nd q u := by
  intro u
  unfold kids
  rw [kid_upd h]
theorem kid_del {p q : Path} {t : ByteArray} (h : q ≠ p) (u : ByteArray) : kid (del nd (p ++ [t])) q u = kid nd q u := by
  unfold kid del
  rw [if_neg]
  intro e
  exact h (List.append_inj_left' e rfl)
theorem kids_del {p q : Path} {t : ByteArray} (h : q ≠ p) : ∀ u, kids (del nd (p ++ [t])) q u = kids nd q u := by
  intro u
  unfold kids
  rw [kid_del h]
/-- A level that was not turned. -/
theorem Tri.levK (h : Tri w B K nd lv sub) {F : Nat → Prop} (hf : Fr F w w') {q : Path} {y : Nat × Nat} (hy : lv q = some y) (h1 : ¬ F y.1) (h2 : ¬ F y.2) {K' : Nat} (hK : K ≤ K') : Blk w' y.1 85 [.map (some y.2), ptrA (kid nd q star), ptrA (kid nd q full)] ∧ Mp VN w' y.2 K' (kids nd q) := by
  obtain ⟨-, -, a, b⟩ := h.lev q y hy
  exact ⟨a.fr hf h1, (b.fr hf h2).mono hK⟩
theorem Tri.nodeK (h : Tri w B K nd lv sub) {F : Nat → Prop} (hf : Fr F w w') {q : Path} {y : Nat × Nat} (hy : nd q = some y) (h1 : ¬ F y.1) (h2 : ¬ F y.2) {K' : Nat} (hK : K ≤ K') : Blk w' y.1 95 [ptrA ((lv q).map Prod.fst), .map (some y.2)] ∧ Mp VS w' y.2 K' (sub q) := by
  obtain ⟨-, -, a, b⟩ := h.node q y hy
  exact ⟨a.fr hf h1, (b.fr hf h2).mono hK⟩
theorem Tri.lv_none (h : Tri w B K nd lv sub) {q : Path} (hq : q ≠ []) (hn : nd q = none) : lv q = none := by
  cases hl : lv q with
  | none => rfl
  | some x =>
    obtain ⟨y, hy⟩ := h.lvnd q x hq hl
    rw [hn] at hy
    cases hy
theorem ne_nil (p : Path) (t : ByteArray) : p ++ [t] ≠ [] := by simp
/-- A new node below a level. -/
theorem Tri.newNode (h : Tri w B K nd lv sub) {p : Path} {t : ByteArray} {x y : Nat × Nat} (hx : lv p = some x) (hn : nd (p ++ [t]) = none) (hf : Fr (fun k => k = x.1 ∨ k = x.2) w w') (hB : B ≤ w.heap.size) (h1 : w.heap.size ≤ y.1) (h2 : w.heap.size ≤ y.2)
    (hN : Blk w' y.1 95 [.pointer none, .map (some y.2)]) (hS : Mp VS w' y.2 (K + 1) (fun _ => none)) (hL : Blk w' x.1 85 [.map (some x.2), ptrA (kid (upd nd (p ++ [t]) y) p star), ptrA (kid (upd nd (p ++ [t]) y) p full)]) (hM : Mp VN w' x.2 (K + 1) (kids (upd nd (p ++ [t]) y) p)) :
    Tri w' B (K + 1) (upd nd (p ++ [t]) y) lv (setS sub (p ++ [t]) (fun _ => none)) := by
  obtain ⟨bx1, bx2, hxB, hxM⟩ := h.lev p x hx
  have hup : ∀ q z, upd nd (p ++ [t]) y q = some z → (q = p ++ [t] ∧ z = y) ∨ (q ≠ p ++ [t] ∧ nd q = some z) := fun q z hz => by
    unfold upd at hz
    split at hz
    · injection hz with hz
      exact .inl ⟨by assumption, hz.symm⟩
    · exact .inr ⟨by assumption, hz⟩
  have old : ∀ q z, nd q = some z → z.1 < w.heap.size ∧ z.2 < w.heap.size := fun q z hz => by
    obtain ⟨-, -, a, b⟩ := h.node q z hz
    exact ⟨a.lt, b.lt⟩
  refine ⟨fun q z hz => ?_, fun q z hz => ?_, h.linj, fun q q' z z' hz hz' he => ?_, fun q q' z z' hz hz' => ?_, fun q u z hz => ?_, fun q z hq hz => ?_, ?_⟩
  · obtain ⟨b1, b2, zB, zM⟩ := h.lev q z hz
    by_cases hqp : q = p
    · subst hqp
      rw [hx] at hz
      injection hz with hz
      subst hz
      exact ⟨b1, b2, hL, hM⟩
    · have n1 : ¬ (z.1 = x.1 ∨ z.1 = x.2) := fun e => by
        rcases e with e | e
        · exact hqp (h.linj q p z x hz hx (.inl e))
        · exact map_ne zB hxM e
      have n2 : ¬ (z.2 = x.1 ∨ z.2 = x.2) := fun e => by
        rcases e with e | e
        · exact map_ne hxB zM e.symm
        · exact hqp (h.linj q p z x hz hx (.inr e))
      rw [kid_upd hqp, kid_upd hqp]
      exact ⟨b1, b2, zB.fr hf n1, ((zM.fr hf n2).mono (Nat.le_succ _)).congr (kids_upd hqp)⟩
  · rcases hup q z hz with ⟨e1, e2⟩ | ⟨e1, e2⟩
    · subst e1 e2
      refine ⟨by omega, by omega, ?_, ?_⟩
      · rw [h.lv_none (ne_nil p t) hn]
        exact hN
      · unfold setS
        rw [if_pos rfl]
        exact hS
    · obtain ⟨b1, b2, zB, zM⟩ := h.node q z e2
      have n1 : ¬ (z.1 = x.1 ∨ z.1 = x.2) := fun e => by
        rcases e with e | e
        · exact blk_ne zB hxB (by decide) e
        · exact map_ne zB hxM e
      have n2 : ¬ (z.2 = x.1 ∨ z.2 = x.2) := fun e => by
        rcases e with e | e
        · exact map_ne hxB zM e.symm
        · exact h.cross p q x z hx e2 e.symm
      refine ⟨b1, b2, zB.fr hf n1, ?_⟩
      unfold setS
      rw [if_neg e1]
      exact (zM.fr hf n2).mono (Nat.le_succ _)
  · rcases hup q z hz with ⟨e1, e2⟩ | ⟨e1, e2⟩
    · rcases hup q' z' hz' with ⟨g1, g2⟩ | ⟨g1, g2⟩
      · rw [e1, g1]
      · obtain ⟨o1, o2⟩ := old q' z' g2
        subst e2
        omega
    · rcases hup q' z' hz' with ⟨g1, g2⟩ | ⟨g1, g2⟩
      · obtain ⟨o1, o2⟩ := old q z e2
        subst g2
        omega
      · exact h.ninj q q' z z' e2 g2 he
  · rcases hup q' z' hz' with ⟨g1, g2⟩ | ⟨g1, g2⟩
    · obtain ⟨-, -, zB, zM⟩ := h.lev q z hz
      have := zM.lt
      subst g2
      omega
    · exact h.cross q q' z z' hz g2
  · rcases hup _ z hz with ⟨g1, g2⟩ | ⟨g1, g2⟩
    · have := List.append_inj_left' g1 rfl
      subst this
      exact ⟨x, hx⟩
    · exact h.up q u z g2
  · obtain ⟨y', hy'⟩ := h.lvnd q z hq hz
    unfold upd
    split
    · exact ⟨_, rfl⟩
    · exact ⟨y', hy'⟩
  · unfold upd
    rw [if_neg (fun e => ne_nil p t e.symm)]
    exact h.nonil
/-- A new level below a node. -/
theorem Tri.newLevel (h : Tri w B K nd lv sub) {q : Path} {x y : Nat × Nat} (hx : nd q = some x) (hn : lv q = none) (hf : Fr (fun k => k = x.1) w w') (hB : B ≤ w.heap.size) (h1 : w.heap.size ≤ y.1) (h2 : w.heap.size ≤ y.2)
    (hL : Blk w' y.1 85 [.map (some y.2), .pointer none, .pointer none]) (hM : Mp VN w' y.2 K (fun _ => none)) (hN : Blk w' x.1 95 [.pointer (some ⟨y.1, 0, none⟩), .map (some x.2)]) :
    Tri w' B K nd (upd lv q y) sub := by
  obtain ⟨bx1, bx2, hxB, hxM⟩ := h.node q x hx
  have hno : ∀ u, nd (q ++ [u]) = none := fun u => by
    cases hu : nd (q ++ [u]) with
    | none => rfl
    | some z =>
      obtain ⟨z', hz'⟩ := h.up q u z hu
      rw [hn] at hz'
      cases hz'
  have hup : ∀ p z, upd lv q y p = some z → (p = q ∧ z = y) ∨ (p ≠ q ∧ lv p = some z) := fun p z hz => by
    unfold upd at hz
    split at hz
    · injection hz with hz
      exact .inl ⟨by assumption, hz.symm⟩
    · exact .inr ⟨by assumption, hz⟩
  have old : ∀ p z, lv p = some z → z.1 < w.heap.size ∧ z.2 < w.heap.size := fun p z hz => by
    obtain ⟨-, -, a, b⟩ := h.lev p z hz
    exact ⟨a.lt, b.lt⟩
  refine ⟨fun p z hz => ?_, fun p z hz => ?_, fun p p' z z' hz hz' he => ?_, h.ninj, fun p p' z z' hz hz' => ?_, fun p u z hz => ?_, fun p z hp hz => ?_, h.nonil⟩
  · rcases hup p z hz with ⟨e1, e2⟩ | ⟨e1, e2⟩
    · subst e1 e2
      have k0 : ∀ u, kid nd p u = none := fun u => by unfold kid; rw [hno u]; rfl
      rw [k0, k0]
      exact ⟨by omega, by omega, hL, hM.congr (fun u => by unfold kids; rw [k0]; split <;> rfl)⟩
    · obtain ⟨b1, b2, zB, zM⟩ := h.lev p z e2
      exact ⟨b1, b2, zB.fr hf (blk_ne zB hxB (by decide)), zM.fr hf (fun e => map_ne hxB zM e.symm)⟩
  · obtain ⟨b1, b2, zB, zM⟩ := h.node p z hz
    by_cases hpq : p = q
    · subst hpq
      rw [hx] at hz
      injection hz with hz
      subst hz
      refine ⟨b1, b2, ?_, zM.fr hf (fun e => map_ne hxB zM e.symm)⟩
      unfold upd
      rw [if_pos rfl]
      exact hN
    · refine ⟨b1, b2, ?_, zM.fr hf (fun e => map_ne hxB zM e.symm)⟩
      have e : upd lv q y p = lv p := by unfold upd; rw [if_neg hpq]
      rw [e]
      exact zB.fr hf (fun e => hpq (h.ninj p q z x hz hx (.inl e)))
  · rcases hup p z hz with ⟨e1, e2⟩ | ⟨e1, e2⟩
    · rcases hup p' z' hz' with ⟨g1, g2⟩ | ⟨g1, g2⟩
      · rw [e1, g1]
      · obtain ⟨o1, o2⟩ := old p' z' g2
        subst e2
        omega
    · rcases hup p' z' hz' with ⟨g1, g2⟩ | ⟨g1, g2⟩
      · obtain ⟨o1, o2⟩ := old p z e2
        subst g2
        omega
      · exact h.linj p p' z z' e2 g2 he
  · rcases hup p z hz with ⟨e1, e2⟩ | ⟨e1, e2⟩
    · obtain ⟨-, -, zB, zM⟩ := h.node p' z' hz'
      have := zM.lt
      subst e2
      omega
    · exact h.cross p p' z z' e2 hz'
  · obtain ⟨y', hy'⟩ := h.up p u z hz
    unfold upd
    split
    · exact ⟨_, rfl⟩
    · exact ⟨y', hy'⟩
  · rcases hup p z hz with ⟨e1, e2⟩ | ⟨e1, e2⟩
    · rw [e1]
      exact ⟨x, hx⟩
    · exact h.lvnd p z hp e2
/-- A node's subjects are turned. -/
theorem Tri.subs (h : Tri w B K nd lv sub) {q : Path} {x : Nat × Nat} (hx : nd q = some x) {K' : Nat} (hK : K ≤ K') (hf : Fr (fun k => k = x.2) w w') {m : Int → Option ByteArray} (hM : Mp VS w' x.2 K' m) : Tri w' B K' nd lv (setS sub q m) := by
  obtain ⟨bx1, bx2, hxB, hxM⟩ := h.node q x hx
  refine ⟨fun p z hz => ?_, fun p z hz => ?_, h.linj, h.ninj, h.cross, h.up, h.lvnd, h.nonil⟩
  · obtain ⟨b1, b2, zB, zM⟩ := h.lev p z hz
    exact ⟨b1, b2, zB.fr hf (map_ne zB hxM), (zM.fr hf (h.cross p q z x hz hx)).mono hK⟩
  · obtain ⟨b1, b2, zB, zM⟩ := h.node p z hz
    refine ⟨b1, b2, zB.fr hf (map_ne zB hxM), ?_⟩
    unfold setS
    by_cases hpq : p = q
    · subst hpq
      rw [hx] at hz
      injection hz with hz
      subst hz
      rw [if_pos rfl]
      exact hM
    · rw [if_neg hpq]
      exact (zM.fr hf (fun e => hpq (h.ninj p q z x hz hx (.inr e)))).mono hK
end
end Go.Proofs.YtimffhpnfdikoaaDoor.Ls
namespace Go.Proofs.YtimffhpnfdikoaaDoor.Ls
open Go.RowKit Go.Maps Go.Proofs.YtimffhpnfdikoaaDoor.Bs Go.Proofs.YtimffhpnfdikoaaDoorW.PrintWords Go.Proofs.YtimffhpnfdikoaaDoorW.PrintLast Go.Proofs.YtimffhpnfdikoaaDoorW.PrintMore
set_option linter.unusedVariables false
set_option linter.unusedSimpArgs false
/-- The kinds of blocks that a list is made of. -/
def WK (w : World) (k : Nat) : Prop := (∃ es c, w.heap[k]? = some (.map es c)) ∨ ∃ cs T z, w.heap[k]? = some (.cells cs T z) ∧ (T = 81 ∨ T = 85 ∨ T = 95)
def WF (B : Nat) (w : World) (k : Nat) : Prop := B ≤ k ∧ WK w k
theorem wf_trans {B : Nat} {w w1 w2 : World} (h : Fr (WF B w) w w1) (h2 : Fr (WF B w1) w1 w2) : Fr (WF B w) w w2 := by
  refine h.trans h2 (fun k hk hf => ?_)
  by_cases hn : WF B w k
  · exact hn
  · have e := h.block k hk hn
    refine ⟨hf.1, ?_⟩
    have h3 := hf.2
    unfold WK at h3 ⊢
    rw [e] at h3
    exact h3
theorem not_wk {w : World} {k : Nat} {T : TypeId} {cs : Array Value} {z : Nat × Nat} (h : w.heap[k]? = some (.cells cs T z)) (h1 : T ≠ 81) (h2 : T ≠ 85) (h3 : T ≠ 95) : ¬ WK w k := by
  rintro (⟨es, c, e⟩ | ⟨cs', T', z', e, hT⟩)
  · rw [h] at e; cases e
  · rw [h] at e
    injection e with e
    injection e with _ e _
    subst e
    rcases hT with hT | hT | hT
    · exact h1 hT
    · exact h2 hT
    · exact h3 hT
theorem Blk.not_wk {w : World} {k : Nat} {T : TypeId} {cs : List Value} (h : Blk w k T cs) (h1 : T ≠ 81) (h2 : T ≠ 85) (h3 : T ≠ 95) : ¬ WK w k := Ls.not_wk h.blk h1 h2 h3
theorem Blk.wk {w : World} {k : Nat} {T : TypeId} {cs : List Value} (h : Blk w k T cs) (hT : T = 81 ∨ T = 85 ∨ T = 95) : WK w k := .inr ⟨_, T, _, h.blk, hT⟩
theorem Mp.wk {kt et mt : TypeId} {κ β : Type} {V : KV kt et mt κ β} {w : World} {M K : Nat} {m : κ → Option β} (h : Mp V w M K m) : WK w M := .inl h.blk
theorem fr_wf {B : Nat} {w w1 : World} {F : Nat → Prop} (h : Fr F w w1) (hF : ∀ k, k < w.heap.size → F k → WF B w k) : Fr (WF B w) w w1 := ⟨h.os, h.tape, h.output, h.size, fun k hk hn => h.block k hk (fun hf => hn (hF k hk hf))⟩
theorem same_wf {B : Nat} {w w1 : World} (h : Same w w1) : Fr (WF B w) w w1 := fr_wf h (fun _ _ h => h.elim)
theorem fr_set1 {F : Nat → Prop} {w w1 : World} (h : Fr F w w1) {b o : Nat} (hb : F b) (u : Value) : Fr F w (w1.setCell ⟨b, o, none⟩ u) := h.set (p := ⟨b, o, none⟩) (.inl hb) u
/-! ### the head -/
def hdr (a c : Int) (r : Value) (n : Int) : List Value := [.int .i32 a, .int .u32 0, .int .u32 0, .int .u32 0, .int .i32 c, .int .i32 0, r, .int .u32 n]
abbrev low30 : Int := -1073741824
def HdPost (W : World) (L : Nat) (a c : Int) (r : Value) (n : Int) (e : Ending) (w' : World) : Prop := e = .returned (.tuple #[]) ∧ Blk w' L 81 (hdr a c r n) ∧ Fr (fun k => k = L) W w'
section
variable {w : World} {L : Nat} {r : Value} {n : Int}
theorem up1 : wrap32 (0 + 1) = 1 := by kernel_rfl
theorem down1 : wrap32 (1 + -1) = 0 := by kernel_rfl
theorem lock_L (h : Blk w L 81 (hdr 0 0 r n)) : Calls Tryd.prog 59 #[.pointer (some ⟨L, 0, none⟩)] w (HdPost w L 1 low30 r n) := by
  refine (Go.RwLone.wlock_free Tryd.rwWLib L 0 (.int .u32 0) (.int .u32 0) w (h.cell 0 rfl) (h.cell 2 rfl) (h.cell 3 rfl) (h.cell 4 rfl) (h.free _) (h.free _)).mono ?_
  rintro e w' ⟨rfl, rfl⟩
  exact ⟨rfl, (h.set 0 (by simp [hdr]) _).set 4 (by simp [hdr]) _, fr_set1 (F := fun k => k = L) (fr_set1 (F := fun k => k = L) (Fr.refl _ _) rfl _) rfl _⟩
theorem unlock_L (h : Blk w L 81 (hdr 1 low30 r n)) : Calls Tryd.prog 61 #[.pointer (some ⟨L, 0, none⟩)] w (HdPost w L 0 0 r n) := by
  refine (Go.RwLone.wunlock_held Tryd.rwWLib L 0 (.int .u32 0) (.int .u32 0) w (h.cell 0 rfl) (h.cell 2 rfl) (h.cell 3 rfl) (h.cell 4 rfl) (h.free _) (h.free _)).mono ?_
  rintro e w' ⟨rfl, rfl⟩
  exact ⟨rfl, (h.set 4 (by simp [hdr]) _).set 0 (by simp [hdr]) _, fr_set1 (F := fun k => k = L) (fr_set1 (F := fun k => k = L) (Fr.refl _ _) rfl _) rfl _⟩
theorem unlock_D (h : Blk w L 81 (hdr 1 low30 r n)) (u : FrameMode) : CallsD Tryd.prog 61 #[.pointer (some ⟨L, 0, none⟩)] u w fun e u' w' => u' = u ∧ HdPost w L 0 0 r n e w' := by
  refine (Go.RwLone.wunlock_deferred Tryd.rwWLib L 0 (.int .u32 0) (.int .u32 0) u w (h.cell 0 rfl) (h.cell 2 rfl) (h.cell 3 rfl) (h.cell 4 rfl) (h.free _) (h.free _)).mono ?_
  rintro e u' w' ⟨hu, rfl, rfl⟩
  exact ⟨hu, rfl, (h.set 4 (by simp [hdr]) _).set 0 (by simp [hdr]) _, fr_set1 (F := fun k => k = L) (fr_set1 (F := fun k => k = L) (Fr.refl _ _) rfl _) rfl _⟩
theorem rlock_L (h : Blk w L 81 (hdr 0 0 r n)) : Calls Tryd.prog 51 #[.pointer (some ⟨L, 0, none⟩)] w (HdPost w L 0 1 r n) := by
  refine (Go.RwLone.rlock_open Tryd.rwRLib L 0 0 (.int .i32 0) (.int .u32 0) w (h.cell 0 rfl) (h.cell 3 rfl) (h.cell 4 rfl) (h.free _) (by rw [up1]; decide)).mono ?_
  rintro e w' ⟨rfl, rfl⟩
  rw [up1]
  exact ⟨rfl, h.set 4 (by simp [hdr]) _, fr_set1 (F := fun k => k = L) (Fr.refl _ _) rfl _⟩
theorem runlock_D (h : Blk w L 81 (hdr 0 1 r n)) (u : FrameMode) : CallsD Tryd.prog 52 #[.pointer (some ⟨L, 0, none⟩)] u w fun e u' w' => u' = u ∧ HdPost w L 0 0 r n e w' := by
  refine (Go.RwLone.runlock_deferred Tryd.rwRLib L 0 1 (.int .i32 0) (.int .u32 0) u w (h.cell 0 rfl) (h.cell 2 rfl) (h.cell 4 rfl) (h.free _) (by rw [down1]; decide)).mono ?_
  rintro e u' w' ⟨hu, rfl, rfl⟩
  rw [down1]
  exact ⟨hu, rfl, h.set 4 (by simp [hdr]) _, fr_set1 (F := fun k => k = L) (Fr.refl _ _) rfl _⟩
end
/-! ### the whole -/
def Live (nd : Pm) (sub : Path → Int → Option ByteArray) (E : Path → Prop) : Prop := ∀ q y, nd q = some y → E q ∨ ∃ r v s, sub (q ++ r) v = some s
structure Lx (w : World) (B L K : Nat) (sub : Path → Int → Option ByteArray) (E : Path → Prop) (ex : Prop) (a c cnt : Int) (nd lv : Pm) : Prop where
  base : B ≤ L
  size : B ≤ w.heap.size
  tri : Tri w B K nd lv sub
  head : ∃ x, lv [] = some x ∧ Blk w L 81 (hdr a c (.pointer (some ⟨x.1, 0, none⟩)) cnt)
  out : ∀ p, nd p = none → ∀ v, sub p v = none
  live : ex → Live nd sub E
section
variable {w w' : World} {B L K : Nat} {sub : Path → Int → Option ByteArray} {E : Path → Prop} {ex : Prop} {a c cnt : Int} {nd lv : Pm}
theorem Tri.head (h : Tri w B K nd lv sub) {cs0 : List Value} (hh : Blk w L 81 cs0) (hf : Fr (fun k => k = L) w w') : Tri w' B K nd lv sub := by
  refine ⟨fun p x hp => ?_, fun p x hp => ?_, h.linj, h.ninj, h.cross, h.up, h.lvnd, h.nonil⟩
  · obtain ⟨h1, h2, h3, h4⟩ := h.lev p x hp
    exact ⟨h1, h2, h3.fr hf (blk_ne h3 hh (by decide)), h4.fr hf (fun e => map_ne hh h4 e.symm)⟩
  · obtain ⟨h1, h2, h3, h4⟩ := h.node p x hp
    exact ⟨h1, h2, h3.fr hf (blk_ne h3 hh (by decide)), h4.fr hf (fun e => map_ne hh h4 e.symm)⟩
theorem Tri.far {F : Nat → Prop} (h : Tri w B K nd lv sub) (hf : Fr F w w') (hF : ∀ k, WF B w k → ¬ F k) : Tri w' B K nd lv sub := by
  refine ⟨fun p x hp => ?_, fun p x hp => ?_, h.linj, h.ninj, h.cross, h.up, h.lvnd, h.nonil⟩
  · obtain ⟨h1, h2, h3, h4⟩ := h.lev p x hp
    exact ⟨h1, h2, h3.fr hf (hF _ ⟨h1, Blk.wk h3 (.inr (.inl rfl))⟩), h4.fr hf (hF _ ⟨h2, Mp.wk h4⟩)⟩
  · obtain ⟨h1, h2, h3, h4⟩ := h.node p x hp
    exact ⟨h1, h2, h3.fr hf (hF _ ⟨h1, Blk.wk h3 (.inr (.inr rfl))⟩), h4.fr hf (hF _ ⟨h2, Mp.wk h4⟩)⟩
theorem Lx.turn (h : Lx w B L K sub E ex a c cnt nd lv) {a' c' cnt' : Int} (hd : ∀ x : Nat × Nat, lv [] = some x → Blk w' L 81 (hdr a' c' (.pointer (some ⟨x.1, 0, none⟩)) cnt')) (hf : Fr (fun k => k = L) w w') : Lx w' B L K sub E ex a' c' cnt' nd lv := by
  obtain ⟨x, hx, hh⟩ := h.head
  have := h.size
  have := hf.size
  exact ⟨h.base, by omega, h.tri.head hh hf, ⟨x, hx, hd x hx⟩, h.out, h.live⟩
theorem Lx.fr {F : Nat → Prop} (h : Lx w B L K sub E ex a c cnt nd lv) (hf : Fr F w w') (hF : ∀ k, WF B w k → ¬ F k) : Lx w' B L K sub E ex a c cnt nd lv := by
  obtain ⟨x, hx, hh⟩ := h.head
  have := h.size
  have := hf.size
  exact ⟨h.base, by omega, h.tri.far hf hF, ⟨x, hx, hh.fr hf (hF _ ⟨h.base, Blk.wk hh (.inl rfl)⟩)⟩, h.out, h.live⟩
theorem Lx.wfL (h : Lx w B L K sub E ex a c cnt nd lv) : WF B w L := by
  obtain ⟨x, hx, hh⟩ := h.head
  exact ⟨h.base, Blk.wk hh (.inl rfl)⟩
theorem Lx.frL (h : Lx w B L K sub E ex a c cnt nd lv) (hf : Fr (fun k => k = L) w w') : Fr (WF B w) w w' := fr_wf hf (fun k _ hk => by subst hk; exact h.wfL)
end
/-- A list at rest. -/
def Li (w : World) (B L K : Nat) (sub : Path → Int → Option ByteArray) (ex : Prop) (cnt : Int) : Prop := ∃ nd lv, Lx w B L K sub (fun _ => False) ex 0 0 cnt nd lv
theorem Li.fr {w w' : World} {B L K : Nat} {sub : Path → Int → Option ByteArray} {ex : Prop} {cnt : Int} {F : Nat → Prop} (h : Li w B L K sub ex cnt) (hf : Fr F w w') (hF : ∀ k, WF B w k → ¬ F k) : Li w' B L K sub ex cnt := by
  obtain ⟨nd, lv, h⟩ := h
  exact ⟨nd, lv, h.fr hf hF⟩
end Go.Proofs.YtimffhpnfdikoaaDoor.Ls
namespace Go.Proofs.YtimffhpnfdikoaaDoor.Ls
open Go.RowKit Go.Maps Go.Proofs.YtimffhpnfdikoaaDoor.Bs Go.Proofs.YtimffhpnfdikoaaDoorW.PrintWords Go.Proofs.YtimffhpnfdikoaaDoorW.PrintLast Go.Proofs.YtimffhpnfdikoaaDoorW.PrintMore
set_option linter.unusedVariables false
set_option linter.unusedSimpArgs false
section
variable {w w' : World} {B L K : Nat} {nd lv : Pm} {sub : Path → Int → Option ByteArray} {E : Path → Prop} {ex : Prop} {a c cnt : Int}
theorem del_some {nd : Pm} {q p : Path} {z : Nat × Nat} (h : del nd q p = some z) : p ≠ q ∧ nd p = some z := by
  unfold del at h
  split at h
  · cases h
  · exact ⟨by assumption, h⟩
/-- A node without kids is pruned, and its level with it. -/
theorem Tri.prune (h : Tri w B K nd lv sub) {p : Path} {t : ByteArray} {x : Nat × Nat} (hx : lv p = some x) (hk : ∀ u, nd (p ++ [t] ++ [u]) = none) (hf : Fr (fun k => k = x.1 ∨ k = x.2) w w')
    (hL : Blk w' x.1 85 [.map (some x.2), ptrA (kid (del nd (p ++ [t])) p star), ptrA (kid (del nd (p ++ [t])) p full)]) (hM : Mp VN w' x.2 K (kids (del nd (p ++ [t])) p)) :
    Tri w' B K (del nd (p ++ [t])) (del lv (p ++ [t])) sub := by
  obtain ⟨bx1, bx2, hxB, hxM⟩ := h.lev p x hx
  refine ⟨fun q z hz => ?_, fun q z hz => ?_, fun q q' z z' hz hz' he => ?_, fun q q' z z' hz hz' he => ?_, fun q q' z z' hz hz' => ?_, fun q u z hz => ?_, fun q z hq hz => ?_, ?_⟩
  · obtain ⟨e1, e2⟩ := del_some hz
    obtain ⟨b1, b2, zB, zM⟩ := h.lev q z e2
    by_cases hqp : q = p
    · subst hqp
      rw [hx] at e2
      injection e2 with e2
      subst e2
      exact ⟨b1, b2, hL, hM⟩
    · have n1 : ¬ (z.1 = x.1 ∨ z.1 = x.2) := fun e => by
        rcases e with e | e
        · exact hqp (h.linj q p z x e2 hx (.inl e))
        · exact map_ne zB hxM e
      have n2 : ¬ (z.2 = x.1 ∨ z.2 = x.2) := fun e => by
        rcases e with e | e
        · exact map_ne hxB zM e.symm
        · exact hqp (h.linj q p z x e2 hx (.inr e))
      rw [kid_del hqp, kid_del hqp]
      exact ⟨b1, b2, zB.fr hf n1, (zM.fr hf n2).congr (kids_del hqp)⟩
  · obtain ⟨e1, e2⟩ := del_some hz
    obtain ⟨b1, b2, zB, zM⟩ := h.node q z e2
    have n1 : ¬ (z.1 = x.1 ∨ z.1 = x.2) := fun e => by
      rcases e with e | e
      · exact blk_ne zB hxB (by decide) e
      · exact map_ne zB hxM e
    have n2 : ¬ (z.2 = x.1 ∨ z.2 = x.2) := fun e => by
      rcases e with e | e
      · exact map_ne hxB zM e.symm
      · exact h.cross p q x z hx e2 e.symm
    have e3 : del lv (p ++ [t]) q = lv q := by unfold del; rw [if_neg e1]
    rw [e3]
    exact ⟨b1, b2, zB.fr hf n1, zM.fr hf n2⟩
  · exact h.linj q q' z z' (del_some hz).2 (del_some hz').2 he
  · exact h.ninj q q' z z' (del_some hz).2 (del_some hz').2 he
  · exact h.cross q q' z z' (del_some hz).2 (del_some hz').2
  · obtain ⟨e1, e2⟩ := del_some hz
    obtain ⟨y', hy'⟩ := h.up q u z e2
    unfold del
    rw [if_neg]
    · exact ⟨y', hy'⟩
    · rintro rfl
      rw [hk u] at e2
      cases e2
  · obtain ⟨e1, e2⟩ := del_some hz
    obtain ⟨y', hy'⟩ := h.lvnd q z hq e2
    unfold del
    rw [if_neg e1]
    exact ⟨y', hy'⟩
  · unfold del
    split
    · rfl
    · exact h.nonil
theorem Lx.congrE (h : Lx w B L K sub E ex a c cnt nd lv) {E' : Path → Prop} {ex' : Prop} (hE : ex' → ex ∧ ∀ q, E q → E' q) : Lx w B L K sub E' ex' a c cnt nd lv :=
  ⟨h.base, h.size, h.tri, h.head, h.out, fun hx q y hq => by
    obtain ⟨h1, h2⟩ := hE hx
    rcases h.live h1 q y hq with e | e
    · exact .inl (h2 q e)
    · exact .inr e⟩
theorem Lx.mono (h : Lx w B L K sub E ex a c cnt nd lv) {K' : Nat} (hK : K ≤ K') : Lx w B L K' sub E ex a c cnt nd lv :=
  ⟨h.base, h.size, ⟨fun p x hp => by obtain ⟨a, b, c, d⟩ := h.tri.lev p x hp; exact ⟨a, b, c, d.mono hK⟩, fun p x hp => by obtain ⟨a, b, c, d⟩ := h.tri.node p x hp; exact ⟨a, b, c, d.mono hK⟩, h.tri.linj, h.tri.ninj, h.tri.cross, h.tri.up, h.tri.lvnd, h.tri.nonil⟩, h.head, h.out, h.live⟩
theorem setS_none (hout : ∀ p, nd p = none → ∀ v, sub p v = none) {q : Path} (hq : nd q = none) : setS sub q (fun _ => none) = sub := by
  funext p v
  unfold setS
  split
  · subst_vars
    exact (hout _ hq v).symm
  · rfl
/-- The head of a list is no level's, no node's, no map. -/
theorem Lx.headK (h : Lx w B L K sub E ex a c cnt nd lv) {F : Nat → Prop} (hf : Fr F w w') (hL : ¬ F L) {x : Nat × Nat} (hx : lv [] = some x) : Blk w' L 81 (hdr a c (.pointer (some ⟨x.1, 0, none⟩)) cnt) := by
  obtain ⟨y, hy, hh⟩ := h.head
  rw [hx] at hy
  injection hy with hy
  subst hy
  exact hh.fr hf hL
theorem Lx.neLev (h : Lx w B L K sub E ex a c cnt nd lv) {p : Path} {x : Nat × Nat} (hx : lv p = some x) : ¬ (L = x.1 ∨ L = x.2) := by
  obtain ⟨y, hy, hh⟩ := h.head
  obtain ⟨_, _, hB, hM⟩ := h.tri.lev p x hx
  rintro (e | e)
  · exact blk_ne hh hB (by decide) e
  · exact map_ne hh hM e
theorem Lx.neNode (h : Lx w B L K sub E ex a c cnt nd lv) {p : Path} {x : Nat × Nat} (hx : nd p = some x) : L ≠ x.1 ∧ L ≠ x.2 := by
  obtain ⟨y, hy, hh⟩ := h.head
  obtain ⟨_, _, hB, hM⟩ := h.tri.node p x hx
  exact ⟨blk_ne hh hB (by decide), map_ne hh hM⟩
theorem Lx.newNode (h : Lx w B L K sub E ex a c cnt nd lv) {p : Path} {t : ByteArray} {x y : Nat × Nat} (hx : lv p = some x) (hn : nd (p ++ [t]) = none) (hf : Fr (fun k => k = x.1 ∨ k = x.2) w w') (h1 : w.heap.size ≤ y.1) (h2 : w.heap.size ≤ y.2)
    (hN : Blk w' y.1 95 [.pointer none, .map (some y.2)]) (hS : Mp VS w' y.2 (K + 1) (fun _ => none)) (hL : Blk w' x.1 85 [.map (some x.2), ptrA (kid (upd nd (p ++ [t]) y) p star), ptrA (kid (upd nd (p ++ [t]) y) p full)]) (hM : Mp VN w' x.2 (K + 1) (kids (upd nd (p ++ [t]) y) p)) :
    Lx w' B L (K + 1) sub (fun q => E q ∨ q = p ++ [t]) ex a c cnt (upd nd (p ++ [t]) y) lv := by
  have h3 := h.size
  have h4 := hf.size
  refine ⟨h.base, by omega, ?_, ?_, fun q hq v => ?_, fun hx' q z hz => ?_⟩
  · have := h.tri.newNode hx hn hf h.size h1 h2 hN hS hL hM
    rwa [setS_none h.out hn] at this
  · obtain ⟨z, hz, hh⟩ := h.head
    exact ⟨z, hz, h.headK hf (h.neLev hx) hz⟩
  · unfold upd at hq
    split at hq
    · cases hq
    · exact h.out q hq v
  · unfold upd at hz
    split at hz
    · exact .inl (.inr (by assumption))
    · rcases h.live hx' q z hz with e | e
      · exact .inl (.inl e)
      · exact .inr e
theorem Lx.newLevel (h : Lx w B L K sub E ex a c cnt nd lv) {q : Path} {x y : Nat × Nat} (hx : nd q = some x) (hn : lv q = none) (hf : Fr (fun k => k = x.1) w w') (h1 : w.heap.size ≤ y.1) (h2 : w.heap.size ≤ y.2)
    (hL : Blk w' y.1 85 [.map (some y.2), .pointer none, .pointer none]) (hM : Mp VN w' y.2 K (fun _ => none)) (hN : Blk w' x.1 95 [.pointer (some ⟨y.1, 0, none⟩), .map (some x.2)]) : Lx w' B L K sub E ex a c cnt nd (upd lv q y) := by
  have h3 := h.size
  have h4 := hf.size
  refine ⟨h.base, by omega, h.tri.newLevel hx hn hf h.size h1 h2 hL hM hN, ?_, h.out, h.live⟩
  obtain ⟨z, hz, hh⟩ := h.head
  refine ⟨z, ?_, h.headK hf (h.neNode hx).1 hz⟩
  unfold upd
  rw [if_neg]
  · exact hz
  · rintro rfl
    rw [hz] at hn
    cases hn
theorem Lx.subs (h : Lx w B L K sub E ex a c cnt nd lv) {q : Path} {x : Nat × Nat} (hx : nd q = some x) {K' : Nat} (hK : K ≤ K') (hf : Fr (fun k => k = x.2) w w') {m : Int → Option ByteArray} (hM : Mp VS w' x.2 K' m) {E' : Path → Prop} {ex' : Prop}
    (hl : ex' → Live nd (setS sub q m) E') : Lx w' B L K' (setS sub q m) E' ex' a c cnt nd lv := by
  have h3 := h.size
  have h4 := hf.size
  refine ⟨h.base, by omega, h.tri.subs hx hK hf hM, ?_, fun p hp v => ?_, hl⟩
  · obtain ⟨z, hz, hh⟩ := h.head
    exact ⟨z, hz, h.headK hf (h.neNode hx).2 hz⟩
  · unfold setS
    split
    · subst_vars
      rw [hx] at hp
      cases hp
    · exact h.out p hp v
theorem Lx.prune (h : Lx w B L K sub E ex a c cnt nd lv) {p : Path} {t : ByteArray} {x : Nat × Nat} (hx : lv p = some x) (hk : ∀ u, nd (p ++ [t] ++ [u]) = none) (hs : ∀ v, sub (p ++ [t]) v = none) (hf : Fr (fun k => k = x.1 ∨ k = x.2) w w')
    (hL : Blk w' x.1 85 [.map (some x.2), ptrA (kid (del nd (p ++ [t])) p star), ptrA (kid (del nd (p ++ [t])) p full)]) (hM : Mp VN w' x.2 K (kids (del nd (p ++ [t])) p)) {E' : Path → Prop} (hE : ∀ q, q ≠ p ++ [t] → E q → E' q) : 
    Lx w' B L K sub E' ex a c cnt (del nd (p ++ [t])) (del lv (p ++ [t])) := by
  have h3 := h.size
  have h4 := hf.size
  refine ⟨h.base, by omega, h.tri.prune hx hk hf hL hM, ?_, fun q hq v => ?_, fun hx' q z hz => ?_⟩
  · obtain ⟨z, hz, hh⟩ := h.head
    refine ⟨z, ?_, h.headK hf (h.neLev hx) hz⟩
    unfold del
    rw [if_neg (fun e => ne_nil p t e.symm)]
    exact hz
  · unfold del at hq
    split at hq
    · subst_vars
      exact hs v
    · exact h.out q hq v
  · obtain ⟨e1, e2⟩ := del_some hz
    rcases h.live hx' q z e2 with e | e
    · exact .inl (hE q e1 e)
    · exact .inr e
/-! ### one token's place in a level -/
theorem kid_same (t : ByteArray) (p : Path) (y : Nat × Nat) : kid (upd nd (p ++ [t]) y) p t = some y.1 := by unfold kid upd; rw [if_pos rfl]; rfl
theorem kid_other {t u : ByteArray} (p : Path) (y : Nat × Nat) (h : u ≠ t) : kid (upd nd (p ++ [t]) y) p u = kid nd p u := by
  unfold kid upd
  rw [if_neg]
  intro e
  have := List.append_inj_right' e rfl
  injection this with this
  exact h this
theorem kid_gone (t : ByteArray) (p : Path) : kid (del nd (p ++ [t])) p t = none := by unfold kid del; rw [if_pos rfl]; rfl
theorem kid_kept {t u : ByteArray} (p : Path) (h : u ≠ t) : kid (del nd (p ++ [t])) p u = kid nd p u := by
  unfold kid del
  rw [if_neg]
  intro e
  have := List.append_inj_right' e rfl
  injection this with this
  exact h this
theorem kids_put {t : ByteArray} (p : Path) (y : Nat × Nat) (h1 : t ≠ star) (h2 : t ≠ full) (u : ByteArray) : kids (upd nd (p ++ [t]) y) p u = upd (kids nd p) t (some y.1) u := by
  unfold upd
  split
  · subst_vars
    unfold kids
    rw [if_neg (by rintro (e | e); exact h1 e; exact h2 e)]
    show Option.map some (kid (upd nd (p ++ [u]) y) p u) = _
    rw [kid_same]
    rfl
  · unfold kids
    show (if _ then none else Option.map some (kid (upd nd (p ++ [t]) y) p u)) = _
    rw [kid_other p y (by assumption)]
theorem kids_sign {t : ByteArray} (p : Path) (y : Nat × Nat) (h : t = star ∨ t = full) (u : ByteArray) : kids (upd nd (p ++ [t]) y) p u = kids nd p u := by
  unfold kids
  split
  · rfl
  · rw [kid_other p y]
    rintro rfl
    exact absurd h (by assumption)
theorem kids_rem {t : ByteArray} (p : Path) (h1 : t ≠ star) (h2 : t ≠ full) (u : ByteArray) : kids (del nd (p ++ [t])) p u = del (kids nd p) t u := by
  by_cases hu : u = t
  · subst hu
    unfold kids
    rw [kid_gone]
    unfold del
    rw [if_pos rfl]
    split <;> rfl
  · have e : del (kids nd p) t u = kids nd p u := by unfold del; rw [if_neg hu]
    rw [e]
    unfold kids
    rw [kid_kept p hu]
theorem kids_unsign {t : ByteArray} (p : Path) (h : t = star ∨ t = full) (u : ByteArray) : kids (del nd (p ++ [t])) p u = kids nd p u := by
  unfold kids
  split
  · rfl
  · rw [kid_kept p]
    rintro rfl
    exact absurd h (by assumption)
theorem kids_get {t : ByteArray} (p : Path) (h1 : t ≠ star) (h2 : t ≠ full) : (kids nd p t).getD none = kid nd p t := by
  unfold kids
  rw [if_neg (by rintro (e | e); exact h1 e; exact h2 e)]
  cases kid nd p t <;> rfl
end
end Go.Proofs.YtimffhpnfdikoaaDoor.Ls
