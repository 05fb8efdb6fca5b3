/- A put into a list: what its steps make of the whole. -/
import Derived.Test.YtimffhpnfdikoaaDoorLsI
namespace Go.Proofs.YtimffhpnfdikoaaDoor.Ls
open Go.RowKit Go.Maps Go.Proofs.YtimffhpnfdikoaaDoor.Bs Go.Proofs.YtimffhpnfdikoaaDoorW.PrintWords Go.Proofs.YtimffhpnfdikoaaDoorW.PrintLast Go.Proofs.YtimffhpnfdikoaaDoorW.PrintMore
set_option linter.unusedVariables false
set_option linter.unusedSimpArgs false
/-- Tokens that are a subject's, or a filter's. -/
def okF : Bool → List ByteArray → Bool
  | _, [] => true
  | sf, t :: r => if t.size = 0 ∨ sf = true then false else okF (decide (t = full)) r
section
variable {w w2 w3 : World} {B L K : Nat} {nd lv : Pm} {sub : Path → Int → Option ByteArray} {E : Path → Prop} {ex : Prop} {a c cnt : Int}
theorem Lx.wfLev (h : Lx w B L K sub E ex a c cnt nd lv) {p : Path} {x : Nat × Nat} (hx : lv p = some x) : WF B w x.1 ∧ WF B w x.2 := by
  obtain ⟨b1, b2, hB, hM⟩ := h.tri.lev p x hx
  exact ⟨⟨b1, Blk.wk hB (.inr (.inl rfl))⟩, ⟨b2, Mp.wk hM⟩⟩
theorem Lx.wfNode (h : Lx w B L K sub E ex a c cnt nd lv) {p : Path} {x : Nat × Nat} (hx : nd p = some x) : WF B w x.1 ∧ WF B w x.2 := by
  obtain ⟨b1, b2, hB, hM⟩ := h.tri.node p x hx
  exact ⟨⟨b1, Blk.wk hB (.inr (.inr rfl))⟩, ⟨b2, Mp.wk hM⟩⟩
theorem Lx.putMap (h : Lx w B L K sub E ex a c cnt nd lv) {p : Path} {t : ByteArray} {x y : Nat × Nat} (hx : lv p = some x) (hn : nd (p ++ [t]) = none) (h1 : w.heap.size ≤ y.1) (h2 : w.heap.size ≤ y.2) (hS : Same w w2)
    (hN : Blk w2 y.1 95 [.pointer none, .map (some y.2)]) (hM : Mp VS w2 y.2 0 (fun _ => none)) (t1 : t ≠ star) (t2 : t ≠ full) (hU : Mp VN w3 x.2 (K + 1) (upd (kids nd p) t (some y.1))) (hF : Fr (fun k => k = x.2) w2 w3) :
    Lx w3 B L (K + 1) sub (fun q => E q ∨ q = p ++ [t]) ex a c cnt (upd nd (p ++ [t]) y) lv ∧ Fr (WF B w) w w3 := by
  obtain ⟨b1, b2, hB, hMx⟩ := h.tri.lev p x hx
  have l1 := hB.lt
  have l2 := hMx.lt
  have hf : Fr (fun k => k = x.1 ∨ k = x.2) w w3 := (hS.mono (fun _ h => h.elim)).trans hF (fun k _ hk => .inr hk)
  refine ⟨h.newNode hx hn hf h1 h2 (hN.fr hF (by omega)) ((hM.fr hF (by omega)).mono (Nat.zero_le _)) ?_ (hU.congr (kids_put p y t1 t2)), fr_wf hf (fun k _ hk => ?_)⟩
  · rw [kid_other p y (fun e => t1 e.symm), kid_other p y (fun e => t2 e.symm)]
    exact (hB.fr hS (fun h => h)).fr hF (map_ne hB hMx)
  · rcases hk with rfl | rfl
    · exact (h.wfLev hx).1
    · exact (h.wfLev hx).2
theorem Lx.putSign (h : Lx w B L K sub E ex a c cnt nd lv) {p : Path} {t : ByteArray} {x y : Nat × Nat} (hx : lv p = some x) (hn : nd (p ++ [t]) = none) (h1 : w.heap.size ≤ y.1) (h2 : w.heap.size ≤ y.2) (hS : Same w w2)
    (hN : Blk w2 y.1 95 [.pointer none, .map (some y.2)]) (hM : Mp VS w2 y.2 0 (fun _ => none)) {o : Nat} (ht : (t = star ∧ o = 1) ∨ (t = full ∧ o = 2)) :
    Lx (w2.setCell ⟨x.1, o, none⟩ (.pointer (some ⟨y.1, 0, none⟩))) B L (K + 1) sub (fun q => E q ∨ q = p ++ [t]) ex a c cnt (upd nd (p ++ [t]) y) lv ∧ Fr (WF B w) w (w2.setCell ⟨x.1, o, none⟩ (.pointer (some ⟨y.1, 0, none⟩))) := by
  obtain ⟨b1, b2, hB, hMx⟩ := h.tri.lev p x hx
  have l1 := hB.lt
  have l2 := hMx.lt
  have hF : Fr (fun k => k = x.1) w2 (w2.setCell ⟨x.1, o, none⟩ (.pointer (some ⟨y.1, 0, none⟩))) := fr_set1 (F := fun k => k = x.1) (Fr.refl _ _) rfl _
  have hf : Fr (fun k => k = x.1 ∨ k = x.2) w (w2.setCell ⟨x.1, o, none⟩ (.pointer (some ⟨y.1, 0, none⟩))) := (hS.mono (fun _ h => h.elim)).trans hF (fun k _ hk => .inl hk)
  refine ⟨h.newNode hx hn hf h1 h2 (hN.fr hF (by omega)) ((hM.fr hF (by omega)).mono (Nat.zero_le _)) ?_ ((((hMx.fr hS (fun h => h)).fr hF (fun e => map_ne hB hMx e.symm)).mono (Nat.le_succ _)).congr (kids_sign p y (ht.imp And.left And.left))), fr_wf hf (fun k _ hk => ?_)⟩
  · have hb := hB.fr hS (fun h => h)
    rcases ht with ⟨rfl, rfl⟩ | ⟨rfl, rfl⟩
    · rw [kid_same, kid_other p y (fun e => star_full e.symm)]
      exact hb.set 1 (by simp) _
    · rw [kid_same, kid_other p y star_full]
      exact hb.set 2 (by simp) _
  · rcases hk with rfl | rfl
    · exact (h.wfLev hx).1
    · exact (h.wfLev hx).2
theorem Lx.putLevel (h : Lx w B L K sub E ex a c cnt nd lv) {q : Path} {x y : Nat × Nat} (hx : nd q = some x) (hn : lv q = none) (h1 : w.heap.size ≤ y.1) (h2 : w.heap.size ≤ y.2) (hS : Same w w2)
    (hL : Blk w2 y.1 85 [.map (some y.2), .pointer none, .pointer none]) (hM : Mp VN w2 y.2 0 (fun _ => none)) :
    Lx (w2.setCell ⟨x.1, 0, none⟩ (.pointer (some ⟨y.1, 0, none⟩))) B L K sub E ex a c cnt nd (upd lv q y) ∧ Fr (WF B w) w (w2.setCell ⟨x.1, 0, none⟩ (.pointer (some ⟨y.1, 0, none⟩))) := by
  obtain ⟨b1, b2, hB, hMx⟩ := h.tri.node q x hx
  have l1 := hB.lt
  have l2 := hMx.lt
  have hF : Fr (fun k => k = x.1) w2 (w2.setCell ⟨x.1, 0, none⟩ (.pointer (some ⟨y.1, 0, none⟩))) := fr_set1 (F := fun k => k = x.1) (Fr.refl _ _) rfl _
  have hf : Fr (fun k => k = x.1) w (w2.setCell ⟨x.1, 0, none⟩ (.pointer (some ⟨y.1, 0, none⟩))) := (hS.mono (fun _ h => h.elim)).trans hF (fun k _ hk => hk)
  refine ⟨h.newLevel hx hn hf h1 h2 (hL.fr hF (by omega)) ((hM.fr hF (by omega)).mono (Nat.zero_le _)) ?_, fr_wf hf (fun k _ hk => ?_)⟩
  · have := (hB.fr hS (fun h => h)).set 0 (by simp) (.pointer (some ⟨y.1, 0, none⟩))
    rw [hn] at this
    exact this
  · subst hk
    exact (h.wfNode hx).1
/-- The subject is laid down, the list counts it. -/
theorem live_put {T : Path} {v : Int} {s : ByteArray} (h : Live nd sub (fun q => q <+: T)) : Live nd (setS sub T (upd (sub T) v s)) (fun _ => False) := by
  intro q y hq
  right
  rcases h q y hq with ⟨r, e⟩ | ⟨r, v', s', e⟩
  · refine ⟨r, v, s, ?_⟩
    unfold setS
    rw [if_pos e]
    unfold upd
    rw [if_pos rfl]
  · by_cases hT : q ++ r = T
    · by_cases hv : v' = v
      · refine ⟨r, v, s, ?_⟩
        unfold setS
        rw [if_pos hT]
        unfold upd
        rw [if_pos rfl]
      · refine ⟨r, v', s', ?_⟩
        unfold setS
        rw [if_pos hT]
        unfold upd
        rw [if_neg hv, ← hT]
        exact e
    · refine ⟨r, v', s', ?_⟩
      unfold setS
      rw [if_neg hT]
      exact e
theorem pre_snoc {p q : Path} {t : ByteArray} : q <+: p ++ [t] ↔ q <+: p ∨ q = p ++ [t] := by
  constructor
  · rintro ⟨r, e⟩
    rcases List.eq_nil_or_concat r with rfl | ⟨r', u, rfl⟩
    · exact .inr (by simpa using e)
    · rw [List.concat_eq_append, ← List.append_assoc] at e
      exact .inl ⟨r', List.append_inj_left' e rfl⟩
  · rintro (h | h)
    · exact h.trans (List.prefix_append _ _)
    · rw [h]
      exact List.prefix_refl _
end
/-- A put on its way: i tokens are behind it. -/
structure InS (W1 : World) (B L K : Nat) (sub : Path → Int → Option ByteArray) (ex : Prop) (cnt : Int) (T : Path) (i : Nat) (sf : Bool) (vn : Value) (x : Nat × Nat) (nd lv : Pm) (w : World) : Prop where
  lx : Lx w B L (K + i) sub (fun q => q <+: T.take i) ex 1 low30 cnt nd lv
  lev : lv (T.take i) = some x
  node : 0 < i → ∃ y, nd (T.take i) = some y ∧ vn = .pointer (some ⟨y.1, 0, none⟩)
  ok : okF false T = okF sf (T.drop i)
  fr : Fr (WF B W1) W1 w
structure InsPost (W : World) (B L K : Nat) (sub : Path → Int → Option ByteArray) (ex : Prop) (cnt : Int) (T : Path) (s : ByteArray) (v : Int) (e : Ending) (w' : World) : Prop where
  fr : Fr (WF B W) W w'
  ok : okF false T = true → e = .returned .nilIface ∧ Li w' B L (K + T.length + 1) (setS sub T (upd (sub T) v s)) ex (IntKind.u32.wrap (cnt + 1))
  bad : okF false T = false → (∃ t0 a0, e = .returned (.iface t0 (.pointer (some a0)))) ∧ Li w' B L (K + T.length + 1) sub False cnt
section
variable {W1 w w2 w3 : World} {B L K i : Nat} {nd lv : Pm} {sub : Path → Int → Option ByteArray} {ex : Prop} {cnt : Int} {T : Path} {sf : Bool} {vn : Value} {x : Nat × Nat} {t : ByteArray}
theorem take_snoc (ht : T[i]? = some t) : T.take (i + 1) = T.take i ++ [t] := by
  obtain ⟨h, rfl⟩ := List.getElem?_eq_some_iff.1 ht
  rw [List.take_add_one, List.getElem?_eq_getElem h]
  rfl
theorem drop_cons (ht : T[i]? = some t) : T.drop i = t :: T.drop (i + 1) := by
  obtain ⟨h, rfl⟩ := List.getElem?_eq_some_iff.1 ht
  exact List.drop_eq_getElem_cons h
theorem InS.bad (h : InS W1 B L K sub ex cnt T i sf vn x nd lv w) (ht : T[i]? = some t) (hb : t.size = 0 ∨ sf = true) : okF false T = false := by
  rw [h.ok, drop_cons ht]
  unfold okF
  rw [if_pos hb]
/-- The round's end. -/
theorem InS.next (h : InS W1 B L K sub ex cnt T i sf vn x nd lv w) (ht : T[i]? = some t) (hb : ¬ (t.size = 0 ∨ sf = true)) {nd' lv' : Pm} {y z : Nat × Nat} (hX : Lx w3 B L (K + (i + 1)) sub (fun q => q <+: T.take i ∨ q = T.take i ++ [t]) ex 1 low30 cnt nd' lv') (hy : nd' (T.take i ++ [t]) = some y) (hz : lv' (T.take i ++ [t]) = some z)
    (hF : Fr (WF B W1) W1 w3) : InS W1 B L K sub ex cnt T (i + 1) (decide (t = full)) (.pointer (some ⟨y.1, 0, none⟩)) z nd' lv' w3 := by
  refine ⟨hX.congrE (fun h => ⟨h, fun q hq => ?_⟩), ?_, fun _ => ⟨y, ?_, rfl⟩, ?_, hF⟩
  · rw [take_snoc ht]
    exact pre_snoc.2 hq
  · rw [take_snoc ht]; exact hz
  · rw [take_snoc ht]; exact hy
  · rw [h.ok, drop_cons ht]
    conv => lhs; unfold okF
    rw [if_neg hb]
end
end Go.Proofs.YtimffhpnfdikoaaDoor.Ls
