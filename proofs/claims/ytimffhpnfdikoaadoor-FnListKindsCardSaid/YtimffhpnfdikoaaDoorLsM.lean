/- A take out of a list: what its steps make of the whole. -/
import Derived.Test.YtimffhpnfdikoaaDoorLsK
import Derived.Test.YtimffhpnfdikoaaDoorLsL
namespace Go.Proofs.YtimffhpnfdikoaaDoor.Ls
open Go.RowKit Go.Maps Go.Proofs.YtimffhpnfdikoaaDoor.Bs Go.Proofs.YtimffhpnfdikoaaDoorW.PrintWords Go.Proofs.YtimffhpnfdikoaaDoorW.PrintLast Go.Proofs.YtimffhpnfdikoaaDoorW.PrintMore
set_option linter.unusedVariables false
set_option linter.unusedSimpArgs false
abbrev S13 : TypeId → Prop := fun T => T = 114 ∨ T = 113
/-- The levels, nodes and tokens that a take has passed. -/
structure Ent (nd lv : Pm) (T : Path) (n : Nat) (xs : List Value) : Prop where
  len : xs.length = n * 3
  ent : ∀ j, j < n → ∃ x y t, lv (T.take j) = some x ∧ nd (T.take j ++ [t]) = some y ∧ T[j]? = some t ∧ xs[j * 3]? = some (.pointer (some ⟨x.1, 0, none⟩)) ∧ xs[j * 3 + 1]? = some (.pointer (some ⟨y.1, 0, none⟩)) ∧ xs[j * 3 + 2]? = some (.string t)
theorem Ent.push {nd lv : Pm} {T : Path} {n : Nat} {xs : List Value} (h : Ent nd lv T n xs) {x y : Nat × Nat} {t : ByteArray} (hx : lv (T.take n) = some x) (hy : nd (T.take n ++ [t]) = some y) (ht : T[n]? = some t) :
    Ent nd lv T (n + 1) (xs ++ [.pointer (some ⟨x.1, 0, none⟩), .pointer (some ⟨y.1, 0, none⟩), .string t]) := by
  have hl := h.len
  refine ⟨by rw [List.length_append, hl]; simp; omega, fun j hj => ?_⟩
  by_cases hjn : j < n
  · obtain ⟨x', y', t', h1, h2, h3, h4, h5, h6⟩ := h.ent j hjn
    exact ⟨x', y', t', h1, h2, h3, by rw [List.getElem?_append_left (by omega)]; exact h4, by rw [List.getElem?_append_left (by omega)]; exact h5, by rw [List.getElem?_append_left (by omega)]; exact h6⟩
  · obtain rfl : j = n := by omega
    refine ⟨x, y, t, hx, hy, ht, ?_, ?_, ?_⟩
    · rw [List.getElem?_append_right (by omega), hl, show j * 3 - j * 3 = 0 by omega]; rfl
    · rw [List.getElem?_append_right (by omega), hl, show j * 3 + 1 - j * 3 = 1 by omega]; rfl
    · rw [List.getElem?_append_right (by omega), hl, show j * 3 + 2 - j * 3 = 2 by omega]; rfl
/-- A take on its way down: i tokens are behind it. -/
structure RmS (w1 : World) (nd lv : Pm) (T : Path) (gt : Nat) (i : Nat) (sf : Bool) (vn vl v13 : Value) (w : World) : Prop where
  same : Same w1 w
  tok : Tok w gt T
  ok : okF false T = okF sf (T.drop i)
  vn : vn = ptrA ((nd (T.take i)).map Prod.fst)
  vl : vl = ptrA ((lv (T.take i)).map Prod.fst)
  row : ∃ n xs, AG S13 w w1.heap.size 3 v13 n xs ∧ Ent nd lv T n xs ∧ n ≤ i ∧ (nd (T.take i) ≠ none ∨ i = 0 → n = i)
section
variable {w1 w w' : World} {B L K : Nat} {nd lv : Pm} {sub : Path → Int → Option ByteArray} {ex : Prop} {cnt : Int} {T : Path} {i gt : Nat} {sf : Bool} {vn vl v13 : Value} {t : ByteArray}
theorem RmS.bad (h : RmS w1 nd lv T gt i sf vn vl v13 w) (ht : T[i]? = some t) (hb : t.size = 0 ∨ sf = true) : okF false T = false := by
  rw [h.ok, drop_cons ht]
  unfold okF
  rw [if_pos hb]
theorem RmS.okn (h : RmS w1 nd lv T gt i sf vn vl v13 w) (ht : T[i]? = some t) (hb : ¬ (t.size = 0 ∨ sf = true)) : okF false T = okF (decide (t = full)) (T.drop (i + 1)) := by
  rw [h.ok, drop_cons ht]
  conv => lhs; unfold okF
  rw [if_neg hb]
/-- A path without a level has no node below. -/
theorem Tri.below (h : Tri w B K nd lv sub) {p : Path} (hl : lv p = none) : ∀ (n : Nat) (r : Path), r.length = n → r ≠ [] → nd (p ++ r) = none
  | 0, r, hn, hr => absurd (List.length_eq_zero_iff.1 hn) hr
  | n + 1, r, hn, hr => by
    cases hq : nd (p ++ r) with
    | none => rfl
    | some y =>
      rcases List.eq_nil_or_concat r with rfl | ⟨r', u, rfl⟩
      · exact absurd rfl hr
      · rw [List.concat_eq_append, ← List.append_assoc] at hq
        obtain ⟨z, hz⟩ := h.up _ _ _ hq
        by_cases hr0 : r' = []
        · subst hr0
          rw [List.append_nil, hl] at hz
          cases hz
        · obtain ⟨y', hy'⟩ := h.lvnd _ _ (by intro e; have := List.append_eq_nil_iff.1 e; exact hr0 this.2) hz
          have := Tri.below h hl n r' (by simp at hn; omega) hr0
          rw [this] at hy'
          cases hy'
theorem RmS.none (h : RmS w1 nd lv T gt i sf vn vl v13 w) (hT : Tri w B K nd lv sub) (hi : i < T.length) (hl : lv (T.take i) = Option.none) : nd T = Option.none := by
  have := hT.below hl _ (T.drop i) rfl (by intro e; have := List.drop_eq_nil_iff.1 e; omega)
  rwa [List.take_append_drop] at this
theorem tok_block {w : World} {g k : Nat} {T : Path} {cs : Array Value} {t : TypeId} {z : Nat × Nat} (h : Tok w g T) (hk : w.heap[k]? = some (.cells cs t z)) (hS : S13 t) : k ≠ g := by
  rintro rfl
  obtain ⟨cur, hb⟩ := h.blk
  rw [hb] at hk
  injection hk with hk
  injection hk with _ hk _
  subst hk
  rcases hS with hS | hS <;> exact absurd hS (by decide)
theorem RmS.next (h : RmS w1 nd lv T gt i sf vn vl v13 w) (hT : Tri w B K nd lv sub) (ht : T[i]? = some t) (hb : ¬ (t.size = 0 ∨ sf = true)) {x y : Nat × Nat} (hx : lv (T.take i) = some x) (hy : nd (T.take i ++ [t]) = some y) {n : Nat} {xs : List Value} (hA : AG S13 w w1.heap.size 3 v13 n xs) (hE : Ent nd lv T n xs) (hn : n = i) {o : Obj} {v' : Value}
    (hP : AGPost S13 (w.alloc o) w1.heap.size 3 v13 (n + 1) (xs ++ [.pointer (some ⟨x.1, 0, Option.none⟩), .pointer (some ⟨y.1, 0, Option.none⟩), .string t]) v' w') :
    RmS w1 nd lv T gt (i + 1) (decide (t = full)) (.pointer (some ⟨y.1, 0, Option.none⟩)) (ptrA ((lv (T.take i ++ [t])).map Prod.fst)) v' w' := by
  subst hn
  obtain ⟨g, cap, cur, T', rfl, h1, h2, h3, h4, h5⟩ := hA.block
  refine ⟨?_, ?_, h.okn ht hb, ?_, ?_, n + 1, _, hP.row, hE.push hx hy ht, Nat.le_refl _, fun _ => rfl⟩
  · refine (h.same.alloc o).trans hP.fr (fun k hk e => ?_)
    have : g = k := by simpa [Value.ownBlock] using e
    omega
  · refine Tok.fr (Tok.fr h.tok ((Fr.refl (fun _ => False) w).alloc o) (fun h => h)) hP.fr (fun e => ?_)
    have : g = gt := by simpa [Value.ownBlock] using e
    exact tok_block h.tok h5 h4 this
  · rw [take_snoc ht, hy]; rfl
  · rw [take_snoc ht]
theorem RmS.lost (h : RmS w1 nd lv T gt i sf vn vl v13 w) (hT : Tri w B K nd lv sub) (ht : T[i]? = some t) (hb : ¬ (t.size = 0 ∨ sf = true)) (hy : nd (T.take i ++ [t]) = Option.none) :
    RmS w1 nd lv T gt (i + 1) (decide (t = full)) (.pointer Option.none) (.pointer Option.none) v13 w := by
  obtain ⟨n, xs, hA, hE, hn, -⟩ := h.row
  refine ⟨h.same, h.tok, h.okn ht hb, ?_, ?_, n, xs, hA, hE, by omega, fun e => ?_⟩
  · rw [take_snoc ht, hy]; rfl
  · rw [take_snoc ht]
    cases hl : lv (T.take i ++ [t]) with
    | none => rfl
    | some z =>
      obtain ⟨y, hy'⟩ := hT.lvnd _ _ (ne_nil _ _) hl
      rw [hy] at hy'
      cases hy'
  · rw [take_snoc ht, hy] at e
    rcases e with e | e
    · exact absurd rfl e
    · omega
end
/-- A take on its way back: m nodes of the path are still to be looked at. -/
structure RmT (w1 : World) (B L K : Nat) (sub : Path → Int → Option ByteArray) (ex : Prop) (cnt : Int) (nd0 lv0 : Pm) (T : Path) (xs : List Value) (g cap m : Nat) (nd lv : Pm) (w : World) : Prop where
  lx : Lx w B L K sub (fun q => q <+: T.take m) ex 1 low30 cnt nd lv
  keep : ∀ q, q <+: T.take m → nd q = nd0 q ∧ lv q = lv0 q
  row : AG S13 w w1.heap.size 3 (.slice (some ⟨g, 0, none⟩) T.length cap) T.length xs
  fr : Fr (WF B w1) w1 w
section
variable {w1 w w' : World} {B L K : Nat} {nd0 lv0 nd lv : Pm} {sub : Path → Int → Option ByteArray} {ex : Prop} {cnt : Int} {T : Path} {xs : List Value} {g cap j : Nat} {t : ByteArray} {x y : Nat × Nat}
theorem pre_ne {p : Path} {t : ByteArray} (h : p ++ [t] <+: p) : False := by
  have := h.length_le
  simp at this
  omega
theorem RmT.get (h : RmT w1 B L K sub ex cnt nd0 lv0 T xs g cap (j + 1) nd lv w) (ht : T[j]? = some t) (hx : lv0 (T.take j) = some x) (hy : nd0 (T.take j ++ [t]) = some y) : lv (T.take j) = some x ∧ nd (T.take j ++ [t]) = some y := by
  rw [(h.keep (T.take j) (by rw [take_snoc ht]; exact List.prefix_append _ _)).2, (h.keep (T.take j ++ [t]) (by rw [take_snoc ht]; exact List.prefix_refl _)).1]
  exact ⟨hx, hy⟩
/-- The node is not empty. -/
theorem RmT.stay (h : RmT w1 B L K sub ex cnt nd0 lv0 T xs g cap (j + 1) nd lv w) (ht : T[j]? = some t) (hb : ¬ ((∀ v, sub (T.take j ++ [t]) v = none) ∧ ∀ u, nd (T.take j ++ [t] ++ [u]) = none)) : RmT w1 B L K sub ex cnt nd0 lv0 T xs g cap j nd lv w := by
  have e := take_snoc ht
  have hX := h.lx
  refine ⟨⟨hX.base, hX.size, hX.tri, hX.head, hX.out, fun hx q z hz => ?_⟩, fun q hq => h.keep q (by rw [e]; exact pre_snoc.2 (.inl hq)), h.row, h.fr⟩
  rcases hX.live hx q z hz with hq | hq
  · rw [e] at hq
    rcases pre_snoc.1 hq with hq | rfl
    · exact .inl hq
    · right
      by_cases hs : ∀ v, sub (T.take j ++ [t]) v = none
      · have : ∃ u, nd (T.take j ++ [t] ++ [u]) ≠ none := Classical.byContradiction fun hn => hb ⟨hs, fun u => Classical.byContradiction fun hu => hn ⟨u, hu⟩⟩
        obtain ⟨u, hu⟩ := this
        obtain ⟨z', hz'⟩ := Option.ne_none_iff_exists'.1 hu
        rcases hX.live hx _ _ hz' with hq' | ⟨r, v, s, hr⟩
        · rw [e] at hq'
          exact (pre_ne hq').elim
        · exact ⟨u :: r, v, s, by rw [← hr]; simp⟩
      · obtain ⟨v, hv⟩ := Classical.not_forall.1 hs
        obtain ⟨s, hs'⟩ := Option.ne_none_iff_exists'.1 hv
        exact ⟨[], v, s, by rw [List.append_nil]; exact hs'⟩
  · exact .inr hq
theorem RmT.cut (h : RmT w1 B L K sub ex cnt nd0 lv0 T xs g cap (j + 1) nd lv w) (ht : T[j]? = some t) (hx : lv (T.take j) = some x) (hs : ∀ v, sub (T.take j ++ [t]) v = none) (hk : ∀ u, nd (T.take j ++ [t] ++ [u]) = none) {e : Ending} (hP : PrunePost w nd K (T.take j) t x e w') :
    RmT w1 B L K sub ex cnt nd0 lv0 T xs g cap j (del nd (T.take j ++ [t])) (del lv (T.take j ++ [t])) w' := by
  have e0 := take_snoc ht
  refine ⟨h.lx.prune hx hk hs hP.fr hP.lev hP.map (fun q hq hq' => ?_), fun q hq => ?_, h.row.fr hP.fr (fun k hk' hx' => ?_), wf_trans h.fr (fr_wf hP.fr (fun k _ hk => ?_))⟩
  · rw [e0] at hq'
    rcases pre_snoc.1 hq' with hq' | hq'
    · exact hq'
    · exact absurd hq' hq
  · have hne : q ≠ T.take j ++ [t] := by rintro rfl; exact pre_ne hq
    obtain ⟨h1, h2⟩ := h.keep q (by rw [e0]; exact pre_snoc.2 (.inl hq))
    unfold del
    rw [if_neg hne, if_neg hne]
    exact ⟨h1, h2⟩
  · obtain ⟨g', cap', cur, T', e', q1, q2, q3, q4, q5⟩ := h.row.block
    injection e' with e1 _ _
    injection e1 with e1
    injection e1 with e1 _
    subst e1
    have hgk : g = k := by simpa [Value.ownBlock] using hk'
    subst hgk
    have hw : WK w g := by
      rcases hx' with hx' | hx'
      · rw [hx']; exact (h.lx.wfLev hx).1.2
      · rw [hx']; exact (h.lx.wfLev hx).2.2
    rcases q4 with q4 | q4 <;> (subst q4; exact not_wk q5 (by decide) (by decide) (by decide) hw)
  · rcases hk with rfl | rfl
    · exact (h.lx.wfLev hx).1
    · exact (h.lx.wfLev hx).2
theorem RmT.same {m : Nat} (h : RmT w1 B L K sub ex cnt nd0 lv0 T xs g cap m nd lv w) (hf : Same w w') : RmT w1 B L K sub ex cnt nd0 lv0 T xs g cap m nd lv w' :=
  ⟨h.lx.fr hf (fun _ _ h => h), h.keep, h.row.fr hf (fun _ _ h => h), wf_trans h.fr (same_wf hf)⟩
theorem RmT.done (h : RmT w1 B L K sub ex cnt nd0 lv0 T xs g cap 0 nd lv w) : Lx w B L K sub (fun _ => False) ex 1 low30 cnt nd lv := by
  have hX := h.lx
  refine ⟨hX.base, hX.size, hX.tri, hX.head, hX.out, fun hx q z hz => ?_⟩
  rcases hX.live hx q z hz with hq | hq
  · have : q = [] := by simpa using hq
    subst this
    rw [hX.tri.nonil] at hz
    cases hz
  · exact .inr hq
end
theorem ag_ne {w : World} {base g n c b : Nat} {xs cs : List Value} {T : TypeId} (h : AG S13 w base 3 (.slice (some ⟨g, 0, none⟩) n c) n xs) (hB : Blk w b T cs) (hT : T ≠ 114 ∧ T ≠ 113) : g ≠ b := by
  rintro rfl
  obtain ⟨g', cap', cur, T', e', q1, q2, q3, q4, q5⟩ := h.block
  injection e' with e1 _ _
  injection e1 with e1
  injection e1 with e1 _
  subst e1
  have := q5.symm.trans hB.blk
  injection this with this
  injection this with _ this _
  subst this
  rcases q4 with q4 | q4
  · exact hT.1 q4
  · exact hT.2 q4
theorem rms_at {w : World} {B K : Nat} {nd lv : Pm} {sub : Path → Int → Option ByteArray} {T : Path} {i n : Nat} {x : Nat × Nat} (hT : Tri w B K nd lv sub) (hx : lv (T.take i) = some x) (hi : i ≤ T.length) (h : nd (T.take i) ≠ none ∨ i = 0 → n = i) : n = i := by
  refine h ?_
  by_cases h0 : i = 0
  · exact .inr h0
  · obtain ⟨y, hy⟩ := hT.lvnd _ _ (by intro e; have := congrArg List.length e; rw [List.length_take, List.length_nil] at this; omega) hx
    exact .inl (by rw [hy]; simp)
theorem RmT.start {w1 w w' w5 : World} {B L K : Nat} {nd lv : Pm} {sub : Path → Int → Option ByteArray} {ex : Prop} {cnt cnt' : Int} {T : Path} {xs : List Value} {g cap : Nat} {y xr : Nat × Nat} {v : Int} (hS : Same w1 w) (h : Lx w B L K sub (fun _ => False) ex 1 low30 cnt nd lv) (hA : AG S13 w w1.heap.size 3 (.slice (some ⟨g, 0, none⟩) T.length cap) T.length xs) (hy : nd T = some y)
    (hM : Mp VS w' y.2 K (del (sub T) v)) (hf : Fr (fun k => k = y.2) w w') (hr : lv [] = some xr) (hb : Blk w5 L 81 (hdr 1 low30 (.pointer (some ⟨xr.1, 0, none⟩)) cnt')) (hf5 : Fr (fun k => k = L) w' w5) : RmT w1 B L K (setS sub T (del (sub T) v)) ex cnt' nd lv T xs g cap T.length nd lv w5 := by
  have h1 := h.subs hy (Nat.le_refl K) hf hM (E' := fun q => q <+: T) (ex' := ex) (fun hx q z hq => ?_)
  · refine ⟨?_, fun q hq => ⟨rfl, rfl⟩, ?_, ?_⟩
    · rw [List.take_length]
      refine h1.turn (fun x hx => ?_) hf5
      rw [hr] at hx
      injection hx with hx
      subst hx
      exact hb
    · refine (hA.fr hf (fun k hk e => ?_)).fr hf5 (fun k hk e => ?_)
      · obtain ⟨_, _, _, hM0⟩ := h.tri.node T y hy
        obtain ⟨g', cap', cur, T', e', q1, q2, q3, q4, q5⟩ := hA.block
        injection e' with e1 _ _
        injection e1 with e1
        injection e1 with e1 _
        subst e1
        have hgk : g = k := by simpa [Value.ownBlock] using hk
        subst hgk
        subst e
        have hw : WK w y.2 := Mp.wk hM0
        rcases q4 with q4 | q4 <;> (subst q4; exact not_wk q5 (by decide) (by decide) (by decide) hw)
      · have hgk : g = k := by simpa [Value.ownBlock] using hk
        subst hgk
        obtain ⟨z, hz, hh⟩ := h.head
        exact ag_ne hA hh ⟨by decide, by decide⟩ e
    · refine wf_trans (same_wf hS) (wf_trans (fr_wf hf (fun k _ hk => ?_)) (h1.frL hf5))
      subst hk
      exact (h.wfNode hy).2
  · by_cases hqT : q <+: T
    · exact .inl hqT
    · right
      rcases h.live hx q z hq with e | ⟨r, v', s, e⟩
      · exact e.elim
      · refine ⟨r, v', s, ?_⟩
        unfold setS
        rw [if_neg (fun e' => hqT ⟨r, e'⟩)]
        exact e
theorem setS_del_none {sub : Path → Int → Option ByteArray} {T : Path} {v : Int} (h : sub T v = none) : setS sub T (del (sub T) v) = sub := by
  funext q u
  unfold setS
  split
  · subst_vars
    unfold del
    split
    · subst_vars; exact h.symm
    · rfl
  · rfl
/-- A take's end. -/
structure RmPost (W : World) (B L K : Nat) (sub : Path → Int → Option ByteArray) (ex : Prop) (cnt : Int) (T : Path) (v : Int) (e : Ending) (w' : World) : Prop where
  fr : Fr (WF B W) W w'
  ok : okF false T = true → sub T v ≠ none → e = .returned .nilIface ∧ Li w' B L K (setS sub T (del (sub T) v)) ex (IntKind.u32.wrap (cnt - 1))
  bad : ¬ (okF false T = true ∧ sub T v ≠ none) → (∃ t0 a0, e = .returned (.iface t0 (.pointer (some a0)))) ∧ Li w' B L K sub ex cnt
section
variable {W w1 w w' : World} {B L K : Nat} {nd lv : Pm} {sub : Path → Int → Option ByteArray} {ex : Prop} {cnt : Int} {T : Path} {v : Int}
theorem Lx.unlocked (h : Lx w B L K sub (fun _ => False) ex 1 low30 cnt nd lv) {r : Value} (hb : Blk w L 81 (hdr 1 low30 r cnt)) (h4 : Blk w' L 81 (hdr 0 0 r cnt)) (hf : Fr (fun k => k = L) w w') : Li w' B L K sub ex cnt := by
  refine ⟨nd, lv, h.turn (fun x hx => ?_) hf⟩
  obtain ⟨z, hz, hh⟩ := h.head
  rw [hz] at hx
  injection hx with hx
  subst hx
  have := hb.blk.symm.trans hh.blk
  injection this with this
  injection this with this
  have e : hdr 1 low30 r cnt = hdr 1 low30 (.pointer (some ⟨z.1, 0, none⟩)) cnt := by simpa using this
  have e2 : r = .pointer (some ⟨z.1, 0, none⟩) := by
    unfold hdr at e
    simpa using e
  rw [← e2]
  exact h4
/-- The list is as it was. -/
theorem rm_bad (hW : Fr (WF B W) W w) (h : Lx w B L K sub (fun _ => False) ex 1 low30 cnt nd lv) {r : Value} (hb : Blk w L 81 (hdr 1 low30 r cnt)) (hbad : ¬ (okF false T = true ∧ sub T v ≠ none)) {t0 : TypeId} {a0 : Addr} (h4 : Blk w' L 81 (hdr 0 0 r cnt)) (hf : Fr (fun k => k = L) w w') :
    RmPost W B L K sub ex cnt T v (.returned (.iface t0 (.pointer (some a0)))) w' :=
  ⟨wf_trans hW (h.frL hf), fun h1 h2 => absurd ⟨h1, h2⟩ hbad, fun _ => ⟨⟨_, _, rfl⟩, h.unlocked hb h4 hf⟩⟩
theorem rm_ok {cnt' : Int} (hW : Fr (WF B W) W w) (hgood : okF false T = true ∧ sub T v ≠ none) (h : Lx w B L K (setS sub T (del (sub T) v)) (fun _ => False) ex 1 low30 cnt' nd lv) {r : Value} (hb : Blk w L 81 (hdr 1 low30 r cnt')) (h4 : Blk w' L 81 (hdr 0 0 r cnt')) (hf : Fr (fun k => k = L) w w') (hc : cnt' = IntKind.u32.wrap (cnt - 1)) :
    RmPost W B L K sub ex cnt T v (.returned .nilIface) w' :=
  ⟨wf_trans hW (h.frL hf), fun _ _ => ⟨rfl, hc ▸ h.unlocked hb h4 hf⟩, fun hb => absurd hgood hb⟩
end
end Go.Proofs.YtimffhpnfdikoaaDoor.Ls
