/- Trees of subjects: insert, whole. Trees of subjects: what a take leaves of a tree. Trees of subjects: what a take of a leaf leaves in memory. -/
import Derived.Test.YtjhmpcbpbdkddaaGreatTeR
import Derived.Test.YtjhmpcbpbdkddaaGreatTeS
import Derived.Test.YtjhmpcbpbdkddaaGreatTeT
import Derived.Test.YtjhmpcbpbdkddaaGreatTeQ
namespace Go.Proofs.YtjhmpcbpbdkddaaGreat.Te
open Go.RowKit Go.Proofs.YtjhmpcbpbdkddaaGreat.Bs Go.Proofs.YtjhmpcbpbdkddaaGreatW.PrintWords Go.Proofs.YtjhmpcbpbdkddaaGreatW.PrintLast Go.Proofs.YtjhmpcbpbdkddaaGreatW.PrintMore
set_option linter.unusedVariables false
set_option linter.unusedSimpArgs false
set_option maxRecDepth 100000
theorem insert_calls (v : Int) (tp : Value) (t : T) : InsAll v tp t := by
  induction t using T.ind with
  | h1 b v0 s => exact fun w g o A n c l si H hsh => insert_leaf H (hsh (s, v0) (by simp [T.ents])) tp v
  | h2 b k p ks ih =>
    intro w g o A n c l si H hsh
    by_cases hp : p = []
    · exact insert_bare ih hp w g o A n c l si H hsh trivial
    · rcases Nat.lt_or_ge (cpl p (l.drop si)) p.length with h | h
      · exact insert_part ih hp w g o A n c l si H hsh h
      · exact insert_whole ih hp w g o A n c l si H hsh h
/-- A first put. -/
theorem insert_nil {w : World} {g o n c : Nat} {A : Option Addr} {l : BL} {Tg : TypeId} {cs : List Value} (hb : Blk w g Tg cs) (hcs : cs[o]? = some .nilIface) (hC : CB w A n l) (v : Int) (tp : Value) :
    Calls Tryz.prog 58 #[tp, .pointer (some ⟨g, o, none⟩), .slice A n c, .int .i64 v, .int .i64 0] w fun e w' => e = .returned (.tuple #[.pointer none, .bool false]) ∧ LeafAt w' w.heap.size v l ∧ Fr (fun k => k = g) w w' ∧ (∀ Tx cx, Blk w g Tx cx → cx[o]? = some .nilIface → Blk w' g Tx (cx.set o (T.leaf w.heap.size v l).val)) := by
  have cn := hb.cell o hcs
  have zn := hb.free o
  have HB := Aside0.mk (And.intro hb hcs)
  have HC := Aside0.mk hC
  clear hb hcs hC
  go_enter Tryz.func58, Tryz.ntmps58
  go_wp2_with fail
  refine (newLeaf_calls HC.out v).mono ?_
  intro e w2 hp
  have HP := Aside0.mk hp
  have he := hp.ret
  clear hp
  subst he
  have hb2 := HB.out.1.fr HP.out.same (fun h => h)
  have cn := hb2.cell o HB.out.2
  have zn := hb2.free o
  unfold pa
  clear hb2
  go_wp2_with fail
  refine bodyPost_ret (results_list (rs := [.tmp 10, .tmp 11]) rfl (by simp) (.tmp (.tmp .nil))) rfl ?_
  refine ⟨rfl, Blk.far HP.out.leaf (p := ⟨g, o, none⟩) (fun e => by change w.heap.size = g at e; have := HB.out.1.lt; omega) _, (HP.out.same.mono (G := fun k => k = g) (fun _ h => h.elim)).set (p := ⟨g, o, none⟩) (.inl rfl) _, fun Tx cx hbx hcx => ?_⟩
  exact Blk.set (hbx.fr HP.out.same (fun h => h)) o (List.getElem?_eq_some_iff.1 hcx).1 _
end Go.Proofs.YtjhmpcbpbdkddaaGreat.Te
namespace Go.Proofs.YtjhmpcbpbdkddaaGreat.Te
open Go.RowKit Go.Proofs.YtjhmpcbpbdkddaaGreat.Bs Go.Proofs.YtjhmpcbpbdkddaaGreatW.PrintWords Go.Proofs.YtjhmpcbpbdkddaaGreatW.PrintLast Go.Proofs.YtjhmpcbpbdkddaaGreatW.PrintMore
set_option linter.unusedVariables false
set_option linter.unusedSimpArgs false
set_option maxRecDepth 100000
/-- What a take makes of a tree that stays. -/
structure Cut (t t' : T) (r : BL) : Prop where
  del : Del t t'.ents r
  wf : t'.wf
  inner : t.inner → t'.inner
theorem Cut.piv {t t' : T} {r : BL} (h : Cut t t' r) (hi : t.inner) : t'.piv = t.piv := by
  obtain ⟨e, he⟩ := List.exists_mem_of_ne_nil _ (ents_ne _ h.wf)
  exact (piv_ents (h.inner hi) he).symm.trans (piv_ents hi ((h.del e).1 he).1)
structure DelOut (w : World) (g o : Nat) (t t' : T) (r : BL) (w' : World) : Prop where
  cut : Cut t t' r
  lies : Lies w' t'
  nodup : t'.ids.Nodup
  ids : ∀ k ∈ t'.ids, k ∈ t.ids ∨ w.heap.size ≤ k
  fr : Fr (fun k => k = g ∨ k ∈ t.ids) w w'
  cell : ∀ T cs, Blk w g T cs → cs[o]? = some t.val → Blk w' g T (cs.set o t'.val)
inductive TakePost (w : World) (g o : Nat) (t : T) (r : BL) : Ending → World → Prop where
  | no (w' : World) (h : ∀ v0, (r, v0) ∉ t.ents) (hs : Same w w') : TakePost w g o t r (.returned (.tuple #[.pointer none, .bool false])) w'
  | yes (w' : World) (t' : T) (v0 : Int) (lb : Nat) (h : (r, v0) ∈ t.ents) (ho : DelOut w g o t t' r w') (hc : w'.cell? ⟨lb, 0, none⟩ = some (.int .i64 v0)) : TakePost w g o t r (.returned (.tuple #[.pointer (some ⟨lb, 0, none⟩), .bool true])) w'
theorem TakePost.tuple {w w' : World} {g o : Nat} {t : T} {r : BL} {e : Ending} (h : TakePost w g o t r e w') : ∃ pr up, e = .returned (.tuple #[.pointer pr, .bool up]) := by
  cases h
  · exact ⟨_, _, rfl⟩
  · exact ⟨_, _, rfl⟩
section
variable {w w1 w2 : World} {g o b n c si sj : Nat} {k : K} {p l : BL} {ks : List T} {A : Option Addr}
theorem kid_nodup2 {t : T} (h : (idsL ks).Nodup) (ht : t ∈ ks) : t.ids.Nodup := by
  obtain ⟨i, hi⟩ := List.getElem?_of_mem ht
  exact kid_nodup h hi
/-- A take out of a kid. -/
theorem kid_take (H : InsPre w g o (.node b k p ks) A n c l si) (hs : Same w w1) {i : Nat} {t : T} (hi : ks[i]? = some t) (hr : l.drop si = p ++ l.drop sj) (hp : t.piv = piv (l.drop sj)) {e : Ending} (h : TakePost w1 b i t (l.drop sj) e w2) :
    TakePost w g o (.node b k p ks) (l.drop si) e w2 := by
  obtain ⟨hN, hK⟩ := lies_node.1 H.lies
  obtain ⟨q1, q2, q3, q4⟩ := wf_node.1 H.wf
  obtain ⟨d1, d2⟩ := node_nodup H.nodup
  have htm := List.mem_of_getElem? hi
  have hin := (q4 t htm).2
  have hlt := node_kids H.lies
  have hbl : b < w.heap.size := hN.lt
  have hsz := hs.size
  have hvia := fun v1 => via_kid (b := b) (k := k) (p := p) q3 (fun x hx => (q4 x hx).2) htm hp v1
  rw [← hr] at hvia
  cases h with
  | no _ h0 hs2 => exact .no _ (fun v1 hm => h0 v1 ((hvia v1).1 hm)) (hs.trans hs2 (fun _ _ h => h))
  | yes _ t' v0 lb h0 ho hc =>
    obtain ⟨m1, m2⟩ := idsL_set (N := w1.heap.size) d2 (fun x hx => by have := hlt x hx; omega) hi ho.nodup ho.ids
    have hpv := ho.cut.piv hin
    have hN2 : NodeAt w2 b k p (ks.set i t') := node_set (nodeAt_fr hN hs (fun h => h)) hi hpv ho.cell
    have hgb : g ≠ b := fun e => H.out (ids_node.2 (.inl e))
    have hgt : g ∉ t.ids := fun e => H.out (ids_node.2 (.inr ⟨t, htm, e⟩))
    have hF : Fr (fun x => x = g ∨ x ∈ (T.node b k p ks).ids) w w2 := (hs.mono (fun _ h => h.elim)).trans ho.fr (fun x hx e => by
      rcases e with e | e
      · exact .inr (ids_node.2 (.inl e))
      · exact .inr (ids_node.2 (.inr ⟨t, htm, e⟩)))
    have hdel := Del.deep (b := b) (k := k) (p := p) q3 (fun t ht => (q4 t ht).2) hi hp ho.cut.del
    rw [← hr] at hdel
    refine .yes _ (.node b k p (ks.set i t')) v0 lb ((hvia v0).2 h0) ⟨⟨hdel, wf_node.2 ⟨q1, by rw [List.length_set]; exact q2, ?_, fun u hu => ?_⟩, fun hx => hx⟩, lies_node.2 ⟨hN2, fun x hx => ?_⟩, ?_, fun x hx => ?_, hF, fun Tx cs hb hc => ?_⟩ hc
    · rw [List.map_set, hpv, set_same (by rw [List.getElem?_map, hi]; rfl)]
      exact q3
    · rcases List.mem_or_eq_of_mem_set hu with hu | rfl
      · exact q4 u hu
      · exact ⟨ho.cut.wf, ho.cut.inner hin⟩
    · obtain ⟨j, hj⟩ := List.getElem?_of_mem hx
      rw [List.getElem?_set] at hj
      by_cases hij : i = j
      · subst hij
        rw [if_pos rfl, if_pos (List.getElem?_eq_some_iff.1 hi).1] at hj
        injection hj with hj
        subst hj
        exact ho.lies
      · rw [if_neg hij] at hj
        have hxm := List.mem_of_getElem? hj
        refine ((hK x hxm).fr hs (fun _ _ h => h)).fr ho.fr (fun y hy e => ?_)
        rcases e with e | e
        · exact d1 (mem_idsL.2 ⟨x, hxm, e ▸ hy⟩)
        · exact ids_disj d2 hi hj hij e hy
    · rw [T.ids, List.nodup_cons]
      refine ⟨fun hm => ?_, m1⟩
      rcases m2 b hm with h | h
      · exact d1 h
      · omega
    · rw [T.ids, List.mem_cons] at hx
      rcases hx with rfl | hx
      · exact .inl (ids_node.2 (.inl rfl))
      · rcases m2 x hx with h | h
        · exact .inl (by rw [T.ids]; exact List.mem_cons_of_mem _ h)
        · exact .inr (by omega)
    · have e : cs.set o (T.node b k p (ks.set i t')).val = cs := set_same hc
      rw [e]
      exact (hb.fr hs (fun h => h)).fr ho.fr (fun e => e.elim hgb hgt)
/-- The kids behind a leaf's end. -/
structure LessK (ks ks' : List T) (lb : Nat) (v : Int) (r : BL) : Prop where
  perm : (T.leaf lb v r :: ks').Perm ks
theorem LessK.mem {ks ks' : List T} {lb : Nat} {v : Int} {r : BL} (h : LessK ks ks' lb v r) (hn : (ks.map T.piv).Nodup) (t : T) : t ∈ ks' ↔ t ∈ ks ∧ t ≠ .leaf lb v r := by
  have h1 := (h.perm.map T.piv).nodup_iff.2 hn
  rw [List.map_cons, List.nodup_cons] at h1
  rw [← h.perm.mem_iff, List.mem_cons]
  constructor
  · intro ht
    refine ⟨.inr ht, ?_⟩
    rintro rfl
    exact h1.1 (List.mem_map.2 ⟨_, ht, rfl⟩)
  · rintro ⟨rfl | ht, hne⟩
    · exact absurd rfl hne
    · exact ht
theorem LessK.nodup {ks ks' : List T} {lb : Nat} {v : Int} {r : BL} (h : LessK ks ks' lb v r) (hn : (ks.map T.piv).Nodup) : (ks'.map T.piv).Nodup := by
  have h1 := (h.perm.map T.piv).nodup_iff.2 hn
  rw [List.map_cons, List.nodup_cons] at h1
  exact h1.2
theorem LessK.len {ks ks' : List T} {lb : Nat} {v : Int} {r : BL} (h : LessK ks ks' lb v r) : ks'.length + 1 = ks.length := h.perm.length_eq
theorem LessK.ids {ks ks' : List T} {lb : Nat} {v : Int} {r : BL} (h : LessK ks ks' lb v r) (hn : (idsL ks).Nodup) : (idsL ks').Nodup ∧ (∀ x ∈ idsL ks', x ∈ idsL ks) ∧ lb ∉ idsL ks' := by
  have h1 := idsL_perm h.perm
  have h2 := h1.nodup_iff.2 hn
  rw [idsL, T.ids, List.singleton_append, List.nodup_cons] at h2
  exact ⟨h2.2, fun x hx => h1.mem_iff.1 (by rw [idsL]; exact List.mem_append_right _ hx), h2.1⟩
/-- A leaf taken out of a node that stays one (of whatever kind). -/
theorem less_cut {r : BL} (hw : (T.node b k p ks).wf) {ks' : List T} {lb : Nat} {v : Int} (h : LessK ks ks' lb v r) {k' : K} {b' : Nat} {ks2 : List T} (hp2 : ks2.Perm ks') (hl : k'.low ≤ ks2.length) (hc : ks2.length ≤ k'.cap) : Cut (.node b k p ks) (.node b' k' p ks2) (p ++ r) := by
  obtain ⟨q1, q2, q3, q4⟩ := wf_node.1 hw
  have hm : T.leaf lb v r ∈ ks := h.perm.mem_iff.1 (by simp)
  refine ⟨Del.kid q3 (fun t ht => (q4 t ht).2) hm (fun t => by rw [hp2.mem_iff, h.mem q3]), wf_node.2 ⟨q1, ⟨hl, hc⟩, (hp2.map T.piv).nodup_iff.2 (h.nodup q3), fun t ht => q4 t ((h.mem q3 t).1 (hp2.mem_iff.1 ht)).1⟩, fun hx => hx⟩
/-- .. of a node that becomes its only kid. -/
theorem one_cut {r : BL} (hw : (T.node b k p ks).wf) {t : T} {lb : Nat} {v : Int} (h : LessK ks [t] lb v r) : Cut (.node b k p ks) (t.pre p) (p ++ r) := by
  obtain ⟨q1, q2, q3, q4⟩ := wf_node.1 hw
  have hm : T.leaf lb v r ∈ ks := h.perm.mem_iff.1 (by simp)
  obtain ⟨w1, w2⟩ := q4 t ((h.mem q3 t).1 (by simp)).1
  have hd := Del.kid (b := b) (b' := b) (k := k) (k' := k) (p := p) (ks' := [t]) q3 (fun t ht => (q4 t ht).2) hm (fun u => h.mem q3 u)
  refine ⟨fun e => by rw [← ents_one (b := b) (k := k)]; exact hd e, ?_, fun _ => ?_⟩
  · cases t with
    | leaf b0 v0 s =>
      show 127 ∉ p ++ s
      rw [List.mem_append]
      exact fun h => h.elim q1 w1
    | node b0 k0 q0 ks0 =>
      obtain ⟨a1, a2⟩ := wf_node.1 w1
      refine wf_node.2 ⟨?_, a2⟩
      rw [List.mem_append]
      exact fun h => h.elim q1 a1
  · cases t with
    | leaf b0 v0 s => trivial
    | node b0 k0 q0 ks0 =>
      show p ++ q0 ≠ []
      intro e
      exact w2 (List.append_eq_nil_iff.1 e).2
end
end Go.Proofs.YtjhmpcbpbdkddaaGreat.Te
namespace Go.Proofs.YtjhmpcbpbdkddaaGreat.Te
open Go.RowKit Go.Proofs.YtjhmpcbpbdkddaaGreat.Bs Go.Proofs.YtjhmpcbpbdkddaaGreatW.PrintWords Go.Proofs.YtjhmpcbpbdkddaaGreatW.PrintLast Go.Proofs.YtjhmpcbpbdkddaaGreatW.PrintMore
set_option linter.unusedVariables false
set_option linter.unusedSimpArgs false
set_option maxRecDepth 100000
section
variable {w w1 w2 : World} {g o b n c si sj : Nat} {k : K} {p l : BL} {ks : List T} {A : Option Addr}
theorem leaf_in (H : InsPre w g o (.node b k p ks) A n c l si) {ks' : List T} {lb : Nat} {v : Int} {r : BL} (h : LessK ks ks' lb v r) : LeafAt w lb v r ∧ lb ≠ b ∧ lb ≠ g ∧ T.leaf lb v r ∈ ks := by
  have hm : T.leaf lb v r ∈ ks := h.perm.mem_iff.1 (by simp)
  refine ⟨lies_leaf.1 ((lies_node.1 H.lies).2 _ hm), fun e => ?_, fun e => ?_, hm⟩
  · exact (node_nodup H.nodup).1 (mem_idsL.2 ⟨_, hm, by rw [← e]; simp [T.ids]⟩)
  · exact H.out (ids_node.2 (.inr ⟨_, hm, by rw [← e]; simp [T.ids]⟩))
theorem leaf_was (H : InsPre w g o (.node b k p ks) A n c l si) (hr : l.drop si = p ++ l.drop sj) {ks' : List T} {lb : Nat} {v : Int} (h : LessK ks ks' lb v (l.drop sj)) : (l.drop si, v) ∈ (T.node b k p ks).ents := by
  rw [hr]
  exact mem_node.2 ⟨_, rfl, _, (leaf_in H h).2.2.2, by simp [T.ents]⟩
theorem take_less (H : InsPre w g o (.node b k p ks) A n c l si) (hr : l.drop si = p ++ l.drop sj) {ks' ks2 : List T} {lb nb : Nat} {v : Int} (h : LessK ks ks' lb v (l.drop sj)) (hF : Fr (fun x => x = g ∨ x = b) w w2) (hnb : nb = b ∨ w.heap.size ≤ nb)
    {k' : K} (hp2 : ks2.Perm ks') (hl : k'.low ≤ ks2.length) (hc : ks2.length ≤ k'.cap) (hN : NodeAt w2 nb k' p ks2) (hcell : ∀ Tx cs, Blk w g Tx cs → cs[o]? = some (T.node b k p ks).val → Blk w2 g Tx (cs.set o (.iface k'.pt (pa nb)))) :
    TakePost w g o (.node b k p ks) (l.drop si) (.returned (.tuple #[.pointer (some ⟨lb, 0, none⟩), .bool true])) w2 := by
  obtain ⟨l1, l2, l3, l4⟩ := leaf_in H h
  obtain ⟨q1, q2, q3, q4⟩ := wf_node.1 H.wf
  obtain ⟨d1, d2⟩ := node_nodup H.nodup
  have hlt := node_kids H.lies
  have hbl : b < w.heap.size := (lies_node.1 H.lies).1.lt
  obtain ⟨i1, i2, i3⟩ := h.ids d2
  have hperm := idsL_perm hp2
  have hcut := less_cut (b' := nb) H.wf h hp2 hl hc
  rw [← hr] at hcut
  refine .yes _ (.node nb k' p ks2) v lb (leaf_was H hr h) ⟨hcut, lies_node.2 ⟨hN, fun t ht => ?_⟩, ?_, fun x hx => ?_, hF.mono (fun x e => e.imp_right (fun e => ids_node.2 (.inl e))), hcell⟩ ?_
  · have htk := ((h.mem q3 t).1 (hp2.mem_iff.1 ht)).1
    refine ((lies_node.1 H.lies).2 t htk).fr hF (fun y hy e => ?_)
    rcases e with e | e
    · exact H.out (ids_node.2 (.inr ⟨t, htk, e ▸ hy⟩))
    · exact d1 (mem_idsL.2 ⟨t, htk, e ▸ hy⟩)
  · rw [T.ids, List.nodup_cons]
    refine ⟨fun hm => ?_, hperm.nodup_iff.2 i1⟩
    have := i2 _ (hperm.mem_iff.1 hm)
    rcases hnb with e | e
    · exact d1 (e ▸ this)
    · have := hlt _ this
      omega
  · rw [T.ids, List.mem_cons] at hx
    rcases hx with rfl | hx
    · rcases hnb with e | e
      · exact .inl (ids_node.2 (.inl e))
      · exact .inr e
    · exact .inl (by rw [T.ids]; exact List.mem_cons_of_mem _ (i2 _ (hperm.mem_iff.1 hx)))
  · exact (Blk.fr l1 hF (fun e => e.elim l3 l2)).cell 0 rfl
theorem pre_ids (p : BL) (t : T) : (t.pre p).ids = t.ids := by cases t <;> simp [T.pre, T.ids]
theorem pre_val (p : BL) (t : T) : (t.pre p).val = t.val := by cases t <;> rfl
theorem take_one (H : InsPre w g o (.node b k p ks) A n c l si) (hr : l.drop si = p ++ l.drop sj) {t : T} {lb : Nat} {v : Int} (h : LessK ks [t] lb v (l.drop sj)) (hF : Fr (fun x => (x = g ∨ x = b) ∨ x = t.id) w w2) (hL : Lies w2 (t.pre p))
    (hcell : ∀ Tx cs, Blk w g Tx cs → cs[o]? = some (T.node b k p ks).val → Blk w2 g Tx (cs.set o t.val)) :
    TakePost w g o (.node b k p ks) (l.drop si) (.returned (.tuple #[.pointer (some ⟨lb, 0, none⟩), .bool true])) w2 := by
  obtain ⟨l1, l2, l3, l4⟩ := leaf_in H h
  obtain ⟨q1, q2, q3, q4⟩ := wf_node.1 H.wf
  obtain ⟨d1, d2⟩ := node_nodup H.nodup
  obtain ⟨i1, i2, i3⟩ := h.ids d2
  simp only [idsL, List.append_nil] at i1 i2 i3
  have hcut := one_cut H.wf h
  rw [← hr] at hcut
  refine .yes _ (t.pre p) v lb (leaf_was H hr h) ⟨hcut, hL, by rw [pre_ids]; exact i1, fun x hx => ?_, hF.mono (fun x e => ?_), fun Tx cs hb hc => by rw [pre_val]; exact hcell Tx cs hb hc⟩ ?_
  · rw [pre_ids] at hx
    exact .inl (by rw [T.ids]; exact List.mem_cons_of_mem _ (i2 x hx))
  · rcases e with (e | e) | e
    · exact .inl e
    · exact .inr (ids_node.2 (.inl e))
    · exact .inr (by rw [T.ids, e]; exact List.mem_cons_of_mem _ (i2 _ (id_mem t)))
  · refine (Blk.fr l1 hF (fun e => ?_)).cell 0 rfl
    rcases e with (e | e) | e
    · exact l3 e
    · exact l2 e
    · exact i3 (by rw [e]; exact id_mem t)
theorem no_take (H : InsPre w g o (.node b k p ks) A n c l si) {w2 : World} (hs : Same w w2) (h : ∀ v0, (l.drop si, v0) ∉ (T.node b k p ks).ents) : TakePost w g o (.node b k p ks) (l.drop si) (.returned (.tuple #[.pointer none, .bool false])) w2 := .no _ h hs
end
end Go.Proofs.YtjhmpcbpbdkddaaGreat.Te
