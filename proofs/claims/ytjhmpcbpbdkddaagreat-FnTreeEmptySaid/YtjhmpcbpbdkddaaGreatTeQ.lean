/- Trees of subjects: a put plainly: what it makes of a tree. Trees of subjects: the walk of insert at a leaf. Trees of subjects: what a put into a node's kid, beside its kids, above it leaves of the whole. -/
import Derived.Test.YtjhmpcbpbdkddaaGreatTeM
namespace Go.Proofs.YtjhmpcbpbdkddaaGreat.Te
open Go.RowKit Go.Proofs.YtjhmpcbpbdkddaaGreat.Bs Go.Proofs.YtjhmpcbpbdkddaaGreatW.PrintWords Go.Proofs.YtjhmpcbpbdkddaaGreatW.PrintLast Go.Proofs.YtjhmpcbpbdkddaaGreatW.PrintMore
set_option linter.unusedVariables false
set_option linter.unusedSimpArgs false
set_option maxRecDepth 100000
structure Put (t t' : T) (r : BL) (v : Int) : Prop where
  ins : Ins t t' r v
  wf : t'.wf
  inner : t.inner → piv r = t.piv → t'.inner
theorem Put.piv {t t' : T} {r : BL} {v : Int} (h : Put t t' r v) (hi : t.inner) (hp : piv r = t.piv) : t'.piv = t.piv :=
  (piv_ents (e := (r, v)) (h.inner hi hp) ((h.ins _).2 (.inl rfl))).symm.trans hp
theorem put_same {b : Nat} {v0 v : Int} {r : BL} (h : 127 ∉ r) : Put (.leaf b v0 r) (.leaf b v r) r v := ⟨Ins.same b v0 v r, h, fun _ _ => trivial⟩
theorem no127_take {s : BL} (h : 127 ∉ s) (n : Nat) : 127 ∉ s.take n := fun hm => h (List.mem_of_mem_take hm)
theorem no127_drop {s : BL} (h : 127 ∉ s) (n : Nat) : 127 ∉ s.drop n := fun hm => h (List.mem_of_mem_drop hm)
theorem eq_of_rest {s r : BL} (e : s.drop (cpl s r) = r.drop (cpl s r)) : s = r := by
  have h1 := List.take_append_drop (cpl s r) s
  have h2 := List.take_append_drop (cpl s r) r
  rw [cpl_take, e] at h1
  exact h1.symm.trans h2
theorem set_same {α : Type} {l : List α} {i : Nat} {x : α} (h : l[i]? = some x) : l.set i x = l := by
  apply List.ext_getElem?
  intro j
  rw [List.getElem?_set]
  split
  · rename_i e
    subst e
    rw [if_pos (List.getElem?_eq_some_iff.1 h).1, h]
  · rfl
theorem piv_rest {s r : BL} (hs : 127 ∉ s) (hr : 127 ∉ r) (hne : s ≠ r) : piv (s.drop (cpl s r)) ≠ piv (r.drop (cpl s r)) := by
  refine piv_ne (c := []) (no127_drop hs _) (no127_drop hr _) (fun e => hne (eq_of_rest e)) (fun x s' r' h1 h2 => cpl_drop s r x x s' r' h1 h2 rfl)
theorem cpl_pos {s r : BL} (hs : 127 ∉ s) (hr : 127 ∉ r) (hne : s ≠ r) (hp : piv r = piv s) : 0 < cpl s r := by
  cases s with
  | nil =>
    cases r with
    | nil => exact absurd rfl hne
    | cons y r =>
      have : y = 127 := hp
      subst this
      simp at hr
  | cons x s =>
    cases r with
    | nil =>
      have : (127 : UInt8) = x := hp
      subst this
      simp at hs
    | cons y r =>
      have : y = x := hp
      subst this
      rw [cpl, if_pos rfl]
      omega
theorem split_wf {b nb nl : Nat} {v0 v : Int} {s r : BL} (hs : 127 ∉ s) (hr : 127 ∉ r) (hne : s ≠ r) : (T.node nb .k4 (s.take (cpl s r)) [.leaf nl v (r.drop (cpl s r)), .leaf b v0 (s.drop (cpl s r))]).wf := by
  rw [wf_node]
  refine ⟨no127_take hs _, ⟨by simp [K.low], by simp [K.cap]⟩, ?_, fun t ht => ?_⟩
  · simp only [List.map_cons, List.map_nil, List.nodup_cons, List.mem_singleton, List.not_mem_nil, not_false_eq_true, List.nodup_nil, and_true]
    exact fun e => piv_rest hs hr hne e.symm
  · simp only [List.mem_cons, List.not_mem_nil, or_false] at ht
    rcases ht with rfl | rfl
    · exact ⟨no127_drop hr _, trivial⟩
    · exact ⟨no127_drop hs _, trivial⟩
theorem take_ne {s : BL} {n : Nat} (h : 0 < n) (hs : n ≤ s.length) : s.take n ≠ [] := by
  intro e
  have : (s.take n).length = 0 := by rw [e]; rfl
  rw [List.length_take] at this
  omega
theorem put_split {b nb nl : Nat} {v0 v : Int} {s r : BL} (hs : 127 ∉ s) (hr : 127 ∉ r) (hne : s ≠ r) : Put (.leaf b v0 s) (.node nb .k4 (s.take (cpl s r)) [.leaf nl v (r.drop (cpl s r)), .leaf b v0 (s.drop (cpl s r))]) r v := by
  refine ⟨?_, split_wf hs hr hne, fun _ hp => take_ne (cpl_pos hs hr hne hp) (cpl_le s r).1⟩
  have := Ins.split (b := b) (nb := nb) (nl := nl) (v0 := v0) (v := v) (c := s.take (cpl s r)) (s := s.drop (cpl s r)) (r := r.drop (cpl s r)) (fun e => hne (eq_of_rest e))
  rw [List.take_append_drop] at this
  have e2 : s.take (cpl s r) ++ r.drop (cpl s r) = r := by rw [cpl_take, List.take_append_drop]
  rw [e2] at this
  exact this
theorem put_kid {b : Nat} {k : K} {p r : BL} {v : Int} {ks : List T} {i : Nat} {t t' : T} (hw : (T.node b k p ks).wf) (hi : ks[i]? = some t) (hp : t.piv = piv r) (h : Put t t' r v) : Put (.node b k p ks) (.node b k p (ks.set i t')) (p ++ r) v := by
  obtain ⟨h1, h2, h3, h4⟩ := wf_node.1 hw
  have htm : t ∈ ks := List.mem_of_getElem? hi
  have hin := (h4 t htm).2
  refine ⟨Ins.kid h3 (fun t ht => (h4 t ht).2) hi hp h.ins, wf_node.2 ⟨h1, by rw [List.length_set]; exact h2, ?_, fun u hu => ?_⟩, fun hx _ => hx⟩
  · rw [List.map_set, h.piv hin hp.symm, set_same (by rw [List.getElem?_map, hi]; rfl)]
    exact h3
  · rcases List.mem_or_eq_of_mem_set hu with hu | rfl
    · exact h4 u hu
    · exact ⟨h.wf, h.inner hin hp.symm⟩
theorem put_more {b b' nl : Nat} {k k' : K} {p r : BL} {v : Int} {ks : List T} (hw : (T.node b k p ks).wf) (hr : 127 ∉ r) (hno : ∀ t ∈ ks, t.piv ≠ piv r) (hl : k'.low ≤ ks.length + 1) (hc : ks.length + 1 ≤ k'.cap) :
    Put (.node b k p ks) (.node b' k' p (ks ++ [.leaf nl v r])) (p ++ r) v := by
  obtain ⟨h1, h2, h3, h4⟩ := wf_node.1 hw
  refine ⟨Ins.more (fun t ht => (h4 t ht).2) hno, wf_node.2 ⟨h1, by rw [List.length_append, List.length_singleton]; exact ⟨hl, hc⟩, ?_, fun u hu => ?_⟩, fun hx _ => hx⟩
  · rw [List.map_append, List.map_cons, List.map_nil, List.nodup_append]
    refine ⟨h3, by simp, fun x hx y hy e => ?_⟩
    simp only [List.mem_singleton] at hy
    subst hy
    subst e
    obtain ⟨t, ht, hpp⟩ := List.mem_map.1 hx
    exact hno t ht hpp
  · rw [List.mem_append, List.mem_singleton] at hu
    rcases hu with hu | rfl
    · exact h4 u hu
    · exact ⟨hr, trivial⟩
theorem put_above {b nb nl : Nat} {k : K} {p r : BL} {v : Int} {ks : List T} (hw : (T.node b k p ks).wf) (hr : 127 ∉ r) (hc : cpl p r < p.length) :
    Put (.node b k p ks) (.node nb .k4 (p.take (cpl p r)) [.node b k (p.drop (cpl p r)) ks, .leaf nl v (r.drop (cpl p r))]) r v := by
  obtain ⟨h1, h2, h3, h4⟩ := wf_node.1 hw
  have hne : p ≠ r := by
    rintro rfl
    have : ∀ s : BL, cpl s s = s.length := fun s => by induction s with | nil => rfl | cons a s ih => rw [cpl, if_pos rfl, ih, List.length_cons]
    rw [this] at hc
    omega
  have hpre : ∀ x, r.drop (cpl p r) ≠ p.drop (cpl p r) ++ x := by
    intro x e
    obtain ⟨a, s', hs⟩ : ∃ a s', p.drop (cpl p r) = a :: s' := ⟨_, _, List.drop_eq_getElem_cons hc⟩
    rw [hs, List.cons_append] at e
    exact cpl_drop p r a a s' _ hs e rfl
  refine ⟨?_, wf_node.2 ⟨no127_take h1 _, ⟨by simp [K.low], by simp [K.cap]⟩, ?_, fun t ht => ?_⟩, fun hi hp => take_ne (cpl_pos h1 hr hne hp) (cpl_le p r).1⟩
  · have := Ins.above (b := b) (nb := nb) (nl := nl) (k := k) (c := p.take (cpl p r)) (p := p.drop (cpl p r)) (r := r.drop (cpl p r)) (v := v) (ks := ks) hpre
    rw [List.take_append_drop] at this
    have e2 : p.take (cpl p r) ++ r.drop (cpl p r) = r := by rw [cpl_take, List.take_append_drop]
    rw [e2] at this
    exact this
  · simp only [List.map_cons, List.map_nil, List.nodup_cons, List.mem_singleton, List.not_mem_nil, not_false_eq_true, List.nodup_nil, and_true]
    exact piv_rest h1 hr hne
  · simp only [List.mem_cons, List.not_mem_nil, or_false] at ht
    rcases ht with rfl | rfl
    · refine ⟨wf_node.2 ⟨no127_drop h1 _, h2, h3, h4⟩, fun e => ?_⟩
      have : (p.drop (cpl p r)).length = 0 := by rw [e]; rfl
      rw [List.length_drop] at this
      omega
    · exact ⟨no127_drop hr _, trivial⟩
/-- A prefix that is met whole. -/
theorem cpl_whole {p r : BL} (h : p.length ≤ cpl p r) : r = p ++ r.drop p.length := by
  have h1 := cpl_le p r
  have e : cpl p r = p.length := by omega
  have := cpl_take p r
  rw [e, List.take_of_length_le (Nat.le_refl _)] at this
  conv => lhs; rw [← List.take_append_drop p.length r, ← this]
/-! ### what a put leaves -/
structure InsPre (w : World) (g o : Nat) (t : T) (A : Option Addr) (n c : Nat) (l : BL) (si : Nat) : Prop where
  lies : Lies w t
  wf : t.wf
  nodup : t.ids.Nodup
  cell : ∃ Tg cs, Blk w g Tg cs ∧ cs[o]? = some t.val
  out : g ∉ t.ids
  bytes : CB w A n l
  apart : ∀ ad, A = some ad → ad.block ≠ g ∧ ad.block ∉ t.ids
  sile : si ≤ n
  cap : n ≤ c
  no127 : 127 ∉ l
  few : t.ents.length ≤ 47
structure InsOut (w : World) (g o : Nat) (t t' : T) (r : BL) (v : Int) (w' : World) : Prop where
  put : Put t t' r v
  lies : Lies w' t'
  nodup : t'.ids.Nodup
  ids : ∀ k ∈ t'.ids, k ∈ t.ids ∨ w.heap.size ≤ k
  fr : Fr (fun k => k = g ∨ k ∈ t.ids) w w'
  cell : ∀ T cs, Blk w g T cs → cs[o]? = some t.val → Blk w' g T (cs.set o t'.val)
/-- What a put gives back: the value that was there. -/
inductive Was (w : World) (t : T) (r : BL) (w' : World) (t' : T) : Value → Prop where
  | new (h : ∀ v0, (r, v0) ∉ t.ents) : Was w t r w' t' (.tuple #[.pointer none, .bool false])
  | old (v0 : Int) (h : (r, v0) ∈ t.ents) (a : Addr) (hc : w'.cell? a = some (.int .i64 v0)) (ha : w.heap.size ≤ a.block) (hn : a.block ∉ t'.ids) : Was w t r w' t' (.tuple #[.pointer (some a), .bool true])
structure InsPost (w : World) (g o : Nat) (t : T) (r : BL) (v : Int) (e : Ending) (w' : World) : Prop where
  out : ∃ t' u, e = .returned u ∧ InsOut w g o t t' r v w' ∧ Was w t r w' t' u
theorem InsPre.np {w : World} {g o : Nat} {t : T} {A : Option Addr} {n c : Nat} {l : BL} {si : Nat} (h : InsPre w g o t A n c l si) : w.cell? ⟨g, o, none⟩ = some t.val ∧ w.frozen? ⟨g, o, none⟩ = false := by
  obtain ⟨Tg, cs, hb, ho⟩ := h.cell
  exact ⟨hb.cell o ho, hb.free o⟩
end Go.Proofs.YtjhmpcbpbdkddaaGreat.Te
namespace Go.Proofs.YtjhmpcbpbdkddaaGreat.Te
open Go.RowKit Go.Proofs.YtjhmpcbpbdkddaaGreat.Bs Go.Proofs.YtjhmpcbpbdkddaaGreatW.PrintWords Go.Proofs.YtjhmpcbpbdkddaaGreatW.PrintLast Go.Proofs.YtjhmpcbpbdkddaaGreatW.PrintMore
set_option linter.unusedVariables false
set_option linter.unusedSimpArgs false
set_option maxRecDepth 100000
theorem ta_leaf (b : Nat) (w : World) : Sem.run Tryz.prog (Instr.typeAssert (.iface 87 (.pointer (some ⟨b, 0, none⟩))) 66 87 false) w = .ok (.pointer (some ⟨b, 0, none⟩)) w := by kernel_rfl
theorem str_drop (s : BL) (q : Nat) : (str s).extract q (str s).size = str (s.drop q) := by
  apply ByteArray.ext
  apply Array.toList_inj.1
  rw [ByteArray.data_extract, Array.toList_extract, str_size]
  show List.take (s.length - q) (List.drop q s) = s.drop q
  exact List.take_of_length_le (by rw [List.length_drop]; exact Nat.le_refl _)
theorem heldS {w : World} {R : World → Prop} (HK : ∀ w', Same w w' → R w') {w1 w2 : World} (h : Same w w1 ∧ R w1) (hf : Same w1 w2) : Same w w2 ∧ R w2 := by
  have := h.1.trans hf (fun _ _ h => h)
  exact ⟨this, HK _ this⟩
/-- A leaf that was parted. -/
theorem leaf_out {w w14 : World} {g o b nb lb q m n c si : Nat} {v0 v : Int} {s l : BL} {A : Option Addr} {Tg : TypeId} {cs : List Value} (H : InsPre w g o (.leaf b v0 s) A n c l si) (hne : ¬ l.drop si = s) (hq : q = cpl s (l.drop si)) (hm : m = si + q)
    (hbg : Blk w g Tg cs) (hcs : cs[o]? = some (T.leaf b v0 s).val) (hF : Fr (fun k => k = b) w w14) (hN : NodeAt w14 nb .k4 (s.take q) [.leaf lb v (l.drop m), .leaf b v0 (s.drop q)]) (hL1 : LeafAt w14 lb v (l.drop m)) (hL2 : LeafAt w14 b v0 (s.drop q)) (hnb : w.heap.size ≤ nb) (hlb : nb < lb) :
    InsPost w g o (.leaf b v0 s) (l.drop si) v (.returned (.tuple #[.pointer none, .bool false])) (w14.setCell ⟨g, o, none⟩ (.iface 115 (.pointer (some ⟨nb, 0, none⟩)))) := by
  have hb : b < w.heap.size := (lies_leaf.1 H.lies).lt
  have hg : g < w.heap.size := hbg.lt
  have hgb : g ≠ b := fun e => H.out (by rw [e]; exact id_mem (.leaf b v0 s))
  have hput := put_split (b := b) (nb := nb) (nl := lb) (v0 := v0) (v := v) (s := s) (r := l.drop si) H.wf (no127_drop H.no127 si) (fun e => hne e.symm)
  rw [← hq, List.drop_drop, ← hm] at hput
  refine ⟨.node nb .k4 (s.take q) [.leaf lb v (l.drop m), .leaf b v0 (s.drop q)], _, rfl, ⟨hput, ?_, ?_, fun k hk => ?_, ?_, fun Tx cx hbx hcx => ?_⟩, .new (fun v1 h => ?_)⟩
  · rw [lies_node]
    refine ⟨Nd.far hN (a := ⟨g, o, none⟩) (by simp only; omega) _, fun t ht => ?_⟩
    simp only [List.mem_cons, List.not_mem_nil, or_false] at ht
    rcases ht with rfl | rfl
    · exact lies_leaf.2 (Blk.far hL1 (p := ⟨g, o, none⟩) (by simp only; omega) _)
    · exact lies_leaf.2 (Blk.far hL2 (p := ⟨g, o, none⟩) (fun e => hgb e.symm) _)
  · simp only [T.ids, idsL, List.append_nil, List.cons_append, List.nil_append, List.nodup_cons, List.mem_cons, List.not_mem_nil, or_false, not_or, not_false_eq_true, List.nodup_nil, and_true]
    omega
  · simp only [T.ids, idsL, List.append_nil, List.cons_append, List.nil_append, List.mem_cons, List.not_mem_nil, or_false] at hk ⊢
    omega
  · exact (hF.mono (fun k e => .inr (by rw [e]; simp [T.ids]))).set (p := ⟨g, o, none⟩) (.inl (.inl rfl)) _
  · exact Blk.set (hbx.fr hF hgb) o (List.getElem?_eq_some_iff.1 hcx).1 _
  · simp only [T.ents, List.mem_singleton, Prod.mk.injEq] at h
    exact hne h.1
set_option maxHeartbeats 8000000 in
theorem insert_leaf {w : World} {g o b : Nat} {v0 : Int} {s : BL} {A : Option Addr} {n c : Nat} {l : BL} {si : Nat} (h : InsPre w g o (.leaf b v0 s) A n c l si) (hsl : s.length ≤ 1000) (tp : Value) (v : Int) :
    Calls Tryz.prog 58 #[tp, .pointer (some ⟨g, o, none⟩), .slice A n c, .int .i64 v, .int .i64 (si : Int)] w (InsPost w g o (.leaf b v0 s) (l.drop si) v) := by
  have H := Aside0.mk h
  obtain ⟨cn, zn⟩ := h.np
  have hL : LeafAt w b v0 s := lies_leaf.1 h.lies
  have c0 := hL.cell 0 rfl
  have c1 := hL.cell 1 rfl
  have zb : ∀ o, w.frozen? ⟨b, o, none⟩ = false := hL.free
  have ml := l_isLeaf b
  have mt := ta_leaf b
  have HLN : Aside0 (s.length ≤ 1000) := ⟨hsl⟩
  have i0 : (0 : Int) ≤ (si : Int) := by omega
  have i1 : (si : Int) ≤ (n : Int) := by have := h.sile; omega
  have i2 : (n : Int) ≤ (c : Int) := by have := h.cap; omega
  have i3 : (si : Int) ≤ (c : Int) := by omega
  have HC := Aside0.mk (h.bytes.drop h.sile h.cap)
  obtain ⟨X, hX⟩ : ∃ X, (if c = si then A else Option.map (fun x => x.add si) A) = X := ⟨_, rfl⟩
  rw [hX] at HC
  have HL := Aside0.mk hL
  clear h hL hsl
  unfold T.val pa at cn
  go_enter Tryz.func58, Tryz.ntmps58
  go_wp2_with fail
  refine (isLeaf_leaf _).mono ?_
  rintro e w2 ⟨rfl, rfl⟩
  go_wp2_with fail
  refine (match_calls HL.out HC.out).mono ?_
  rintro e w3 ⟨rfl, hs3⟩
  have HS3 := Aside0.mk hs3
  have HL3 : Aside0 (LeafAt w3 b v0 s) := ⟨HL.out.fr hs3 (fun h => h)⟩
  have HC3 := Aside0.mk (HC.out.same hs3)
  replace c0 := hs3.cell c0
  replace c1 := hs3.cell c1
  replace cn := hs3.cell cn
  replace zb : ∀ o, w3.frozen? ⟨b, o, none⟩ = false := HL3.out.free
  obtain ⟨Tg, cs, hbg, hcs⟩ := H.out.cell
  have HG := Aside0.mk (And.intro hbg hcs)
  replace zn : w3.frozen? ⟨g, o, none⟩ = false := (hbg.fr hs3 (fun h => h)).free o
  have HO : Aside0 (g ≠ b) := ⟨fun e => H.out.out (by rw [e]; exact id_mem (.leaf b v0 s))⟩
  clear hs3 hbg hcs HC HL
  by_cases hs : l.drop si = s
  · rw [decide_eq_true hs]
    have HSS := Aside0.mk hs
    clear hs
    go_upto_region 9 with (fail)
    have HOLD : Aside0 (Blk (w3.alloc (.cells #[.int .i64 v0] 3)) w3.heap.size 3 [.int .i64 v0]) := ⟨Blk.new w3 3 [.int .i64 v0]⟩
    have HS4 : Aside0 (Same w3 (w3.alloc (.cells #[.int .i64 v0] 3))) := ⟨(Fr.refl _ w3).alloc _⟩
    generalize w3.alloc (.cells #[.int .i64 v0] 3) = w4 at HOLD HS4 ⊢
    have HL4 : Aside0 (LeafAt w4 b v0 s) := ⟨HL3.out.fr HS4.out (fun h => h)⟩
    have HLT := Aside0.mk HL3.out.lt
    have d0 := HL4.out.cell 0 rfl
    replace zb : ∀ o, w4.frozen? ⟨b, o, none⟩ = false := HL4.out.free
    clear c0 c1 cn
    go_wp2_with fail
    refine bodyPost_ret (results_list (rs := [.tmp 10, .tmp 11]) rfl (by simp) (.tmp (.tmp .nil))) rfl ?_
    have HF : Fr (fun k => k = g ∨ k ∈ (T.leaf b v0 s).ids) w2 (w4.setCell ⟨b, 0, none⟩ (.int .i64 v)) := ((HS3.out.trans HS4.out (fun _ _ h => h)).mono (fun _ h => h.elim)).set (.inl (.inr (by simp [T.ids]))) _
    refine ⟨.leaf b v s, _, rfl, ⟨by rw [HSS.out]; exact put_same (by rw [← HSS.out]; exact no127_drop H.out.no127 _), lies_leaf.2 (Blk.set HL4.out 0 (by simp) _), by simp [T.ids], fun k hk => .inl hk, HF, fun Tx cs hb hc => ?_⟩, .old v0 (by rw [HSS.out]; simp [T.ents]) _ ?_ (HS3.out.size) ?_⟩
    · have e : cs.set o (T.leaf b v s).val = cs := set_same hc
      rw [e]
      exact ((hb.fr HS3.out (fun h => h)).fr HS4.out (fun h => h)).far (p := ⟨b, 0, none⟩) HO.out _
    · exact (HOLD.out.far (p := ⟨b, 0, none⟩) (fun e => by have h1 := HLT.out; change w3.heap.size = b at e; omega) _).cell 0 rfl
    · simp [T.ids]
      have := HLT.out
      omega
  · rw [decide_eq_false hs]
    have HSS := Aside0.mk hs
    clear hs
    go_wp2_with fail
    have HF0 : Aside0 (Same w3 w3) := ⟨Fr.refl _ _⟩
    have HK : Aside0 (∀ w', Same w3 w' → w'.cell? ⟨b, 1, none⟩ = some (.string (str s))) := ⟨fun w' hf => hf.cell c1⟩
    go_region_held3 (fun w' => Same w3 w' ∧ w'.cell? ⟨b, 1, none⟩ = some (.string (str s)))
      (first | exact ⟨HF0.out.drew, HK.out _ HF0.out.drew⟩ | exact heldS HK.out (by assumption) hf1 | exact heldS HK.out (by assumption) hf2)
      (first
        | (go_at_call 73; refine (toB_calls s HLN.out).mono ?_; rintro e4 w4 ⟨⟨A4, c4, rfl, hl4, hb4⟩, hf1⟩)
        | (go_at_call 72; refine (cpl_calls hb4 (HC3.out.same (HF0.out.drew.trans hf1 (fun _ _ h => h)))).mono ?_; rintro e5 w5 ⟨rfl, hf2⟩))
    have HS5 : Aside0 (Same w3 w5) := ⟨(HF0.out.drew.trans hf1 (fun _ _ h => h)).trans hf2 (fun _ _ h => h)⟩
    obtain ⟨q, hq⟩ : ∃ q, q = cpl s (l.drop si) := ⟨_, rfl⟩
    rw [← hq]
    have HQ : Aside0 (q = cpl s (l.drop si) ∧ q ≤ s.length ∧ si + q ≤ n ∧ n ≤ 1000) := ⟨hq, by rw [hq]; exact (cpl_le _ _).1, by
      have h1 := (cpl_le s (l.drop si)).2
      rw [List.length_drop, H.out.bytes.len, ← hq] at h1
      have := H.out.sile
      omega, H.out.bytes.small⟩
    have q0 : IntKind.i64.wrap ((si : Int) + (q : Int)) = ((si + q : Nat) : Int) := by rw [IntKind.wrap_i64]; have := HQ.out; omega
    obtain ⟨m, hm⟩ : ∃ m, m = si + q := ⟨_, rfl⟩
    rw [← hm] at q0
    have HM := Aside0.mk hm
    have m0 : (si : Int) ≤ (m : Int) := by omega
    have m1 : (m : Int) ≤ (n : Int) := by have := HQ.out; omega
    have m2 : (m : Int) ≤ (c : Int) := by omega
    have m3 : (0 : Int) ≤ (m : Int) := by omega
    clear hq hm HF0 HK hf1 hf2 hl4 hb4 c0 c1 cn zn zb
    go_wp2_with fail
    have e6 : m - si = q := by have := HM.out; omega
    have HC5 : Aside0 (CB w5 X (m - si) (s.take q)) := ⟨by
      have := (HC3.out.same HS5.out).take (k := m - si) (by have := HQ.out; omega)
      rw [e6] at this ⊢
      rw [HQ.out.1, cpl_take, ← HQ.out.1]
      exact this⟩
    clear e6
    refine (newNode4_calls HC5.out).mono ?_
    intro e w6 hp
    have HP6 := Aside0.mk hp
    have he := hp.ret
    clear hp
    subst he
    obtain ⟨nb, hnb⟩ : ∃ nb, nb = w5.heap.size := ⟨_, rfl⟩
    rw [← hnb]
    have HNB := Aside0.mk hnb
    clear hnb
    unfold pa
    have HL6 : Aside0 (LeafAt w6 b v0 s) := ⟨(HL3.out.fr HS5.out (fun h => h)).fr HP6.out.same (fun h => h)⟩
    have c1 := HL6.out.cell 1 rfl
    have s0 : (0 : Int) ≤ (q : Int) := by omega
    have s1 : (q : Int) ≤ ((str s).size : Int) := by rw [str_size]; have := HQ.out; omega
    go_wp2_with fail
    rw [str_drop]
    refine (toB_calls (s.drop q) (by rw [List.length_drop]; have := HLN.out; omega)).mono ?_
    obtain ⟨ls, hls⟩ : ∃ ls, ls = (s.drop q).length := ⟨_, rfl⟩
    rintro e w7 ⟨⟨A7, c7, rfl, hl7, hb7⟩, hs7⟩
    rw [← hls] at hl7 hb7 ⊢
    clear hls
    have HB7 := Aside0.mk (And.intro hl7 hb7)
    have HS7 := Aside0.mk hs7
    have HL7 : Aside0 (LeafAt w7 b v0 s) := ⟨HL6.out.fr hs7 (fun h => h)⟩
    clear hl7 hb7 hs7 c1
    go_wp2_with fail
    refine (setSuffix_calls HL7.out HB7.out.2).mono ?_
    rintro e w8 ⟨rfl, hw8⟩
    have HL8 : Aside0 (LeafAt w8 b v0 (s.drop q)) := ⟨by rw [hw8]; exact Blk.set HL7.out 1 (by simp) _⟩
    have HF8 : Aside0 (Fr (fun k => k = b) w7 w8) := ⟨by rw [hw8]; exact (Fr.refl (fun k => k = b) w7).set (p := ⟨b, 1, none⟩) (.inl rfl) _⟩
    have HZ8 : Aside0 (w8.heap.size = w7.heap.size) := ⟨by rw [hw8, setCell_size]⟩
    have c1 := HL8.out.cell 1 rfl
    clear hw8
    go_wp2_with fail
    refine (toB_calls (s.drop q) (by rw [List.length_drop]; have := HLN.out; omega)).mono ?_
    obtain ⟨lt, hlt⟩ : ∃ lt, lt = (s.drop q).length := ⟨_, rfl⟩
    rintro e w9 ⟨⟨A9, c9, rfl, hl9, hb9⟩, hs9⟩
    rw [← hlt] at hl9 hb9 ⊢
    clear hlt
    have HB9 := Aside0.mk hb9
    have HS9 := Aside0.mk hs9
    clear hl9 hb9 hs9 c1
    go_wp2_with fail
    refine (pivot_calls HB9.out 0).mono ?_
    rintro e w' ⟨rfl, rfl⟩
    rw [List.drop_zero]
    obtain ⟨pv, hpv⟩ : ∃ pv : Int, pv = ((piv (s.drop q)).toNat : Int) := ⟨_, rfl⟩
    have HPV := Aside0.mk hpv
    unfold bv
    rw [← hpv]
    clear hpv
    have HBL : Aside0 (CB w9 A n l) := ⟨((((((H.out.bytes.same HS3.out).same HS5.out).same HP6.out.same).same HS7.out).fr HF8.out (fun ad h e => (H.out.apart ad h).2 (by rw [e]; exact id_mem (.leaf b v0 s)))).same HS9.out)⟩
    have HL9 : Aside0 (LeafAt w9 b v0 (s.drop q)) := ⟨HL8.out.fr HS9.out (fun h => h)⟩
    have HN9 : Aside0 (NodeAt w9 nb .k4 (s.take q) []) := ⟨by
      have hne : nb ≠ b := by have := HL3.out.lt; have := HS5.out.size; have := HNB.out; omega
      have h6 := HP6.out.nd
      rw [← HNB.out] at h6
      exact nodeAt_fr (nodeAt_fr (nodeAt_fr h6 HS7.out (fun h => h)) HF8.out hne) HS9.out (fun h => h)⟩
    have HF9 : Aside0 (Fr (fun k => k = b) w2 w9) := ⟨((((HS3.out.trans HS5.out (fun _ _ h => h)).trans HP6.out.same (fun _ _ h => h)).trans HS7.out (fun _ _ h => h)).mono (fun _ h => h.elim)).trans (HF8.out.trans HS9.out (fun _ _ h => h.elim)) (fun _ _ h => h)⟩
    have HNEW : Aside0 (w2.heap.size ≤ nb ∧ nb < w9.heap.size) := ⟨by have := HS3.out.size; have := HS5.out.size; have := HNB.out; have := HN9.out.lt; omega⟩
    clear HL3 HL6 HL7 HL8 HS3 HS5 HS7 HS9 HF8 HZ8 HP6 HC5 HB7 HB9 HC3
    have HBAD : Aside0 (q = 0 ∨ (0 < q ∧ n ≤ m) ∨ (0 < q ∧ m < n ∧ ∃ ad x, A = some ad ∧ w9.cell? (ad.add m) = some (.int .u8 x) ∧ (pv == x) = false)) := ⟨by
      rcases Nat.eq_zero_or_pos q with h | h
      · exact .inl h
      · rcases Nat.lt_or_ge m n with h2 | h2
        · refine .inr (.inr ⟨h, h2, ?_⟩)
          obtain ⟨y, hy⟩ : ∃ y, l[m]? = some y := ⟨_, List.getElem?_eq_getElem (by rw [HBL.out.len]; exact h2)⟩
          obtain ⟨ad, e, hc⟩ := HBL.out.at hy
          refine ⟨ad, _, e, hc, ?_⟩
          rw [HPV.out, piv_eq_dec]
          have hp := piv_rest H.out.wf (no127_drop H.out.no127 si) (fun e => HSS.out e.symm)
          rw [← HQ.out.1, List.drop_drop, ← HM.out, drop_at hy] at hp
          exact decide_eq_false hp
        · exact .inr (.inl ⟨h, h2⟩)⟩
    obtain ⟨X2, hX2⟩ : ∃ X2, (if c = m then A else Option.map (fun x => x.add m) A) = X2 := ⟨_, rfl⟩
    have HX2 : Aside0 (CB w9 X2 (n - m) (l.drop m)) := ⟨by rw [← hX2]; exact HBL.out.drop (by omega) H.out.cap⟩
    have HNEB : Aside0 (nb ≠ b) := ⟨by have := HNEW.out; have := (lies_leaf.1 H.out.lies).lt; omega⟩
    have HSLEN : Aside0 (s.length ≤ 1000) := HLN
    clear HLN
    rcases HBAD.out with hq0 | ⟨hq1, hq2⟩ | ⟨hq1, hq2, ad, x, hA, hcx, hpx⟩
    · have k1 : ¬ ((0 : Int) < (q : Int)) := by omega
      clear hq0 HBAD
      go_wp2_with fail
      refine (newLeaf_calls HX2.out v).mono ?_
      intro e w10 hp
      have HP := Aside0.mk hp
      have he := hp.ret
      clear hp
      subst he
      obtain ⟨lb, hlb⟩ : ∃ lb, lb = w9.heap.size := ⟨_, rfl⟩
      rw [← hlb]
      have HLB := Aside0.mk hlb
      have HLN := Aside0.mk HP.out.leaf
      rw [← hlb] at HLN
      clear hlb
      unfold pa
      have c1 := HLN.out.cell 1 rfl
      clear hX2
      go_wp2_with fail
      refine (toB_calls (l.drop m) (by rw [List.length_drop, H.out.bytes.len]; have := H.out.bytes.small; omega)).mono ?_
      obtain ⟨lt, hlt⟩ : ∃ lt, lt = (l.drop m).length := ⟨_, rfl⟩
      rintro e w11 ⟨⟨A11, c11, rfl, hl11, hb11⟩, hs11⟩
      rw [← hlt] at hl11 hb11 ⊢
      clear hlt
      have HB11 := Aside0.mk hb11
      have HS11 : Aside0 (Same w9 w11 ∧ Same w10 w11) := ⟨HP.out.same.trans hs11 (fun _ _ h => h), hs11⟩
      clear hl11 hb11 hs11 c1
      go_wp2_with fail
      refine (pivot_calls HB11.out 0).mono ?_
      rintro e w' ⟨rfl, rfl⟩
      rw [List.drop_zero]
      obtain ⟨py, hpy⟩ : ∃ py, py = bv (T.leaf lb v (l.drop m)).piv := ⟨_, rfl⟩
      have hpy2 : bv (piv (l.drop m)) = py := hpy.symm
      rw [hpy2]
      have HN11 : Aside0 (NodeAt w11 nb .k4 (s.take q) []) := ⟨nodeAt_fr HN9.out HS11.out.1 (fun h => h)⟩
      have hadd := add4_calls HN11.out (by decide) (.leaf lb v (l.drop m))
      rw [← hpy] at hadd
      unfold T.val pa at hadd
      have HPY := Aside0.mk hpy
      clear hpy hpy2
      go_wp2_with fail
      refine hadd.mono ?_
      intro e w12 hp
      have HP12 := Aside0.mk hp
      have he := hp.ret
      clear hp hadd HPY
      subst he
      have HL12 : Aside0 (LeafAt w12 b v0 (s.drop q)) := ⟨(HL9.out.fr HS11.out.1 (fun h => h)).fr HP12.out.fr (fun e => by have h1 := HL9.out.lt; have h2 := HNEB.out; omega)⟩
      have c1 := HL12.out.cell 1 rfl
      go_wp2_with fail
      refine (toB_calls (s.drop q) (by rw [List.length_drop]; have := HSLEN.out; omega)).mono ?_
      obtain ⟨lt, hlt⟩ : ∃ lt, lt = (s.drop q).length := ⟨_, rfl⟩
      rintro e w13 ⟨⟨A13, c13, rfl, hl13, hb13⟩, hs13⟩
      rw [← hlt] at hl13 hb13 ⊢
      clear hlt
      have HB13 := Aside0.mk hb13
      have HS13 := Aside0.mk hs13
      clear hl13 hb13 hs13 c1
      go_wp2_with fail
      refine (pivot_calls HB13.out 0).mono ?_
      rintro e w' ⟨rfl, rfl⟩
      rw [List.drop_zero]
      obtain ⟨py, hpy⟩ : ∃ py, py = bv (T.leaf b v0 (s.drop q)).piv := ⟨_, rfl⟩
      have hpy2 : bv (piv (s.drop q)) = py := hpy.symm
      rw [hpy2]
      have HN13 : Aside0 (NodeAt w13 nb .k4 (s.take q) [.leaf lb v (l.drop m)]) := ⟨nodeAt_fr HP12.out.nd HS13.out (fun h => h)⟩
      have hadd := add4_calls HN13.out (by simp) (.leaf b v0 (s.drop q))
      rw [← hpy] at hadd
      unfold T.val pa at hadd
      have HPY := Aside0.mk hpy
      clear hpy hpy2
      go_wp2_with fail
      refine hadd.mono ?_
      intro e w14 hp
      have HP14 := Aside0.mk hp
      have he := hp.ret
      clear hp hadd HPY
      subst he
      have HFB : Aside0 (Fr (fun k => k = nb) w9 w14) := ⟨(((HS11.out.1.mono (fun _ h => h.elim)).trans HP12.out.fr (fun _ _ h => h)).trans HS13.out (fun _ _ h => h.elim)).trans HP14.out.fr (fun _ _ h => h)⟩
      have HFA : Aside0 (Fr (fun k => k = b) w2 w14) := ⟨HF9.out.trans HFB.out (fun k hk e => by have := HNEW.out; omega)⟩
      have HBG : Aside0 (∀ T cs, Blk w2 g T cs → Blk w14 g T cs) := ⟨fun T cs hb => hb.fr HFA.out HO.out⟩
      have cn := (HBG.out _ _ HG.out.1).cell o HG.out.2
      have zn := (HBG.out _ _ HG.out.1).free o
      have HL14 : Aside0 (LeafAt w14 lb v (l.drop m) ∧ LeafAt w14 b v0 (s.drop q)) := ⟨by
        have hne : lb ≠ nb := by have := HNEW.out; have := HLB.out; omega
        exact ⟨(((HLN.out.fr HS11.out.2 (fun h => h)).fr HP12.out.fr hne).fr HS13.out (fun h => h)).fr HP14.out.fr hne, (HL12.out.fr HS13.out (fun h => h)).fr HP14.out.fr (fun e => HNEB.out e.symm)⟩⟩
      unfold T.val pa at cn
      go_wp2_with fail
      refine bodyPost_ret (results_list (rs := [.tmp 10, .tmp 11]) rfl (by simp) (.tmp (.tmp .nil))) rfl ?_
      exact leaf_out H.out HSS.out HQ.out.1 HM.out HG.out.1 HG.out.2 HFA.out HP14.out.nd HL14.out.1 HL14.out.2 (by have := HNEW.out; omega) (by have := HNEW.out; have := HLB.out; omega)
    · have k1 : (0 : Int) < (q : Int) := by omega
      have k2 : ¬ ((m : Int) < (n : Int)) := by omega
      clear hq1 hq2 HBAD
      go_wp2_with fail
      refine (newLeaf_calls HX2.out v).mono ?_
      intro e w10 hp
      have HP := Aside0.mk hp
      have he := hp.ret
      clear hp
      subst he
      obtain ⟨lb, hlb⟩ : ∃ lb, lb = w9.heap.size := ⟨_, rfl⟩
      rw [← hlb]
      have HLB := Aside0.mk hlb
      have HLN := Aside0.mk HP.out.leaf
      rw [← hlb] at HLN
      clear hlb
      unfold pa
      have c1 := HLN.out.cell 1 rfl
      clear hX2
      go_wp2_with fail
      refine (toB_calls (l.drop m) (by rw [List.length_drop, H.out.bytes.len]; have := H.out.bytes.small; omega)).mono ?_
      obtain ⟨lt, hlt⟩ : ∃ lt, lt = (l.drop m).length := ⟨_, rfl⟩
      rintro e w11 ⟨⟨A11, c11, rfl, hl11, hb11⟩, hs11⟩
      rw [← hlt] at hl11 hb11 ⊢
      clear hlt
      have HB11 := Aside0.mk hb11
      have HS11 : Aside0 (Same w9 w11 ∧ Same w10 w11) := ⟨HP.out.same.trans hs11 (fun _ _ h => h), hs11⟩
      clear hl11 hb11 hs11 c1
      go_wp2_with fail
      refine (pivot_calls HB11.out 0).mono ?_
      rintro e w' ⟨rfl, rfl⟩
      rw [List.drop_zero]
      obtain ⟨py, hpy⟩ : ∃ py, py = bv (T.leaf lb v (l.drop m)).piv := ⟨_, rfl⟩
      have hpy2 : bv (piv (l.drop m)) = py := hpy.symm
      rw [hpy2]
      have HN11 : Aside0 (NodeAt w11 nb .k4 (s.take q) []) := ⟨nodeAt_fr HN9.out HS11.out.1 (fun h => h)⟩
      have hadd := add4_calls HN11.out (by decide) (.leaf lb v (l.drop m))
      rw [← hpy] at hadd
      unfold T.val pa at hadd
      have HPY := Aside0.mk hpy
      clear hpy hpy2
      go_wp2_with fail
      refine hadd.mono ?_
      intro e w12 hp
      have HP12 := Aside0.mk hp
      have he := hp.ret
      clear hp hadd HPY
      subst he
      have HL12 : Aside0 (LeafAt w12 b v0 (s.drop q)) := ⟨(HL9.out.fr HS11.out.1 (fun h => h)).fr HP12.out.fr (fun e => by have h1 := HL9.out.lt; have h2 := HNEB.out; omega)⟩
      have c1 := HL12.out.cell 1 rfl
      go_wp2_with fail
      refine (toB_calls (s.drop q) (by rw [List.length_drop]; have := HSLEN.out; omega)).mono ?_
      obtain ⟨lt, hlt⟩ : ∃ lt, lt = (s.drop q).length := ⟨_, rfl⟩
      rintro e w13 ⟨⟨A13, c13, rfl, hl13, hb13⟩, hs13⟩
      rw [← hlt] at hl13 hb13 ⊢
      clear hlt
      have HB13 := Aside0.mk hb13
      have HS13 := Aside0.mk hs13
      clear hl13 hb13 hs13 c1
      go_wp2_with fail
      refine (pivot_calls HB13.out 0).mono ?_
      rintro e w' ⟨rfl, rfl⟩
      rw [List.drop_zero]
      obtain ⟨py, hpy⟩ : ∃ py, py = bv (T.leaf b v0 (s.drop q)).piv := ⟨_, rfl⟩
      have hpy2 : bv (piv (s.drop q)) = py := hpy.symm
      rw [hpy2]
      have HN13 : Aside0 (NodeAt w13 nb .k4 (s.take q) [.leaf lb v (l.drop m)]) := ⟨nodeAt_fr HP12.out.nd HS13.out (fun h => h)⟩
      have hadd := add4_calls HN13.out (by simp) (.leaf b v0 (s.drop q))
      rw [← hpy] at hadd
      unfold T.val pa at hadd
      have HPY := Aside0.mk hpy
      clear hpy hpy2
      go_wp2_with fail
      refine hadd.mono ?_
      intro e w14 hp
      have HP14 := Aside0.mk hp
      have he := hp.ret
      clear hp hadd HPY
      subst he
      have HFB : Aside0 (Fr (fun k => k = nb) w9 w14) := ⟨(((HS11.out.1.mono (fun _ h => h.elim)).trans HP12.out.fr (fun _ _ h => h)).trans HS13.out (fun _ _ h => h.elim)).trans HP14.out.fr (fun _ _ h => h)⟩
      have HFA : Aside0 (Fr (fun k => k = b) w2 w14) := ⟨HF9.out.trans HFB.out (fun k hk e => by have := HNEW.out; omega)⟩
      have HBG : Aside0 (∀ T cs, Blk w2 g T cs → Blk w14 g T cs) := ⟨fun T cs hb => hb.fr HFA.out HO.out⟩
      have cn := (HBG.out _ _ HG.out.1).cell o HG.out.2
      have zn := (HBG.out _ _ HG.out.1).free o
      have HL14 : Aside0 (LeafAt w14 lb v (l.drop m) ∧ LeafAt w14 b v0 (s.drop q)) := ⟨by
        have hne : lb ≠ nb := by have := HNEW.out; have := HLB.out; omega
        exact ⟨(((HLN.out.fr HS11.out.2 (fun h => h)).fr HP12.out.fr hne).fr HS13.out (fun h => h)).fr HP14.out.fr hne, (HL12.out.fr HS13.out (fun h => h)).fr HP14.out.fr (fun e => HNEB.out e.symm)⟩⟩
      unfold T.val pa at cn
      go_wp2_with fail
      refine bodyPost_ret (results_list (rs := [.tmp 10, .tmp 11]) rfl (by simp) (.tmp (.tmp .nil))) rfl ?_
      exact leaf_out H.out HSS.out HQ.out.1 HM.out HG.out.1 HG.out.2 HFA.out HP14.out.nd HL14.out.1 HL14.out.2 (by have := HNEW.out; omega) (by have := HNEW.out; have := HLB.out; omega)
    · have k1 : (0 : Int) < (q : Int) := by omega
      have k2 : (m : Int) < (n : Int) := by omega
      subst hA
      clear hq1 hq2 HBAD
      simp only [Option.map_some] at hX2
      go_upto_region 19 with (fail)
      clear hcx hpx k1 k2
      go_wp2_with fail
      refine (newLeaf_calls HX2.out v).mono ?_
      intro e w10 hp
      have HP := Aside0.mk hp
      have he := hp.ret
      clear hp
      subst he
      obtain ⟨lb, hlb⟩ : ∃ lb, lb = w9.heap.size := ⟨_, rfl⟩
      rw [← hlb]
      have HLB := Aside0.mk hlb
      have HLN := Aside0.mk HP.out.leaf
      rw [← hlb] at HLN
      clear hlb
      unfold pa
      have c1 := HLN.out.cell 1 rfl
      clear hX2
      go_wp2_with fail
      refine (toB_calls (l.drop m) (by rw [List.length_drop, H.out.bytes.len]; have := H.out.bytes.small; omega)).mono ?_
      obtain ⟨lt, hlt⟩ : ∃ lt, lt = (l.drop m).length := ⟨_, rfl⟩
      rintro e w11 ⟨⟨A11, c11, rfl, hl11, hb11⟩, hs11⟩
      rw [← hlt] at hl11 hb11 ⊢
      clear hlt
      have HB11 := Aside0.mk hb11
      have HS11 : Aside0 (Same w9 w11 ∧ Same w10 w11) := ⟨HP.out.same.trans hs11 (fun _ _ h => h), hs11⟩
      clear hl11 hb11 hs11 c1
      go_wp2_with fail
      refine (pivot_calls HB11.out 0).mono ?_
      rintro e w' ⟨rfl, rfl⟩
      rw [List.drop_zero]
      obtain ⟨py, hpy⟩ : ∃ py, py = bv (T.leaf lb v (l.drop m)).piv := ⟨_, rfl⟩
      have hpy2 : bv (piv (l.drop m)) = py := hpy.symm
      rw [hpy2]
      have HN11 : Aside0 (NodeAt w11 nb .k4 (s.take q) []) := ⟨nodeAt_fr HN9.out HS11.out.1 (fun h => h)⟩
      have hadd := add4_calls HN11.out (by decide) (.leaf lb v (l.drop m))
      rw [← hpy] at hadd
      unfold T.val pa at hadd
      have HPY := Aside0.mk hpy
      clear hpy hpy2
      go_wp2_with fail
      refine hadd.mono ?_
      intro e w12 hp
      have HP12 := Aside0.mk hp
      have he := hp.ret
      clear hp hadd HPY
      subst he
      have HL12 : Aside0 (LeafAt w12 b v0 (s.drop q)) := ⟨(HL9.out.fr HS11.out.1 (fun h => h)).fr HP12.out.fr (fun e => by have h1 := HL9.out.lt; have h2 := HNEB.out; omega)⟩
      have c1 := HL12.out.cell 1 rfl
      go_wp2_with fail
      refine (toB_calls (s.drop q) (by rw [List.length_drop]; have := HSLEN.out; omega)).mono ?_
      obtain ⟨lt, hlt⟩ : ∃ lt, lt = (s.drop q).length := ⟨_, rfl⟩
      rintro e w13 ⟨⟨A13, c13, rfl, hl13, hb13⟩, hs13⟩
      rw [← hlt] at hl13 hb13 ⊢
      clear hlt
      have HB13 := Aside0.mk hb13
      have HS13 := Aside0.mk hs13
      clear hl13 hb13 hs13 c1
      go_wp2_with fail
      refine (pivot_calls HB13.out 0).mono ?_
      rintro e w' ⟨rfl, rfl⟩
      rw [List.drop_zero]
      obtain ⟨py, hpy⟩ : ∃ py, py = bv (T.leaf b v0 (s.drop q)).piv := ⟨_, rfl⟩
      have hpy2 : bv (piv (s.drop q)) = py := hpy.symm
      rw [hpy2]
      have HN13 : Aside0 (NodeAt w13 nb .k4 (s.take q) [.leaf lb v (l.drop m)]) := ⟨nodeAt_fr HP12.out.nd HS13.out (fun h => h)⟩
      have hadd := add4_calls HN13.out (by simp) (.leaf b v0 (s.drop q))
      rw [← hpy] at hadd
      unfold T.val pa at hadd
      have HPY := Aside0.mk hpy
      clear hpy hpy2
      go_wp2_with fail
      refine hadd.mono ?_
      intro e w14 hp
      have HP14 := Aside0.mk hp
      have he := hp.ret
      clear hp hadd HPY
      subst he
      have HFB : Aside0 (Fr (fun k => k = nb) w9 w14) := ⟨(((HS11.out.1.mono (fun _ h => h.elim)).trans HP12.out.fr (fun _ _ h => h)).trans HS13.out (fun _ _ h => h.elim)).trans HP14.out.fr (fun _ _ h => h)⟩
      have HFA : Aside0 (Fr (fun k => k = b) w2 w14) := ⟨HF9.out.trans HFB.out (fun k hk e => by have := HNEW.out; omega)⟩
      have HBG : Aside0 (∀ T cs, Blk w2 g T cs → Blk w14 g T cs) := ⟨fun T cs hb => hb.fr HFA.out HO.out⟩
      have cn := (HBG.out _ _ HG.out.1).cell o HG.out.2
      have zn := (HBG.out _ _ HG.out.1).free o
      have HL14 : Aside0 (LeafAt w14 lb v (l.drop m) ∧ LeafAt w14 b v0 (s.drop q)) := ⟨by
        have hne : lb ≠ nb := by have := HNEW.out; have := HLB.out; omega
        exact ⟨(((HLN.out.fr HS11.out.2 (fun h => h)).fr HP12.out.fr hne).fr HS13.out (fun h => h)).fr HP14.out.fr hne, (HL12.out.fr HS13.out (fun h => h)).fr HP14.out.fr (fun e => HNEB.out e.symm)⟩⟩
      unfold T.val pa at cn
      go_wp2_with fail
      refine bodyPost_ret (results_list (rs := [.tmp 10, .tmp 11]) rfl (by simp) (.tmp (.tmp .nil))) rfl ?_
      exact leaf_out H.out HSS.out HQ.out.1 HM.out HG.out.1 HG.out.2 HFA.out HP14.out.nd HL14.out.1 HL14.out.2 (by have := HNEW.out; omega) (by have := HNEW.out; have := HLB.out; omega)
end Go.Proofs.YtjhmpcbpbdkddaaGreat.Te
namespace Go.Proofs.YtjhmpcbpbdkddaaGreat.Te
open Go.RowKit Go.Proofs.YtjhmpcbpbdkddaaGreat.Bs Go.Proofs.YtjhmpcbpbdkddaaGreatW.PrintWords Go.Proofs.YtjhmpcbpbdkddaaGreatW.PrintLast Go.Proofs.YtjhmpcbpbdkddaaGreatW.PrintMore
set_option linter.unusedVariables false
set_option linter.unusedSimpArgs false
section
variable {w w1 w2 : World} {g o b n c si sj : Nat} {k : K} {p l : BL} {ks : List T} {A : Option Addr} {v : Int}
theorem node_nodup (h : (T.node b k p ks).ids.Nodup) : b ∉ idsL ks ∧ (idsL ks).Nodup := by
  rw [T.ids, List.nodup_cons] at h
  exact h
theorem node_kids (h : Lies w (.node b k p ks)) : ∀ x ∈ idsL ks, x < w.heap.size := by
  intro x hx
  obtain ⟨t, ht, hx⟩ := mem_idsL.1 hx
  exact ((lies_node.1 h).2 t ht).lt x hx
theorem kid_nodup {i : Nat} {t : T} (h : (idsL ks).Nodup) (hi : ks[i]? = some t) : t.ids.Nodup := by
  induction ks generalizing i with
  | nil => simp at hi
  | cons a ks ih =>
    rw [idsL, List.nodup_append] at h
    cases i with
    | zero =>
      simp only [List.getElem?_cons_zero, Option.some.injEq] at hi
      subst hi
      exact h.1
    | succ i =>
      rw [List.getElem?_cons_succ] at hi
      exact ih h.2.1 hi
theorem node_set {t t' : T} {i : Nat} (hN : NodeAt w b k p ks) (hi : ks[i]? = some t) (hp : t'.piv = t.piv) (hB : ∀ T cs, Blk w b T cs → cs[i]? = some t.val → Blk w1 b T (cs.set i t'.val)) : NodeAt w1 b k p (ks.set i t') := by
  have hil : i < ks.length := (List.getElem?_eq_some_iff.1 hi).1
  have hcap := kids_cap hN
  have hv : (kidsV k ks).length = k.cap := hN.vl
  have h1 := hB _ _ hN.blk (by rw [List.getElem?_append_left (by omega)]; exact kidsV_at hi)
  rw [List.set_append_left _ _ (by omega), kidsV_set hil] at h1
  have e : (ks.set i t').map T.piv = ks.map T.piv := by
    rw [List.map_set, hp]
    exact set_same (by rw [List.getElem?_map, hi]; rfl)
  refine ⟨?_, kidsV_len (by rw [List.length_set]; exact hcap), by rw [e]; exact hN.ql⟩
  rw [e, List.length_set]
  exact h1
theorem kid_pre (H : InsPre w g o (.node b k p ks) A n c l si) (hs : Same w w1) {i : Nat} {t : T} (hi : ks[i]? = some t) (hj : sj ≤ n) : InsPre w1 b i t A n c l sj := by
  obtain ⟨hN, hK⟩ := lies_node.1 H.lies
  obtain ⟨h1, h2, h3, h4⟩ := wf_node.1 H.wf
  obtain ⟨d1, d2⟩ := node_nodup H.nodup
  have htm := List.mem_of_getElem? hi
  refine ⟨(hK t htm).fr hs (fun _ _ h => h), (h4 t htm).1, kid_nodup d2 hi, ⟨_, _, (Nd.fr hN hs (fun h => h)).blk, by rw [List.getElem?_append_left (by rw [hN.vl]; have := (List.getElem?_eq_some_iff.1 hi).1; have := kids_cap hN; omega)]; exact kidsV_at hi⟩,
    fun h => d1 (mem_idsL.2 ⟨t, htm, h⟩), H.bytes.same hs, fun ad h => ?_, hj, H.cap, H.no127, ?_⟩
  · obtain ⟨a1, a2⟩ := H.apart ad h
    exact ⟨fun e => a2 (ids_node.2 (.inl e)), fun hm => a2 (ids_node.2 (.inr ⟨t, htm, hm⟩))⟩
  · have := H.few
    rw [ents_len] at this
    have := ents_kid hi
    omega
/-- A put into a kid. -/
theorem kid_out (H : InsPre w g o (.node b k p ks) A n c l si) (hs : Same w w1) {i : Nat} {t : T} (hi : ks[i]? = some t) (hr : l.drop si = p ++ l.drop sj) (hp : t.piv = piv (l.drop sj)) {e : Ending} (h : InsPost w1 b i t (l.drop sj) v e w2) :
    InsPost w g o (.node b k p ks) (l.drop si) v e w2 := by
  obtain ⟨t', u, rfl, ho, hw⟩ := h.out
  obtain ⟨hN, hK⟩ := lies_node.1 H.lies
  obtain ⟨q1, q2, q3, q4⟩ := wf_node.1 H.wf
  obtain ⟨d1, d2⟩ := node_nodup H.nodup
  have htm := List.mem_of_getElem? hi
  have hin := (q4 t htm).2
  have hlt := node_kids H.lies
  have hbl : b < w.heap.size := hN.lt
  have hsz := hs.size
  have hput := put_kid H.wf hi hp ho.put
  rw [← hr] at hput
  obtain ⟨m1, m2⟩ := idsL_set (N := w1.heap.size) d2 (fun x hx => by have := hlt x hx; omega) hi ho.nodup ho.ids
  have hN2 : NodeAt w2 b k p (ks.set i t') := node_set (nodeAt_fr hN hs (fun h => h)) hi (ho.put.piv hin hp.symm) ho.cell
  have hgb : g ≠ b := fun e => H.out (ids_node.2 (.inl e))
  have hgt : g ∉ t.ids := fun e => H.out (ids_node.2 (.inr ⟨t, htm, e⟩))
  have hF : Fr (fun x => x = g ∨ x ∈ (T.node b k p ks).ids) w w2 := (hs.mono (fun _ h => h.elim)).trans ho.fr (fun x hx e => by
    rcases e with e | e
    · exact .inr (ids_node.2 (.inl e))
    · exact .inr (ids_node.2 (.inr ⟨t, htm, e⟩)))
  refine ⟨.node b k p (ks.set i t'), u, rfl, ⟨hput, lies_node.2 ⟨hN2, fun x hx => ?_⟩, ?_, fun x hx => ?_, hF, fun Tx cs hb hc => ?_⟩, ?_⟩
  · obtain ⟨j, hj⟩ := List.getElem?_of_mem hx
    rw [List.getElem?_set] at hj
    by_cases hij : i = j
    · subst hij
      rw [if_pos rfl, if_pos (List.getElem?_eq_some_iff.1 hi).1] at hj
      injection hj with hj
      subst hj
      exact ho.lies
    · rw [if_neg hij] at hj
      have hxm := List.mem_of_getElem? hj
      refine ((hK x hxm).fr hs (fun _ _ h => h)).fr ho.fr (fun y hy e => ?_)
      rcases e with e | e
      · exact d1 (mem_idsL.2 ⟨x, hxm, e ▸ hy⟩)
      · exact ids_disj d2 hi hj hij e hy
  · rw [T.ids, List.nodup_cons]
    refine ⟨fun hm => ?_, m1⟩
    rcases m2 b hm with h | h
    · exact d1 h
    · omega
  · rw [T.ids, List.mem_cons] at hx
    rcases hx with rfl | hx
    · exact .inl (ids_node.2 (.inl rfl))
    · rcases m2 x hx with h | h
      · exact .inl (by rw [T.ids]; exact List.mem_cons_of_mem _ h)
      · exact .inr (by omega)
  · have e : cs.set o (T.node b k p (ks.set i t')).val = cs := set_same hc
    rw [e]
    exact (hb.fr hs (fun h => h)).fr ho.fr (fun e => e.elim hgb hgt)
  · have hvia := fun v1 => via_kid (b := b) (k := k) (p := p) q3 (fun x hx => (q4 x hx).2) htm hp v1
    rw [← hr] at hvia
    cases hw with
    | new h0 => exact .new (fun v1 hm => h0 v1 ((hvia v1).1 hm))
    | old v1 h0 a hc ha hn =>
      refine .old v1 ((hvia v1).2 h0) a hc (by omega) (fun hm => ?_)
      rw [T.ids, List.mem_cons] at hm
      rcases hm with e | hm
      · omega
      · obtain ⟨x, hx, hax⟩ := mem_idsL.1 hm
        rcases List.mem_or_eq_of_mem_set hx with hx | rfl
        · have := hlt _ (mem_idsL.2 ⟨x, hx, hax⟩)
          omega
        · exact hn hax
/-- A leaf put beside the kids (the node may have grown). -/
theorem more_out (H : InsPre w g o (.node b k p ks) A n c l si) (hr : l.drop si = p ++ l.drop sj) (hno : ∀ t ∈ ks, t.piv ≠ piv (l.drop sj)) {k' : K} {nb lb : Nat} (hl : k'.low ≤ ks.length + 1) (hc : ks.length + 1 ≤ k'.cap)
    (hnb : nb = b ∨ w.heap.size ≤ nb) (hlb : w.heap.size ≤ lb ∧ lb ≠ nb) (hF : Fr (fun x => x = g ∨ x = b) w w2) (hN2 : NodeAt w2 nb k' p (ks ++ [.leaf lb v (l.drop sj)])) (hL2 : LeafAt w2 lb v (l.drop sj))
    (hcell : ∀ Tx cs, Blk w g Tx cs → cs[o]? = some (T.node b k p ks).val → Blk w2 g Tx (cs.set o (.iface k'.pt (pa nb)))) :
    InsPost w g o (.node b k p ks) (l.drop si) v (.returned (.tuple #[.pointer none, .bool false])) w2 := by
  obtain ⟨hN, hK⟩ := lies_node.1 H.lies
  obtain ⟨q1, q2, q3, q4⟩ := wf_node.1 H.wf
  obtain ⟨d1, d2⟩ := node_nodup H.nodup
  have hlt := node_kids H.lies
  have hbl : b < w.heap.size := hN.lt
  have hput := put_more (b' := nb) (nl := lb) (v := v) H.wf (no127_drop H.no127 sj) hno hl hc
  rw [← hr] at hput
  have hids : ∀ x, x ∈ (T.node nb k' p (ks ++ [.leaf lb v (l.drop sj)])).ids ↔ x = nb ∨ x ∈ idsL ks ∨ x = lb := by
    intro x
    rw [T.ids, List.mem_cons, idsL_app, List.mem_append]
    simp [idsL, T.ids]
  refine ⟨_, _, rfl, ⟨hput, lies_node.2 ⟨hN2, fun x hx => ?_⟩, ?_, fun x hx => ?_, hF.mono (fun x e => e.imp_right (fun e => ids_node.2 (.inl e))), hcell⟩, .new (fun v1 hm => ?_)⟩
  · rw [List.mem_append, List.mem_singleton] at hx
    rcases hx with hx | rfl
    · refine (hK x hx).fr hF (fun y hy e => ?_)
      rcases e with e | e
      · exact H.out (ids_node.2 (.inr ⟨x, hx, e ▸ hy⟩))
      · exact d1 (mem_idsL.2 ⟨x, hx, e ▸ hy⟩)
    · exact lies_leaf.2 hL2
  · rw [T.ids, List.nodup_cons, idsL_app, List.nodup_append]
    refine ⟨fun hm => ?_, d2, by simp [idsL, T.ids], fun x hx y hy e => ?_⟩
    · rw [List.mem_append] at hm
      simp only [idsL, T.ids, List.append_nil, List.mem_singleton] at hm
      rcases hm with hm | hm
      · rcases hnb with e | e
        · exact d1 (e ▸ hm)
        · have := hlt _ hm
          omega
      · exact hlb.2 hm.symm
    · simp only [idsL, T.ids, List.append_nil, List.mem_singleton] at hy
      have := hlt _ hx
      omega
  · rcases (hids x).1 hx with e | e | e
    · rcases hnb with h | h
      · exact .inl (ids_node.2 (.inl (by omega)))
      · exact .inr (by omega)
    · exact .inl (by rw [T.ids]; exact List.mem_cons_of_mem _ e)
    · exact .inr (by omega)
  · rw [hr] at hm
    exact no_kid (fun t ht => (q4 t ht).2) hno v1 hm
/-- A node parted: the node itself and a leaf below a new one. -/
theorem above_out (H : InsPre w g o (.node b k p ks) A n c l si) {q m : Nat} (hq : q = cpl p (l.drop si)) (hm : m = si + q) (hqp : q < p.length) {nb lb : Nat} (hnb : w.heap.size ≤ nb) (hlb : w.heap.size ≤ lb ∧ lb ≠ nb) (hF : Fr (fun x => x = g ∨ x = b) w w2)
    (hN2 : NodeAt w2 nb .k4 (p.take q) [.node b k (p.drop q) ks, .leaf lb v (l.drop m)]) (hN3 : NodeAt w2 b k (p.drop q) ks) (hL2 : LeafAt w2 lb v (l.drop m))
    (hcell : ∀ Tx cs, Blk w g Tx cs → cs[o]? = some (T.node b k p ks).val → Blk w2 g Tx (cs.set o (.iface 115 (pa nb)))) :
    InsPost w g o (.node b k p ks) (l.drop si) v (.returned (.tuple #[.pointer none, .bool false])) w2 := by
  obtain ⟨hN, hK⟩ := lies_node.1 H.lies
  obtain ⟨q1, q2, q3, q4⟩ := wf_node.1 H.wf
  obtain ⟨d1, d2⟩ := node_nodup H.nodup
  have hlt := node_kids H.lies
  have hbl : b < w.heap.size := hN.lt
  have hput := put_above (nb := nb) (nl := lb) (v := v) H.wf (no127_drop H.no127 si) (r := l.drop si) (by rw [← hq]; exact hqp)
  rw [← hq, List.drop_drop, ← hm] at hput
  refine ⟨_, _, rfl, ⟨hput, lies_node.2 ⟨hN2, fun x hx => ?_⟩, ?_, fun x hx => ?_, hF.mono (fun x e => e.imp_right (fun e => ids_node.2 (.inl e))), hcell⟩, .new (fun v1 hm1 => ?_)⟩
  · simp only [List.mem_cons, List.not_mem_nil, or_false] at hx
    rcases hx with rfl | rfl
    · refine lies_node.2 ⟨hN3, fun x hx => (hK x hx).fr hF (fun y hy e => ?_)⟩
      rcases e with e | e
      · exact H.out (ids_node.2 (.inr ⟨x, hx, e ▸ hy⟩))
      · exact d1 (mem_idsL.2 ⟨x, hx, e ▸ hy⟩)
    · exact lies_leaf.2 hL2
  · simp only [T.ids, idsL, List.append_nil, List.nodup_cons, List.nodup_append, List.mem_cons, List.mem_append, List.not_mem_nil, or_false, not_or, List.cons_append]
    refine ⟨⟨by omega, fun hm => by have := hlt _ hm; omega, by omega⟩, ⟨d1, by omega⟩, d2, by simp, fun x hx y hy e => ?_⟩
    have := hlt _ hx
    omega
  · simp only [T.ids, idsL, List.append_nil, List.mem_cons, List.mem_append, List.not_mem_nil, or_false, List.cons_append] at hx ⊢
    rcases hx with e | e | e | e
    · exact .inr (by omega)
    · exact .inl (.inl e)
    · exact .inl (.inr e)
    · exact .inr (by omega)
  · obtain ⟨x, hx, -⟩ := mem_node.1 hm1
    simp only at hx
    have h1 := cpl_le p (l.drop si)
    obtain ⟨a, s', hs⟩ : ∃ a s', p.drop q = a :: s' := ⟨_, _, List.drop_eq_getElem_cons hqp⟩
    have h2 : (l.drop si).drop q = a :: (s' ++ x) := by
      rw [hx, List.drop_append_of_le_length (by omega), hs]
      rfl
    rw [hq] at hs h2
    exact cpl_drop p (l.drop si) a a s' _ hs h2 rfl
end
theorem short_pre {b : Nat} {k : K} {p : BL} {ks : List T} (hw : (T.node b k p ks).wf) {N : Nat} (h : ∀ e ∈ (T.node b k p ks).ents, e.1.length ≤ N) : p.length ≤ N ∧ ∀ t ∈ ks, ∀ e ∈ t.ents, e.1.length ≤ N := by
  constructor
  · obtain ⟨e, he⟩ := List.exists_mem_of_ne_nil _ (ents_ne _ hw)
    obtain ⟨r, hr⟩ := ents_pth he
    have h1 := h e he
    rw [hr, T.pth, List.length_append] at h1
    omega
  · intro t ht e he
    have := h (p ++ e.1, e.2) (mem_node.2 ⟨e.1, rfl, t, ht, he⟩)
    simp only [List.length_append] at this
    omega
def Found (b : Nat) (ks : List T) (c : UInt8) : Option Addr → Prop
  | none => ∀ t ∈ ks, t.piv ≠ c
  | some a => ∃ i t, ks[i]? = some t ∧ t.piv = c ∧ a = ⟨b, i, none⟩
theorem found_calls {w : World} {b : Nat} {k : K} {p : BL} {ks : List T} (h : NodeAt w b k p ks) (c : UInt8) : Calls Tryz.prog k.findF #[pa b, bv c] w fun e w' => ∃ r, e = .returned (.pointer r) ∧ Found b ks c r ∧ Same w w' :=
  (find_calls h c).mono (fun e w' hp => by
    rcases hp.ret with ⟨i, t, h1, h2, rfl⟩ | ⟨h1, rfl⟩
    · exact ⟨some _, rfl, ⟨i, t, h1, h2, rfl⟩, hp.same⟩
    · exact ⟨none, rfl, h1, hp.same⟩)
theorem Was.tuple {w w' : World} {t t' : T} {r : BL} {u : Value} (h : Was w t r w' t' u) : ∃ pr up, u = .tuple #[.pointer pr, .bool up] := by
  cases h
  · exact ⟨_, _, rfl⟩
  · exact ⟨_, _, rfl⟩
theorem InsPost.tuple {w w' : World} {g o : Nat} {t : T} {r : BL} {v : Int} {e : Ending} (h : InsPost w g o t r v e w') : ∃ pr up, e = .returned (.tuple #[.pointer pr, .bool up]) := by
  obtain ⟨t', u, rfl, -, hw⟩ := h.out
  obtain ⟨pr, up, rfl⟩ := hw.tuple
  exact ⟨pr, up, rfl⟩
theorem next_lt {k : K} {n : Nat} (h : n = k.cap) (hk : k ≠ .k48) : n < k.next.cap := by
  subst h
  cases k <;> simp [K.cap, K.next] at hk ⊢
theorem next_low {k : K} {n : Nat} (h : n = k.cap) (hk : k ≠ .k48) : k.next.low ≤ n + 1 := by
  subst h
  cases k <;> simp [K.cap, K.next, K.low] at hk ⊢
def InsAll (v : Int) (tp : Value) (t : T) : Prop := ∀ (w : World) (g o : Nat) (A : Option Addr) (n c : Nat) (l : BL) (si : Nat), InsPre w g o t A n c l si → (∀ e ∈ t.ents, e.1.length ≤ 1000) →
    Calls Tryz.prog 58 #[tp, .pointer (some ⟨g, o, none⟩), .slice A n c, .int .i64 v, .int .i64 (si : Int)] w (InsPost w g o t (l.drop si) v)
end Go.Proofs.YtjhmpcbpbdkddaaGreat.Te
