/- Trees of subjects plainly: leaves and nodes, the entries below, what puts and takes make of them. Trees of subjects in memory: leaves and nodes, what their blocks hold, what stores do to them. Trees of subjects: slices of bytes that are read; the small functions: pivot, stringToBytes, newLeaf, match, setSuffix, setPrefix, newNode4, commonPrefixLen. -/
import Derived.Test.YtjhmpcbpbdkddaaGreatProg
import Derived.Test.YtjhmpcbpbdkddaaGreatBt
import Derived.Test.YtjhmpcbpbdkddaaGreatPlWalk
namespace Go.Proofs.YtjhmpcbpbdkddaaGreat.Te
set_option linter.unusedVariables false
set_option linter.unusedSimpArgs false
abbrev BL := List UInt8
inductive K where | k4 | k10 | k16 | k48
  deriving DecidableEq
def K.cap : K → Nat | .k4 => 4 | .k10 => 10 | .k16 => 16 | .k48 => 48
def K.low : K → Nat | .k4 => 2 | .k10 => 5 | .k16 => 11 | .k48 => 17
inductive T where
  | leaf (b : Nat) (v : Int) (s : BL)
  | node (b : Nat) (k : K) (p : BL) (ks : List T)
abbrev Ent := BL × Int
mutual
def T.ents : T → List Ent
  | .leaf _ v s => [(s, v)]
  | .node _ _ p ks => (entsL ks).map (fun e => (p ++ e.1, e.2))
def entsL : List T → List Ent
  | [] => []
  | t :: ks => t.ents ++ entsL ks
end
mutual
def T.ids : T → List Nat
  | .leaf b _ _ => [b]
  | .node b _ _ ks => b :: idsL ks
def idsL : List T → List Nat
  | [] => []
  | t :: ks => t.ids ++ idsL ks
end
def T.pth : T → BL
  | .leaf _ _ s => s
  | .node _ _ p _ => p
def piv (s : BL) : UInt8 := s.headD 127
def T.piv (t : T) : UInt8 := Te.piv t.pth
def T.inner : T → Prop
  | .leaf _ _ _ => True
  | .node _ _ p _ => p ≠ []
mutual
def T.wf : T → Prop
  | .leaf _ _ s => 127 ∉ s
  | .node _ k p ks => 127 ∉ p ∧ (k.low ≤ ks.length ∧ ks.length ≤ k.cap) ∧ (ks.map T.piv).Nodup ∧ wfL ks
def wfL : List T → Prop
  | [] => True
  | t :: ks => (t.wf ∧ t.inner) ∧ wfL ks
end
theorem mem_entsL {ks : List T} {e : Ent} : e ∈ entsL ks ↔ ∃ t ∈ ks, e ∈ t.ents := by
  induction ks with
  | nil => simp [entsL]
  | cons t ks ih => simp [entsL, ih]
theorem mem_idsL {ks : List T} {e : Nat} : e ∈ idsL ks ↔ ∃ t ∈ ks, e ∈ t.ids := by
  induction ks with
  | nil => simp [idsL]
  | cons t ks ih => simp [idsL, ih]
theorem wfL_iff {ks : List T} : wfL ks ↔ ∀ t ∈ ks, t.wf ∧ t.inner := by
  induction ks with
  | nil => simp [wfL]
  | cons t ks ih => simp [wfL, ih]
theorem wf_node {b : Nat} {k : K} {p : BL} {ks : List T} : (T.node b k p ks).wf ↔ 127 ∉ p ∧ (k.low ≤ ks.length ∧ ks.length ≤ k.cap) ∧ (ks.map T.piv).Nodup ∧ ∀ t ∈ ks, t.wf ∧ t.inner := by
  rw [T.wf, wfL_iff]
theorem mem_node {b : Nat} {k : K} {p : BL} {ks : List T} {e : Ent} : e ∈ (T.node b k p ks).ents ↔ ∃ r, e.1 = p ++ r ∧ ∃ t ∈ ks, (r, e.2) ∈ t.ents := by
  rw [T.ents, List.mem_map]
  constructor
  · rintro ⟨x, hx, rfl⟩
    obtain ⟨t, ht, h⟩ := mem_entsL.1 hx
    exact ⟨x.1, rfl, t, ht, h⟩
  · rintro ⟨r, hr, t, ht, h⟩
    exact ⟨(r, e.2), mem_entsL.2 ⟨t, ht, h⟩, by rw [← hr]⟩
/-- Induction over trees. -/
theorem T.ind {P : T → Prop} (h1 : ∀ b v s, P (.leaf b v s)) (h2 : ∀ b k p ks, (∀ t ∈ ks, P t) → P (.node b k p ks)) (t : T) : P t :=
  T.rec (motive_1 := P) (motive_2 := fun ks => ∀ t ∈ ks, P t) h1 h2 (by simp) (fun t ks a b => by
    intro x hx
    rcases List.mem_cons.1 hx with rfl | hx
    · exact a
    · exact b x hx) t
theorem piv_ents {t : T} (h : t.inner) {e : Ent} (he : e ∈ t.ents) : piv e.1 = t.piv := by
  cases t with
  | leaf b v s =>
    simp [T.ents] at he
    subst he
    rfl
  | node b k p ks =>
    obtain ⟨r, hr, -⟩ := mem_node.1 he
    rw [hr]
    cases p with
    | nil => exact absurd rfl h
    | cons c p => rfl
theorem ents_pth {t : T} {e : Ent} (he : e ∈ t.ents) : ∃ r, e.1 = t.pth ++ r := by
  cases t with
  | leaf b v s =>
    simp [T.ents] at he
    subst he
    exact ⟨[], by simp [T.pth]⟩
  | node b k p ks =>
    obtain ⟨r, hr, -⟩ := mem_node.1 he
    exact ⟨r, hr⟩
theorem ents_ne (t : T) (h : t.wf) : t.ents ≠ [] := by
  induction t using T.ind with
  | h1 b v s => simp [T.ents]
  | h2 b k p ks ih =>
    obtain ⟨h1, ⟨h2, h3⟩, h4, h5⟩ := wf_node.1 h
    cases ks with
    | nil =>
      cases k <;> simp [K.low] at h2
    | cons t ks =>
      intro hn
      have := ih t (by simp) (h5 t (by simp)).1
      simp [T.ents, entsL, this] at hn
theorem no127 {t : T} (h : t.wf) {e : Ent} (he : e ∈ t.ents) : 127 ∉ e.1 := by
  induction t using T.ind generalizing e with
  | h1 b v s =>
    simp [T.ents] at he
    subst he
    exact h
  | h2 b k p ks ih =>
    obtain ⟨h1, h2, h4, h5⟩ := wf_node.1 h
    obtain ⟨r, hr, t, ht, h⟩ := mem_node.1 he
    rw [hr]
    have := ih t ht (h5 t ht).1 h
    simp at this ⊢
    exact ⟨h1, this⟩
theorem kid_eq {ks : List T} (hn : (ks.map T.piv).Nodup) {t t' : T} (ht : t ∈ ks) (ht' : t' ∈ ks) (h : t.piv = t'.piv) : t = t' := by
  induction ks with
  | nil => cases ht
  | cons a ks ih =>
    rw [List.map_cons, List.nodup_cons] at hn
    rw [List.mem_cons] at ht ht'
    rcases ht with rfl | ht <;> rcases ht' with rfl | ht'
    · rfl
    · exact absurd (List.mem_map.2 ⟨t', ht', h.symm⟩) hn.1
    · exact absurd (List.mem_map.2 ⟨t, ht, h⟩) hn.1
    · exact ih hn.2 ht ht'
/-- One subject, one value. -/
theorem ents_inj {t : T} (h : t.wf) {e e' : Ent} (he : e ∈ t.ents) (he' : e' ∈ t.ents) (h1 : e.1 = e'.1) : e = e' := by
  induction t using T.ind generalizing e e' with
  | h1 b v s =>
    simp [T.ents] at he he'
    rw [he, he']
  | h2 b k p ks ih =>
    obtain ⟨a1, a2, a4, a5⟩ := wf_node.1 h
    obtain ⟨r, hr, t, ht, hq⟩ := mem_node.1 he
    obtain ⟨r', hr', t', ht', hq'⟩ := mem_node.1 he'
    rw [hr, hr'] at h1
    have hrr : r = r' := List.append_cancel_left h1
    subst hrr
    have q1 : piv r = t.piv := piv_ents (e := (r, e.2)) (a5 t ht).2 hq
    have q2 : piv r = t'.piv := piv_ents (e := (r, e'.2)) (a5 t' ht').2 hq'
    have htt : t = t' := kid_eq a4 ht ht' (q1.symm.trans q2)
    subst htt
    have := ih t ht (a5 t ht).1 hq hq' rfl
    injection this with _ hv
    exact Prod.ext (hr.trans hr'.symm) hv
theorem nodup_keys (t : T) (h : t.wf) : (t.ents.map Prod.fst).Nodup := by
  induction t using T.ind with
  | h1 b v s => simp [T.ents]
  | h2 b k p ks ih =>
    obtain ⟨a1, a2, a4, a5⟩ := wf_node.1 h
    have key : ((entsL ks).map Prod.fst).Nodup := by
      clear h a1 a2
      induction ks with
      | nil => simp [entsL]
      | cons t ks ih2 =>
        rw [List.map_cons, List.nodup_cons] at a4
        rw [entsL, List.map_append, List.nodup_append]
        refine ⟨ih t (by simp) (a5 t (by simp)).1, ih2 (fun x hx => ih x (List.mem_cons_of_mem _ hx)) a4.2 (fun x hx => a5 x (List.mem_cons_of_mem _ hx)), ?_⟩
        rintro x hx y hy rfl
        obtain ⟨e, he, rfl⟩ := List.mem_map.1 hx
        obtain ⟨e', he', h'⟩ := List.mem_map.1 hy
        obtain ⟨t', ht', hh⟩ := mem_entsL.1 he'
        refine a4.1 (List.mem_map.2 ⟨t', ht', ?_⟩)
        rw [← piv_ents (a5 t' (List.mem_cons_of_mem _ ht')).2 hh, h', piv_ents (a5 t (by simp)).2 he]
    rw [T.ents, List.map_map]
    have : (Prod.fst ∘ fun e : Ent => (p ++ e.1, e.2)) = (fun r => p ++ r) ∘ Prod.fst := rfl
    rw [this, ← List.map_map]
    exact List.Pairwise.map _ (fun a b hab h => hab (List.append_cancel_left h)) key
theorem nodup_ents (t : T) (h : t.wf) : t.ents.Nodup := (List.Pairwise.of_map _ (fun a b hab h => hab (by rw [h])) (nodup_keys t h))

/-! ### a put -/
def Ins (t t' : T) (r : BL) (v : Int) : Prop := ∀ e, e ∈ t'.ents ↔ e = (r, v) ∨ (e ∈ t.ents ∧ e.1 ≠ r)
theorem Ins.same (b : Nat) (v0 v : Int) (r : BL) : Ins (.leaf b v0 r) (.leaf b v r) r v := by
  intro e
  simp only [T.ents, List.mem_singleton]
  constructor
  · rintro rfl
    exact .inl rfl
  · rintro (rfl | ⟨rfl, h⟩)
    · rfl
    · exact absurd rfl h
theorem piv_ne {c s r : BL} (hs : 127 ∉ s) (hr : 127 ∉ r) (hne : s ≠ r) (hd : ∀ x s' r', s = x :: s' → r ≠ x :: r') : piv s ≠ piv r := by
  cases s with
  | nil =>
    cases r with
    | nil => exact absurd rfl hne
    | cons y r =>
      simp [piv]
      rintro rfl
      simp at hr
  | cons x s =>
    cases r with
    | nil =>
      simp [piv]
      rintro rfl
      simp at hs
    | cons y r =>
      simp [piv]
      rintro rfl
      exact hd x s r rfl rfl
theorem Ins.split {b nb nl : Nat} {v0 v : Int} {c s r : BL} (hne : s ≠ r) : Ins (.leaf b v0 (c ++ s)) (.node nb .k4 c [.leaf nl v r, .leaf b v0 s]) (c ++ r) v := by
  intro e
  rw [mem_node]
  simp only [T.ents, List.mem_singleton, List.mem_cons, List.not_mem_nil, or_false]
  constructor
  · rintro ⟨x, hx, t, rfl | rfl, h⟩
    · simp only [T.ents, List.mem_singleton, Prod.mk.injEq] at h
      obtain ⟨rfl, h2⟩ := h
      exact .inl (Prod.ext hx h2)
    · simp only [T.ents, List.mem_singleton, Prod.mk.injEq] at h
      obtain ⟨rfl, h2⟩ := h
      refine .inr ⟨Prod.ext hx h2, ?_⟩
      rw [hx]
      exact fun h => hne (List.append_cancel_left h)
  · rintro (rfl | ⟨rfl, h⟩)
    · exact ⟨r, rfl, _, .inl rfl, by simp [T.ents]⟩
    · exact ⟨s, rfl, _, .inr rfl, by simp [T.ents]⟩
theorem Ins.kid {b : Nat} {k : K} {p r : BL} {v : Int} {ks : List T} {i : Nat} {t t' : T} (hn : (ks.map T.piv).Nodup) (hin : ∀ t ∈ ks, t.inner) (hi : ks[i]? = some t) (hp : t.piv = piv r) (h : Ins t t' r v) :
    Ins (.node b k p ks) (.node b k p (ks.set i t')) (p ++ r) v := by
  intro e
  rw [mem_node, mem_node]
  have hil : i < ks.length := (List.getElem?_eq_some_iff.1 hi).1
  have htm : t ∈ ks := List.mem_of_getElem? hi
  constructor
  · rintro ⟨x, hx, u, hu, hm⟩
    rcases List.mem_or_eq_of_mem_set hu with hu' | rfl
    · by_cases hxr : x = r
      · subst hxr
        have hut : u = t := kid_eq hn hu' htm ((piv_ents (hin u hu') hm).symm.trans hp.symm)
        obtain ⟨j, hj⟩ := List.getElem?_of_mem hu
        rw [List.getElem?_set] at hj
        by_cases hij : i = j
        · subst hij
          rw [if_pos rfl, if_pos hil] at hj
          injection hj with hj
          subst hj
          rcases (h _).1 hm with h1 | h1
          · injection h1 with _ h1
            exact .inl (Prod.ext hx h1)
          · exact absurd rfl h1.2
        · rw [if_neg hij] at hj
          exfalso
          have h2 : i = j := by
            have q1 : (ks.map T.piv)[i]? = some t.piv := by rw [List.getElem?_map, hi]; rfl
            have q2 : (ks.map T.piv)[j]? = some t.piv := by rw [List.getElem?_map, hj, hut]; rfl
            exact (List.getElem?_inj (by simpa using hil) hn).1 (q1.trans q2.symm)
          exact hij h2
      · exact .inr ⟨⟨x, hx, u, hu', hm⟩, by rw [hx]; exact fun h => hxr (List.append_cancel_left h)⟩
    · rcases (h _).1 hm with h1 | h1
      · injection h1 with h0 h1
        exact .inl (Prod.ext (by rw [hx, h0]) h1)
      · exact .inr ⟨⟨x, hx, t, htm, h1.1⟩, by rw [hx]; exact fun h => h1.2 (List.append_cancel_left h)⟩
  · have hts : t' ∈ ks.set i t' := List.mem_of_getElem? (List.getElem?_set_self hil)
    rintro (rfl | ⟨⟨x, hx, u, hu, hm⟩, hne⟩)
    · exact ⟨r, rfl, t', hts, (h _).2 (.inl rfl)⟩
    · have hxr : x ≠ r := fun e => hne (by rw [hx, e])
      by_cases hut : u = t
      · subst hut
        exact ⟨x, hx, t', hts, (h _).2 (.inr ⟨hm, hxr⟩)⟩
      · obtain ⟨j, hj⟩ := List.getElem?_of_mem hu
        refine ⟨x, hx, u, ?_, hm⟩
        refine List.mem_of_getElem? (i := j) ?_
        rw [List.getElem?_set, if_neg ?_]
        · exact hj
        · rintro rfl
          rw [hi] at hj
          injection hj with hj
          exact hut hj.symm
theorem Ins.more {b b' nl : Nat} {k k' : K} {p r : BL} {v : Int} {ks : List T} (hin : ∀ t ∈ ks, t.inner) (hp : ∀ t ∈ ks, t.piv ≠ piv r) : Ins (.node b k p ks) (.node b' k' p (ks ++ [.leaf nl v r])) (p ++ r) v := by
  intro e
  rw [mem_node, mem_node]
  constructor
  · rintro ⟨x, hx, u, hu, hm⟩
    rw [List.mem_append] at hu
    rcases hu with hu | hu
    · refine .inr ⟨⟨x, hx, u, hu, hm⟩, ?_⟩
      rw [hx]
      intro h
      have := List.append_cancel_left h
      subst this
      exact hp u hu (piv_ents (hin u hu) hm).symm
    · simp only [List.mem_singleton] at hu
      subst hu
      simp only [T.ents, List.mem_singleton, Prod.mk.injEq] at hm
      exact .inl (Prod.ext (by rw [hx, hm.1]) hm.2)
  · rintro (rfl | ⟨⟨x, hx, u, hu, hm⟩, hne⟩)
    · exact ⟨r, rfl, .leaf nl v r, by simp, by simp [T.ents]⟩
    · exact ⟨x, hx, u, by simp [hu], hm⟩
theorem Ins.above {b nb nl : Nat} {k : K} {c p r : BL} {v : Int} {ks : List T} (hne : ∀ x, r ≠ p ++ x) : Ins (.node b k (c ++ p) ks) (.node nb .k4 c [.node b k p ks, .leaf nl v r]) (c ++ r) v := by
  intro e
  rw [mem_node, mem_node]
  constructor
  · rintro ⟨x, hx, u, hu, hm⟩
    simp only [List.mem_cons, List.not_mem_nil, or_false] at hu
    rcases hu with rfl | rfl
    · obtain ⟨y, hy, t, ht, h⟩ := mem_node.1 hm
      simp only at hy h
      refine .inr ⟨⟨y, by rw [hx, hy, List.append_assoc], t, ht, h⟩, ?_⟩
      rw [hx, hy]
      exact fun h => hne y (List.append_cancel_left h).symm
    · simp only [T.ents, List.mem_singleton, Prod.mk.injEq] at hm
      exact .inl (Prod.ext (by rw [hx, hm.1]) hm.2)
  · rintro (rfl | ⟨⟨x, hx, u, hu, hm⟩, hne⟩)
    · exact ⟨r, rfl, .leaf nl v r, by simp, by simp [T.ents]⟩
    · exact ⟨p ++ x, by rw [hx, List.append_assoc], .node b k p ks, by simp, mem_node.2 ⟨x, rfl, u, hu, hm⟩⟩

/-! ### a take -/
def Del (t : T) (l : List Ent) (r : BL) : Prop := ∀ e, e ∈ l ↔ (e ∈ t.ents ∧ e.1 ≠ r)
theorem Del.leaf (b : Nat) (v : Int) (r : BL) : Del (.leaf b v r) [] r := by
  intro e
  simp only [T.ents, List.mem_singleton, List.not_mem_nil, false_iff, not_and, Decidable.not_not]
  rintro rfl
  rfl
/-- A node without one of its kids, that is a leaf. -/
theorem Del.kid {b b' lb : Nat} {k k' : K} {p r : BL} {v : Int} {ks ks' : List T} (hn : (ks.map T.piv).Nodup) (hin : ∀ t ∈ ks, t.inner) (hi : T.leaf lb v r ∈ ks) (hk : ∀ t, t ∈ ks' ↔ t ∈ ks ∧ t ≠ .leaf lb v r) :
    Del (.node b k p ks) (T.node b' k' p ks').ents (p ++ r) := by
  intro e
  rw [mem_node, mem_node]
  constructor
  · rintro ⟨x, hx, u, hu, hm⟩
    obtain ⟨h1, h2⟩ := (hk u).1 hu
    refine ⟨⟨x, hx, u, h1, hm⟩, ?_⟩
    rw [hx]
    intro h
    have := List.append_cancel_left h
    subst this
    exact h2 (kid_eq hn h1 hi ((piv_ents (hin u h1) hm).symm))
  · rintro ⟨⟨x, hx, u, hu, hm⟩, hne⟩
    refine ⟨x, hx, u, (hk u).2 ⟨hu, ?_⟩, hm⟩
    rintro rfl
    simp only [T.ents, List.mem_singleton, Prod.mk.injEq] at hm
    exact hne (by rw [hx, hm.1])
/-- A node of one kid is that kid, with the node's prefix ahead. -/
def T.pre (p : BL) : T → T
  | .leaf b v s => .leaf b v (p ++ s)
  | .node b k q ks => .node b k (p ++ q) ks
theorem ents_pre (p : BL) (t : T) {e : Ent} : e ∈ (t.pre p).ents ↔ ∃ r, e.1 = p ++ r ∧ (r, e.2) ∈ t.ents := by
  cases t with
  | leaf b v s =>
    simp only [T.pre, T.ents, List.mem_singleton, Prod.mk.injEq]
    constructor
    · rintro rfl
      exact ⟨s, rfl, rfl, rfl⟩
    · rintro ⟨r, h, rfl, h2⟩
      exact Prod.ext h h2
  | node b k q ks =>
    rw [T.pre, mem_node]
    constructor
    · rintro ⟨r, h, t, ht, hm⟩
      exact ⟨q ++ r, by rw [h, List.append_assoc], mem_node.2 ⟨r, rfl, t, ht, hm⟩⟩
    · rintro ⟨r, h, hm⟩
      obtain ⟨x, hx, t, ht, hm⟩ := mem_node.1 hm
      simp only at hx hm
      exact ⟨x, by rw [h, hx, List.append_assoc], t, ht, hm⟩
theorem ents_one {b : Nat} {k : K} {p : BL} {t : T} {e : Ent} : e ∈ (T.node b k p [t]).ents ↔ e ∈ (t.pre p).ents := by
  rw [mem_node, ents_pre]
  simp
theorem Del.deep {b : Nat} {k : K} {p r : BL} {ks : List T} {i : Nat} {t t' : T} (hn : (ks.map T.piv).Nodup) (hin : ∀ t ∈ ks, t.inner) (hi : ks[i]? = some t) (hp : t.piv = piv r) (h : Del t t'.ents r) :
    Del (.node b k p ks) (T.node b k p (ks.set i t')).ents (p ++ r) := by
  intro e
  rw [mem_node, mem_node]
  have hil : i < ks.length := (List.getElem?_eq_some_iff.1 hi).1
  have htm : t ∈ ks := List.mem_of_getElem? hi
  constructor
  · rintro ⟨x, hx, u, hu, hm⟩
    obtain ⟨j, hj⟩ := List.getElem?_of_mem hu
    rw [List.getElem?_set] at hj
    by_cases hij : i = j
    · subst hij
      rw [if_pos rfl, if_pos hil] at hj
      injection hj with hj
      subst hj
      obtain ⟨h1, h2⟩ := (h _).1 hm
      exact ⟨⟨x, hx, t, htm, h1⟩, by rw [hx]; exact fun h => h2 (List.append_cancel_left h)⟩
    · rw [if_neg hij] at hj
      have hu' := List.mem_of_getElem? hj
      refine ⟨⟨x, hx, u, hu', hm⟩, ?_⟩
      rw [hx]
      intro hh
      have := List.append_cancel_left hh
      subst this
      have hut : u = t := kid_eq hn hu' htm ((piv_ents (hin u hu') hm).symm.trans hp.symm)
      have q1 : (ks.map T.piv)[i]? = some t.piv := by rw [List.getElem?_map, hi]; rfl
      have q2 : (ks.map T.piv)[j]? = some t.piv := by rw [List.getElem?_map, hj, hut]; rfl
      exact hij ((List.getElem?_inj (by simpa using hil) hn).1 (q1.trans q2.symm))
  · have hts : t' ∈ ks.set i t' := List.mem_of_getElem? (List.getElem?_set_self hil)
    rintro ⟨⟨x, hx, u, hu, hm⟩, hne⟩
    have hxr : x ≠ r := fun e => hne (by rw [hx, e])
    by_cases hut : u = t
    · subst hut
      exact ⟨x, hx, t', hts, (h _).2 ⟨hm, hxr⟩⟩
    · obtain ⟨j, hj⟩ := List.getElem?_of_mem hu
      refine ⟨x, hx, u, ?_, hm⟩
      refine List.mem_of_getElem? (i := j) ?_
      rw [List.getElem?_set, if_neg ?_]
      · exact hj
      · rintro rfl
        rw [hi] at hj
        injection hj with hj
        exact hut hj.symm
/-- A subject that is below no kid is not below the node. -/
theorem no_kid {b : Nat} {k : K} {p r : BL} {ks : List T} (hin : ∀ t ∈ ks, t.inner) (hp : ∀ t ∈ ks, t.piv ≠ piv r) (v : Int) : (p ++ r, v) ∉ (T.node b k p ks).ents := by
  intro h
  obtain ⟨x, hx, u, hu, hm⟩ := mem_node.1 h
  have := List.append_cancel_left hx
  subst this
  exact hp u hu (piv_ents (hin u hu) hm).symm
theorem via_kid {b : Nat} {k : K} {p r : BL} {ks : List T} {t : T} (hn : (ks.map T.piv).Nodup) (hin : ∀ t ∈ ks, t.inner) (ht : t ∈ ks) (hp : t.piv = piv r) (v : Int) : (p ++ r, v) ∈ (T.node b k p ks).ents ↔ (r, v) ∈ t.ents := by
  rw [mem_node]
  constructor
  · rintro ⟨x, hx, u, hu, hm⟩
    have := List.append_cancel_left hx
    subst this
    have hut : u = t := kid_eq hn hu ht ((piv_ents (hin u hu) hm).symm.trans hp.symm)
    subst hut
    exact hm
  · intro h
    exact ⟨r, rfl, t, ht, h⟩
end Go.Proofs.YtjhmpcbpbdkddaaGreat.Te
namespace Go.Proofs.YtjhmpcbpbdkddaaGreat.Te
open Go.RowKit Go.Proofs.YtjhmpcbpbdkddaaGreat.Bs Go.Proofs.YtjhmpcbpbdkddaaGreatW.PrintWords Go.Proofs.YtjhmpcbpbdkddaaGreatW.PrintLast Go.Proofs.YtjhmpcbpbdkddaaGreatW.PrintMore
set_option linter.unusedVariables false
set_option linter.unusedSimpArgs false
def str (s : BL) : ByteArray := ⟨s.toArray⟩
theorem str_size (s : BL) : (str s).size = s.length := by simp [str, ByteArray.size]
theorem str_inj {a b : BL} (h : str a = str b) : a = b := by
  have : (str a).data.toList = (str b).data.toList := by rw [h]
  simpa [str] using this
theorem str_app (a b : BL) : str a ++ str b = str (a ++ b) := by
  apply ByteArray.ext
  simp [str, ByteArray.data_append]
theorem str_nil : str [] = ByteArray.empty := rfl
theorem str_bytes (x : ByteArray) : str x.data.toList = x := by
  cases x
  rfl
def by8 (s : BL) : List Int := s.map (fun c => (c.toNat : Int))
theorem bytesOf_str (s : BL) : bytesOf (str s) = by8 s := rfl
theorem by8_len (s : BL) : (by8 s).length = s.length := by simp [by8]
def K.ty : K → TypeId | .k4 => 125 | .k10 => 149 | .k16 => 156 | .k48 => 160
def K.pt : K → TypeId | .k4 => 115 | .k10 => 145 | .k16 => 152 | .k48 => 157
def K.kn : K → Nat | .k4 => 4 | .k10 => 10 | .k16 => 16 | .k48 => 256
def pa (b : Nat) : Value := .pointer (some ⟨b, 0, none⟩)
def T.val : T → Value
  | .leaf b _ _ => .iface 87 (pa b)
  | .node b k _ _ => .iface k.pt (pa b)
def bv (c : UInt8) : Value := .int .u8 (c.toNat : Int)
/-- A node's block: its places, its prefix, its size, its keys. -/
structure Nd (w : World) (b : Nat) (k : K) (vs : List Value) (p : BL) (n : Nat) (qs : List Value) : Prop where
  blk : Blk w b k.ty (vs ++ (.string (str p) :: .int .u16 (n : Int) :: qs))
  vl : vs.length = k.cap
  ql : qs.length = k.kn
section
variable {w w1 : World} {b : Nat} {k : K} {vs : List Value} {p : BL} {n : Nat} {qs : List Value}
theorem Nd.lt (h : Nd w b k vs p n qs) : b < w.heap.size := h.blk.lt
theorem Nd.free (h : Nd w b k vs p n qs) (o : Nat) : w.frozen? ⟨b, o, none⟩ = false := h.blk.free o
theorem Nd.fr {F : Nat → Prop} (h : Nd w b k vs p n qs) (hf : Fr F w w1) (hb : ¬ F b) : Nd w1 b k vs p n qs := ⟨h.blk.fr hf hb, h.vl, h.ql⟩
theorem Nd.far (h : Nd w b k vs p n qs) {a : Addr} (hp : b ≠ a.block) (u : Value) : Nd (w.setCell a u) b k vs p n qs := ⟨h.blk.far hp u, h.vl, h.ql⟩
theorem Nd.alloc (h : Nd w b k vs p n qs) (o : Obj) : Nd (w.alloc o) b k vs p n qs := ⟨h.blk.alloc o, h.vl, h.ql⟩
theorem Nd.cv (h : Nd w b k vs p n qs) (i : Nat) {v : Value} (hv : vs[i]? = some v) : w.cell? ⟨b, i, none⟩ = some v := by
  refine h.blk.cell i ?_
  rw [List.getElem?_append_left (List.getElem?_eq_some_iff.1 hv).1]
  exact hv
theorem Nd.cp (h : Nd w b k vs p n qs) : w.cell? ⟨b, k.cap, none⟩ = some (.string (str p)) := by
  refine h.blk.cell _ ?_
  rw [List.getElem?_append_right (by rw [h.vl]; exact Nat.le_refl _), h.vl, Nat.sub_self]
  rfl
theorem Nd.cn (h : Nd w b k vs p n qs) : w.cell? ⟨b, k.cap + 1, none⟩ = some (.int .u16 (n : Int)) := by
  refine h.blk.cell _ ?_
  rw [List.getElem?_append_right (by rw [h.vl]; omega), h.vl, Nat.add_sub_cancel_left]
  rfl
theorem Nd.ck (h : Nd w b k vs p n qs) (i : Nat) {v : Value} (hv : qs[i]? = some v) : w.cell? ⟨b, k.cap + 2 + i, none⟩ = some v := by
  refine h.blk.cell _ ?_
  rw [List.getElem?_append_right (by rw [h.vl]; omega), h.vl, show k.cap + 2 + i - k.cap = i + 2 by omega]
  exact hv
theorem Nd.sv (h : Nd w b k vs p n qs) (i : Nat) (hi : i < k.cap) (u : Value) : Nd (w.setCell ⟨b, i, none⟩ u) b k (vs.set i u) p n qs := by
  have := h.blk.set i (by simp [h.vl]; omega) u
  rw [List.set_append_left _ _ (by rw [h.vl]; exact hi)] at this
  exact ⟨this, by simpa using h.vl, h.ql⟩
theorem Nd.sp (h : Nd w b k vs p n qs) (p' : BL) : Nd (w.setCell ⟨b, k.cap, none⟩ (.string (str p'))) b k vs p' n qs := by
  have := h.blk.set k.cap (by simp [h.vl]) (.string (str p'))
  rw [List.set_append_right _ _ (by rw [h.vl]; exact Nat.le_refl _), h.vl, Nat.sub_self] at this
  exact ⟨this, h.vl, h.ql⟩
theorem Nd.sn (h : Nd w b k vs p n qs) (n' : Nat) : Nd (w.setCell ⟨b, k.cap + 1, none⟩ (.int .u16 (n' : Int))) b k vs p n' qs := by
  have := h.blk.set (k.cap + 1) (by simp [h.vl]) (.int .u16 (n' : Int))
  rw [List.set_append_right _ _ (by rw [h.vl]; omega), h.vl, Nat.add_sub_cancel_left] at this
  exact ⟨this, h.vl, h.ql⟩
theorem Nd.sk (h : Nd w b k vs p n qs) (i : Nat) (hi : i < k.kn) (u : Value) : Nd (w.setCell ⟨b, k.cap + 2 + i, none⟩ u) b k vs p n (qs.set i u) := by
  have := h.blk.set (k.cap + 2 + i) (by simp [h.vl, h.ql]; omega) u
  rw [List.set_append_right _ _ (by rw [h.vl]; omega), h.vl, show k.cap + 2 + i - k.cap = i + 2 by omega] at this
  exact ⟨this, h.vl, by simpa using h.ql⟩
end
/-! ### what a node's places and keys are -/
def slot (ps : BL) (c : UInt8) : Nat := if c ∈ ps then ps.idxOf c + 1 else 0
def K.keys (k : K) (ps : BL) : List Value :=
  match k with
  | .k48 => (List.range 256).map (fun c => .int .u8 (slot ps (UInt8.ofNat c) : Int))
  | _ => ps.map bv ++ List.replicate (k.cap - ps.length) (.int .u8 0)
def kidsV (k : K) (ks : List T) : List Value := ks.map T.val ++ List.replicate (k.cap - ks.length) .nilIface
/-- A node as it lies. -/
def NodeAt (w : World) (b : Nat) (k : K) (p : BL) (ks : List T) : Prop := Nd w b k (kidsV k ks) p ks.length (k.keys (ks.map T.piv))
def LeafAt (w : World) (b : Nat) (v : Int) (s : BL) : Prop := Blk w b 89 [.int .i64 v, .string (str s)]
mutual
def Lies (w : World) : T → Prop
  | .leaf b v s => LeafAt w b v s
  | .node b k p ks => NodeAt w b k p ks ∧ LiesL w ks
def LiesL (w : World) : List T → Prop
  | [] => True
  | t :: ks => Lies w t ∧ LiesL w ks
end
theorem liesL_iff {w : World} {ks : List T} : LiesL w ks ↔ ∀ t ∈ ks, Lies w t := by
  induction ks with
  | nil => simp [LiesL]
  | cons t ks ih => simp [LiesL, ih]
theorem lies_node {w : World} {b : Nat} {k : K} {p : BL} {ks : List T} : Lies w (.node b k p ks) ↔ NodeAt w b k p ks ∧ ∀ t ∈ ks, Lies w t := by
  rw [Lies, liesL_iff]
theorem lies_leaf {w : World} {b : Nat} {v : Int} {s : BL} : Lies w (.leaf b v s) ↔ LeafAt w b v s := by
  rw [Lies]
def T.id : T → Nat
  | .leaf b _ _ => b
  | .node b _ _ _ => b
theorem id_mem (t : T) : t.id ∈ t.ids := by cases t <;> simp [T.id, T.ids]
theorem ids_node {b : Nat} {k : K} {p : BL} {ks : List T} {x : Nat} : x ∈ (T.node b k p ks).ids ↔ x = b ∨ ∃ t ∈ ks, x ∈ t.ids := by
  rw [T.ids, List.mem_cons, mem_idsL]
theorem Lies.fr {F : Nat → Prop} {w w1 : World} {t : T} (h : Lies w t) (hf : Fr F w w1) (hn : ∀ k ∈ t.ids, ¬ F k) : Lies w1 t := by
  induction t using T.ind with
  | h1 b v s =>
    rw [lies_leaf] at h ⊢
    exact Blk.fr h hf (hn b (by simp [T.ids]))
  | h2 b k p ks ih =>
    rw [lies_node] at h ⊢
    exact ⟨h.1.fr hf (hn b (ids_node.2 (.inl rfl))), fun t ht => ih t ht (h.2 t ht) (fun k hk => hn k (ids_node.2 (.inr ⟨t, ht, hk⟩)))⟩
theorem Lies.lt {w : World} {t : T} (h : Lies w t) : ∀ k ∈ t.ids, k < w.heap.size := by
  induction t using T.ind with
  | h1 b v s =>
    rw [lies_leaf] at h
    intro k hk
    simp [T.ids] at hk
    subst hk
    exact Blk.lt h
  | h2 b k p ks ih =>
    rw [lies_node] at h
    intro x hx
    rcases ids_node.1 hx with rfl | ⟨t, ht, hx⟩
    · exact h.1.lt
    · exact ih t ht (h.2 t ht) x hx
theorem Lies.far {w : World} {t : T} (h : Lies w t) {a : Addr} (hp : a.block ∉ t.ids) (u : Value) : Lies (w.setCell a u) t :=
  h.fr ((Fr.refl (fun k => k = a.block) w).set (.inl rfl) u) (fun k hk e => hp (e ▸ hk))
theorem Lies.alloc {w : World} {t : T} (h : Lies w t) (o : Obj) : Lies (w.alloc o) t := h.fr ((Fr.refl (fun _ => False) w).alloc o) (fun _ _ h => h)
/-! ### reading a node -/
theorem kidsV_len {k : K} {ks : List T} (h : ks.length ≤ k.cap) : (kidsV k ks).length = k.cap := by simp [kidsV]; omega
theorem kidsV_at {k : K} {ks : List T} {i : Nat} {t : T} (h : ks[i]? = some t) : (kidsV k ks)[i]? = some t.val := by
  rw [kidsV, List.getElem?_append_left (by simpa using (List.getElem?_eq_some_iff.1 h).1), List.getElem?_map, h]
  rfl
theorem kidsV_set {k : K} {ks : List T} {i : Nat} {t : T} (h : i < ks.length) : (kidsV k ks).set i t.val = kidsV k (ks.set i t) := by
  rw [kidsV, kidsV, List.set_append_left _ _ (by simpa using h), List.map_set, List.length_set]
theorem kidsV_add {k : K} {ks : List T} {t : T} (h : ks.length < k.cap) : (kidsV k ks).set ks.length t.val = kidsV k (ks ++ [t]) := by
  rw [kidsV, kidsV, List.set_append_right _ _ (by simp), List.length_map, Nat.sub_self]
  obtain ⟨m, hm⟩ : ∃ m, k.cap - ks.length = m + 1 := ⟨k.cap - ks.length - 1, by omega⟩
  rw [hm, List.replicate_succ, List.set_cons_zero, List.map_append, List.map_cons, List.map_nil, List.append_assoc, List.length_append, List.length_singleton, show k.cap - (ks.length + 1) = m by omega]
  rfl
theorem keys_len {k : K} {ps : BL} (h : ps.length ≤ k.cap) : (k.keys ps).length = k.kn := by
  cases k <;> simp [K.keys, K.kn, K.cap] at h ⊢ <;> omega
theorem keys_at {k : K} (hk : k ≠ .k48) {ps : BL} {i : Nat} {c : UInt8} (h : ps[i]? = some c) : (k.keys ps)[i]? = some (bv c) := by
  have hi : i < ps.length := (List.getElem?_eq_some_iff.1 h).1
  have : (ps.map bv ++ List.replicate (k.cap - ps.length) (Value.int .u8 0))[i]? = some (bv c) := by
    rw [List.getElem?_append_left (by simpa using hi), List.getElem?_map, h]
    rfl
  cases k <;> first | exact this | exact absurd rfl hk
theorem keys_add {k : K} (hk : k ≠ .k48) {ps : BL} {c : UInt8} (h : ps.length < k.cap) : (k.keys ps).set ps.length (bv c) = k.keys (ps ++ [c]) := by
  have : (ps.map bv ++ List.replicate (k.cap - ps.length) (Value.int .u8 0)).set ps.length (bv c) = (ps ++ [c]).map bv ++ List.replicate (k.cap - (ps ++ [c]).length) (Value.int .u8 0) := by
    rw [List.set_append_right _ _ (by simp), List.length_map, Nat.sub_self]
    obtain ⟨m, hm⟩ : ∃ m, k.cap - ps.length = m + 1 := ⟨k.cap - ps.length - 1, by omega⟩
    rw [hm, List.replicate_succ, List.set_cons_zero, List.map_append, List.map_cons, List.map_nil, List.append_assoc, List.length_append, List.length_singleton, show k.cap - (ps.length + 1) = m by omega]
    rfl
  cases k <;> first | exact this | exact absurd rfl hk
theorem slot_add {ps : BL} {c d : UInt8} (hc : c ∉ ps) : slot (ps ++ [c]) d = if d = c then ps.length + 1 else slot ps d := by
  unfold slot
  by_cases h : d = c
  · subst h
    rw [if_pos rfl, if_pos (by simp), List.idxOf_append, if_neg hc]
    simp
  · rw [if_neg h]
    by_cases hd : d ∈ ps
    · rw [if_pos (by simp [hd]), if_pos hd, List.idxOf_append, if_pos hd]
    · rw [if_neg (by simp [hd, h]), if_neg hd]
theorem keys48_add {ps : BL} {c : UInt8} (hc : c ∉ ps) : (K.k48.keys ps).set c.toNat (.int .u8 ((ps.length + 1 : Nat) : Int)) = K.k48.keys (ps ++ [c]) := by
  apply List.ext_getElem?
  intro i
  simp only [K.keys]
  rw [List.getElem?_set]
  by_cases hi : i < 256
  · by_cases h : c.toNat = i
    · subst h
      rw [if_pos rfl, if_pos (by simpa using hi)]
      simp [hi, slot_add hc]
    · rw [if_neg h]
      simp only [List.getElem?_map, List.getElem?_range hi, Option.map_some]
      rw [slot_add hc, if_neg]
      intro e
      apply h
      rw [← e]
      simp [UInt8.toNat_ofNat']
      omega
  · have : c.toNat ≠ i := by have := c.toNat_lt; omega
    rw [if_neg this]
    simp [List.getElem?_eq_none, hi]
theorem keys48_at {ps : BL} (c : UInt8) : (K.k48.keys ps)[c.toNat]? = some (.int .u8 (slot ps c : Int)) := by
  have := c.toNat_lt
  simp only [K.keys, List.getElem?_map, List.getElem?_range (show c.toNat < 256 by omega), Option.map_some]
  simp
theorem kidsV_cut {k : K} {ks : List T} {m : Nat} (hm : ks.length = m + 1) (h : ks.length ≤ k.cap) : (kidsV k ks).set m .nilIface = kidsV k (ks.take m) := by
  obtain ⟨t, ht⟩ : ∃ t, ks = ks.take m ++ [t] := by
    refine ⟨ks[m]'(by omega), ?_⟩
    conv => lhs; rw [← List.take_append_drop m ks]
    rw [List.drop_eq_getElem_cons (by omega), List.drop_eq_nil_of_le (by omega)]
  have hl : (ks.take m).length = m := by rw [List.length_take]; omega
  have := kidsV_add (k := k) (ks := ks.take m) (t := t) (by rw [hl]; omega)
  rw [← ht, hl] at this
  rw [← this, List.set_set]
  apply List.ext_getElem?
  intro i
  rw [List.getElem?_set]
  split
  · rename_i e
    subst e
    have hc : (kidsV k (ks.take m)).length = k.cap := kidsV_len (by rw [hl]; omega)
    rw [if_pos (by rw [hc]; omega), kidsV, List.getElem?_append_right (by rw [List.length_map, hl]; exact Nat.le_refl _), List.length_map, hl, Nat.sub_self]
    rw [List.getElem?_replicate]
    rw [if_pos (by omega)]
  · rfl
theorem keys_cut {k : K} (hk : k ≠ .k48) {ps : BL} {m : Nat} (hm : ps.length = m + 1) (h : ps.length ≤ k.cap) : (k.keys ps).set m (.int .u8 0) = k.keys (ps.take m) := by
  obtain ⟨t, ht⟩ : ∃ t, ps = ps.take m ++ [t] := by
    refine ⟨ps[m]'(by omega), ?_⟩
    conv => lhs; rw [← List.take_append_drop m ps]
    rw [List.drop_eq_getElem_cons (by omega), List.drop_eq_nil_of_le (by omega)]
  have hl : (ps.take m).length = m := by rw [List.length_take]; omega
  have := keys_add (k := k) hk (ps := ps.take m) (c := t) (by rw [hl]; omega)
  rw [← ht, hl] at this
  rw [← this, List.set_set]
  apply List.ext_getElem?
  intro i
  rw [List.getElem?_set]
  split
  · rename_i e
    subst e
    have key : ((ps.take m).map bv ++ List.replicate (k.cap - (ps.take m).length) (Value.int .u8 0))[m]? = some (.int .u8 0) := by
      rw [List.getElem?_append_right (by rw [List.length_map, hl]; exact Nat.le_refl _), List.length_map, hl, Nat.sub_self]
      rw [List.getElem?_replicate]
      rw [if_pos (by omega)]
    have e2 : k.keys (ps.take m) = ((ps.take m).map bv ++ List.replicate (k.cap - (ps.take m).length) (Value.int .u8 0)) := by
      cases k <;> first | rfl | exact absurd rfl hk
    rw [e2, key, if_pos]
    rw [List.length_append, List.length_map, List.length_replicate, hl]
    omega
  · rfl
theorem keys_set {k : K} (hk : k ≠ .k48) {ps : BL} {i : Nat} {c : UInt8} (h : i < ps.length) : (k.keys ps).set i (bv c) = k.keys (ps.set i c) := by
  have : (ps.map bv ++ List.replicate (k.cap - ps.length) (Value.int .u8 0)).set i (bv c) = (ps.set i c).map bv ++ List.replicate (k.cap - (ps.set i c).length) (Value.int .u8 0) := by
    rw [List.set_append_left _ _ (by simpa using h), List.map_set, List.length_set]
  cases k <;> first | exact this | exact absurd rfl hk
theorem perm_del {ks : List T} {i m : Nat} {t tl : T} (hm : ks.length = m + 1) (hi : ks[i]? = some t) (hl : ks[m]? = some tl) : (t :: (ks.set i tl).take m).Perm ks := by
  have him : i < ks.length := (List.getElem?_eq_some_iff.1 hi).1
  have hk : ks = ks.take m ++ [tl] := by
    conv => lhs; rw [← List.take_append_drop m ks]
    rw [List.drop_eq_getElem_cons (by omega), List.drop_eq_nil_of_le (by omega)]
    congr 2
    exact (List.getElem?_eq_some_iff.1 hl).2
  have hlen : (ks.take m).length = m := by rw [List.length_take]; omega
  rcases Nat.lt_or_ge i m with h | h
  · have e1 : (ks.set i tl).take m = (ks.take m).set i tl := List.take_set
    have h2 : (ks.take m)[i]? = some t := by rw [List.getElem?_take_of_lt h]; exact hi
    rw [e1]
    conv => rhs; rw [hk]
    obtain ⟨l, hl0⟩ : ∃ l, l = ks.take m := ⟨_, rfl⟩
    rw [← hl0] at h2 ⊢
    obtain ⟨hil, hti⟩ := List.getElem?_eq_some_iff.1 h2
    have e3 : l = l.take i ++ t :: l.drop (i + 1) := by
      conv => lhs; rw [← List.take_append_drop i l]
      rw [List.drop_eq_getElem_cons hil, hti]
    have e4 : l.set i tl = l.take i ++ tl :: l.drop (i + 1) := List.set_eq_take_append_cons_drop ▸ (if_pos hil)
    rw [e4]
    conv => rhs; rw [e3]
    exact ((List.perm_middle (a := tl)).cons t).trans ((List.Perm.swap _ _ _).trans (((List.perm_middle (a := t)).symm.cons tl).trans (List.perm_append_singleton _ _).symm))
  · obtain rfl : i = m := by omega
    rw [hi] at hl
    injection hl with hl
    subst hl
    have e1 : (ks.set i t).take i = ks.take i := by
      rw [List.take_set]
      exact List.set_eq_of_length_le (by omega)
    rw [e1]
    conv => rhs; rw [hk]
    exact (List.perm_append_comm (l₁ := [t]))
/-! ### bytes that are read -/
/-- A slice of bytes. -/
structure SB (w : World) (v : Value) (s : BL) : Prop where
  ex : ∃ A c, v = .slice A s.length c ∧ s.length ≤ c ∧ Kd.C (Kd.int .u8) w A s.length (by8 s)
end Go.Proofs.YtjhmpcbpbdkddaaGreat.Te
namespace Go.Proofs.YtjhmpcbpbdkddaaGreat.Te
open Go.RowKit Go.Proofs.YtjhmpcbpbdkddaaGreat.Bs Go.Proofs.YtjhmpcbpbdkddaaGreatW.PrintWords Go.Proofs.YtjhmpcbpbdkddaaGreatW.PrintLast Go.Proofs.YtjhmpcbpbdkddaaGreatW.PrintMore
set_option linter.unusedVariables false
set_option linter.unusedSimpArgs false
/-- Bytes that are read. -/
structure CB (w : World) (A : Option Addr) (n : Nat) (s : BL) : Prop where
  len : s.length = n
  small : n ≤ 1000
  c : Kd.C (Kd.int .u8) w A n (by8 s)
theorem CB.at {w : World} {A : Option Addr} {n : Nat} {s : BL} (h : CB w A n s) {i : Nat} {c : UInt8} (hi : s[i]? = some c) : ∃ ad, A = some ad ∧ w.cell? (ad.add i) = some (bv c) := by
  have h2 := Kd.reads_of_C (h1 := fun _ => rfl) (enc := Value.int .u8) (d := (0 : Int)) h.c
  have hl : i < s.length := (List.getElem?_eq_some_iff.1 hi).1
  have := h.len
  obtain ⟨ad, e, hr⟩ := h2.2.2 (by omega)
  refine ⟨ad, e, ?_⟩
  rw [hr i (by omega)]
  congr 2
  rw [by8, List.getD_eq_getElem?_getD, List.getElem?_map, hi]
  rfl
theorem CB.below {w w1 : World} {A : Option Addr} {n : Nat} {s : BL} (h : CB w A n s) (hb : Below w.heap.size w w1) : CB w1 A n s := ⟨h.len, h.small, Kd.C_below h.c hb⟩
theorem CB.same {w w1 : World} {A : Option Addr} {n : Nat} {s : BL} (h : CB w A n s) (hb : Same w w1) : CB w1 A n s := h.below (below_of_fr hb)
theorem CB.of_reads {w : World} {A : Option Addr} {n : Nat} {s : BL} (hl : s.length = n) (hs : n ≤ 1000) (h : 0 < n → ∃ ad, A = some ad ∧ ∀ i c, s[i]? = some c → w.cell? (ad.add i) = some (bv c)) : CB w A n s := by
  refine ⟨hl, hs, Kd.C_of_reads (h1 := fun _ => rfl) (enc := Value.int .u8) (d := (0 : Int)) ⟨by simp [by8, hl], by omega, fun hn => ?_⟩⟩
  obtain ⟨ad, e, hr⟩ := h hn
  refine ⟨ad, e, fun j hj => ?_⟩
  have hj' : j < s.length := by omega
  rw [hr j s[j] (List.getElem?_eq_getElem hj')]
  unfold bv by8
  rw [List.getD_eq_getElem?_getD, List.getElem?_map, List.getElem?_eq_getElem hj']
  rfl
theorem CB.fr {F : Nat → Prop} {w w1 : World} {A : Option Addr} {n : Nat} {s : BL} (h : CB w A n s) (hf : Fr F w w1) (hn : ∀ ad, A = some ad → ¬ F ad.block) : CB w1 A n s := by
  refine CB.of_reads h.len h.small (fun h0 => ?_)
  have hl := h.len
  obtain ⟨ad, rfl, -⟩ := h.at (i := 0) (List.getElem?_eq_getElem (by omega))
  refine ⟨ad, rfl, fun i c hi => ?_⟩
  obtain ⟨ad', e, hc⟩ := h.at hi
  injection e with e
  subst e
  have hlt := World.block_lt_of_cell? w _ hc
  exact (World.cell?_of_block (by rw [Bs.add_block]; exact hf.block ad.block (by rw [Bs.add_block] at hlt; exact hlt) (hn ad rfl))).trans hc
theorem CB.drop {w : World} {A : Option Addr} {n c : Nat} {s : BL} (h : CB w A n s) {k : Nat} (hk : k ≤ n) (hc : n ≤ c) : CB w (if c = k then A else Option.map (fun x => x.add k) A) (n - k) (s.drop k) := by
  have hl := h.len
  refine CB.of_reads (by rw [List.length_drop, hl]) (by have := h.small; omega) (fun h0 => ?_)
  obtain ⟨ad, rfl, -⟩ := h.at (i := 0) (List.getElem?_eq_getElem (by omega))
  rw [if_neg (by omega)]
  refine ⟨ad.add k, rfl, fun i x hi => ?_⟩
  rw [List.getElem?_drop] at hi
  obtain ⟨ad', e, hcc⟩ := h.at hi
  injection e with e
  subst e
  rw [add_add']
  exact hcc
theorem CB.take {w : World} {A : Option Addr} {n : Nat} {s : BL} (h : CB w A n s) {k : Nat} (hk : k ≤ n) : CB w A k (s.take k) := by
  have hl := h.len
  refine CB.of_reads (by rw [List.length_take]; omega) (by have := h.small; omega) (fun h0 => ?_)
  obtain ⟨ad, rfl, -⟩ := h.at (i := 0) (List.getElem?_eq_getElem (by omega))
  refine ⟨ad, rfl, fun i x hi => ?_⟩
  rw [List.getElem?_take] at hi
  split at hi
  · obtain ⟨ad', e, hcc⟩ := h.at hi
    injection e with e
    subst e
    exact hcc
  · cases hi
set_option maxRecDepth 100000 in
theorem pivot_calls {w : World} {A : Option Addr} {n c : Nat} {s : BL} (h : CB w A n s) (i : Nat) :
    Calls Tryz.prog 66 #[.slice A n c, .int .i64 (i : Int)] w fun e w' => e = .returned (bv (piv (s.drop i))) ∧ w = w' := by
  have i0 : (0 : Int) ≤ (i : Int) := by omega
  by_cases hlt : i < n
  · have hg : s[i]? = some (s[i]'(by rw [h.len]; exact hlt)) := List.getElem?_eq_getElem _
    obtain ⟨ad, rfl, hc⟩ := h.at hg
    have hd : s.drop i = s[i]'(by rw [h.len]; exact hlt) :: s.drop (i + 1) := List.drop_eq_getElem_cons _
    rw [hd]
    obtain ⟨x, hx⟩ : ∃ x, x = s[i]'(by rw [h.len]; exact hlt) := ⟨_, rfl⟩
    rw [← hx] at hc ⊢
    have i1 : (i : Int) < (n : Int) := by omega
    have i2 : ¬ ((n : Int) ≤ (i : Int)) := by omega
    clear hg hd hx h hlt
    unfold bv at hc
    go_enter Tryz.func66, Tryz.ntmps66
    go_wp2
    go_ret
    exact ⟨rfl, rfl⟩
  · have i1 : (n : Int) ≤ (i : Int) := by omega
    have hd : s.drop i = [] := List.drop_eq_nil_of_le (by have := h.len; omega)
    rw [hd]
    clear h hlt hd
    go_enter Tryz.func66, Tryz.ntmps66
    go_wp2
    go_ret
    exact ⟨rfl, rfl⟩
end Go.Proofs.YtjhmpcbpbdkddaaGreat.Te
