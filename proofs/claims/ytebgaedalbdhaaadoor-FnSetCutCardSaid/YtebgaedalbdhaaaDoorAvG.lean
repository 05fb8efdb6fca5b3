/- What the trees hold: numbers, in order; what the three deeds do to them. -/
import Derived.Test.YtebgaedalbdhaaaDoorAvF
namespace Go.Proofs.YtebgaedalbdhaaaDoor.Av
open Go.RowKit Go.Proofs.YtebgaedalbdhaaaDoorW.PrintWords Go.Proofs.YtebgaedalbdhaaaDoorW.PrintLast Go.Proofs.YtebgaedalbdhaaaDoorW.PrintMore
set_option linter.unusedVariables false
set_option linter.unusedSimpArgs false

abbrev Nd := Nat × Int × List Int
def HasF (q : Int) (F : List Nd) : Prop := ∃ p ∈ F, p.2.1 ≤ q ∧ q < p.2.1 + 2048 ∧ bget p.2.2 (q - p.2.1).toNat = true
def CovF (q : Int) (F : List Nd) : Prop := ∃ p ∈ F, p.2.1 ≤ q ∧ q < p.2.1 + 2048
def OrdF (F : List Nd) : Prop := F.Pairwise (fun p p' => p.2.1 + 2048 ≤ p'.2.1)
def AlF (F : List Nd) : Prop := ∀ p ∈ F, p.2.1 % 2048 = 0
theorem ord_node {b : Nat} {x : Int} {s : List Int} {l r : T} (h : OrdF (T.node b x s l r).flat) : OrdF l.flat ∧ OrdF r.flat ∧ (∀ p ∈ l.flat, p.2.1 + 2048 ≤ x) ∧ ∀ p ∈ r.flat, x + 2048 ≤ p.2.1 := by
  unfold OrdF at *
  rw [T.flat_node, List.pairwise_append, List.pairwise_cons] at h
  exact ⟨h.1, h.2.1.2, fun p hp => h.2.2 p hp _ List.mem_cons_self, h.2.1.1⟩
theorem has_iff (q : Int) : ∀ {t : T}, OrdF t.flat → (t.has q = true ↔ HasF q t.flat)
  | .nil, _ => ⟨fun h => (by cases h), fun ⟨p, hp, _⟩ => (by cases hp)⟩
  | .node b x s l r, h => by
    obtain ⟨h1, h2, h3, h4⟩ := ord_node h
    unfold T.has
    rw [T.flat_node]
    split
    · rename_i c
      rw [has_iff q h1]
      constructor
      · rintro ⟨p, hp, hq⟩; exact ⟨p, List.mem_append_left _ hp, hq⟩
      · rintro ⟨p, hp, hq1, hq2, hq3⟩
        rcases List.mem_append.1 hp with hp | hp
        · exact ⟨p, hp, hq1, hq2, hq3⟩
        · rcases List.mem_cons.1 hp with rfl | hp
          · simp only at hq1; omega
          · have := h4 p hp; omega
    · rename_i c
      split
      · rename_i c2
        rw [has_iff q h2]
        constructor
        · rintro ⟨p, hp, hq⟩; exact ⟨p, List.mem_append_right _ (List.mem_cons_of_mem _ hp), hq⟩
        · rintro ⟨p, hp, hq1, hq2, hq3⟩
          rcases List.mem_append.1 hp with hp | hp
          · have := h3 p hp; omega
          · rcases List.mem_cons.1 hp with rfl | hp
            · simp only at hq2; omega
            · exact ⟨p, hp, hq1, hq2, hq3⟩
      · rename_i c2
        constructor
        · intro hb
          exact ⟨(b, x, s), List.mem_append_right _ List.mem_cons_self, by simp only; omega, by simp only; omega, hb⟩
        · rintro ⟨p, hp, hq1, hq2, hq3⟩
          rcases List.mem_append.1 hp with hp | hp
          · have := h3 p hp; omega
          · rcases List.mem_cons.1 hp with rfl | hp
            · exact hq3
            · have := h4 p hp; omega
theorem putB_split {q : Int} : ∀ {t : T}, t.cov q = true → ∃ A b x s B, t.flat = A ++ (b, x, s) :: B ∧ (t.putB q).flat = A ++ (b, x, bput s (q - x).toNat) :: B ∧ x ≤ q ∧ q < x + 2048
  | .nil, h => by cases h
  | .node b x s l r, h => by
    unfold T.cov at h
    unfold T.putB
    split
    · rename_i c
      rw [if_pos c] at h
      obtain ⟨A, b', x', s', B, e1, e2, e3⟩ := putB_split h
      exact ⟨A, b', x', s', B ++ (b, x, s) :: r.flat, by rw [T.flat_node, e1]; simp, by rw [T.flat_node, e2]; simp, e3⟩
    · rename_i c
      rw [if_neg c] at h
      split
      · rename_i c2
        rw [if_pos c2] at h
        obtain ⟨A, b', x', s', B, e1, e2, e3⟩ := putB_split h
        exact ⟨l.flat ++ (b, x, s) :: A, b', x', s', B, by rw [T.flat_node, e1]; simp, by rw [T.flat_node, e2]; simp, e3⟩
      · exact ⟨l.flat, b, x, s, r.flat, rfl, rfl, by omega, by omega⟩
theorem ins_split {id : Nat} {q : Int} : ∀ {t : T}, t.cov q = false → OrdF t.flat → ∃ A B, t.flat = A ++ B ∧ (t.ins id q).flat = A ++ (id, q / 2048 * 2048, bput zeros (q % 2048).toNat) :: B ∧ (∀ p ∈ A, p.2.1 + 2048 ≤ q) ∧ ∀ p ∈ B, q < p.2.1
  | .nil, _, _ => ⟨[], [], rfl, rfl, (fun p hp => by cases hp), (fun p hp => by cases hp)⟩
  | .node b x s l r, h, ho => by
    obtain ⟨h1, h2, h3, h4⟩ := ord_node ho
    unfold T.cov at h
    unfold T.ins
    split
    · rename_i c
      rw [if_pos c] at h
      obtain ⟨A, B, e1, e2, e3, e4⟩ := ins_split (id := id) h h1
      refine ⟨A, B ++ (b, x, s) :: r.flat, by rw [T.flat_node, e1]; simp, by rw [T.bal_flat, T.flat_node, e2]; simp, e3, fun p hp => ?_⟩
      rcases List.mem_append.1 hp with hp | hp
      · exact e4 p hp
      · rcases List.mem_cons.1 hp with rfl | hp
        · exact c
        · have := h4 p hp; omega
    · rename_i c
      rw [if_neg c] at h
      split
      · rename_i c2
        rw [if_pos c2] at h
        obtain ⟨A, B, e1, e2, e3, e4⟩ := ins_split (id := id) h h2
        refine ⟨l.flat ++ (b, x, s) :: A, B, by rw [T.flat_node, e1]; simp, by rw [T.bal_flat, T.flat_node, e2]; simp, fun p hp => ?_, e4⟩
        rcases List.mem_append.1 hp with hp | hp
        · have := h3 p hp; omega
        · rcases List.mem_cons.1 hp with rfl | hp
          · exact c2
          · exact e3 p hp
      · rename_i c2
        rw [if_neg c2] at h
        cases h
theorem del_split {q : Int} : ∀ {t : T}, t.has q = true → ∃ A b x s B, t.flat = A ++ (b, x, s) :: B ∧ x ≤ q ∧ q < x + 2048 ∧ bget s (q - x).toNat = true ∧ (t.del q).flat = A ++ (if (bclr s (q - x).toNat).all (· == 0) then [] else [(b, x, bclr s (q - x).toNat)]) ++ B
  | .nil, h => by cases h
  | .node b x s l r, h => by
    unfold T.has at h
    unfold T.del
    split
    · rename_i c
      rw [if_pos c] at h
      obtain ⟨A, b', x', s', B, e1, e2, e3, e4, e5⟩ := del_split h
      refine ⟨A, b', x', s', B ++ (b, x, s) :: r.flat, by rw [T.flat_node, e1]; simp, e2, e3, e4, ?_⟩
      have : (T.node b x s (l.del q) r).flat = A ++ (if (bclr s' (q - x').toNat).all (· == 0) then [] else [(b', x', bclr s' (q - x').toNat)]) ++ (B ++ (b, x, s) :: r.flat) := by rw [T.flat_node, e5]; simp
      split
      · rw [T.bal_flat]; exact this
      · exact this
    · rename_i c
      rw [if_neg c] at h
      split
      · rename_i c2
        rw [if_pos c2] at h
        obtain ⟨A, b', x', s', B, e1, e2, e3, e4, e5⟩ := del_split h
        refine ⟨l.flat ++ (b, x, s) :: A, b', x', s', B, by rw [T.flat_node, e1]; simp, e2, e3, e4, ?_⟩
        have : (T.node b x s l (r.del q)).flat = (l.flat ++ (b, x, s) :: A) ++ (if (bclr s' (q - x').toNat).all (· == 0) then [] else [(b', x', bclr s' (q - x').toNat)]) ++ B := by rw [T.flat_node, e5]; simp
        split
        · rw [T.bal_flat]; exact this
        · exact this
      · rename_i c2
        rw [if_neg c2] at h
        refine ⟨l.flat, b, x, s, r.flat, rfl, by omega, by omega, h, ?_⟩
        rw [if_pos h]
        split
        · rw [T.bal_flat, T.merge_flat]; simp
        · rw [T.flat_node]; simp
theorem del_none {q : Int} : ∀ {t : T}, t.has q = false → (t.del q).flat = t.flat
  | .nil, _ => rfl
  | .node b x s l r, h => by
    have hg : ∀ {u : T}, u.has q = false → u.gone q = false := fun {u} hu => by
      cases hc : u.gone q
      · rfl
      · rw [gone_has hc] at hu; cases hu
    unfold T.has at h
    unfold T.del
    split
    · rename_i c
      rw [if_pos c] at h
      rw [if_neg (by rw [hg h]; decide), T.flat_node, T.flat_node, del_none h]
    · rename_i c
      rw [if_neg c] at h
      split
      · rename_i c2
        rw [if_pos c2] at h
        rw [if_neg (by rw [hg h]; decide), T.flat_node, T.flat_node, del_none h]
      · rename_i c2
        rw [if_neg c2] at h
        rw [if_neg (by rw [h]; decide)]
theorem nums_flat : ∀ t : T, t.nums = t.flat.flatMap (fun p => nodeFrom p.2.1 p.2.2 0)
  | .nil => rfl
  | .node b x s l r => by rw [T.nums, nums_flat l, nums_flat r, T.flat_node]; simp
theorem mem_nums {q : Int} {t : T} (h : t.wf) : q ∈ t.nums ↔ HasF q t.flat := by
  rw [nums_flat, List.mem_flatMap]
  constructor
  · rintro ⟨p, hp, hq⟩
    exact ⟨p, hp, ((nodeFrom_spec (h p hp).2.2).1 q).1 hq⟩
  · rintro ⟨p, hp, hq⟩
    exact ⟨p, hp, ((nodeFrom_spec (h p hp).2.2).1 q).2 hq⟩
theorem sorted_nums {t : T} (h : t.wf) (ho : OrdF t.flat) : t.nums.Pairwise (· < ·) := by
  rw [nums_flat, List.pairwise_flatMap]
  refine ⟨fun p hp => (nodeFrom_spec (h p hp).2.2).2, ?_⟩
  refine List.Pairwise.imp_of_mem (fun {p p'} hp hp' hlt q hq q' hq' => ?_) ho
  have h1 := ((nodeFrom_spec (h p hp).2.2).1 q).1 hq
  have h2 := ((nodeFrom_spec (h p' hp').2.2).1 q').1 hq'
  omega
theorem sorted_ext : ∀ {l l' : List Int}, l.Pairwise (· < ·) → l'.Pairwise (· < ·) → (∀ q, q ∈ l ↔ q ∈ l') → l = l'
  | [], [], _, _, _ => rfl
  | [], b :: l', _, _, h => by have := (h b).2 List.mem_cons_self; cases this
  | a :: l, [], _, _, h => by have := (h a).1 List.mem_cons_self; cases this
  | a :: l, b :: l', h1, h2, h => by
    rw [List.pairwise_cons] at h1 h2
    have e : a = b := by
      have ha := (h a).1 List.mem_cons_self
      have hb := (h b).2 List.mem_cons_self
      rcases List.mem_cons.1 ha with ha | ha
      · exact ha
      · rcases List.mem_cons.1 hb with hb | hb
        · exact hb.symm
        · have := h2.1 a ha
          have := h1.1 b hb
          omega
    subst e
    congr 1
    refine sorted_ext h1.2 h2.2 (fun q => ?_)
    constructor
    · intro hq
      rcases List.mem_cons.1 ((h q).1 (List.mem_cons_of_mem _ hq)) with rfl | h'
      · exact absurd (h1.1 q hq) (by omega)
      · exact h'
    · intro hq
      rcases List.mem_cons.1 ((h q).2 (List.mem_cons_of_mem _ hq)) with rfl | h'
      · exact absurd (h2.1 q hq) (by omega)
      · exact h'
/-- A number put into, taken out of ascending numbers. -/
def insS (q : Int) (l : List Int) : List Int := l.filter (· < q) ++ q :: l.filter (q < ·)
def delS (q : Int) (l : List Int) : List Int := l.filter (· ≠ q)
theorem mem_insS {q z : Int} {l : List Int} : z ∈ insS q l ↔ z = q ∨ z ∈ l := by
  unfold insS
  simp only [List.mem_append, List.mem_cons, List.mem_filter, decide_eq_true_eq]
  constructor
  · rintro (⟨h, _⟩ | h | ⟨h, _⟩)
    · exact .inr h
    · exact .inl h
    · exact .inr h
  · rintro (h | h)
    · exact .inr (.inl h)
    · rcases Int.lt_trichotomy z q with c | c | c
      · exact .inl ⟨h, c⟩
      · exact .inr (.inl c)
      · exact .inr (.inr ⟨h, c⟩)
theorem sorted_insS {q : Int} {l : List Int} (h : l.Pairwise (· < ·)) : (insS q l).Pairwise (· < ·) := by
  unfold insS
  rw [List.pairwise_append, List.pairwise_cons]
  refine ⟨h.sublist List.filter_sublist, ⟨fun z hz => by simpa using (List.mem_filter.1 hz).2, h.sublist List.filter_sublist⟩, fun a ha z hz => ?_⟩
  have h1 : a < q := by simpa using (List.mem_filter.1 ha).2
  rcases List.mem_cons.1 hz with rfl | hz
  · exact h1
  · have h2 : q < z := by simpa using (List.mem_filter.1 hz).2
    omega
theorem mem_delS {q z : Int} {l : List Int} : z ∈ delS q l ↔ z ∈ l ∧ z ≠ q := by
  unfold delS
  simp [List.mem_filter]
theorem sorted_delS {q : Int} {l : List Int} (h : l.Pairwise (· < ·)) : (delS q l).Pairwise (· < ·) := h.sublist List.filter_sublist
theorem insS_self {q : Int} {l : List Int} (h : l.Pairwise (· < ·)) (hq : q ∈ l) : insS q l = l :=
  sorted_ext (sorted_insS h) h (fun z => by rw [mem_insS]; exact ⟨fun h => h.elim (fun e => e ▸ hq) id, .inr⟩)
theorem delS_none {q : Int} {l : List Int} (hq : q ∉ l) : delS q l = l := by
  unfold delS
  rw [List.filter_eq_self]
  intro z hz
  simp
  rintro rfl
  exact hq hz
theorem len_split (q : Int) : ∀ {l : List Int}, l.Pairwise (· < ·) → q ∉ l → (l.filter (· < q)).length + (l.filter (q < ·)).length = l.length
  | [], _, _ => rfl
  | a :: l, h, hq => by
    rw [List.pairwise_cons] at h
    have ih := len_split q h.2 (fun hh => hq (List.mem_cons_of_mem _ hh))
    have hne : a ≠ q := fun e => hq (e ▸ List.mem_cons_self)
    rw [List.filter_cons, List.filter_cons]
    by_cases c : a < q
    · have c2 : ¬ q < a := by omega
      simp [c, c2]; omega
    · have c2 : q < a := by omega
      simp [c, c2]; omega
theorem insS_len {q : Int} {l : List Int} (h : l.Pairwise (· < ·)) (hq : q ∉ l) : (insS q l).length = l.length + 1 := by
  unfold insS
  rw [List.length_append, List.length_cons]
  have := len_split q h hq
  omega
theorem delS_len {q : Int} : ∀ {l : List Int}, l.Pairwise (· < ·) → q ∈ l → (delS q l).length + 1 = l.length
  | [], _, hq => by cases hq
  | a :: l, h, hq => by
    rw [List.pairwise_cons] at h
    unfold delS
    rw [List.filter_cons]
    by_cases c : a = q
    · subst c
      have : delS a l = l := delS_none (fun hh => by have := h.1 a hh; omega)
      unfold delS at this
      rw [if_neg (by simp), this, List.length_cons]
    · rcases List.mem_cons.1 hq with e | hq
      · exact absurd e.symm c
      · have := delS_len h.2 hq
        unfold delS at this
        simp [c]
        simpa using this
theorem gone_len (q : Int) : ∀ t : T, (t.gone q = true → (t.del q).flat.length + 1 = t.flat.length) ∧ (t.gone q = false → (t.del q).flat.length = t.flat.length)
  | .nil => ⟨fun h => (by cases h), fun _ => rfl⟩
  | .node b x s l r => by
    obtain ⟨l1, l2⟩ := gone_len q l
    obtain ⟨r1, r2⟩ := gone_len q r
    unfold T.gone T.del
    split
    · refine ⟨fun h => ?_, fun h => ?_⟩
      · rw [if_pos h, T.bal_flat, flat_len_node, flat_len_node]; have := l1 h; omega
      · rw [if_neg (by rw [h]; decide), flat_len_node, flat_len_node]; have := l2 h; omega
    · split
      · refine ⟨fun h => ?_, fun h => ?_⟩
        · rw [if_pos h, T.bal_flat, flat_len_node, flat_len_node]; have := r1 h; omega
        · rw [if_neg (by rw [h]; decide), flat_len_node, flat_len_node]; have := r2 h; omega
      · refine ⟨fun h => ?_, fun h => ?_⟩
        · rw [Bool.and_eq_true] at h
          rw [if_pos h.1, if_pos h.2, T.bal_flat, T.merge_flat, flat_len_node, List.length_append]
        · cases hb : bget s (q - x).toNat
          · rw [if_neg (by decide)]
          · rw [hb, Bool.true_and] at h
            rw [if_pos rfl, if_neg (by rw [h]; decide), flat_len_node, flat_len_node]
/-- A set's tree holds the numbers L. -/
structure Rep (t : T) (sz nd : Int) (L : List Int) (m : Nat) : Prop where
  nums : t.nums = L
  ord : OrdF t.flat
  sz : sz = L.length
  nd0 : 0 ≤ nd
  nd1 : nd ≤ m
  len : t.flat.length ≤ m
theorem Rep.sorted {t : T} {sz nd : Int} {L : List Int} {m : Nat} (h : Rep t sz nd L m) (hw : t.wf) : L.Pairwise (· < ·) := h.nums ▸ sorted_nums hw h.ord
theorem Rep.has {t : T} {sz nd : Int} {L : List Int} {m : Nat} (h : Rep t sz nd L m) (hw : t.wf) (q : Int) : t.has q = decide (q ∈ L) := by
  have : t.has q = true ↔ q ∈ L := by rw [has_iff q h.ord, ← mem_nums hw, h.nums]
  cases hc : t.has q
  · symm
    rw [decide_eq_false_iff_not]
    intro hq
    rw [this.2 hq] at hc
    cases hc
  · symm
    rw [decide_eq_true_eq]
    exact this.1 hc
theorem hasF_put {q : Int} {A B : List Nd} {b b' : Nat} {x : Int} {s s' : List Int} (h : ∀ z, x ≤ z → z < x + 2048 → (bget s' (z - x).toNat = true ↔ z = q ∨ bget s (z - x).toNat = true)) (hx : x ≤ q ∧ q < x + 2048) (z : Int) : HasF z (A ++ (b', x, s') :: B) ↔ z = q ∨ HasF z (A ++ (b, x, s) :: B) := by
  constructor
  · rintro ⟨p, hp, h1, h2, h3⟩
    rcases List.mem_append.1 hp with hp | hp
    · exact .inr ⟨p, List.mem_append_left _ hp, h1, h2, h3⟩
    · rcases List.mem_cons.1 hp with rfl | hp
      · rcases (h z h1 h2).1 h3 with e | h4
        · exact .inl e
        · exact .inr ⟨(b, x, s), List.mem_append_right _ List.mem_cons_self, h1, h2, h4⟩
      · exact .inr ⟨p, List.mem_append_right _ (List.mem_cons_of_mem _ hp), h1, h2, h3⟩
  · rintro (rfl | ⟨p, hp, h1, h2, h3⟩)
    · exact ⟨(b', x, s'), List.mem_append_right _ List.mem_cons_self, hx.1, hx.2, (h z hx.1 hx.2).2 (.inl rfl)⟩
    · rcases List.mem_append.1 hp with hp | hp
      · exact ⟨p, List.mem_append_left _ hp, h1, h2, h3⟩
      · rcases List.mem_cons.1 hp with rfl | hp
        · exact ⟨(b', x, s'), List.mem_append_right _ List.mem_cons_self, h1, h2, (h z h1 h2).2 (.inr h3)⟩
        · exact ⟨p, List.mem_append_right _ (List.mem_cons_of_mem _ hp), h1, h2, h3⟩
theorem ord_swap {A B : List Nd} {p p' : Nd} (h : OrdF (A ++ p :: B)) (e : p'.2.1 = p.2.1) : OrdF (A ++ p' :: B) := by
  unfold OrdF at *
  rw [List.pairwise_append, List.pairwise_cons] at h ⊢
  obtain ⟨h1, ⟨h2, h3⟩, h4⟩ := h
  refine ⟨h1, ⟨fun q hq => by rw [e]; exact h2 q hq, h3⟩, fun a ha q hq => ?_⟩
  rcases List.mem_cons.1 hq with rfl | hq
  · rw [e]; exact h4 a ha p List.mem_cons_self
  · exact h4 a ha q (List.mem_cons_of_mem _ hq)
theorem al_swap {A B : List Nd} {p p' : Nd} (h : AlF (A ++ p :: B)) (e : p'.2.1 = p.2.1) : AlF (A ++ p' :: B) := fun z hz => by
  rcases List.mem_append.1 hz with hz | hz
  · exact h z (List.mem_append_left _ hz)
  · rcases List.mem_cons.1 hz with rfl | hz
    · rw [e]; exact h p (List.mem_append_right _ List.mem_cons_self)
    · exact h z (List.mem_append_right _ (List.mem_cons_of_mem _ hz))
theorem al_sub {F G : List Nd} (h : AlF F) (hs : ∀ p ∈ G, p ∈ F) : AlF G := fun p hp => h p (hs p hp)
theorem off_eq {x q z : Int} (hx : x ≤ q ∧ q < x + 2048) (h1 : x ≤ z) (h2 : z < x + 2048) : ((q - x).toNat = (z - x).toNat) ↔ z = q := by omega
/-- What is put. -/
theorem Rep.put {t : T} {sz nd : Int} {L : List Int} {m : Nat} (h : Rep t sz nd L m) (hw : t.wf) {q : Int} (hq0 : 0 ≤ q) (hq1 : q + 2048 < 18446744073709551616) (id : Nat) (ha : t.cov q = true ∨ AlF t.flat) :
    Rep (t.put1 id q) (sz + if t.has q then 0 else 1) (nd + if t.cov q then 0 else 1) (insS q L) (m + 1) ∧ (AlF t.flat → AlF (t.put1 id q).flat) := by
  have hwf : (t.put1 id q).wf := by
    unfold T.put1
    split
    · exact T.putB_wf q hw
    · exact T.ins_wf hq0 hq1 hw
  have hL := h.sorted hw
  have key : OrdF (t.put1 id q).flat ∧ (∀ z, HasF z (t.put1 id q).flat ↔ z = q ∨ HasF z t.flat) ∧ (t.put1 id q).flat.length ≤ m + 1 ∧ (AlF t.flat → AlF (t.put1 id q).flat) := by
    unfold T.put1
    cases hc : t.cov q
    · rw [if_neg (by decide)]
      have hal : AlF t.flat := ha.resolve_left (by rw [hc]; decide)
      obtain ⟨A, B, e1, e2, e3, e4⟩ := ins_split (id := id) hc h.ord
      have ho := h.ord
      have hl := h.len
      rw [e1] at ho hl hal
      rw [e1, e2]
      unfold OrdF at ho
      rw [List.pairwise_append] at ho
      refine ⟨?_, fun z => ?_, by simp at hl ⊢; omega, fun _ p hp => ?_⟩
      · unfold OrdF
        rw [List.pairwise_append, List.pairwise_cons]
        refine ⟨ho.1, ⟨fun p hp => ?_, ho.2.1⟩, fun a ha p hp => ?_⟩
        · have h1 := e4 p hp
          have h2 := hal p (List.mem_append_right _ hp)
          simp only; omega
        · rcases List.mem_cons.1 hp with rfl | hp
          · have h1 := e3 a ha
            have h2 := hal a (List.mem_append_left _ ha)
            simp only; omega
          · exact ho.2.2 a ha p hp
      · have hz : ∀ z, q / 2048 * 2048 ≤ z → z < q / 2048 * 2048 + 2048 → (bget (bput zeros (q % 2048).toNat) (z - q / 2048 * 2048).toNat = true ↔ z = q) := fun z h1 h2 => by
          rw [bget_bput words_zeros (by omega), bget_zeros, Bool.or_false, decide_eq_true_eq]
          omega
        constructor
        · rintro ⟨p, hp, h1, h2, h3⟩
          rcases List.mem_append.1 hp with hp | hp
          · exact .inr ⟨p, List.mem_append_left _ hp, h1, h2, h3⟩
          · rcases List.mem_cons.1 hp with rfl | hp
            · exact .inl ((hz z h1 h2).1 h3)
            · exact .inr ⟨p, List.mem_append_right _ hp, h1, h2, h3⟩
        · rintro (rfl | ⟨p, hp, h1, h2, h3⟩)
          · exact ⟨_, List.mem_append_right _ List.mem_cons_self, by simp only; omega, by simp only; omega, (hz z (by omega) (by omega)).2 rfl⟩
          · rcases List.mem_append.1 hp with hp | hp
            · exact ⟨p, List.mem_append_left _ hp, h1, h2, h3⟩
            · exact ⟨p, List.mem_append_right _ (List.mem_cons_of_mem _ hp), h1, h2, h3⟩
      · rcases List.mem_append.1 hp with hp | hp
        · exact hal p (List.mem_append_left _ hp)
        · rcases List.mem_cons.1 hp with rfl | hp
          · simp only; omega
          · exact hal p (List.mem_append_right _ hp)
    · rw [if_pos rfl]
      obtain ⟨A, b, x, s, B, e1, e2, hx⟩ := putB_split hc
      have ho := h.ord
      have hl := h.len
      have hs : WordsOk s := (hw (b, x, s) (by rw [e1]; exact List.mem_append_right _ List.mem_cons_self)).2.2
      rw [e1] at ho hl
      rw [e1, e2]
      refine ⟨ord_swap ho rfl, hasF_put (fun z h1 h2 => ?_) hx, by simp at hl ⊢; omega, fun hal => al_swap hal rfl⟩
      rw [bget_bput hs (by omega), Bool.or_eq_true, decide_eq_true_eq, off_eq hx h1 h2]
  obtain ⟨k1, k2, k3, k4⟩ := key
  refine ⟨⟨?_, k1, ?_, ?_, ?_, k3⟩, k4⟩
  · refine sorted_ext (sorted_nums hwf k1) (sorted_insS hL) (fun z => ?_)
    rw [mem_nums hwf, k2, mem_insS, ← h.nums, mem_nums hw]
  · rw [h.has hw]
    have hsz := h.sz
    by_cases hq : q ∈ L
    · rw [insS_self hL hq, if_pos (by simpa using hq)]; omega
    · rw [insS_len hL hq, if_neg (by simpa using hq)]; omega
  · have := h.nd0; split <;> omega
  · have := h.nd1; split <;> omega
/-- What is taken away. -/
theorem Rep.take {t : T} {sz nd : Int} {L : List Int} {m : Nat} (h : Rep t sz nd L m) (hw : t.wf) (hnd : t.flat.length ≤ nd) (q : Int) :
    Rep (t.del1 q sz) (t.szD q sz) (t.ndD q sz nd) (delS q L) m ∧ (AlF t.flat → AlF (t.del1 q sz).flat) ∧ ((t.del1 q sz).flat.length : Int) ≤ t.ndD q sz nd := by
  have hL := h.sorted hw
  have hhas := h.has hw q
  cases hc : t.has q with
  | false =>
    rw [hc] at hhas
    have hq : q ∉ L := of_decide_eq_false hhas.symm
    have e1 : t.del1 q sz = t.del q := by unfold T.del1; rw [hc, if_neg (by decide)]
    have e2 : t.szD q sz = sz := by unfold T.szD; rw [hc, if_neg (by decide)]
    have e3 : t.ndD q sz nd = nd := by unfold T.ndD; rw [hc, if_neg (by decide)]
    have e4 := del_none hc
    rw [e1, e2, e3, delS_none hq]
    refine ⟨⟨?_, by rw [e4]; exact h.ord, h.sz, h.nd0, h.nd1, by rw [e4]; exact h.len⟩, fun ha => by rw [e4]; exact ha, by rw [e4]; exact hnd⟩
    rw [nums_flat, e4, ← nums_flat, h.nums]
  | true =>
    rw [hc] at hhas
    have hq : q ∈ L := of_decide_eq_true hhas.symm
    have hlen := delS_len hL hq
    have hsz := h.sz
    have e2 : t.szD q sz = sz - 1 := by unfold T.szD; rw [hc, if_pos rfl]
    by_cases hone : sz = 1
    · have e1 : t.del1 q sz = .nil := by unfold T.del1; rw [hc, if_pos rfl, if_pos hone]
      have e3 : t.ndD q sz nd = 0 := by unfold T.ndD; rw [hc, if_pos rfl, if_pos hone]
      have e0 : delS q L = [] := List.eq_nil_of_length_eq_zero (by omega)
      rw [e1, e2, e3, e0]
      exact ⟨⟨rfl, List.Pairwise.nil, by simp; omega, Int.le_refl _, by omega, Nat.zero_le _⟩, fun _ p hp => (by cases hp), Int.le_refl _⟩
    · have e1 : t.del1 q sz = t.del q := by unfold T.del1; rw [hc, if_pos rfl, if_neg hone]
      have e3 : t.ndD q sz nd = nd - if t.gone q then 1 else 0 := by unfold T.ndD; rw [hc, if_pos rfl, if_neg hone]
      obtain ⟨A, b, x, s, B, f1, f2, f3, f4, f5⟩ := del_split hc
      have hs : WordsOk s := (hw (b, x, s) (by rw [f1]; exact List.mem_append_right _ List.mem_cons_self)).2.2
      have hgone : t.gone q = (bclr s (q - x).toNat).all (· == 0) := by
        have hf : (t.gone q = true → (t.del q).flat.length + 1 = t.flat.length) ∧ (t.gone q = false → (t.del q).flat.length = t.flat.length) := gone_len q t
        rw [f5, f1] at hf
        cases hg : t.gone q <;> cases hal : (bclr s (q - x).toNat).all (· == 0)
        · rfl
        · have := hf.2 hg; rw [if_pos hal] at this; simp at this
        · have := hf.1 hg; rw [if_neg (by rw [hal]; decide)] at this; simp at this
        · rfl
      have ho := h.ord
      have hl := h.len
      rw [f1] at ho hl hnd
      have hwd : (t.del q).wf := T.del_wf hw
      have hcl : ∀ z, x ≤ z → z < x + 2048 → (bget (bclr s (q - x).toNat) (z - x).toNat = true ↔ z ≠ q ∧ bget s (z - x).toNat = true) := fun z h1 h2 => by
        rw [bget_bclr hs (by omega), Bool.and_eq_true, Bool.not_eq_true', decide_eq_false_iff_not, off_eq ⟨f2, f3⟩ h1 h2]
      unfold OrdF at ho
      rw [List.pairwise_append, List.pairwise_cons] at ho
      have other : ∀ p, p ∈ A ++ B → ¬ (p.2.1 ≤ q ∧ q < p.2.1 + 2048) := fun p hp => by
        rcases List.mem_append.1 hp with hp | hp
        · have := ho.2.2 p hp _ List.mem_cons_self; simp only at this; omega
        · have := ho.2.1.1 p hp; simp only at this; omega
      have key : OrdF (t.del q).flat ∧ (∀ z, HasF z (t.del q).flat ↔ HasF z t.flat ∧ z ≠ q) ∧ (AlF t.flat → AlF (t.del q).flat) ∧ ((t.del q).flat.length : Int) ≤ nd - (if t.gone q then 1 else 0) := by
        rw [hgone, f5, f1]
        cases hal : (bclr s (q - x).toNat).all (· == 0)
        · rw [if_neg (by decide), if_neg (by decide)]
          simp only [List.append_assoc, List.singleton_append]
          refine ⟨ord_swap (p := (b, x, s)) (by unfold OrdF; rw [List.pairwise_append, List.pairwise_cons]; exact ho) rfl, fun z => ?_, fun ha => al_swap ha rfl, by simp at hnd ⊢; omega⟩
          constructor
          · rintro ⟨p, hp, h1, h2, h3⟩
            rcases List.mem_append.1 hp with hp | hp
            · refine ⟨⟨p, List.mem_append_left _ hp, h1, h2, h3⟩, ?_⟩
              intro e
              exact other p (List.mem_append_left _ hp) (e ▸ ⟨h1, h2⟩)
            · rcases List.mem_cons.1 hp with rfl | hp
              · have := (hcl z h1 h2).1 h3
                exact ⟨⟨(b, x, s), List.mem_append_right _ List.mem_cons_self, h1, h2, this.2⟩, this.1⟩
              · refine ⟨⟨p, List.mem_append_right _ (List.mem_cons_of_mem _ hp), h1, h2, h3⟩, ?_⟩
                intro e
                exact other p (List.mem_append_right _ hp) (e ▸ ⟨h1, h2⟩)
          · rintro ⟨⟨p, hp, h1, h2, h3⟩, hne⟩
            rcases List.mem_append.1 hp with hp | hp
            · exact ⟨p, List.mem_append_left _ hp, h1, h2, h3⟩
            · rcases List.mem_cons.1 hp with rfl | hp
              · exact ⟨_, List.mem_append_right _ List.mem_cons_self, h1, h2, (hcl z h1 h2).2 ⟨hne, h3⟩⟩
              · exact ⟨p, List.mem_append_right _ (List.mem_cons_of_mem _ hp), h1, h2, h3⟩
        · rw [if_pos rfl, if_pos rfl]
          simp only [List.append_nil]
          refine ⟨by unfold OrdF; rw [List.pairwise_append]; exact ⟨ho.1, ho.2.1.2, fun a ha p hp => ho.2.2 a ha p (List.mem_cons_of_mem _ hp)⟩, fun z => ?_, fun ha => al_sub ha (fun p hp => ?_), by simp at hnd ⊢; omega⟩
          · constructor
            · rintro ⟨p, hp, h1, h2, h3⟩
              refine ⟨⟨p, ?_, h1, h2, h3⟩, ?_⟩
              · rcases List.mem_append.1 hp with hp | hp
                · exact List.mem_append_left _ hp
                · exact List.mem_append_right _ (List.mem_cons_of_mem _ hp)
              · rintro rfl
                exact other p hp ⟨h1, h2⟩
            · rintro ⟨⟨p, hp, h1, h2, h3⟩, hne⟩
              rcases List.mem_append.1 hp with hp | hp
              · exact ⟨p, List.mem_append_left _ hp, h1, h2, h3⟩
              · rcases List.mem_cons.1 hp with rfl | hp
                · have h4 := (hcl z h1 h2).2 ⟨hne, h3⟩
                  rw [bget_none (words_bclr hs _) hal] at h4
                  cases h4
                · exact ⟨p, List.mem_append_right _ hp, h1, h2, h3⟩
          · rcases List.mem_append.1 hp with hp | hp
            · exact List.mem_append_left _ hp
            · exact List.mem_append_right _ (List.mem_cons_of_mem _ hp)
      obtain ⟨k1, k2, k3, k4⟩ := key
      rw [e1, e2, e3]
      refine ⟨⟨?_, k1, by omega, ?_, ?_, ?_⟩, k3, k4⟩
      · refine sorted_ext (sorted_nums hwd k1) (sorted_delS hL) (fun z => ?_)
        rw [mem_nums hwd, k2, mem_delS, ← h.nums, mem_nums hw]
      · omega
      · have := h.nd1; split <;> omega
      · have := T.del_len q t; have := h.len; omega
end Go.Proofs.YtebgaedalbdhaaaDoor.Av
