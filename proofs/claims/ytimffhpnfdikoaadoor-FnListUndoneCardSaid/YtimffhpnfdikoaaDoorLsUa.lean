/- What is put and taken away again: plainly; rows of deeds. -/
import Derived.Test.YtimffhpnfdikoaaDoorLsMf
import Derived.Test.YtimffhpnfdikoaaDoorPlListE
namespace Go.Proofs.YtimffhpnfdikoaaDoor.Ls
open Go.RowKit Go.Maps Go.Proofs.YtimffhpnfdikoaaDoor.Pl Go.Proofs.YtimffhpnfdikoaaDoor.Bs Go.Proofs.YtimffhpnfdikoaaDoorW.PrintWords Go.Proofs.YtimffhpnfdikoaaDoorW.PrintLast Go.Proofs.YtimffhpnfdikoaaDoorW.PrintMore Go.Proofs.YtimffhpnfdikoaaDoor.GFnListKinds Go.Proofs.YtimffhpnfdikoaaDoor.PlFnListKinds
set_option linter.unusedVariables false
set_option linter.unusedSimpArgs false
/-! ### rows of deeds -/
def e46 (l : List S46) : List Value := l.flatMap fun d => [.int .i64 d.f0, .string d.f1, .int .i64 d.f2]
theorem e46_cons (x : S46) (l : List S46) : e46 (x :: l) = [.int .i64 x.f0, .string x.f1, .int .i64 x.f2] ++ e46 l := rfl
theorem e46_app (l m : List S46) : e46 (l ++ m) = e46 l ++ e46 m := by simp [e46]
theorem e46_len : ∀ l : List S46, (e46 l).length = l.length * 3
  | [] => rfl
  | x :: l => by rw [e46_cons, List.length_append, e46_len l]; simp; omega
theorem e46_one (l : List S46) : ∀ u ∈ e46 l, u.oneCell' = true := by
  intro u hu
  obtain ⟨e, _, he⟩ := List.mem_flatMap.1 hu
  simp only [List.mem_cons, List.not_mem_nil, or_false] at he
  rcases he with rfl | rfl | rfl <;> rfl
theorem e46_get : ∀ {L : List S46} {j : Nat} {x : S46}, L[j]? = some x → (e46 L)[j * 3]? = some (.int .i64 x.f0) ∧ (e46 L)[j * 3 + 1]? = some (.string x.f1) ∧ (e46 L)[j * 3 + 2]? = some (.int .i64 x.f2)
  | [], _, _, h => by simp at h
  | y :: r, 0, x, h => by
    injection h with h
    subst h
    exact ⟨rfl, rfl, rfl⟩
  | y :: r, j + 1, x, h => by
    obtain ⟨h1, h2, h3⟩ := e46_get (L := r) (j := j) (x := x) h
    rw [e46_cons, show (j + 1) * 3 = j * 3 + 3 by omega]
    refine ⟨?_, ?_, ?_⟩
    · rw [List.getElem?_append_right (by simp)]; exact h1
    · rw [List.getElem?_append_right (by simp), ← h2]; congr 1
    · rw [List.getElem?_append_right (by simp), ← h3]; congr 1
theorem e46_at : ∀ {L : List S46} {j : Nat} {u : Value}, (e46 L)[j]? = some u → ∃ q p i, L[q]? = some p ∧ j = q * 3 + i ∧ ([.int .i64 p.f0, .string p.f1, .int .i64 p.f2] : List Value)[i]? = some u
  | [], _, _, h => by simp [e46] at h
  | x :: L, j, u, h => by
    rw [e46_cons] at h
    by_cases hj : j < 3
    · rw [List.getElem?_append_left (by simpa using hj)] at h
      exact ⟨0, x, j, rfl, by omega, h⟩
    · rw [List.getElem?_append_right (by simp; omega)] at h
      obtain ⟨q, p, i, h1, h2, h3⟩ := e46_at (L := L) h
      simp only [List.length_cons, List.length_nil] at h2
      exact ⟨q + 1, p, i, h1, by omega, h3⟩
theorem kc46_of_rg {w : World} {A : Option Addr} {L : List S46} (h : ReadG w A L.length 3 (e46 L)) (hL : L.length ≤ 10000000000) : Kd.C k46 w A L.length L := by
  refine ⟨rfl, by omega, fun hn => ?_⟩
  obtain ⟨ad, e2, hcell⟩ := h.read (by rw [h.len]; omega)
  refine ⟨ad, e2, fun j p hj => ⟨[.int .i64 p.f0, .string p.f1, .int .i64 p.f2], rfl, k46_mk w p, fun i u hu => ?_⟩⟩
  obtain ⟨g1, g2, g3⟩ := e46_get hj
  show w.cell? (ad.add (j * 3 + i)) = some u
  match i with
  | 0 => injection hu with hu; subst hu; exact hcell _ _ g1
  | 1 => injection hu with hu; subst hu; exact hcell _ _ g2
  | 2 => injection hu with hu; subst hu; exact hcell _ _ g3
  | i + 3 => simp at hu
theorem rg_of_kc46 {w : World} {A : Option Addr} {L : List S46} (h : Kd.C k46 w A L.length L) : ReadG w A L.length 3 (e46 L) := by
  refine ⟨e46_len L, e46_one L, fun h0 => ?_⟩
  rw [e46_len] at h0
  obtain ⟨ad, e, hc⟩ := h.2.2 (by omega)
  refine ⟨ad, e, fun j u hu => ?_⟩
  obtain ⟨q, p, i, h1, h2, h3⟩ := e46_at hu
  obtain ⟨cs, hsz, hk, hcell⟩ := hc q p h1
  obtain rfl := k46_open hk
  rw [h2]
  exact hcell i u h3
theorem info46b : (Tryd.prog.info? 46).map (fun i => (i.zero, i.size, i.bytes)) = some (some (.agg #[.int .i64 0, .string .empty, .int .i64 0]), 3, 32) := by kernel_rfl
theorem ek46 : ∃ i, ElemK Tryd.prog 22 46 i (.agg #[.int .i64 0, .string .empty, .int .i64 0]) 3 32 := elem_of Tryd.underlying22 info46b (by decide) (by decide) (by decide)
section
variable {P : Program} {W : World} {t e : TypeId} {i0 : TypeInfo} {z : Value} {size bytes : Nat}
set_option maxRecDepth 100000 in
theorem run_ownB (K : ElemK P t e i0 z size bytes) {base : Nat} {v : Value} {n m : Nat} {xs ys : List Value} (ty : TypeId) (h1 : W.ownsRow base e size v n xs) (hb : base ≤ W.heap.size) {X : Option Addr} {c : Nat} (hrd : ReadG W X m size ys) (hsz : n + m ≤ 10000000000) :
    ∃ v' W', (Builtin.append_ #[t, t] ty #[v, .slice X m c]).run P W = .ok v' W' ∧ W'.ownsRow base e size v' (n + m) (xs ++ ys) ∧ W.grownBy W' v.ownBlock ∧ (v'.ownBlock = v.ownBlock ∨ v'.ownBlock = some W.heap.size) := by
  cases X with
  | none =>
    have hm : m = 0 := by
      rcases Nat.eq_zero_or_pos m with h | h
      · exact h
      · obtain ⟨ad, h', -⟩ := hrd.read (by rw [hrd.len]; exact Nat.mul_pos h K.pos)
        cases h'
    subst hm
    have hys : ys = [] := List.length_eq_zero_iff.1 (by rw [hrd.len]; omega)
    subst hys
    refine ⟨v, W, run_append_empty _ _ ty e i0 K.under K.info h1, by rw [List.append_nil]; exact h1, ⟨rfl, rfl, rfl, Nat.le_refl _, fun _ _ _ => rfl⟩, .inl rfl⟩
  | some ad =>
    obtain ⟨v', W', hrun, ho, hg, -, hat⟩ := run_append_own_at (P := P) W base t ty e i0 z size bytes K.under K.info K.zero K.sz K.by_ K.zs K.pos v n _ h1 ad m c ys hrd.len
      (fun j u hu => by
        obtain ⟨ad', e, hc⟩ := hrd.read (by have := (List.getElem?_eq_some_iff.1 hu).1; omega)
        injection e with e
        subst e
        exact hc j u hu)
      hrd.one (by unfold maxLen; omega) (by
        have := Nat.mul_le_mul hsz K.small
        omega) hb
    exact ⟨v', W', hrun, ho, hg, hat⟩
theorem wpList_ownB (K : ElemK P t e i0 z size bytes) {ops : Array Oper} {rest : List Oper} {o : Oper} {a : Act} {Q : Exit → Act → World → Prop} (hw : Region.wanted o (yielded ops a.tmps) = true) (s x : Operand)
    (ho : o.op = .call { callee := .builtin .append, args := #[s, x], argTypes := #[t, t] }) {base : Nat} {v : Value} {n m : Nat} {xs ys : List Value} (hs : a.eval s = v) (h1 : W.ownsRow base e size v n xs) (hb : base ≤ W.heap.size) {X : Option Addr} {c : Nat} (hx : a.eval x = .slice X m c) (hr : ReadG W X m size ys)
    (hsz : n + m ≤ 10000000000) (h : ∀ v' W', W'.ownsRow base e size v' (n + m) (xs ++ ys) → W.grownBy W' v.ownBlock → (v'.ownBlock = v.ownBlock ∨ v'.ownBlock = some W.heap.size) → wpList P ops Q rest (a.put o.dst v') W') :
    wpList P ops Q (o :: rest) a W := by
  refine wpList_step fun KK hK => ?_
  rw [if_pos hw]
  obtain ⟨v', W', hrun, k1, k2, k3⟩ := run_ownB (c := c) K o.type h1 hb hr hsz
  unfold Oper.wp execOp
  simp only [ho, resolve, invoke, builtin, Sem.run_bind, Sem.run_pure, Result.andThen_ok, List.map_toArray, List.map_cons, List.map_nil, hs, hx, hrun]
  exact hK _ _ (h v' W' k1 k2 k3)
end
/-! ### scripts that are put together -/
theorem runS_app (a b : List S46) : runS (a ++ b) = b.foldl stepS (runS a) := by unfold runS; rw [List.foldl_append]
theorem plN_app : ∀ {X : List S35} {s : ByteArray} {v : Int} {R : List S35}, (⟨s, v⟩ : S35) ∉ X → plN (X ++ ⟨s, v⟩ :: R) s v = some X.length
  | [], s, v, R, _ => by
    rw [List.nil_append, plN, if_pos ⟨rfl, rfl⟩]
    rfl
  | e :: X, s, v, R, h => by
    rw [List.cons_append, plN, if_neg]
    · rw [plN_app (fun e' => h (List.mem_cons_of_mem _ e'))]
      rfl
    · rintro ⟨h1, h2⟩
      refine h ?_
      cases e
      subst h1 h2
      simp
theorem undo_all : ∀ (Y : List S46) (X : List S35) (ks : List Int), (X ++ Y.map ent).Nodup → ((Y.map und).foldl stepS ⟨X ++ Y.map ent, ks⟩).l = X
  | [], X, ks, _ => by simp
  | d :: Y, X, ks, hn => by
    rw [List.map_cons, List.map_cons, List.foldl_cons]
    have hni : (⟨d.f1, d.f2⟩ : S35) ∉ X := fun e => by
      have := (List.nodup_append.1 hn).2.2 _ e (ent d) (by simp)
      exact this rfl
    have hst : stepS ⟨X ++ ent d :: Y.map ent, ks⟩ (und d) = ⟨X ++ Y.map ent, ks ++ [0]⟩ := by
      unfold stepS
      have hp : plN (X ++ ent d :: Y.map ent) (und d).f1 (und d).f2 = some X.length := plN_app hni
      rw [if_neg (fun e => absurd (show (1 : Int) = 0 from e.1) (by decide))]
      show (match plN (X ++ ent d :: Y.map ent) (und d).f1 (und d).f2 with | some n => _ | none => _) = _
      rw [hp]
      show (if (1 : Int) = 1 then _ else _ : SSt) = _
      rw [if_pos rfl]
      congr 1
      rw [List.take_left', List.drop_append]
      · simp
      · rfl
    rw [hst]
    refine undo_all Y X _ ?_
    rw [List.map_cons] at hn
    obtain ⟨q1, q2, q3⟩ := List.nodup_append.1 hn
    exact List.nodup_append.2 ⟨q1, (List.nodup_cons.1 q2).2, fun a ha b hb => q3 a ha b (List.mem_cons_of_mem _ hb)⟩
theorem take_of_app {a b : List S46} {i : Nat} (h : i ≤ a.length) : (a ++ b).take i = a.take i := List.take_append_of_le_length h
theorem PutsOk.left {a b : List S46} (h : PutsOk (a ++ b)) : PutsOk a := by
  have hg : ∀ {i : Nat} {d : S46}, a[i]? = some d → (a ++ b)[i]? = some d := fun {i} {d} hd => by
    rw [List.getElem?_append_left (List.getElem?_eq_some_iff.1 hd).1]
    exact hd
  have hlen : (a ++ b).length = a.length + b.length := List.length_append
  have ha : PutN a a.length := ⟨fun i d hi hd => h.all.puts i d (by omega) (hg hd), fun i j d e hij hj hd he => h.all.vals i j d e hij (by omega) (hg hd) (hg he)⟩
  refine ⟨⟨⟨by have := h.good.deeds.1; omega, fun d hd => h.good.deeds.2 d (List.mem_append_left _ hd)⟩, fun i d hi hd h0 => ?_, fun i d hi hd _ => (ha.puts i d hi hd).2⟩, ha⟩
  have := h.good.once i d (by omega) (hg hd) h0
  rwa [take_of_app (by omega)] at this
theorem once_app {a b : List S46} (h : Once a a.length) (hb : ∀ d ∈ b, d.f0 ≠ 0) : Once (a ++ b) (a ++ b).length := by
  intro i d hi hd h0
  by_cases hia : i < a.length
  · rw [List.getElem?_append_left hia] at hd
    rw [take_of_app (by omega)]
    exact h i d hia hd h0
  · rw [List.getElem?_append_right (by omega)] at hd
    exact absurd h0 (hb d (List.mem_of_getElem? hd))
theorem clean_all {ds : List S46} (h : ∀ d ∈ ds, d.f0 = 0 → okF false (tk d.f1) = true) : (runL ds).clean = true := by
  have : ∀ i, i ≤ ds.length → (runL (ds.take i)).clean = true := by
    intro i
    induction i with
    | zero => intro _; rfl
    | succ i ih =>
      intro hi
      have ht : ds[i]? = some (ds[i]'hi) := List.getElem?_eq_getElem hi
      rw [runL_take ht]
      have h1 := ih (by omega)
      unfold stepL
      split
      · rename_i h0
        unfold putL
        rw [if_pos (h _ (List.getElem_mem hi) h0)]
        exact h1
      · split
        · unfold remL
          split <;> exact h1
        · exact h1
  have := this ds.length (Nat.le_refl _)
  rwa [List.take_length] at this
theorem PutsOk.op {a : List S46} (h : PutsOk a) : ∀ d ∈ a, d.f0 = 0 ∧ okF false (tk d.f1) = true := by
  intro d hd
  obtain ⟨i, hi, rfl⟩ := List.getElem_of_mem hd
  obtain ⟨h1, h2⟩ := h.all.puts i _ hi (List.getElem?_eq_getElem hi)
  exact ⟨h1, valid_ok h2⟩
/-- A script that may be played, and the specification's list behind it. -/
structure Play (ds : List S46) (l : List S35) : Prop where
  len : ds.length ≤ 200
  size : ∀ d ∈ ds, d.f1.size ≤ 80
  eqv : Eqv (runL ds) (runS ds)
  clean : (runL ds).clean = true
  l : (runS ds).l = l
theorem play_of {ds : List S46} {l : List S35} (h1 : ds.length ≤ 200) (h2 : ∀ d ∈ ds, d.f1.size ≤ 80) (h3 : ∀ d ∈ ds, (d.f0 = 0 ∧ okF false (tk d.f1) = true) ∨ d.f0 = 1) (h4 : Once ds ds.length) (h5 : (runS ds).l = l) : Play ds l :=
  ⟨h1, h2, eqv_run (by omega) (fun d hd => (h3 d hd).imp (fun h => h.1) (fun h => h)) h4, clean_all (fun d hd h0 => by
    rcases h3 d hd with h | h
    · exact h.2
    · omega), h5⟩
theorem und_mem {a : List S46} {d : S46} (h : d ∈ a.map und) : d.f0 = 1 ∧ ∃ e ∈ a, d.f1 = e.f1 ∧ d.f2 = e.f2 := by
  obtain ⟨e, he, rfl⟩ := List.mem_map.1 h
  exact ⟨rfl, e, he, rfl, rfl⟩
section
variable {l more : List S46}
theorem play_l (h : PutsOk (l ++ more)) : Play l (l.map ent) := by
  have hl := h.left
  exact play_of (by have := hl.good.deeds.1; omega) (fun d hd => (hl.good.deeds.2 d hd).2.1) (fun d hd => .inl (hl.op d hd)) hl.good.once (runS_ents hl)
theorem both_nodup (h : PutsOk (l ++ more)) : (l.map ent ++ more.map ent).Nodup := by
  have := h.good.eqv.nodup
  rwa [runS_ents h, List.map_append] at this
theorem back_l (h : PutsOk (l ++ more)) : (runS (l ++ more ++ more.map und)).l = l.map ent := by
  rw [runS_app]
  have h1 : runS (l ++ more) = ⟨l.map ent ++ more.map ent, (runS (l ++ more)).kinds⟩ := by
    have := runS_ents h
    rw [List.map_append] at this
    rw [← this]
  rw [h1]
  exact undo_all more _ _ (both_nodup h)
theorem back_mem (h : PutsOk (l ++ more)) : ∀ d ∈ l ++ more ++ more.map und ++ l.map und, ((d.f0 = 0 ∧ okF false (tk d.f1) = true) ∨ d.f0 = 1) ∧ d.f1.size ≤ 80 := by
  intro d hd
  rcases List.mem_append.1 hd with hd | hd
  · rcases List.mem_append.1 hd with hd | hd
    · exact ⟨.inl (h.op d hd), (h.good.deeds.2 d hd).2.1⟩
    · obtain ⟨h1, e, he, h2, _⟩ := und_mem hd
      exact ⟨.inr h1, by rw [h2]; exact (h.good.deeds.2 e (List.mem_append_right _ he)).2.1⟩
  · obtain ⟨h1, e, he, h2, _⟩ := und_mem hd
    exact ⟨.inr h1, by rw [h2]; exact (h.good.deeds.2 e (List.mem_append_left _ he)).2.1⟩
theorem play_back (h : PutsOk (l ++ more)) : Play (l ++ more ++ more.map und) (l.map ent) := by
  have hlen := h.good.deeds.1
  rw [List.length_append] at hlen
  refine play_of (by simp only [List.length_append, List.length_map]; omega) (fun d hd => (back_mem h d (List.mem_append_left _ hd)).2) (fun d hd => (back_mem h d (List.mem_append_left _ hd)).1) (once_app h.good.once (fun d hd => by rw [(und_mem hd).1]; decide)) (back_l h)
theorem play_none (h : PutsOk (l ++ more)) : Play (l ++ more ++ more.map und ++ l.map und) [] := by
  have hlen := h.good.deeds.1
  rw [List.length_append] at hlen
  refine play_of (by simp only [List.length_append, List.length_map]; omega) (fun d hd => (back_mem h d hd).2) (fun d hd => (back_mem h d hd).1) (once_app (once_app h.good.once (fun d hd => by rw [(und_mem hd).1]; decide)) (fun d hd => by rw [(und_mem hd).1]; decide)) ?_
  rw [runS_app]
  have h1 : runS (l ++ more ++ more.map und) = ⟨[] ++ l.map ent, (runS (l ++ more ++ more.map und)).kinds⟩ := by
    have := back_l h
    rw [List.nil_append, ← this]
  rw [h1]
  exact undo_all l [] _ (by rw [List.nil_append]; exact (List.nodup_append.1 (both_nodup h)).1)
end
theorem Play.forms {ds : List S46} {l : List S35} (h : Play ds l) : ∀ q v t, (runL ds).sub q v = some t → okF false q = true := by
  intro q v t hs
  obtain ⟨h1, h2⟩ := (h.eqv.sub _ _ _).1 hs
  rw [h2]
  exact h.eqv.ok _ h1
theorem Play.good {ds : List S46} {l : List S35} (h : Play ds l) (hw : ∀ d ∈ ds, (Lit.int .i64 d.f2).wf = true) : GoodD ds := ⟨by have := h.len; omega, fun d hd => ⟨h.size d hd, hw d hd⟩⟩
theorem Play.same {ds ds' : List S46} {l : List S35} (h : Play ds l) (h' : Play ds' l) : (runL ds).sub = (runL ds').sub := by
  funext p v
  have e : ∀ s, (runL ds).sub p v = some s ↔ (runL ds').sub p v = some s := fun s => by rw [h.eqv.sub, h'.eqv.sub, h.l, h'.l]
  cases h1 : (runL ds).sub p v with
  | some s => exact ((e s).1 h1).symm
  | none =>
    cases h2 : (runL ds').sub p v with
    | none => rfl
    | some s =>
      rw [(e s).2 h2] at h1
      cases h1
theorem Play.cnt {ds : List S46} {l : List S35} (h : Play ds l) : (runL ds).cnt = (l.length : Int) := by rw [h.eqv.cnt, h.l]
/-- The same hits, in whatever order, sorted. -/
theorem perm_of_hits {M M' : List (Path × Int)} (h1 : M.Nodup) (h2 : M'.Nodup) (h : ∀ x, x ∈ M ↔ x ∈ M') : M.Perm M' := by
  have : ∀ {M M' : List (Path × Int)}, M.Nodup → M'.Nodup → (∀ x, x ∈ M ↔ x ∈ M') → M.Perm M' := by
    intro M
    induction M with
    | nil =>
      intro M' _ _ h
      cases M' with
      | nil => exact List.Perm.refl _
      | cons x M' => exact absurd ((h x).2 (by simp)) (by simp)
    | cons x M ih =>
      intro M' h1 h2 h
      obtain ⟨a, b, rfl⟩ := List.append_of_mem ((h x).1 (by simp))
      obtain ⟨g1, g2⟩ := List.nodup_cons.1 h1
      have h2' : (x :: (a ++ b)).Nodup := (List.perm_middle.nodup_iff).1 h2
      obtain ⟨k1, k2⟩ := List.nodup_cons.1 h2'
      refine (List.Perm.cons x (ih g2 k2 (fun y => ?_))).trans List.perm_middle.symm
      constructor
      · intro hy
        have hne : y ≠ x := fun e => g1 (e ▸ hy)
        have := (h y).1 (List.mem_cons_of_mem _ hy)
        rcases List.mem_append.1 this with h | h
        · exact List.mem_append_left _ h
        · rcases List.mem_cons.1 h with h | h
          · exact absurd h hne
          · exact List.mem_append_right _ h
      · intro hy
        have hne : y ≠ x := fun e => k1 (e ▸ hy)
        have := (h y).2 (by
          rcases List.mem_append.1 hy with h | h
          · exact List.mem_append_left _ h
          · exact List.mem_append_right _ (List.mem_cons_of_mem _ h))
        rcases List.mem_cons.1 this with h | h
        · exact absurd h hne
        · exact h
  exact this h1 h2 h
end Go.Proofs.YtimffhpnfdikoaaDoor.Ls
