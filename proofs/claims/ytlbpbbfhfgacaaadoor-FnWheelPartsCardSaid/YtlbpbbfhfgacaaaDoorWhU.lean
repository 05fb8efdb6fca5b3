/- Rows of turns; the scripts of FnWheelParts. -/
import Derived.Test.YtlbpbbfhfgacaaaDoorWhQ
import Derived.Test.YtlbpbbfhfgacaaaDoorWhS
namespace Go.Proofs.YtlbpbbfhfgacaaaDoor.Wh
open Go.RowKit Go.Maps Go.Proofs.YtlbpbbfhfgacaaaDoor.Bs Go.Proofs.YtlbpbbfhfgacaaaDoorW.PrintWords Go.Proofs.YtlbpbbfhfgacaaaDoorW.PrintLast Go.Proofs.YtlbpbbfhfgacaaaDoorW.PrintMore Go.Proofs.YtlbpbbfhfgacaaaDoor.GFnWheelParts
set_option linter.unusedVariables false
set_option linter.unusedSimpArgs false
theorem info30b : (Tryd.prog.info? 30).map (fun i => (i.zero, i.size, i.bytes)) = some (some (.agg #[(.int .i64 0), (.int .u64 0), (.int .i64 0), (.int .i64 0), (.bool false)]), 5, 40) := by kernel_rfl
theorem ek30 : ∃ i, ElemK Tryd.prog 22 30 i (.agg #[(.int .i64 0), (.int .u64 0), (.int .i64 0), (.int .i64 0), (.bool false)]) 5 40 := elem_of Tryd.underlying22 info30b (by decide) (by decide) (by decide)
def e30 (t : S30) : List Value := [.int .i64 t.f0, .int .u64 t.f1, .int .i64 t.f2, .int .i64 t.f3, .bool t.f4]
def c30 (T : List S30) : List Value := T.flatMap e30
theorem c30_len (T : List S30) : (c30 T).length = T.length * 5 := by
  induction T with
  | nil => rfl
  | cons t r ih =>
    rw [show c30 (t :: r) = e30 t ++ c30 r from rfl, List.length_append, ih, List.length_cons, Nat.succ_mul, Nat.add_comm]
    rfl
theorem c30_app (T E : List S30) : c30 (T ++ E) = c30 T ++ c30 E := List.flatMap_append
theorem c30_get : ∀ {T : List S30} {j i : Nat} {t : S30}, T[j]? = some t → i < 5 → (c30 T)[j * 5 + i]? = (e30 t)[i]?
  | [], _, _, _, h, _ => by simp at h
  | y :: r, 0, i, t, h, hi => by
    injection h with h
    subst h
    rw [show c30 (y :: r) = e30 y ++ c30 r from rfl, Nat.zero_mul, Nat.zero_add]
    exact List.getElem?_append_left hi
  | y :: r, j + 1, i, t, h, hi => by
    have := c30_get (T := r) (j := j) (i := i) (t := t) (by simpa using h) hi
    rw [show c30 (y :: r) = e30 y ++ c30 r from rfl, Nat.succ_mul, ← this]
    rw [List.getElem?_append_right (by show 5 ≤ _; omega)]
    congr 1
    show j * 5 + 5 + i - 5 = _
    omega
theorem c30_one (T : List S30) : ∀ u ∈ c30 T, u.oneCell' = true := by
  intro u hu
  obtain ⟨t, -, ht⟩ := List.mem_flatMap.1 hu
  simp only [e30, List.mem_cons, List.not_mem_nil, or_false] at ht
  rcases ht with rfl | rfl | rfl | rfl | rfl <;> rfl
theorem rg_of_kc {w : World} {A : Option Addr} {T : List S30} (h : Kd.C k30 w A T.length T) : ReadG w A T.length 5 (c30 T) := by
  obtain ⟨h1, h2, h3⟩ := h
  refine ⟨c30_len T, c30_one T, fun h0 => ?_⟩
  rw [c30_len] at h0
  obtain ⟨ad, e, hc⟩ := h3 (by omega)
  refine ⟨ad, e, fun k u hu => ?_⟩
  have hk := (List.getElem?_eq_some_iff.1 hu).1
  rw [c30_len] at hk
  have hj : k / 5 < T.length := by omega
  have hi : k % 5 < 5 := Nat.mod_lt _ (by decide)
  have hx := List.getElem?_eq_getElem hj
  obtain ⟨c, hcl, hck, hcell⟩ := hc (k / 5) _ hx
  obtain rfl := k30_open hck
  have hg := c30_get hx hi
  rw [show k / 5 * 5 + k % 5 = k by omega, hu] at hg
  have := hcell (k % 5) u hg.symm
  rw [show k / 5 * k30.sz + k % 5 = k from by show k / 5 * 5 + k % 5 = k; omega] at this
  exact this
theorem kc_of_rg {w : World} {A : Option Addr} {T : List S30} (h : ReadG w A T.length 5 (c30 T)) (hn : T.length ≤ 1000000) : Kd.C k30 w A T.length T := by
  refine ⟨rfl, by omega, fun h0 => ?_⟩
  obtain ⟨ad, e, hc⟩ := h.read (by rw [c30_len]; omega)
  refine ⟨ad, e, fun j p hj => ⟨e30 p, rfl, k30_mk w p, fun i u hu => ?_⟩⟩
  have hi : i < 5 := (List.getElem?_eq_some_iff.1 hu).1
  show w.cell? (ad.add (j * 5 + i)) = some u
  exact hc _ _ (by rw [c30_get hj hi]; exact hu)
/-- Times at which all expires. -/
def e3 (e : Int) : S30 := ⟨3, 0, e, 0, false⟩
theorem good_more {T E : List S30} (h : GoodT T) (hu : ∀ t ∈ T, U64 t.f1) (hl : E.length ≤ 3) (he : ∀ t ∈ E, ∃ e, t = e3 e) : GoodR (T ++ E) := by
  obtain ⟨h1, h2⟩ := goodR h hu
  refine ⟨by have := h.len; rw [List.length_append]; omega, fun i t ht => ?_⟩
  rcases Nat.lt_or_ge i T.length with hi | hi
  · rw [List.getElem?_append_left hi] at ht
    rw [List.take_append_of_le_length (by omega)]
    exact h2 i t ht
  · rw [List.getElem?_append_right hi] at ht
    obtain ⟨e, rfl⟩ := he t (List.mem_of_getElem? ht)
    exact ⟨show U64 0 by decide, fun h => absurd h (by show ¬ (3 : Int) = 0; decide), fun h => absurd h (by show ¬ ((3 : Int) = 1 ∨ (3 : Int) = 2); decide)⟩
theorem rep_step {L : List S42} {f : Fm} (h : Rep L f) (t : S30) : ∃ L', Rep L' (stepF f t) ∧ L'.length ≤ L.length + 1 := by
  have hup : ∀ s e, ∃ L', Rep L' (upd f s e) ∧ L'.length ≤ L.length + 1 := fun s e => by
    cases hs : f s with
    | none =>
      have hr : Rep (L ++ []) f := by rw [List.append_nil]; exact h
      exact ⟨_, hr.put (e := e) hs, by simp⟩
    | some c =>
      obtain ⟨i, hi⟩ := List.getElem?_of_mem ((h.mem s c).1 hs)
      have hr := h
      rw [split_at hi] at hr
      have h2 := hr.cut
      have h3 := (show Rep (L.take i ++ L.drop (i + 1)) (del f s) from h2).put (s := s) (e := e) (by simp [del])
      rw [upd_del] at h3
      refine ⟨_, h3, ?_⟩
      have := take_drop_le (List.getElem?_eq_some_iff.1 hi).1
      simp at this ⊢
      omega
  have hsame : ∃ L', Rep L' f ∧ L'.length ≤ L.length + 1 := ⟨L, h, Nat.le_succ _⟩
  have hde : ∀ s c, f s = some c → ∃ L', Rep L' (del f s) ∧ L'.length ≤ L.length + 1 := fun s c hs => by
    obtain ⟨i, hi⟩ := List.getElem?_of_mem ((h.mem s c).1 hs)
    have hr := h
    rw [split_at hi] at hr
    refine ⟨_, hr.cut, ?_⟩
    have := take_drop_le (List.getElem?_eq_some_iff.1 hi).1
    omega
  unfold stepF
  split
  · exact hup _ _
  · split
    · split
      · exact hde _ _ (by assumption)
      · exact hsame
    · split
      · split
        · exact hup _ _
        · exact hsame
      · split
        · exact ⟨_, h.filter t.f2 t.f4, Nat.le_succ_of_le (List.length_filter_le _ _)⟩
        · exact hsame
theorem rep_ex : ∀ (n : Nat) (T : List S30), T.length = n → ∃ L, Rep L (fAt T) ∧ L.length ≤ T.length
  | 0, T, h => by
    have : T = [] := List.length_eq_zero_iff.1 h
    subst this
    exact ⟨[], rep_nil, Nat.le_refl _⟩
  | n + 1, T, h => by
    have hn : n < T.length := by omega
    have hx := List.getElem?_eq_getElem hn
    obtain ⟨L, h1, h2⟩ := rep_ex n (T.take n) (by rw [List.length_take]; omega)
    obtain ⟨L', h3, h4⟩ := rep_step h1 T[n]
    have e : fAt T = stepF (fAt (T.take n)) T[n] := by
      rw [← fAt_take hx, List.take_of_length_le (by omega)]
    rw [List.length_take] at h2
    exact ⟨L', by rw [e]; exact h3, by omega⟩
theorem kp_f (s : Int) : kp false s = false := rfl
theorem gone_f {f : Fm} {ts s e : Int} : gone f ts false s = some e ↔ f s = some e ∧ ts < e := by
  rw [gone_some]
  simp [kp_f]
def mk42 (x : Int × Int) : S42 := ⟨x.1, x.2⟩
theorem tcS_mk (X : List (Int × Int)) : tcS (X.map mk42) = tcells X := by
  unfold tcS
  rw [List.map_map]
  congr 1
  exact List.map_id X
/-- What the two scripts answer. -/
structure Ansd (F : Fm) (first second : Int) (X1 X2 X3 Y : List (Int × Int)) : Prop where
  n1 : (X1.map Prod.fst).Nodup
  n3 : (X3.map Prod.fst).Nodup
  nY : (Y.map Prod.fst).Nodup
  m1 : ∀ x, x ∈ X1 ↔ F x.1 = some x.2 ∧ x.2 ≤ first
  m2 : ∀ x, x ∈ X2 ↔ gone F first false x.1 = some x.2 ∧ x.2 ≤ first
  m3 : ∀ x, x ∈ X3 ↔ gone (gone F first false) first false x.1 = some x.2 ∧ x.2 ≤ second
  mY : ∀ x, x ∈ Y ↔ F x.1 = some x.2 ∧ x.2 ≤ second
section
variable {F : Fm} {first second : Int} {X1 X2 X3 Y : List (Int × Int)} {L : List S42}
theorem Ansd.empty (h : Ansd F first second X1 X2 X3 Y) : X2 = [] := by
  cases X2 with
  | nil => rfl
  | cons x r =>
    obtain ⟨h1, h2⟩ := (h.m2 x).1 (by simp)
    have := (gone_f.1 h1).2
    omega
theorem len_le (hr : Rep L F) (hL : L.length ≤ 40) {X : List (Int × Int)} (hn : (X.map Prod.fst).Nodup) (hm : ∀ x ∈ X, F x.1 = some x.2) : X.length ≤ 40 := by
  have h1 : (X.map Prod.fst).length ≤ (L.map S42.f0).length := nodup_len hn (fun z hz => by
    obtain ⟨x, hx, rfl⟩ := List.mem_map.1 hz
    exact List.mem_map.2 ⟨_, (hr.mem _ _).1 (hm x hx), rfl⟩)
  simp at h1
  omega
theorem Ansd.l1 (h : Ansd F first second X1 X2 X3 Y) (hr : Rep L F) (hL : L.length ≤ 40) : X1.length ≤ 40 := len_le hr hL h.n1 (fun x hx => ((h.m1 x).1 hx).1)
theorem Ansd.l3 (h : Ansd F first second X1 X2 X3 Y) (hr : Rep L F) (hL : L.length ≤ 40) : X3.length ≤ 40 := len_le hr hL h.n3 (fun x hx => (gone_f.1 (gone_f.1 ((h.m3 x).1 hx).1).1).1)
theorem Ansd.lY (h : Ansd F first second X1 X2 X3 Y) (hr : Rep L F) (hL : L.length ≤ 40) : Y.length ≤ 40 := len_le hr hL h.nY (fun x hx => ((h.mY x).1 hx).1)
theorem Ansd.same (h : Ansd F first second X1 X2 X3 Y) (hfs : first ≤ second) (hr : Rep L F) (hL : L.length ≤ 40) : ∃ k, laws_sameTasks.f k ((X1 ++ X3).map mk42) (Y.map mk42) = some true := by
  have hf0 : ∀ X : List (Int × Int), (X.map mk42).map S42.f0 = X.map Prod.fst := fun X => by rw [List.map_map]; rfl
  have hg : ∀ x : Int × Int, gone (gone F first false) first false x.1 = some x.2 ↔ F x.1 = some x.2 ∧ first < x.2 := fun x => by
    rw [gone_f, gone_f]
    constructor
    · exact fun h => h.1
    · exact fun h => ⟨h, h.2⟩
  refine same_f ?_ ?_ (by have := h.l1 hr hL; have := h.l3 hr hL; simp; omega) (by have := h.lY hr hL; simp; omega) (fun z => ?_)
  · rw [hf0, List.map_append]
    refine List.nodup_append.2 ⟨h.n1, h.n3, fun a ha b hb e => ?_⟩
    obtain ⟨x, hx, rfl⟩ := List.mem_map.1 ha
    obtain ⟨y, hy, rfl⟩ := List.mem_map.1 hb
    obtain ⟨q1, q2⟩ := (h.m1 x).1 hx
    obtain ⟨q3, q4⟩ := (h.m3 y).1 hy
    obtain ⟨q5, q6⟩ := (hg y).1 q3
    rw [← e, q1] at q5
    injection q5 with q5
    omega
  · rw [hf0]
    exact h.nY
  · rw [List.mem_map, List.mem_map]
    constructor
    · rintro ⟨x, hx, rfl⟩
      refine ⟨x, (h.mY x).2 ?_, rfl⟩
      rcases List.mem_append.1 hx with hx | hx
      · obtain ⟨q1, q2⟩ := (h.m1 x).1 hx
        exact ⟨q1, by omega⟩
      · obtain ⟨q3, q4⟩ := (h.m3 x).1 hx
        exact ⟨((hg x).1 q3).1, q4⟩
    · rintro ⟨x, hx, rfl⟩
      obtain ⟨q1, q2⟩ := (h.mY x).1 hx
      refine ⟨x, List.mem_append.2 ?_, rfl⟩
      rcases Int.lt_or_le first x.2 with h1 | h1
      · exact .inr ((h.m3 x).2 ⟨(hg x).2 ⟨q1, h1⟩, q2⟩)
      · exact .inl ((h.m1 x).2 ⟨q1, h1⟩)
end
theorem fAt_app (T E : List S30) : fAt (T ++ E) = E.foldl stepF (fAt T) := by simp [fAt, List.foldl_append]
theorem step_e3 (f : Fm) (e : Int) : stepF f (e3 e) = gone f e false := by
  unfold stepF e3
  simp
theorem cnt_same {f f' : Fm} {L L' : List S42} {c c' : Int} {n n' : Nat} (h : Cnt L f c n) (h' : Cnt L' f' c' n') (he : ∀ s e, f s = some e ↔ f' s = some e) : c = c' := by
  have h1 : (L.map S42.f0).length ≤ (L'.map S42.f0).length := nodup_len h.rep.nd (fun z hz => by
    obtain ⟨x, hx, rfl⟩ := List.mem_map.1 hz
    exact List.mem_map.2 ⟨x, (h'.rep.mem _ _).1 ((he _ _).1 ((h.rep.mem _ _).2 hx)), rfl⟩)
  have h2 : (L'.map S42.f0).length ≤ (L.map S42.f0).length := nodup_len h'.rep.nd (fun z hz => by
    obtain ⟨x, hx, rfl⟩ := List.mem_map.1 hz
    exact List.mem_map.2 ⟨x, (h.rep.mem _ _).1 ((he _ _).2 ((h'.rep.mem _ _).2 hx)), rfl⟩)
  simp at h1 h2
  have := h.cnt
  have := h'.cnt
  omega
theorem take_at (T E : List S30) (i : Nat) : (T ++ E).take (T.length + i) = T ++ E.take i := by
  rw [List.take_append, List.take_of_length_le (by omega), Nat.add_sub_cancel_left]
theorem get_at (T E : List S30) (i : Nat) : (T ++ E)[T.length + i]? = E[i]? := by
  rw [List.getElem?_append_right (by omega), Nat.add_sub_cancel_left]
/-- The answers of the two runs. -/
theorem ansd_of {T : List S30} {first second : Int} {X1 X2 X3 Y : List (Int × Int)} (h1 : AnsOk (T ++ [e3 first, e3 first, e3 second]) T.length X1) (h2 : AnsOk (T ++ [e3 first, e3 first, e3 second]) (T.length + 1) X2)
    (h3 : AnsOk (T ++ [e3 first, e3 first, e3 second]) (T.length + 2) X3) (h4 : AnsOk (T ++ [e3 second]) T.length Y) : Ansd (fAt T) first second X1 X2 X3 Y := by
  have g1 := h1.2 (e3 first) (get_at T _ 0) rfl
  have g2 := h2.2 (e3 first) (get_at T _ 1) rfl
  have g3 := h3.2 (e3 second) (get_at T _ 2) rfl
  have g4 := h4.2 (e3 second) (get_at T _ 0) rfl
  have t1 := take_at T [e3 first, e3 first, e3 second] 0
  have t2 := take_at T [e3 first, e3 first, e3 second] 1
  have t3 := take_at T [e3 first, e3 first, e3 second] 2
  have t4 := take_at T [e3 second] 0
  rw [Nat.add_zero] at t1 t4
  rw [t1] at g1
  rw [t2] at g2
  rw [t3] at g3
  rw [t4] at g4
  have u1 : fAt (T ++ List.take 0 [e3 first, e3 first, e3 second]) = fAt T := by simp
  have u2 : fAt (T ++ List.take 1 [e3 first, e3 first, e3 second]) = gone (fAt T) first false := by
    rw [fAt_app]
    exact step_e3 _ _
  have u3 : fAt (T ++ List.take 2 [e3 first, e3 first, e3 second]) = gone (gone (fAt T) first false) first false := by
    rw [fAt_app]
    show stepF (stepF (fAt T) (e3 first)) (e3 first) = _
    rw [step_e3, step_e3]
  have u4 : fAt (T ++ List.take 0 [e3 second]) = fAt T := by simp
  rw [u1] at g1
  rw [u2] at g2
  rw [u3] at g3
  rw [u4] at g4
  exact ⟨h1.1, h3.1, h4.1, g1, g2, g3, g4⟩
theorem count_of {T : List S30} {first second : Int} (hfs : first ≤ second) {L L' : List S42} {c c' : Int} {n n' : Nat} (h : Cnt L (fAt (T ++ [e3 first, e3 first, e3 second])) c n) (h' : Cnt L' (fAt (T ++ [e3 second])) c' n') : c = c' := by
  refine cnt_same h h' (fun s e => ?_)
  rw [fAt_app, fAt_app]
  show stepF (stepF (stepF (fAt T) (e3 first)) (e3 first)) (e3 second) s = some e ↔ stepF (fAt T) (e3 second) s = some e
  rw [step_e3, step_e3, step_e3, step_e3, gone_f, gone_f, gone_f, gone_f]
  constructor
  · rintro ⟨⟨⟨q1, q2⟩, q3⟩, q4⟩
    exact ⟨q1, q4⟩
  · rintro ⟨q1, q2⟩
    exact ⟨⟨⟨q1, by omega⟩, by omega⟩, q2⟩
theorem acells_get : ∀ {As : List An} {j : Nat} {a : An}, As[j]? = some a → (acells As)[j * 2 + 1]? = some a.2.1
  | [], _, _, h => by simp at h
  | y :: r, 0, a, h => by
    injection h with h
    subst h
    rfl
  | y :: r, j + 1, a, h => by
    have := acells_get (As := r) (j := j) (a := a) (by simpa using h)
    rw [show acells (y :: r) = [.int .i64 y.1, y.2.1] ++ acells r from rfl, Nat.succ_mul]
    exact this
theorem out_at {w : World} {B : Nat} {v : Value} {As : List An} {T : List S30} (h : OutRow w B v As T) (hl : 0 < As.length) : ∃ g c, v = .slice (some ⟨g, 0, none⟩) As.length c ∧ As.length ≤ c ∧ ∀ j a, As[j]? = some a → w.cell? ⟨g, j * 2 + 1, none⟩ = some a.2.1 := by
  have hrow := h.row
  rcases hrow.2 with ⟨-, h0⟩ | ⟨g, cap, cur, rfl, hb, hg, h1, h2, h3, h4⟩
  · omega
  · refine ⟨g, cap, rfl, h1, fun j a ha => ?_⟩
    have := h.row.cells rfl (j * 2 + 1) _ (acells_get ha)
    rw [Bs.add_at] at this
    exact this
end Go.Proofs.YtlbpbbfhfgacaaaDoor.Wh
