/- What the specification's list has behind a script: plainly; rows of entries. -/
import Derived.Test.YtimffhpnfdikoaaDoorLsP
namespace Go.Proofs.YtimffhpnfdikoaaDoor.Ls
open Go.RowKit Go.Maps Go.Proofs.YtimffhpnfdikoaaDoor.Pl Go.Proofs.YtimffhpnfdikoaaDoor.Bs Go.Proofs.YtimffhpnfdikoaaDoorW.PrintWords Go.Proofs.YtimffhpnfdikoaaDoorW.PrintLast Go.Proofs.YtimffhpnfdikoaaDoorW.PrintMore Go.Proofs.YtimffhpnfdikoaaDoor.GFnListKinds Go.Proofs.YtimffhpnfdikoaaDoor.PlFnListKinds
set_option linter.unusedVariables false
set_option linter.unusedSimpArgs false
/-! ### rows of entries -/
def e35 (l : List S35) : List Value := l.flatMap fun e => [.string e.f0, .int .i64 e.f1]
theorem e35_cons (x : S35) (l : List S35) : e35 (x :: l) = [.string x.f0, .int .i64 x.f1] ++ e35 l := rfl
theorem e35_app (l m : List S35) : e35 (l ++ m) = e35 l ++ e35 m := by simp [e35]
theorem e35_len : ∀ l : List S35, (e35 l).length = l.length * 2
  | [] => rfl
  | x :: l => by rw [e35_cons, List.length_append, e35_len l]; simp; omega
theorem e35_get : ∀ {L : List S35} {j : Nat} {x : S35}, L[j]? = some x → (e35 L)[j * 2]? = some (.string x.f0) ∧ (e35 L)[j * 2 + 1]? = some (.int .i64 x.f1)
  | [], _, _, h => by simp at h
  | y :: r, 0, x, h => by
    injection h with h
    subst h
    exact ⟨rfl, rfl⟩
  | y :: r, j + 1, x, h => by
    obtain ⟨h1, h2⟩ := e35_get (L := r) (j := j) (x := x) h
    rw [e35_cons, show (j + 1) * 2 = j * 2 + 2 by omega]
    refine ⟨?_, ?_⟩
    · rw [List.getElem?_append_right (by simp)]; exact h1
    · rw [List.getElem?_append_right (by simp), ← h2]; congr 1
theorem e35_one (l : List S35) : ∀ u ∈ e35 l, u.oneCell' = true := by
  intro u hu
  obtain ⟨e, _, he⟩ := List.mem_flatMap.1 hu
  simp only [List.mem_cons, List.not_mem_nil, or_false] at he
  rcases he with rfl | rfl <;> rfl
theorem e35_take (l : List S35) (n : Nat) : e35 (l.take n) = (e35 l).take (n * 2) := by
  induction l generalizing n with
  | nil => simp [e35]
  | cons x l ih =>
    cases n with
    | zero => simp [e35]
    | succ n =>
      rw [List.take_succ_cons, e35_cons, e35_cons, ih, show (n + 1) * 2 = n * 2 + 2 by omega, List.take_append]
      simp
theorem e35_drop (l : List S35) (n : Nat) : e35 (l.drop n) = (e35 l).drop (n * 2) := by
  induction l generalizing n with
  | nil => simp [e35]
  | cons x l ih =>
    cases n with
    | zero => simp
    | succ n =>
      rw [List.drop_succ_cons, e35_cons, ih, show (n + 1) * 2 = n * 2 + 2 by omega, List.drop_append]
      simp
theorem kc35_of_rg {w : World} {A : Option Addr} {L : List S35} (h : ReadG w A L.length 2 (e35 L)) (hL : L.length ≤ 1000000) : Kd.C k35 w A L.length L := by
  refine ⟨rfl, by omega, fun hn => ?_⟩
  obtain ⟨ad, e2, hcell⟩ := h.read (by rw [h.len]; omega)
  refine ⟨ad, e2, fun j p hj => ⟨[.string p.f0, .int .i64 p.f1], rfl, k35_mk w p, fun i u hu => ?_⟩⟩
  obtain ⟨g1, g2⟩ := e35_get hj
  show w.cell? (ad.add (j * 2 + i)) = some u
  match i with
  | 0 => injection hu with hu; subst hu; exact hcell _ _ g1
  | 1 => injection hu with hu; subst hu; exact hcell _ _ g2
  | i + 2 => simp at hu
theorem info35b : (Tryd.prog.info? 35).map (fun i => (i.zero, i.size, i.bytes)) = some (some (.agg #[.string .empty, .int .i64 0]), 2, 24) := by kernel_rfl
theorem ek35 : ∃ i, ElemK Tryd.prog 25 35 i (.agg #[.string .empty, .int .i64 0]) 2 24 := elem_of Tryd.underlying25 info35b (by decide) (by decide) (by decide)
theorem own_ne {w : World} {b1 b2 e1 e2 s1 s2 n1 n2 : Nat} {v1 v2 : Value} {xs1 xs2 : List Value} (h1 : w.ownsRow b1 e1 s1 v1 n1 xs1) (h2 : w.ownsRow b2 e2 s2 v2 n2 xs2) (he : e1 ≠ e2) {k : Nat} (hk : v1.ownBlock = some k) : v2.ownBlock ≠ some k := by
  intro hk2
  rcases h1.2 with ⟨rfl, -⟩ | ⟨g, cap, cur, rfl, hb, hgg, -⟩
  · cases hk
  · rcases h2.2 with ⟨rfl, -⟩ | ⟨g', cap', cur', rfl, hb', hgg', -⟩
    · cases hk2
    · have e1' : g = k := by simpa [Value.ownBlock] using hk
      have e2' : g' = k := by simpa [Value.ownBlock] using hk2
      subst e1'
      subst e2'
      rw [hgg] at hgg'
      injection hgg' with hgg'
      injection hgg' with _ hgg' _
      exact he hgg'
/-! ### the specification's list -/
structure SSt where
  l : List S35
  kinds : List Int
def stepS (st : SSt) (d : S46) : SSt :=
  if d.f0 = 0 ∧ okF false (tk d.f1) = true then ⟨if plN st.l d.f1 d.f2 = none then st.l ++ [⟨d.f1, d.f2⟩] else st.l, st.kinds ++ [0]⟩
  else match plN st.l d.f1 d.f2 with
    | some n => if d.f0 = 1 then ⟨st.l.take n ++ st.l.drop (n + 1), st.kinds ++ [0]⟩ else ⟨st.l, st.kinds ++ [1]⟩
    | none => ⟨st.l, st.kinds ++ [1]⟩
def runS (ds : List S46) : SSt := ds.foldl stepS ⟨[], []⟩
theorem runS_take {ds : List S46} {i : Nat} {d : S46} (h : ds[i]? = some d) : runS (ds.take (i + 1)) = stepS (runS (ds.take i)) d := by
  obtain ⟨hi, rfl⟩ := List.getElem?_eq_some_iff.1 h
  unfold runS
  rw [List.take_add_one, List.getElem?_eq_getElem hi, Option.toList_some, List.foldl_append]
  rfl
theorem plN_lt : ∀ {l : List S35} {s : ByteArray} {v : Int} {n : Nat}, plN l s v = some n → n < l.length
  | [], s, v, n, h => by cases h
  | e :: l, s, v, n, h => by
    unfold plN at h
    split at h
    · injection h with h; subst h; simp
    · cases hq : plN l s v with
      | none => rw [hq] at h; cases h
      | some m =>
        rw [hq] at h
        injection h with h
        have h : m + 1 = n := h
        have := plN_lt hq
        simp only [List.length_cons]
        omega
theorem step_sizes (st : SSt) (d : S46) : (stepS st d).l.length ≤ st.l.length + 1 ∧ (stepS st d).kinds.length = st.kinds.length + 1 := by
  unfold stepS
  split
  · refine ⟨?_, by simp⟩
    show (if _ then _ else _ : List S35).length ≤ _
    split <;> simp
  · split
    · split
      · refine ⟨?_, by simp⟩
        simp only [List.length_append, List.length_take, List.length_drop]
        omega
      · exact ⟨by simp, by simp⟩
    · exact ⟨by simp, by simp⟩
theorem run_sizes (ds : List S46) : (runS ds).l.length ≤ ds.length ∧ (runS ds).kinds.length = ds.length := by
  have : ∀ (l : List S46) (st : SSt), (l.foldl stepS st).l.length ≤ st.l.length + l.length ∧ (l.foldl stepS st).kinds.length = st.kinds.length + l.length := by
    intro l
    induction l with
    | nil => intro st; exact ⟨by simp, by simp⟩
    | cons d l ih =>
      intro st
      rw [List.foldl_cons]
      have h1 := ih (stepS st d)
      have h2 := step_sizes st d
      simp only [List.length_cons]
      omega
  have h := this ds ⟨[], []⟩
  unfold runS
  simpa using h
theorem okF_formed (L : List (List UInt8)) : okF false (L.map ba) = formedB L ∧ okF true (L.map ba) = L.isEmpty := by
  induction L with
  | nil => exact ⟨rfl, rfl⟩
  | cons t L ih =>
    have h1 : okF true ((t :: L).map ba) = (t :: L).isEmpty := by
      rw [List.map_cons]
      unfold okF
      rw [if_pos (.inr rfl)]
      rfl
    refine ⟨?_, h1⟩
    rw [List.map_cons, formedB]
    unfold okF
    have hz : (ba t).size = 0 ↔ t = [] := by rw [ba_size]; exact List.length_eq_zero_iff
    by_cases h0 : t = []
    · rw [if_pos (.inl (hz.2 h0))]
      simp [h0]
    · rw [if_neg (fun e => by rcases e with e | e; exact h0 (hz.1 e); cases e)]
      have hfl : (ba t = full) ↔ t = [62] := by
        show (ba t = ba [62]) ↔ _
        exact ba_inj
      by_cases h6 : t = [62]
      · rw [decide_eq_true (hfl.2 h6), ih.2]
        subst h6
        cases L with
        | nil => rfl
        | cons u L => rfl
      · rw [decide_eq_false (fun e => h6 (hfl.1 e)), ih.1]
        simp [h0, h6]
theorem formed_tk (s : ByteArray) (hs : s.size ≤ 1000) : Ev (fun k => spec_Formed.f k (tk s)) (okF false (tk s)) := by
  have hl : (toks s.data.toList).length ≤ 140737488351232 := by
    have h := tk_len s
    unfold tk at h
    rw [List.length_map] at h
    omega
  unfold tk
  rw [(okF_formed _).1]
  exact Formed_ev _ hl
end Go.Proofs.YtimffhpnfdikoaaDoor.Ls
