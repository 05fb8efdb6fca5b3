/- The specification's tree: what it has behind a script, plainly; rows of entries. -/
import Derived.Test.YtjhmpcbpbdkddaaGreatTfE
import Derived.Test.YtjhmpcbpbdkddaaGreatTePa
import Derived.Test.YtjhmpcbpbdkddaaGreatPlTok
import Derived.Test.YtjhmpcbpbdkddaaGreatBt
namespace Go.Proofs.YtjhmpcbpbdkddaaGreat.Te
open Go.RowKit Go.Proofs.YtjhmpcbpbdkddaaGreat.Pl Go.Proofs.YtjhmpcbpbdkddaaGreat.Bs Go.Proofs.YtjhmpcbpbdkddaaGreatW.PrintWords Go.Proofs.YtjhmpcbpbdkddaaGreatW.PrintLast Go.Proofs.YtjhmpcbpbdkddaaGreatW.PrintMore Go.Proofs.YtjhmpcbpbdkddaaGreat.GFnTreeRun
set_option linter.unusedVariables false
set_option linter.unusedSimpArgs false
/-! ### rows of entries -/
def e48 (l : List S48) : List Value := l.flatMap fun e => [.string e.f0, .int .i64 e.f1]
theorem e48_cons (x : S48) (l : List S48) : e48 (x :: l) = [.string x.f0, .int .i64 x.f1] ++ e48 l := rfl
theorem e48_app (l m : List S48) : e48 (l ++ m) = e48 l ++ e48 m := by simp [e48]
theorem e48_len : ∀ l : List S48, (e48 l).length = l.length * 2
  | [] => rfl
  | x :: l => by rw [e48_cons, List.length_append, e48_len l]; simp; omega
theorem e48_get : ∀ {L : List S48} {j : Nat} {x : S48}, L[j]? = some x → (e48 L)[j * 2]? = some (.string x.f0) ∧ (e48 L)[j * 2 + 1]? = some (.int .i64 x.f1)
  | [], _, _, h => by simp at h
  | y :: r, 0, x, h => by
    injection h with h
    subst h
    exact ⟨rfl, rfl⟩
  | y :: r, j + 1, x, h => by
    obtain ⟨h1, h2⟩ := e48_get (L := r) (j := j) (x := x) h
    rw [e48_cons, show (j + 1) * 2 = j * 2 + 2 by omega]
    refine ⟨?_, ?_⟩
    · rw [List.getElem?_append_right (by simp)]; exact h1
    · rw [List.getElem?_append_right (by simp), ← h2]; congr 1
theorem e48_one (l : List S48) : ∀ u ∈ e48 l, u.oneCell' = true := by
  intro u hu
  obtain ⟨e, _, he⟩ := List.mem_flatMap.1 hu
  simp only [List.mem_cons, List.not_mem_nil, or_false] at he
  rcases he with rfl | rfl <;> rfl
theorem e48_take (l : List S48) (n : Nat) : e48 (l.take n) = (e48 l).take (n * 2) := by
  induction l generalizing n with
  | nil => simp [e48]
  | cons x l ih =>
    cases n with
    | zero => simp [e48]
    | succ n =>
      rw [List.take_succ_cons, e48_cons, e48_cons, ih, show (n + 1) * 2 = n * 2 + 2 by omega, List.take_append]
      simp
theorem e48_drop (l : List S48) (n : Nat) : e48 (l.drop n) = (e48 l).drop (n * 2) := by
  induction l generalizing n with
  | nil => simp [e48]
  | cons x l ih =>
    cases n with
    | zero => simp
    | succ n =>
      rw [List.drop_succ_cons, e48_cons, ih, show (n + 1) * 2 = n * 2 + 2 by omega, List.drop_append]
      simp
theorem kc48_of_rg {w : World} {A : Option Addr} {L : List S48} (h : ReadG w A L.length 2 (e48 L)) (hL : L.length ≤ 1000000) : Kd.C k48 w A L.length L := by
  refine ⟨rfl, by omega, fun hn => ?_⟩
  obtain ⟨ad, e2, hcell⟩ := h.read (by rw [h.len]; omega)
  refine ⟨ad, e2, fun j p hj => ⟨[.string p.f0, .int .i64 p.f1], rfl, k48_mk w p, fun i u hu => ?_⟩⟩
  obtain ⟨g1, g2⟩ := e48_get hj
  show w.cell? (ad.add (j * 2 + i)) = some u
  match i with
  | 0 => injection hu with hu; subst hu; exact hcell _ _ g1
  | 1 => injection hu with hu; subst hu; exact hcell _ _ g2
  | i + 2 => simp at hu
theorem info48c : (Tryz.prog.info? 48).map (fun i => (i.zero, i.size, i.bytes)) = some (some (.agg #[.string .empty, .int .i64 0]), 2, 24) := by kernel_rfl
theorem ek48 : ∃ i, ElemK Tryz.prog 24 48 i (.agg #[.string .empty, .int .i64 0]) 2 24 := elem_of Tryz.underlying24 info48c (by decide) (by decide) (by decide)
theorem own_ne {w : World} {b1 b2 e1 e2 s1 s2 n1 n2 : Nat} {v1 v2 : Value} {xs1 xs2 : List Value} (h1 : w.ownsRow b1 e1 s1 v1 n1 xs1) (h2 : w.ownsRow b2 e2 s2 v2 n2 xs2) (he : e1 ≠ e2) {k : Nat} (hk : v1.ownBlock = some k) : v2.ownBlock ≠ some k := by
  intro hk2
  rcases h1.2 with ⟨rfl, -⟩ | ⟨g, cap, cur, rfl, hb, hgg, -⟩
  · cases hk
  · rcases h2.2 with ⟨rfl, -⟩ | ⟨g', cap', cur', rfl, hb', hgg', -⟩
    · cases hk2
    · have e1' : g = k := by simpa [Value.ownBlock] using hk
      have e2' : g' = k := by simpa [Value.ownBlock] using hk2
      subst e1'
      subst e2'
      rw [hgg] at hgg'
      injection hgg' with hgg'
      injection hgg' with _ hgg' _
      exact he hgg'
/-- A cell of a row of its own is written. -/
theorem ownsRow_set {w : World} {base g n c size i : Nat} {e : TypeId} {xs : List Value} {u : Value} (h : w.ownsRow base e size (.slice (some ⟨g, 0, none⟩) n c) n xs) (hi : i < xs.length) : (w.setCell ⟨g, i, none⟩ u).ownsRow base e size (.slice (some ⟨g, 0, none⟩) n c) n (xs.set i u) := by
  obtain ⟨h0, h2⟩ := h
  refine ⟨by rw [List.length_set]; exact h0, ?_⟩
  rcases h2 with ⟨hx, -⟩ | ⟨g', cap, cur, hv, hb, hg, h1, h2, h3, h4⟩
  · cases hx
  · injection hv with e1 e2 e3
    injection e1 with e1
    injection e1 with e1
    subst e1
    subst e3
    have hcl : cur.size = cur.toList.length := by simp
    obtain ⟨cur', c1, c2, c3⟩ := setCells_row [u] i w cur hg (by rw [← h4] at hi; rw [List.length_take] at hi; simp; omega)
    have hw : w.setCells g i [u] = w.setCell ⟨g, i, none⟩ u := rfl
    rw [hw] at c1
    have hlen : xs.length ≤ cur.toList.length := by rw [← h4, List.length_take]; omega
    have he : cur'.toList = cur.toList.set i u := by
      rw [c3]
      rw [List.set_eq_take_append_cons_drop, if_pos (by omega)]
      simp
    refine .inr ⟨g, c, cur', rfl, hb, c1, h1, h2, by rw [c2]; exact h3, ?_⟩
    rw [he, List.take_set, h4]
theorem own_at {w : World} {base n size : Nat} {e : TypeId} {v : Value} {xs : List Value} (h : w.ownsRow base e size v n xs) (hn : 0 < n) : ∃ g c, v = .slice (some ⟨g, 0, none⟩) n c ∧ base ≤ g ∧ n ≤ c ∧ (∀ j u, xs[j]? = some u → w.cell? ⟨g, j, none⟩ = some u) ∧ (∀ o, w.frozen? ⟨g, o, none⟩ = false) ∧ ∃ cs, w.heap[g]? = some (.cells cs e (0, 0)) := by
  rcases h.2 with ⟨-, h0⟩ | ⟨g, cap, cur, rfl, hb, hg, h1, h2, h3, h4⟩
  · omega
  · refine ⟨g, cap, rfl, hb, h1, fun j u hu => ?_, fun o => blk_frozen hg _, _, hg⟩
    rw [cell_of_row w g _ cur e (0, 0) hg]
    rw [← h4, List.getElem?_take] at hu
    split at hu
    · simpa using hu
    · cases hu
theorem e48_set {l : List S48} {n : Nat} {a b : S48} (h : l[n]? = some a) (he : a.f0 = b.f0) : (e48 l).set (n * 2 + 1) (.int .i64 b.f1) = e48 (l.set n b) := by
  induction l generalizing n with
  | nil => simp at h
  | cons x l ih =>
    cases n with
    | zero =>
      simp only [List.getElem?_cons_zero, Option.some.injEq] at h
      subst h
      rw [List.set_cons_zero, e48_cons, e48_cons, he]
      rfl
    | succ n =>
      rw [List.getElem?_cons_succ] at h
      rw [List.set_cons_succ, e48_cons, e48_cons, ← ih h, show (n + 1) * 2 + 1 = (n * 2 + 1) + 2 by omega]
      rfl
/-! ### the specification's tree -/
def fnd : List S48 → ByteArray → Option Nat
  | [], _ => none
  | e :: l, s => if e.f0 = s then some 0 else (fnd l s).map (· + 1)
def fndI : Option Nat → Int
  | none => -1
  | some n => (n : Int)
def ltS (a b : ByteArray) : Bool := Op.bytesLess a.toList b.toList
def lowN : List S48 → ByteArray → Nat
  | [], _ => 0
  | e :: l, s => if ltS e.f0 s then lowN l s + 1 else 0
theorem low_lt : ∀ {l : List S48} {s : ByteArray} {i : Nat}, i < lowN l s → ∃ e, l[i]? = some e ∧ ltS e.f0 s = true
  | [], s, i, h => by simp [lowN] at h
  | e :: l, s, i, h => by
    unfold lowN at h
    split at h
    · rename_i he
      cases i with
      | zero => exact ⟨e, rfl, he⟩
      | succ i =>
        obtain ⟨e', h1, h2⟩ := low_lt (l := l) (s := s) (i := i) (by omega)
        exact ⟨e', by rw [List.getElem?_cons_succ]; exact h1, h2⟩
    · omega
theorem low_stop : ∀ {l : List S48} {s : ByteArray} {e : S48}, l[lowN l s]? = some e → ltS e.f0 s = false
  | [], s, e, h => by simp at h
  | a :: l, s, e, h => by
    unfold lowN at h
    split at h
    · rw [List.getElem?_cons_succ] at h
      exact low_stop h
    · rename_i hn
      simp only [List.getElem?_cons_zero, Option.some.injEq] at h
      subst h
      simpa using hn
theorem rd_drew {W : World} {X : Option Addr} {m size : Nat} {ys : List Value} (h : ReadG W X m size ys) : ReadG W.drew X m size ys := h.fr (Fr.refl (fun _ => False) W).drew (fun _ _ h => h)
theorem row_c {w5 : World} (E : Obj) {e : TypeId} {size : Nat} : RowG w5 (((w5.alloc E).alloc (.cells #[] e)).drew) e size (.slice (some ⟨w5.heap.size + 1, 0, none⟩) 0 0) 0 [] := by
  have := (row_g0 (w2 := w5) (W := w5.alloc E) (e := e) (size := size) ((Fr.refl _ _).alloc _)).drew
  simpa using this
theorem rd_grown {W w9 : World} {own : Option Nat} {ad : Addr} {m size : Nat} {ys : List Value} (hg : W.grownBy w9 own) (h : ReadG W (some ad) m size ys) (hn : own ≠ some ad.block) : ReadG w9 (some ad) m size ys := h.fr (Fr.grown hg) (fun _ e e2 => hn (by injection e with e; rw [e2, e]))
structure SSt where
  l : List S48
  told : List S34
def stepT (st : SSt) (d : S51) : SSt :=
  match fnd st.l d.f1 with
  | some n => ⟨if d.f0 = 0 then st.l.set n ⟨d.f1, d.f2⟩ else st.l.take n ++ st.l.drop (n + 1), st.told ++ [⟨true, (st.l.getD n z48).f1⟩]⟩
  | none => ⟨if d.f0 = 0 then st.l.take (lowN st.l d.f1) ++ [⟨d.f1, d.f2⟩] ++ st.l.drop (lowN st.l d.f1) else st.l, st.told ++ [⟨false, 0⟩]⟩
def runT (ds : List S51) : SSt := ds.foldl stepT ⟨[], []⟩
theorem runT_take {ds : List S51} {i : Nat} {d : S51} (h : ds[i]? = some d) : runT (ds.take (i + 1)) = stepT (runT (ds.take i)) d := by
  obtain ⟨hi, rfl⟩ := List.getElem?_eq_some_iff.1 h
  unfold runT
  rw [List.take_add_one, List.getElem?_eq_getElem hi, Option.toList_some, List.foldl_append]
  rfl
theorem fnd_some : ∀ {l : List S48} {s : ByteArray} {n : Nat}, fnd l s = some n → ∃ e, l[n]? = some e ∧ e.f0 = s
  | [], s, n, h => by cases h
  | e :: l, s, n, h => by
    unfold fnd at h
    split at h
    · rename_i he
      injection h with h
      subst h
      exact ⟨e, rfl, he⟩
    · cases hq : fnd l s with
      | none => rw [hq] at h; cases h
      | some m =>
        rw [hq] at h
        injection h with h
        have h : m + 1 = n := h
        subst h
        obtain ⟨e', h1, h2⟩ := fnd_some hq
        exact ⟨e', by rw [List.getElem?_cons_succ]; exact h1, h2⟩
theorem fnd_none : ∀ {l : List S48} {s : ByteArray}, fnd l s = none → ∀ e ∈ l, e.f0 ≠ s
  | [], s, _, e, he => by cases he
  | a :: l, s, h, e, he => by
    unfold fnd at h
    split at h
    · cases h
    · rename_i hne
      have h2 : fnd l s = none := by
        cases hq : fnd l s with
        | none => rfl
        | some m => rw [hq] at h; cases h
      rcases List.mem_cons.1 he with rfl | he
      · exact hne
      · exact fnd_none h2 e he
theorem lowN_le : ∀ (l : List S48) (s : ByteArray), lowN l s ≤ l.length
  | [], s => by simp [lowN]
  | e :: l, s => by
    unfold lowN
    have := lowN_le l s
    split
    · simp
      exact this
    · simp
theorem stepT_len (st : SSt) (d : S51) : (stepT st d).l.length ≤ st.l.length + 1 ∧ (stepT st d).told.length = st.told.length + 1 := by
  unfold stepT
  have := lowN_le st.l d.f1
  split
  · refine ⟨?_, by simp⟩
    show (if _ then _ else _ : List S48).length ≤ _
    split
    · simp
    · simp
      omega
  · refine ⟨?_, by simp⟩
    show (if _ then _ else _ : List S48).length ≤ _
    split
    · simp
      omega
    · omega
theorem runT_len (ds : List S51) : (runT ds).l.length ≤ ds.length ∧ (runT ds).told.length = ds.length := by
  have : ∀ (l : List S51) (st : SSt), (l.foldl stepT st).l.length ≤ st.l.length + l.length ∧ (l.foldl stepT st).told.length = st.told.length + l.length := by
    intro l
    induction l with
    | nil => intro st; exact ⟨Nat.le_refl _, rfl⟩
    | cons d l ih =>
      intro st
      obtain ⟨h1, h2⟩ := stepT_len st d
      obtain ⟨h3, h4⟩ := ih (stepT st d)
      rw [List.foldl_cons]
      simp only [List.length_cons]
      exact ⟨by omega, by omega⟩
  have := this ds ⟨[], []⟩
  unfold runT
  simpa using this
theorem rd48_mid {xs : List S48} {i : Int} (pre : List S48) (c : S48) (rest : List S48) (h : xs = pre ++ c :: rest) (hi : i = (pre.length : Int)) : rd_T48 xs i = c := by
  subst h hi
  unfold rd_T48
  rw [Int.toNat_natCast, List.getD_eq_getElem?_getD, List.getElem?_append_right (Nat.le_refl _), Nat.sub_self]
  rfl
theorem bytes_eq {a b : ByteArray} : a.toList = b.toList ↔ a = b := by
  constructor
  · intro h
    rw [ByteArray.toList_eq, ByteArray.toList_eq] at h
    exact ByteArray.ext (Array.toList_inj.1 h)
  · rintro rfl
    rfl
theorem find_l0 (L : List S48) (hs : L.length ≤ 1000000) (s : ByteArray) : ∀ (rest pre : List S48) (i : Int), L = pre ++ rest → i = (pre.length : Int) →
    Ev (fun k => spec_find.l0 k L s i) (match fnd rest s with | none => -1 | some n => i + n) := by
  intro rest
  induction rest with
  | nil =>
    intro pre i h hi
    have hz : (L.length : Int) = pre.length := by rw [h]; simp
    refine Ev.step (fun k => by rw [spec_find.l0, if_neg (by omega)]) ?_
    exact Ev.now _
  | cons c rest ih =>
    intro pre i h hi
    have hz : (L.length : Int) = pre.length + rest.length + 1 := by rw [h]; simp; omega
    have hb : rd_T48 L i = c := rd48_mid pre c rest h hi
    have hw : wrap64 (i + 1) = i + 1 := w64 (by omega) (by omega)
    have IH := ih (pre ++ [c]) (i + 1) (by rw [h]; simp) (by simp; omega)
    by_cases hc : c.f0 = s
    · have e1 : fnd (c :: rest) s = some 0 := by unfold fnd; rw [if_pos hc]
      rw [e1]
      refine Ev.step (fun k => by rw [spec_find.l0, if_pos (by omega), if_pos (by omega), hb, if_pos (bytes_eq.2 hc)]) ?_
      simp only
      rw [show i + ((0 : Nat) : Int) = i by omega]
      exact Ev.now _
    · have e1 : fnd (c :: rest) s = (fnd rest s).map (· + 1) := by
        conv => lhs; unfold fnd
        rw [if_neg hc]
      refine Ev.step (fun k => by rw [spec_find.l0, if_pos (by omega), if_pos (by omega), hb, if_neg (fun e => hc (bytes_eq.1 e)), hw]) ?_
      refine Ev.det' IH ?_
      rw [e1]
      cases fnd rest s with
      | none => rfl
      | some n =>
        simp only [Option.map_some]
        omega
theorem find_ev (L : List S48) (hs : L.length ≤ 1000000) (s : ByteArray) : Ev (fun k => spec_find.f k L s) (fndI (fnd L s)) := by
  have := find_l0 L hs s L [] 0 (by simp) (by simp)
  refine Ev.det' this ?_
  cases fnd L s <;> simp [fndI]
end Go.Proofs.YtjhmpcbpbdkddaaGreat.Te
