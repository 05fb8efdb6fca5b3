/- The list and the specification's list, plainly: they have the same. -/
import Derived.Test.YtimffhpnfdikoaaDoorLsS
namespace Go.Proofs.YtimffhpnfdikoaaDoor.Ls
open Go.RowKit Go.Maps Go.Proofs.YtimffhpnfdikoaaDoor.Pl Go.Proofs.YtimffhpnfdikoaaDoor.Bs Go.Proofs.YtimffhpnfdikoaaDoorW.PrintWords Go.Proofs.YtimffhpnfdikoaaDoorW.PrintLast Go.Proofs.YtimffhpnfdikoaaDoorW.PrintMore Go.Proofs.YtimffhpnfdikoaaDoor.GFnListKinds Go.Proofs.YtimffhpnfdikoaaDoor.PlFnListKinds
set_option linter.unusedVariables false
set_option linter.unusedSimpArgs false
def jn : List (List UInt8) → List UInt8
  | [] => []
  | [x] => x
  | x :: y :: r => x ++ 46 :: jn (y :: r)
theorem toksA_ne (p l : List UInt8) : toksA p l ≠ [] := by
  intro h
  have := toksA_len l p
  rw [h] at this
  simp at this
theorem jn_toksA : ∀ (l p : List UInt8), jn (toksA p l) = p ++ l
  | [], p => by simp [toksA, jn]
  | c :: l, p => by
    by_cases h : c = 46
    · subst h
      rw [toksA_dot]
      obtain ⟨y, r, e⟩ := List.exists_cons_of_ne_nil (toksA_ne [] l)
      rw [e, jn, ← e, jn_toksA l []]
      simp
    · rw [toksA_other p h, jn_toksA l]
      simp
theorem map_ba_inj : ∀ {L M : List (List UInt8)}, L.map ba = M.map ba → L = M
  | [], [], _ => rfl
  | [], _ :: _, h => by simp at h
  | _ :: _, [], h => by simp at h
  | a :: L, b :: M, h => by
    rw [List.map_cons, List.map_cons] at h
    injection h with h1 h2
    rw [ba_inj.1 h1, map_ba_inj h2]
theorem tk_inj {s s' : ByteArray} (h : tk s = tk s') : s = s' := by
  have h1 := map_ba_inj h
  have h2 := congrArg jn h1
  unfold toks at h2
  rw [jn_toksA, jn_toksA, List.nil_append, List.nil_append] at h2
  rw [← ba_self s, ← ba_self s', h2]
theorem plN_at : ∀ {l : List S35} {s : ByteArray} {v : Int} {n : Nat}, plN l s v = some n → l[n]? = some ⟨s, v⟩
  | [], _, _, _, h => by cases h
  | e :: l, s, v, n, h => by
    unfold plN at h
    split at h
    · rename_i he
      injection h with h
      subst h
      obtain ⟨h1, h2⟩ := he
      cases e
      subst h1 h2
      rfl
    · cases hq : plN l s v with
      | none => rw [hq] at h; cases h
      | some m =>
        rw [hq] at h
        injection h with h
        have h : m + 1 = n := h
        subst h
        have := plN_at hq
        rwa [List.getElem?_cons_succ]
theorem plN_none : ∀ {l : List S35} {s : ByteArray} {v : Int}, plN l s v = none ↔ (⟨s, v⟩ : S35) ∉ l
  | [], _, _ => by simp [plN]
  | e :: l, s, v => by
    unfold plN
    split
    · rename_i he
      obtain ⟨h1, h2⟩ := he
      cases e
      subst h1 h2
      simp
    · rename_i he
      rw [Option.map_eq_none_iff, plN_none, List.mem_cons, not_or]
      constructor
      · intro h
        refine ⟨?_, h⟩
        rintro rfl
        exact he ⟨rfl, rfl⟩
      · exact fun h => h.2
/-- The two lists have the same. -/
structure Eqv (st : LSt) (ss : SSt) : Prop where
  kinds : st.kinds = ss.kinds
  cnt : st.cnt = (ss.l.length : Int)
  nodup : ss.l.Nodup
  sub : ∀ p v s, st.sub p v = some s ↔ (⟨s, v⟩ : S35) ∈ ss.l ∧ p = tk s
  ok : ∀ e ∈ ss.l, okF false (tk e.f0) = true
theorem wrap_u32 {z : Int} (h0 : 0 ≤ z) (h1 : z < 4294967296) : IntKind.u32.wrap z = z := by
  show z % 4294967296 = z
  omega
theorem Eqv.step {st : LSt} {ss : SSt} {d : S46} (h : Eqv st ss) (hd : d.f0 = 0 ∨ d.f0 = 1) (ho : d.f0 = 0 → plN ss.l d.f1 d.f2 = none) (hl : ss.l.length ≤ 1000) : Eqv (stepL st d) (stepS ss d) := by
  obtain ⟨hk, hc, hn, hs, hok⟩ := h
  rcases hd with h0 | h1
  · unfold stepL
    rw [if_pos h0]
    unfold putL
    by_cases hf : okF false (tk d.f1) = true
    · rw [if_pos hf]
      unfold stepS
      rw [if_pos ⟨h0, hf⟩, if_pos (ho h0)]
      have hni := plN_none.1 (ho h0)
      refine ⟨by rw [hk], ?_, ?_, fun p v s => ?_, fun e he => ?_⟩
      · show IntKind.u32.wrap (st.cnt + 1) = _
        rw [hc, wrap_u32 (by omega) (by omega), List.length_append]
        simp
      · refine List.nodup_append.2 ⟨hn, List.nodup_cons.2 ⟨by simp, List.nodup_nil⟩, ?_⟩
        intro a ha b hb e
        have : b = (⟨d.f1, d.f2⟩ : S35) := by simpa using hb
        rw [e, this] at ha
        exact hni ha
      · show setS st.sub (tk d.f1) (upd (st.sub (tk d.f1)) d.f2 d.f1) p v = some s ↔ _
        unfold setS
        by_cases hp : p = tk d.f1
        · rw [if_pos hp]
          unfold upd
          by_cases hv : v = d.f2
          · rw [if_pos hv]
            constructor
            · intro e
              injection e with e
              subst e hv hp
              exact ⟨by simp, rfl⟩
            · rintro ⟨_, e⟩
              rw [hp] at e
              rw [tk_inj e]
          · rw [if_neg hv, ← hp, hs]
            constructor
            · rintro ⟨e1, e2⟩
              exact ⟨List.mem_append_left _ e1, e2⟩
            · rintro ⟨e1, e2⟩
              rcases List.mem_append.1 e1 with e1 | e1
              · exact ⟨e1, e2⟩
              · have : (⟨s, v⟩ : S35) = ⟨d.f1, d.f2⟩ := by simpa using e1
                injection this with _ this
                exact absurd this hv
        · rw [if_neg hp, hs]
          constructor
          · rintro ⟨e1, e2⟩
            exact ⟨List.mem_append_left _ e1, e2⟩
          · rintro ⟨e1, e2⟩
            rcases List.mem_append.1 e1 with e1 | e1
            · exact ⟨e1, e2⟩
            · have : (⟨s, v⟩ : S35) = ⟨d.f1, d.f2⟩ := by simpa using e1
              injection this with this _
              rw [this] at e2
              exact absurd e2 hp
      · rcases List.mem_append.1 he with he | he
        · exact hok e he
        · have : e = (⟨d.f1, d.f2⟩ : S35) := by simpa using he
          rw [this]
          exact hf
    · rw [if_neg hf]
      unfold stepS
      rw [if_neg (fun e => hf e.2), ho h0]
      exact ⟨by rw [hk], hc, hn, hs, hok⟩
  · have h0 : d.f0 ≠ 0 := by omega
    unfold stepL
    rw [if_neg h0, if_pos h1]
    unfold stepS
    rw [if_neg (fun e => h0 e.1)]
    unfold remL
    cases hp : plN ss.l d.f1 d.f2 with
    | none =>
      have hni := plN_none.1 hp
      rw [if_neg]
      · exact ⟨by rw [hk], hc, hn, hs, hok⟩
      · rintro ⟨_, e⟩
        obtain ⟨s, e⟩ := Option.isSome_iff_exists.1 e
        obtain ⟨e1, e2⟩ := (hs _ _ _).1 e
        rw [tk_inj e2] at hni
        exact hni e1
    | some n =>
      have hat := plN_at hp
      have hmem := List.mem_of_getElem? hat
      obtain ⟨hlt, hge⟩ := List.getElem?_eq_some_iff.1 hat
      have hsome : st.sub (tk d.f1) d.f2 = some d.f1 := (hs _ _ _).2 ⟨hmem, rfl⟩
      rw [if_pos ⟨hok _ hmem, by rw [hsome]; rfl⟩]
      have hsplit : ss.l = ss.l.take n ++ ⟨d.f1, d.f2⟩ :: ss.l.drop (n + 1) := by
        conv => lhs; rw [← List.take_append_drop n ss.l, List.drop_eq_getElem_cons hlt, hge]
      have hn2 := hn
      rw [hsplit] at hn2
      obtain ⟨q1, q2, q3⟩ := List.nodup_append.1 hn2
      obtain ⟨q4, q5⟩ := List.nodup_cons.1 q2
      have hmm : ∀ e, e ∈ ss.l.take n ++ ss.l.drop (n + 1) ↔ e ∈ ss.l ∧ e ≠ (⟨d.f1, d.f2⟩ : S35) := by
        intro e
        constructor
        · intro he
          rcases List.mem_append.1 he with he | he
          · exact ⟨List.mem_of_mem_take he, fun e' => q3 e he e (by rw [e']; simp) rfl⟩
          · exact ⟨List.mem_of_mem_drop he, fun e' => q4 (by rw [← e']; exact he)⟩
        · rintro ⟨he, hne⟩
          rw [hsplit] at he
          rcases List.mem_append.1 he with he | he
          · exact List.mem_append_left _ he
          · rcases List.mem_cons.1 he with he | he
            · exact absurd he hne
            · exact List.mem_append_right _ he
      show Eqv _ (if d.f0 = 1 then _ else _)
      rw [if_pos h1]
      refine ⟨by rw [hk], ?_, ?_, fun p v s => ?_, fun e he => hok e ((hmm e).1 he).1⟩
      · show IntKind.u32.wrap (st.cnt - 1) = _
        rw [hc, wrap_u32 (by omega) (by omega), List.length_append, List.length_take, List.length_drop]
        omega
      · exact List.nodup_append.2 ⟨q1, q5, fun a ha b hb e => q3 a ha b (List.mem_cons_of_mem _ hb) e⟩
      · show setS st.sub (tk d.f1) (del (st.sub (tk d.f1)) d.f2) p v = some s ↔ _
        rw [hmm]
        unfold setS
        by_cases hp' : p = tk d.f1
        · rw [if_pos hp']
          unfold del
          by_cases hv : v = d.f2
          · rw [if_pos hv]
            constructor
            · intro e; cases e
            · rintro ⟨⟨e1, e2⟩, e3⟩
              rw [hp'] at e3
              exact absurd (by rw [tk_inj e3, hv]) e2
          · rw [if_neg hv, ← hp', hs]
            constructor
            · rintro ⟨e1, e2⟩
              exact ⟨⟨e1, fun e => by injection e with _ e; exact hv e⟩, e2⟩
            · rintro ⟨⟨e1, _⟩, e2⟩
              exact ⟨e1, e2⟩
        · rw [if_neg hp', hs]
          constructor
          · rintro ⟨e1, e2⟩
            exact ⟨⟨e1, fun e => by injection e with e _; rw [e] at e2; exact hp' e2⟩, e2⟩
          · rintro ⟨⟨e1, _⟩, e2⟩
            exact ⟨e1, e2⟩
theorem eqv_take {ds : List S46} (hl : ds.length ≤ 1000) (hd : ∀ d ∈ ds, d.f0 = 0 ∨ d.f0 = 1) (ho : Once ds ds.length) : ∀ i, i ≤ ds.length → Eqv (runL (ds.take i)) (runS (ds.take i))
  | 0, _ => by
    refine ⟨rfl, rfl, List.nodup_nil, fun p v s => ?_, fun e he => (by cases he)⟩
    constructor
    · intro e; cases e
    · rintro ⟨e, _⟩; cases e
  | i + 1, hi => by
    have ht : ds[i]? = some (ds[i]'hi) := List.getElem?_eq_getElem hi
    rw [runL_take ht, runS_take ht]
    refine (eqv_take hl hd ho i (by omega)).step (hd _ (List.getElem_mem hi)) (fun h0 => ho i _ hi ht h0) ?_
    have := (run_sizes (ds.take i)).1
    rw [List.length_take] at this
    omega
theorem eqv_run {ds : List S46} (hl : ds.length ≤ 1000) (hd : ∀ d ∈ ds, d.f0 = 0 ∨ d.f0 = 1) (ho : Once ds ds.length) : Eqv (runL ds) (runS ds) := by
  have := eqv_take hl hd ho ds.length (Nat.le_refl _)
  rwa [List.take_length] at this
end Go.Proofs.YtimffhpnfdikoaaDoor.Ls
