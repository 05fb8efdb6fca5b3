/- A mapping of words and wildcards: what its calls do, and the way back. -/
import Derived.Test.YtoopmpjgmgffoaaDoorPlTn
namespace Go.Proofs.YtoopmpjgmgffoaaDoor.PlFnTransformBack
open Go.RowKit Go.Proofs.YtoopmpjgmgffoaaDoorW.PrintWords Go.Proofs.YtoopmpjgmgffoaaDoorW.PrintLast Go.Proofs.YtoopmpjgmgffoaaDoorW.PrintMore Go.Proofs.YtoopmpjgmgffoaaDoor.Pl Go.Proofs.YtoopmpjgmgffoaaDoor.Bs Go.Proofs.YtoopmpjgmgffoaaDoor.GFnTransformBack Go.Proofs.YtoopmpjgmgffoaaDoor.Tr
set_option linter.unusedVariables false
set_option linter.unusedSimpArgs false
theorem last_split {α : Type} {L : List α} (h : L ≠ []) : ∃ L' p, L = L' ++ [p] := by
  rcases List.eq_nil_or_concat L with e | ⟨L', p, e⟩
  · exact absurd e h
  exact ⟨L', p, by rw [e, List.concat_eq_append]⟩
theorem plc_ok {S : List (List UInt8)} {N : Int} (h : 1 ≤ N ∧ N ≤ S.count [42]) : ∃ q : Nat, (plc 0 S)[(N - 1).toNat]? = some (q : Int) ∧ (plc 0 S).getD (N - 1).toNat 0 = (q : Int) ∧ S[q]? = some [42] := by
  obtain ⟨x, hx⟩ : ∃ x, (plc 0 S)[(N - 1).toNat]? = some x := ⟨_, List.getElem?_eq_getElem (by rw [plc_len]; omega)⟩
  obtain ⟨q, h1, h2⟩ := plc_mem S 0 _ x hx
  rw [Nat.zero_add] at h1
  exact ⟨q, by rw [hx, h1], by rw [List.getD_eq_getElem?_getD, hx, h1]; rfl, h2⟩
structure Fits (S T : List (List UInt8)) : Prop where
  formed : formedB S = true
  mt : matchT T S = true
  pub : ∀ t ∈ T, PubT t
  few : T.length ≤ 1000 ∧ ∀ t ∈ T, t.length ≤ 1000
theorem validB_formed {l : List UInt8} (h : validB l = true) : formedB (toks l) = true := by
  unfold validB at h
  rw [Bool.and_eq_true] at h
  exact h.1
theorem let_pub {t : List UInt8} (h0 : t ≠ []) (h : ∀ c ∈ t, letB c = true) : PubT t := by
  refine ⟨h0, fun hm => (let_dot (h _ hm)).1 rfl, fun c hc => (let_dot (h c hc)).2.2.2.1, ?_, ?_⟩
  · unfold litT
    rw [decide_eq_true (p := t ≠ [42]) (by intro e; exact (let_dot (h 42 (by rw [e]; simp))).2.2.1 rfl), decide_eq_true (p := t ≠ [62]) (by intro e; exact (let_dot (h 62 (by rw [e]; simp))).2.1 rfl)]
    rfl
  unfold tameT
  rw [Bool.or_eq_true]
  right
  rw [Bool.not_eq_true', List.any_eq_false]
  intro c hc
  unfold wildB
  rw [decide_eq_false (p := c = 42) (let_dot (h c hc)).2.2.1, decide_eq_false (p := c = 62) (let_dot (h c hc)).2.1]
  decide
theorem mem_at {α : Type} {L : List α} {p : α} (h : p ∈ L) : ∃ j : Nat, L[j]? = some p := by
  obtain ⟨j, hj, rfl⟩ := List.getElem_of_mem h
  exact ⟨j, List.getElem?_eq_getElem hj⟩
theorem word_of {sl : List UInt8} {L : List S42} (hM : MapF sl L) {p : S42} (hp : p ∈ L) (h : p.f0 = 0) : PubT p.f1.data.toList := by
  obtain ⟨j, hj⟩ := mem_at hp
  have := (hM.known j p hj).word h
  exact let_pub this.1 this.2
theorem last_iff {sl : List UInt8} {L' : List S42} {p : S42} (hM : MapF sl (L' ++ [p])) : p.f0 = 11 ↔ (toks sl).getLast? = some [62] := hM.sound.rest p (by simp)
theorem nonempty_pieces (C : List (List UInt8)) (h : ∀ t ∈ C, t ≠ []) (h0 : C ≠ []) : join C ≠ [] := by
  rcases C with _ | ⟨t, r⟩
  · exact absurd rfl h0
  rw [join]
  intro e
  have := jn_le r t
  rw [e] at this
  exact h t List.mem_cons_self (List.length_eq_zero_iff.1 (by simpa using this))
structure Ready (sl ul : List UInt8) (L : List S42) (r : List UInt8) : Prop where
  out : ∃ P, (∀ (w : World) (A : Option Addr) (c : Nat), Kd.C k42 w A L.length L → L.length ≤ c → Calls Tryd.prog 11 #[.string (ba sl), .slice A L.length c] w (PlanPost w P)) ∧
    (∀ (w : World) (v : Value), PlanV w v P → Calls Tryd.prog 10 #[v, .string (ba ul)] w (XPost w (ba r)))
theorem litOk_of {t : List UInt8} (h : PubT t) : litOk (ba t) = true := by
  unfold litOk
  have h0 : t.length ≠ 0 := fun e => h.ne (List.length_eq_zero_iff.1 e)
  rw [decide_eq_true (p := (ba t).size ≠ 0) h0, Bool.true_and]
  by_cases h1 : 1 < (ba t).size
  · rw [decide_eq_true h1]; rfl
  obtain ⟨c, rfl⟩ : ∃ c, t = [c] := by
    have h1 : ¬ 1 < t.length := h1
    match t, h0, h1 with
    | [c], _, _ => exact ⟨c, rfl⟩
    | _ :: _ :: _, _, h1 => exact absurd (by simp) h1
    | [], h0, _ => exact absurd rfl h0
  have hl := h.lit
  unfold litT at hl
  rw [Bool.and_eq_true, decide_eq_true_iff, decide_eq_true_iff] at hl
  have hb : bt (ba [c]) 0 = (c.toNat : Int) := by rw [ba_bt]; rfl
  rw [Bool.or_eq_true]
  right
  rw [hb, decide_eq_true (p := (c.toNat : Int) ≠ 42) (fun e => hl.1 (by rw [(toNat_eq (n := 42) (by omega)).1 e]; rfl)), decide_eq_true (p := (c.toNat : Int) ≠ 62) (fun e => hl.2 (by rw [(toNat_eq (n := 62) (by omega)).1 e]; rfl))]
  rfl
theorem isSub_ev (T : List (List UInt8)) (p : List UInt8) (hp : p.length < 8796093022208) (hT : ∀ t ∈ T, PubT t) (fp : formedB (toks p) = true) (tp : (toks p).all tameT = true) :
    Ev (fun k => server_isSubsetMatch.f k (T.map ba) (ba p)) (matchT T (toks p)) := by
  have h2 : (toks p).length ≤ 140737488351232 := by rw [toks_len]; have := List.count_le_length (a := (46 : UInt8)) (l := p); omega
  refine Ev.congr (fun k => by rw [server_isSubsetMatch.f]) ?_
  refine Ev.bind (tokenize_ev p hp) ?_
  refine Ev.congr (fun k => by rw [server_isSubsetMatchTokenized.f]) ?_
  refine Ev.det' (isSubset_l0 _ _ h2 (toks p) T [] [] 0 rfl rfl rfl rfl (formed_ne _ fp) (fun t ht => (hT t ht).ne) tp (List.all_eq_true.2 fun t ht => (hT t ht).tame)) ?_
  exact subT_lit T (toks p) (List.all_eq_true.2 fun t ht => (hT t ht).lit)
end Go.Proofs.YtoopmpjgmgffoaaDoor.PlFnTransformBack
