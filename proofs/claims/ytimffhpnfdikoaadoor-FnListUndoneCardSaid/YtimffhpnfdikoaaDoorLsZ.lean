/- matchLevelForAny: what it finds, plainly, and its walk. The walk of matchLevelForAny. A subject is taken apart on the spot; hasInterest, HasInterest, NumInterest. -/
import Derived.Test.YtimffhpnfdikoaaDoorLsW
import Derived.Deep.RegionLaw
namespace Go.Proofs.YtimffhpnfdikoaaDoor.Ls
open Go.RowKit Go.Maps Go.Proofs.YtimffhpnfdikoaaDoor.Pl Go.Proofs.YtimffhpnfdikoaaDoor.Bs Go.Proofs.YtimffhpnfdikoaaDoorW.PrintWords Go.Proofs.YtimffhpnfdikoaaDoorW.PrintLast Go.Proofs.YtimffhpnfdikoaaDoorW.PrintMore Go.Proofs.YtimffhpnfdikoaaDoor.GFnListKinds Go.Proofs.YtimffhpnfdikoaaDoor.PlFnListKinds
set_option linter.unusedVariables false
set_option linter.unusedSimpArgs false
/-- Tokens without wildcards are matched by a pattern's. -/
def mt : Path → Path → Bool
  | [], [] => true
  | _ :: _, [] => false
  | [], _ :: _ => false
  | t :: l, p :: ps => if p = full then true else if p = star ∨ p = t then mt l ps else false
theorem mt_nil {q : Path} : mt [] q = true ↔ q = [] := by cases q <;> simp [mt]
theorem mt_cons {t u : ByteArray} {l q : Path} : mt (t :: l) (u :: q) = true ↔ u = full ∨ ((u = star ∨ u = t) ∧ mt l q = true) := by
  rw [mt]
  by_cases h1 : u = full
  · rw [if_pos h1]
    simp [h1]
  · rw [if_neg h1]
    by_cases h2 : u = star ∨ u = t
    · rw [if_pos h2]
      simp [h1, h2]
    · rw [if_neg h2]
      simp [h1, h2]
/-- Something at or below p is matched by tokens. -/
def HitP (sub : Path → Int → Option ByteArray) (p toks : Path) : Prop := ∃ q v s, sub (p ++ q) v = some s ∧ mt toks q = true
def SubAt (sub : Path → Int → Option ByteArray) (p : Path) : Prop := ∃ v s, sub p v = some s
theorem hit_nil {sub : Path → Int → Option ByteArray} {p : Path} : HitP sub p [] ↔ SubAt sub p := by
  constructor
  · rintro ⟨q, v, s, h1, h2⟩
    rw [mt_nil] at h2
    subst h2
    rw [List.append_nil] at h1
    exact ⟨v, s, h1⟩
  · rintro ⟨v, s, h⟩
    exact ⟨[], v, s, by rw [List.append_nil]; exact h, rfl⟩
/-- One token. -/
theorem hit_cons {sub : Path → Int → Option ByteArray} {p toks : Path} {t : ByteArray} (hf : ∀ r, ¬ SubAt sub (p ++ [full] ++ r)) : HitP sub p (t :: toks) ↔ HitP sub (p ++ [star]) toks ∨ HitP sub (p ++ [t]) toks := by
  constructor
  · rintro ⟨q, v, s, h1, h2⟩
    cases q with
    | nil => cases h2
    | cons u q =>
      have e : p ++ u :: q = p ++ [u] ++ q := by simp
      rw [e] at h1
      rcases mt_cons.1 h2 with h | ⟨h | h, h3⟩
      · rw [h] at h1
        exact (hf q ⟨v, s, h1⟩).elim
      · rw [h] at h1
        exact .inl ⟨q, v, s, h1, h3⟩
      · rw [h] at h1
        exact .inr ⟨q, v, s, h1, h3⟩
  · rintro (⟨q, v, s, h1, h2⟩ | ⟨q, v, s, h1, h2⟩)
    · exact ⟨star :: q, v, s, by rw [← h1]; simp, mt_cons.2 (.inr ⟨.inl rfl, h2⟩)⟩
    · exact ⟨t :: q, v, s, by rw [← h1]; simp, mt_cons.2 (.inr ⟨.inr rfl, h2⟩)⟩
theorem hit_full {sub : Path → Int → Option ByteArray} {p toks r : Path} {t : ByteArray} (h : SubAt sub (p ++ [full] ++ r)) : HitP sub p (t :: toks) := by
  obtain ⟨v, s, h⟩ := h
  exact ⟨full :: r, v, s, by rw [← h]; simp, mt_cons.2 (.inl rfl)⟩
theorem okF_end : ∀ {p r : Path} {sf : Bool}, okF sf (p ++ [full] ++ r) = true → r = []
  | [], r, sf, h => by
    have h : okF sf (full :: r) = true := h
    unfold okF at h
    split at h
    · cases h
    · exact okF_true_nil (by simpa using h)
  | t :: p, r, sf, h => by
    have h : okF sf (t :: (p ++ [full] ++ r)) = true := by simpa using h
    unfold okF at h
    split at h
    · cases h
    · exact okF_end h
/-- A list whose subjects are all formed, nothing empty in it. -/
structure Fine (nd : Pm) (sub : Path → Int → Option ByteArray) : Prop where
  out : ∀ p, nd p = none → ∀ v, sub p v = none
  live : Live nd sub (fun _ => False)
  ok : ∀ q v s, sub q v = some s → okF false q = true
section
variable {w : World} {B K : Nat} {nd lv : Pm} {sub : Path → Int → Option ByteArray}
theorem Fine.fullAt (h : Fine nd sub) {p : Path} {y : Nat × Nat} (hy : nd (p ++ [full]) = some y) : SubAt sub (p ++ [full]) := by
  rcases h.live _ _ hy with e | ⟨r, v, s, e⟩
  · exact e.elim
  · have := okF_end (h.ok _ _ _ e)
    subst this
    rw [List.append_nil] at e
    exact ⟨v, s, e⟩
theorem Fine.gone (h : Fine nd sub) (hT : Tri w B K nd lv sub) {p : Path} (hn : nd p = none) (hp : p ≠ []) (r : Path) : ¬ SubAt sub (p ++ r) := by
  rintro ⟨v, s, e⟩
  by_cases hr : r = []
  · subst hr
    rw [List.append_nil, h.out _ hn] at e
    cases e
  · have hl : lv p = none := by
      cases hq : lv p with
      | none => rfl
      | some x =>
        obtain ⟨y, hy⟩ := hT.lvnd _ _ hp hq
        rw [hn] at hy
        cases hy
    rw [h.out _ (hT.below hl _ r rfl hr)] at e
    cases e
theorem Fine.flat (h : Fine nd sub) (hT : Tri w B K nd lv sub) {p : Path} (hl : lv p = none) {toks : Path} (ht : toks ≠ []) : ¬ HitP sub p toks := by
  rintro ⟨q, v, s, h1, h2⟩
  cases q with
  | nil => cases toks with
    | nil => exact ht rfl
    | cons t l => cases h2
  | cons u q =>
    rw [h.out _ (hT.below hl _ (u :: q) rfl (by simp))] at h1
    cases h1
end
theorem Fine.gone_hit {w : World} {B K : Nat} {nd lv : Pm} {sub : Path → Int → Option ByteArray} (h : Fine nd sub) (hT : Tri w B K nd lv sub) {p : Path} (hn : nd p = none) (hp : p ≠ []) (toks : Path) : ¬ HitP sub p toks := by
  rintro ⟨q, v, s, h1, _⟩
  exact h.gone hT hn hp q ⟨v, s, h1⟩
/-- The counter that is handed on, if one is. -/
def NpA (w : World) (np : Option Nat) (c : Int) : Prop := ∀ b, np = some b → Blk w b 3 [.int .i64 c]
/-- What matchLevelForAny answers. -/
structure AnyPost (w : World) (K : Nat) (sub : Path → Int → Option ByteArray) (p toks : Path) (np : Option Nat) (e : Ending) (w' : World) : Prop where
  out : ∃ b : Bool, e = .returned (.bool b) ∧ (b = true ↔ toks ≠ [] ∧ HitP sub p toks) ∧ ∃ c : Nat, NpA w' np (c : Int) ∧ (b = false → c = 0) ∧ (b = true → 0 < c) ∧ c ≤ K + 1
  fr : Fr (fun k => np = some k) w w'
/-- The way along the tokens: i are behind, nothing is found. -/
structure AnyS (w0 : World) (sub : Path → Int → Option ByteArray) (nd lv : Pm) (p toks : Path) (np : Option Nat) (i : Nat) (vl vp vn : Value) (w : World) : Prop where
  fr : Fr (fun k => np = some k) w0 w
  np : NpA w np 0
  vl : vl = ptrA ((lv (p ++ toks.take i)).map Prod.fst)
  zero : i = 0 → vp = .pointer none ∧ vn = .pointer none
  pos : ∀ j t, i = j + 1 → toks[j]? = some t → vp = ptrA ((nd (p ++ toks.take j ++ [star])).map Prod.fst) ∧ vn = ptrA ((nd (p ++ toks.take j ++ [t])).map Prod.fst)
  hit : HitP sub p toks ↔ HitP sub (p ++ toks.take i) (toks.drop i) ∨ (i = toks.length ∧ ∃ j, i = j + 1 ∧ SubAt sub (p ++ toks.take j ++ [star]))
theorem path_snoc {p toks : Path} {i : Nat} {t : ByteArray} (ht : toks[i]? = some t) : p ++ toks.take (i + 1) = p ++ toks.take i ++ [t] := by
  rw [take_snoc ht, List.append_assoc]
/-- A round of it. -/
theorem any_round {sub : Path → Int → Option ByteArray} {p toks : Path} {i : Nat} {t : ByteArray} (ht : toks[i]? = some t) (hf : ∀ r, ¬ SubAt sub (p ++ toks.take i ++ [full] ++ r)) (hs : toks.drop (i + 1) = [] ∨ ¬ HitP sub (p ++ toks.take i ++ [star]) (toks.drop (i + 1))) :
    HitP sub (p ++ toks.take i) (toks.drop i) ↔ HitP sub (p ++ toks.take (i + 1)) (toks.drop (i + 1)) ∨ (i + 1 = toks.length ∧ ∃ j, i + 1 = j + 1 ∧ SubAt sub (p ++ toks.take j ++ [star])) := by
  have hlt := (List.getElem?_eq_some_iff.1 ht).1
  rw [drop_cons ht, hit_cons hf, path_snoc ht]
  constructor
  · rintro (h | h)
    · rcases hs with hs | hs
      · rw [hs] at h
        refine .inr ⟨?_, i, rfl, hit_nil.1 h⟩
        have := List.drop_eq_nil_iff.1 hs
        omega
      · exact (hs h).elim
    · exact .inl h
  · rintro (h | ⟨h1, j, h2, h3⟩)
    · exact .inr h
    · obtain rfl : j = i := by omega
      left
      rw [List.drop_of_length_le (by omega)]
      exact hit_nil.2 h3
theorem AnyS.hitn {w0 w : World} {sub : Path → Int → Option ByteArray} {nd lv : Pm} {p toks : Path} {np : Option Nat} {i : Nat} {vl vp vn : Value} (h : AnyS w0 sub nd lv p toks np i vl vp vn w) (hi : i < toks.length) : HitP sub p toks ↔ HitP sub (p ++ toks.take i) (toks.drop i) := by
  rw [h.hit]
  constructor
  · rintro (h | ⟨h1, _⟩)
    · exact h
    · omega
  · exact .inl
theorem AnyS.next {w0 w w' : World} {sub : Path → Int → Option ByteArray} {nd lv : Pm} {p toks : Path} {np : Option Nat} {i : Nat} {vl vp vn : Value} {t : ByteArray} (h : AnyS w0 sub nd lv p toks np i vl vp vn w) (ht : toks[i]? = some t) (hf : ∀ r, ¬ SubAt sub (p ++ toks.take i ++ [full] ++ r)) (hs : toks.drop (i + 1) = [] ∨ ¬ HitP sub (p ++ toks.take i ++ [star]) (toks.drop (i + 1)))
    (hF : Fr (fun k => np = some k) w w') (hN : NpA w' np 0) {vl' vp' vn' : Value} (h1 : vl' = ptrA ((lv (p ++ toks.take i ++ [t])).map Prod.fst)) (h2 : vp' = ptrA ((nd (p ++ toks.take i ++ [star])).map Prod.fst)) (h3 : vn' = ptrA ((nd (p ++ toks.take i ++ [t])).map Prod.fst)) :
    AnyS w0 sub nd lv p toks np (i + 1) vl' vp' vn' w' := by
  refine ⟨h.fr.trans hF (fun _ _ h => h), hN, by rw [h1, path_snoc ht], (fun e => by cases e), fun j u hj hu => ?_, ?_⟩
  · obtain rfl : j = i := by omega
    rw [ht] at hu
    injection hu with hu
    subst hu
    exact ⟨h2, h3⟩
  · rw [h.hitn (List.getElem?_eq_some_iff.1 ht).1]
    exact any_round ht hf hs
end Go.Proofs.YtimffhpnfdikoaaDoor.Ls
namespace Go.Proofs.YtimffhpnfdikoaaDoor.Ls
open Go.RowKit Go.Maps Go.Proofs.YtimffhpnfdikoaaDoor.Pl Go.Proofs.YtimffhpnfdikoaaDoor.Bs Go.Proofs.YtimffhpnfdikoaaDoorW.PrintWords Go.Proofs.YtimffhpnfdikoaaDoorW.PrintLast Go.Proofs.YtimffhpnfdikoaaDoorW.PrintMore Go.Proofs.YtimffhpnfdikoaaDoor.GFnListKinds Go.Proofs.YtimffhpnfdikoaaDoor.PlFnListKinds
set_option linter.unusedVariables false
set_option linter.unusedSimpArgs false
section
variable {w w' : World} {B K : Nat} {nd lv : Pm} {sub : Path → Int → Option ByteArray} {np : Option Nat}
theorem np_wk (hN : NpA w np 0) {k : Nat} (h : WF B w k) : ¬ np = some k := fun e => Blk.not_wk (hN k e) (by decide) (by decide) (by decide) h.2
theorem tri_np (hT : Tri w B K nd lv sub) (hN : NpA w np 0) (hf : Fr (fun k => np = some k) w w') : Tri w' B K nd lv sub := hT.far hf (fun k hk => np_wk hN hk)
theorem strs_get {toks : Path} {i : Nat} {t : ByteArray} (h : toks[i]? = some t) : (toks.map Value.string)[i]? = some (.string t) := by rw [List.getElem?_map, h]; rfl
theorem strs_one (toks : Path) : ∀ u ∈ toks.map Value.string, u.oneCell' = true := by
  intro u hu
  obtain ⟨z, _, rfl⟩ := List.mem_map.1 hu
  rfl
theorem step_mp_len {kt et mt : TypeId} {κ β : Type} {V : KV kt et mt κ β} {M : Nat} {m : κ → Option β} {ops : Array Oper} {o : Oper} {a : Act} {KK : Act → World → Prop} {Q : Exit → Act → World → Prop} {E : Prop} (hg : o.guard = none) (mo : Operand) (hop : o.op = Op.call { callee := Callee.builtin Builtin.len, args := #[mo], argTypes := #[mt] }) (hm : a.eval mo = .map (some M)) (h : Mp V w M K m)
    (hK : ∀ n : Nat, (n = 0 ↔ ∀ s, m s = none) → n ≤ K → KK (a.put o.dst (.int .i64 n)) w) : if Region.wanted o (yielded ops a.tmps) = true then Oper.wp Tryd.prog o a w KK Q else E := by
  have hw : Region.wanted o (yielded ops a.tmps) = true := by simp [Region.wanted, hg]
  rw [if_pos hw]
  obtain ⟨n, D, hn, ho, hd⟩ := h.ex
  have := hK _ (own_size0 ho hd) (Nat.le_trans ho.size_le hn)
  unfold Oper.wp
  simp [execOp, hop, resolve, invoke, builtin, hm, ho.len V.under o.type, Result.andThen]
  exact this
theorem any_false {p toks : Path} {w0 : World} {w2 : World} (h : ¬ (toks ≠ [] ∧ HitP sub p toks)) (hf : Fr (fun k => np = some k) w0 w2) (hN : NpA w2 np 0) : AnyPost w0 K sub p toks np (.returned (.bool false)) w2 :=
  ⟨⟨false, rfl, ⟨(fun e => by cases e), fun e => (h e).elim⟩, 0, hN, fun _ => rfl, (fun e => by cases e), Nat.zero_le _⟩, hf⟩
theorem any_true {p toks : Path} {w0 : World} {w2 : World} {c : Nat} (h : toks ≠ [] ∧ HitP sub p toks) (hf : Fr (fun k => np = some k) w0 w2) (hN : NpA w2 np (c : Int)) (h0 : 0 < c) (hK : c ≤ K + 1) : AnyPost w0 K sub p toks np (.returned (.bool true)) w2 :=
  ⟨⟨true, rfl, ⟨fun _ => h, fun _ => rfl⟩, c, hN, (fun e => by cases e), fun _ => h0, hK⟩, hf⟩
end
theorem AnyPost.drew {w w2 : World} {K : Nat} {sub : Path → Int → Option ByteArray} {p toks : Path} {np : Option Nat} {e : Ending} (h : AnyPost w K sub p toks np e w2) : AnyPost w K sub p toks np e w2.drew := by
  obtain ⟨⟨b, h1, h2, c, h3, h4⟩, hf⟩ := h
  exact ⟨⟨b, h1, h2, c, fun k hk => (h3 k hk).drew, h4⟩, hf.drew⟩
theorem np_wrap {m K : Nat} (h : m ≤ K) (hK : K < 1000000) : IntKind.i64.wrap (m : Int) = (m : Int) := by rw [IntKind.wrap_i64]; omega
/-- The counter is raised, what is found is told. -/
theorem any_add {w wr : World} {K b m : Nat} {sub : Path → Int → Option ByteArray} {p toks q : Path} (hh : toks ≠ [] ∧ HitP sub p toks) (hf : Fr (fun k => some b = some k) w wr) (hN : NpA wr (some b) 0) (hs : SubAt sub q) (hm : (m = 0 ↔ ∀ s, sub q s = none) ∧ m ≤ K) (hK : K < 1000000) :
    AnyPost w K sub p toks (some b) (.returned (.bool true)) (wr.setCell ⟨b, 0, none⟩ (.int .i64 (IntKind.i64.wrap (m : Int)))) := by
  have h0 : m ≠ 0 := fun e => by
    obtain ⟨v, s, h⟩ := hs
    rw [hm.1.1 e v] at h
    cases h
  refine any_true (c := m) hh (hf.trans (fr_set1 (F := fun k => some b = some k) (Fr.refl _ _) rfl _) (fun _ _ h => h)) (fun k hk => ?_) (by omega) (by omega)
  injection hk with hk
  subst hk
  rw [np_wrap hm.2 hK]
  exact (hN b rfl).set 0 (by simp) _
theorem any_raise {w wr : World} {K b m : Nat} {sub : Path → Int → Option ByteArray} {q : Path} (hf : Fr (fun k => some b = some k) w wr) (hN : NpA wr (some b) 0) (hm : (m = 0 ↔ ∀ s, sub q s = none) ∧ m ≤ K) (hK : K < 1000000) :
    Fr (fun k => some b = some k) w (wr.setCell ⟨b, 0, none⟩ (.int .i64 (IntKind.i64.wrap (m : Int)))) ∧ ∃ m' : Nat, NpA (wr.setCell ⟨b, 0, none⟩ (.int .i64 (IntKind.i64.wrap (m : Int)))) (some b) (m' : Int) ∧ (m' = 0 ↔ ∀ s, sub q s = none) ∧ m' ≤ K + 1 := by
  refine ⟨hf.trans (fr_set1 (F := fun k => some b = some k) (Fr.refl _ _) rfl _) (fun _ _ h => h), m, fun k hk => ?_, hm.1, by omega⟩
  injection hk with hk
  subst hk
  rw [np_wrap hm.2 hK]
  exact (hN b rfl).set 0 (by simp) _
theorem any_raise_drew {w wr : World} {K : Nat} {np : Option Nat} {P : Nat → Prop} (h : Fr (fun k => np = some k) w wr ∧ ∃ m' : Nat, NpA wr np (m' : Int) ∧ P m' ∧ m' ≤ K + 1) : Fr (fun k => np = some k) w wr.drew ∧ ∃ m' : Nat, NpA wr.drew np (m' : Int) ∧ P m' ∧ m' ≤ K + 1 := by
  obtain ⟨hf, m, h1, h2⟩ := h
  exact ⟨hf.drew, m, fun k hk => (h1 k hk).drew, h2⟩
/-- Nothing is added. -/
theorem any_zero {w wr : World} {K b m : Nat} {sub : Path → Int → Option ByteArray} {q : Path} (hf : Fr (fun k => some b = some k) w wr) (hN : NpA wr (some b) 0) (hs : ¬ SubAt sub q) (hm : (m = 0 ↔ ∀ s, sub q s = none) ∧ m ≤ K) : m = 0 ∧
    Fr (fun k => some b = some k) w (wr.setCell ⟨b, 0, none⟩ (.int .i64 (IntKind.i64.wrap (m : Int)))) ∧ NpA (wr.setCell ⟨b, 0, none⟩ (.int .i64 (IntKind.i64.wrap (m : Int)))) (some b) 0 := by
  have h0 : m = 0 := hm.1.2 (fun v => by
    cases e : sub q v with
    | none => rfl
    | some s => exact (hs ⟨v, s, e⟩).elim)
  subst h0
  refine ⟨rfl, hf.trans (fr_set1 (F := fun k => some b = some k) (Fr.refl _ _) rfl _) (fun _ _ h => h), fun k hk => ?_⟩
  injection hk with hk
  subst hk
  exact (hN b rfl).set 0 (by simp) _
section
set_option maxHeartbeats 16000000
set_option maxRecDepth 100000
theorem any_calls (n : Nat) : ∀ {w : World} {B K : Nat} {nd lv : Pm} {sub : Path → Int → Option ByteArray} {np : Option Nat} {p toks : Path} {g o c : Nat}, toks.length = n → Tri w B K nd lv sub → Fine nd sub → (∀ j t, toks[j]? = some t → w.cell? ⟨g, o + j, none⟩ = some (.string t)) → toks.length ≤ c → toks.length ≤ 1000 →
    np ≠ some g → (∀ t ∈ toks, t ≠ star ∧ t ≠ full ∧ t.size ≤ 1000) → NpA w np 0 → K < 1000000 →
    Calls Tryd.prog 73 #[ptrA ((lv p).map Prod.fst), .slice (some ⟨g, o, none⟩) toks.length c, ptrA np] w (AnyPost w K sub p toks np) := by
  induction n using Nat.strongRecOn with
  | ind n ih =>
  intro w B K nd lv sub np p toks g o c hlen hT hF hR hc hl hne hlit hN hK
  have IH := Aside0.mk ih
  have HT := Aside0.mk hT
  have HF := Aside0.mk hF
  have HR := Aside0.mk hR
  have HC := Aside0.mk hc
  have HNE := Aside0.mk hne
  have HLT := Aside0.mk hlit
  have HN := Aside0.mk hN
  have HLN := Aside0.mk hlen
  have HKK := Aside0.mk hK
  clear ih hT hF hR hc hne hlit hN hlen hK
  rw [ptrA_eq, ptrA_eq]
  go_enter Tryd.func73, Tryd.ntmps73
  go_wp2_with fail
  go_loopg [0, 7, 8, 14] toks.length (fun kq v0 v7 v8 v14 wr => ∃ (i : Nat), v14 = .int .i64 (i : Int) ∧ Aside0 (kq + i = toks.length ∧ i ≤ toks.length) ∧ Aside0 (AnyS w sub nd lv p toks np i v0 v7 v8 wr))
  case atStart => exact ⟨0, rfl, ⟨by omega⟩, ⟨⟨Fr.refl _ _, HN.out, by rw [List.take_zero, List.append_nil, ptrA_eq], fun _ => ⟨rfl, rfl⟩, (fun j t h => by cases h), by
    rw [List.take_zero, List.append_nil, List.drop_zero]
    exact ⟨.inl, fun h => h.elim (fun h => h) (fun h => by obtain ⟨_, j, h, _⟩ := h; cases h)⟩⟩⟩⟩
  case round =>
    obtain ⟨i, rfl, HI, HS⟩ := hrel
    have i0 : (0 : Int) ≤ (i : Int) := by omega
    have HTW : Aside0 (Tri wr B K nd lv sub) := ⟨tri_np HT.out HN.out HS.out.fr⟩
    by_cases hlt : i < toks.length
    · have i1 : (i : Int) < (toks.length : Int) := by omega
      have i2 : decide ((i : Int) < (toks.length : Int)) = true := decide_eq_true i1
      have i5 : IntKind.i64.wrap ((i : Int) + 1) = (i : Int) + 1 := by rw [IntKind.wrap_i64]; have := HI.out; omega
      obtain ⟨t, ht⟩ : ∃ t, toks[i]? = some t := ⟨_, List.getElem?_eq_getElem hlt⟩
      have HTI := Aside0.mk ht
      have HTL := Aside0.mk (HLT.out t (List.mem_of_getElem? ht))
      have HIK : Aside0 (i < toks.length) := ⟨hlt⟩
      have ct : wr.cell? ⟨g, o + i, none⟩ = some (.string t) := (World.cell?_of_block (a := ⟨g, o + i, none⟩) (HS.out.fr.block g (World.block_lt_of_cell? w _ (HR.out i t ht)) HNE.out)).trans (HR.out i t ht)
      obtain ⟨v0, hv0⟩ : ∃ v0, u0 = v0 := ⟨_, rfl⟩
      have hvl := HS.out.vl
      obtain ⟨q, hq⟩ : ∃ q, p ++ toks.take i = q := ⟨_, rfl⟩
      rw [hq] at hvl
      have HQ := Aside0.mk hq
      have HV0 := Aside0.mk hvl
      have HHN : Aside0 (HitP sub p toks ↔ HitP sub q (toks.drop i)) := ⟨by rw [← hq]; exact HS.out.hitn hlt⟩
      rw [hv0] at HS HV0
      rw [hv0]
      clear ht hv0 u0 hvl hq
      cases hlv : lv (q) with
      | none =>
        have hv := HV0.out
        rw [hlv] at hv
        have hv2 : v0 = .pointer none := hv
        subst hv2
        have HFL : Aside0 (¬ (toks ≠ [] ∧ HitP sub p toks)) := ⟨fun h => HF.out.flat HTW.out hlv (toks := toks.drop i) (by intro e; have := List.drop_eq_nil_iff.1 e; have := HIK.out; omega) (HHN.out.1 h.2)⟩
        clear hv hlv
        go_wp2_with fail
        go_ret
        exact any_false HFL.out HS.out.fr HS.out.np
      | some x =>
        have hv := HV0.out
        rw [hlv] at hv
        have hv2 : v0 = .pointer (some ⟨x.1, 0, none⟩) := hv
        subst hv2
        have HL := Aside0.mk hlv
        obtain ⟨-, -, hB, hM⟩ := HTW.out.lev _ x hlv
        have HM := Aside0.mk hM
        have d0 := hB.cell 0 rfl
        have d1 := hB.cell 1 rfl
        have d2 := hB.cell 2 rfl
        rw [ptrA_eq] at d1 d2
        have hk1 : kid nd (q) star = (nd (q ++ [star])).map Prod.fst := rfl
        have hk2 : kid nd (q) full = (nd (q ++ [full])).map Prod.fst := rfl
        rw [hk1] at d1
        rw [hk2] at d2
        clear hv hlv hB hM hk1 hk2
        cases hnf : nd (q ++ [full]) with
        | some y =>
          rw [hnf] at d2
          simp only [Option.map_some] at d2
          have HSF := Aside0.mk (HF.out.fullAt hnf)
          have HHT : Aside0 (toks ≠ [] ∧ HitP sub p toks) := ⟨by
            refine ⟨fun e => ?_, HHN.out.2 ?_⟩
            · have := HIK.out
              rw [e] at this
              simp at this
            · rw [drop_cons HTI.out]
              exact hit_full (r := []) (by rw [List.append_nil]; exact HSF.out)⟩
          obtain ⟨-, -, hBy, hMy⟩ := HTW.out.node _ y hnf
          have HMY := Aside0.mk hMy
          have e1 := hBy.cell 1 rfl
          clear hnf hBy hMy
          cases np with
          | none =>
            simp only [Option.map_none]
            go_wp2_with fail
            go_ret
            exact any_true (c := 1) HHT.out HS.out.fr (fun b hb => by cases hb) (by omega) (by omega)
          | some b =>
            have HNB := Aside0.mk (HS.out.np b rfl)
            have n0 := HNB.out.cell 0 rfl
            have z0 := HNB.out.free 0
            simp only [Option.map_some]
            go_upto_region 9 with (fail)
            go_region_law (first | (refine step_mp_len rfl _ (by rfl) (by rfl) (by first | exact HMY.out | exact HMY.out.fr (Fr.refl (fun _ => False) _).drew (fun h => h) | exact HMY.out.fr (Fr.refl (fun _ => False) _).drew.drew (fun h => h)) ?_; intro m hm hle; have HM0 := Aside0.mk (And.intro hm hle); clear hm hle))
            all_goals (
              have HFI := Aside0.mk (any_add HHT.out HS.out.fr HS.out.np HSF.out HM0.out HKK.out)
              clear n0 z0 d0 d1 d2 e1
              go_wp2_with fail
              go_ret
              first | exact HFI.out | exact HFI.out.drew | exact HFI.out.drew.drew)
        | none =>
          rw [hnf] at d2
          simp only [Option.map_none] at d2
          have HFF : Aside0 (∀ r, ¬ SubAt sub (q ++ [full] ++ r)) := ⟨fun r => HF.out.gone HTW.out hnf (ne_nil _ _) r⟩
          obtain ⟨ns, hns⟩ : ∃ ns, nd (q ++ [star]) = ns := ⟨_, rfl⟩
          rw [hns] at d1
          have HNS := Aside0.mk hns
          clear hnf hns
          go_upto_if 46 with (fail)
          go_cut [11] from 45 to 57 (fun v11 wc => Aside0 (Fr (fun k => np = some k) wr wc ∧ NpA wc np 0 ∧ (toks.drop (i + 1) = [] ∨ ¬ HitP sub (q ++ [star]) (toks.drop (i + 1)))))
          case first =>
            cases ns with
            | none =>
              have HG := Aside0.mk (HF.out.gone_hit HTW.out HNS.out (ne_nil _ _) (toks.drop (i + 1)))
              simp only [Option.map_none]
              go_wp2_with fail
              go_meet
              case rel => exact ⟨Fr.refl _ _, HS.out.np, .inr HG.out⟩
            | some y =>
              obtain ⟨-, -, hBy, -⟩ := HTW.out.node _ y HNS.out
              have HBY := Aside0.mk hBy
              simp only [Option.map_some]
              have j0 : (0 : Int) ≤ (i : Int) + 1 := by omega
              have j1 : (i : Int) + 1 ≤ (toks.length : Int) := by omega
              have j2 : (toks.length : Int) ≤ (c : Int) := by have := HC.out; omega
              have j3 : (i : Int) + 1 ≤ (c : Int) := by omega
              clear hBy
              by_cases hci : c = i + 1
              · subst hci
                go_upto_region 13 with (fail)
                refine region_tail 9 (by kernel_rfl) (by kernel_rfl) (fun wd hwd => ?_)
                have HWD : Aside0 (Same wr wd) := ⟨by rw [hwd.out]; exact (Fr.refl _ _).drew⟩
                have e0 := (HBY.out.fr HWD.out (fun h => h)).cell 0 rfl
                clear hwd
                simp only [List.take_succ_cons, List.take_zero, List.drop_succ_cons, List.drop_zero]
                repeat still_step
                refine wpStill_nil ?_
                go_wp2_with fail
                have HRC : Aside0 (∀ cx o', (toks.drop (i + 1) = [] ∨ o' = o + (i + 1)) → toks.length - (i + 1) ≤ cx → Calls Tryd.prog 73 #[ptrA ((lv (q ++ [star])).map Prod.fst), .slice (some ⟨g, o', none⟩) (toks.length - (i + 1)) cx, ptrA np] wd (AnyPost wd K sub (q ++ [star]) (toks.drop (i + 1)) np)) := ⟨fun cx o' ho hcx => by
                  have hl : (toks.drop (i + 1)).length = toks.length - (i + 1) := List.length_drop
                  have hcall : Calls Tryd.prog 73 #[ptrA ((lv (q ++ [star])).map Prod.fst), .slice (some ⟨g, o', none⟩) (toks.drop (i + 1)).length cx, ptrA np] wd (AnyPost wd K sub (q ++ [star]) (toks.drop (i + 1)) np) := IH.out (toks.drop (i + 1)).length (by have := HLN.out; have := HIK.out; omega) rfl (HTW.out.far HWD.out (fun _ _ h => h)) HF.out (fun j t' ht' => by
                    rw [List.getElem?_drop] at ht'
                    rcases ho with ho | ho
                    · have := List.drop_eq_nil_iff.1 ho
                      rw [List.getElem?_eq_none (by omega)] at ht'
                      cases ht'
                    · rw [ho, show o + (i + 1) + j = o + (i + 1 + j) by omega]
                      exact HWD.out.cell ((World.cell?_of_block (a := ⟨g, o + (i + 1 + j), none⟩) (HS.out.fr.block g (World.block_lt_of_cell? w _ (HR.out _ _ ht')) HNE.out)).trans (HR.out _ _ ht'))) (by omega) (by omega) HNE.out (fun t' ht' => HLT.out t' (List.mem_of_mem_drop ht')) (fun k hk => (HS.out.np k hk).fr HWD.out (fun h => h)) HKK.out
                  rw [hl] at hcall
                  exact hcall⟩
                simp only [ptrA_eq np] at HRC
                have HCO : Aside0 (Fr (fun k => np = some k) wr wd) := ⟨HWD.out.mono (fun _ h => h.elim)⟩
                clear e0
                have HD0 : Aside0 (toks.drop (i + 1) = []) := ⟨List.drop_eq_nil_iff.2 (by have := HC.out; omega)⟩
                refine (HRC.out 0 o (.inl HD0.out) (by have := HC.out; omega)).mono ?_
                rintro e w6 ⟨⟨b, rfl, hb, c', hn', hb0, hb1, hle⟩, hf⟩
                have H6 := Aside0.mk (And.intro hb (And.intro hn' (And.intro hb0 (And.intro hb1 (And.intro hle hf)))))
                clear hb hn' hb0 hb1 hle hf HRC
                cases b with
                | true =>
                  have := (H6.out.1.1 (by simp)).1 HD0.out
                  exact this.elim
                | false =>
                  go_wp2_with fail
                  go_meet
                  case rel => exact ⟨HCO.out.trans H6.out.2.2.2.2.2 (fun _ _ h => h), (by have := H6.out.2.2.1 (by simp); subst this; exact H6.out.2.1), .inl HD0.out⟩
              · have HCI := Aside0.mk hci
                go_upto_region 13 with (fail)
                refine region_tail 9 (by kernel_rfl) (by kernel_rfl) (fun wd hwd => ?_)
                have HWD : Aside0 (Same wr wd) := ⟨by rw [hwd.out]; exact (Fr.refl _ _).drew⟩
                have e0 := (HBY.out.fr HWD.out (fun h => h)).cell 0 rfl
                clear hwd
                simp only [List.take_succ_cons, List.take_zero, List.drop_succ_cons, List.drop_zero]
                repeat still_step
                refine wpStill_nil ?_
                go_wp2_with fail
                have HRC : Aside0 (∀ cx o', (toks.drop (i + 1) = [] ∨ o' = o + (i + 1)) → toks.length - (i + 1) ≤ cx → Calls Tryd.prog 73 #[ptrA ((lv (q ++ [star])).map Prod.fst), .slice (some ⟨g, o', none⟩) (toks.length - (i + 1)) cx, ptrA np] wd (AnyPost wd K sub (q ++ [star]) (toks.drop (i + 1)) np)) := ⟨fun cx o' ho hcx => by
                  have hl : (toks.drop (i + 1)).length = toks.length - (i + 1) := List.length_drop
                  have hcall : Calls Tryd.prog 73 #[ptrA ((lv (q ++ [star])).map Prod.fst), .slice (some ⟨g, o', none⟩) (toks.drop (i + 1)).length cx, ptrA np] wd (AnyPost wd K sub (q ++ [star]) (toks.drop (i + 1)) np) := IH.out (toks.drop (i + 1)).length (by have := HLN.out; have := HIK.out; omega) rfl (HTW.out.far HWD.out (fun _ _ h => h)) HF.out (fun j t' ht' => by
                    rw [List.getElem?_drop] at ht'
                    rcases ho with ho | ho
                    · have := List.drop_eq_nil_iff.1 ho
                      rw [List.getElem?_eq_none (by omega)] at ht'
                      cases ht'
                    · rw [ho, show o + (i + 1) + j = o + (i + 1 + j) by omega]
                      exact HWD.out.cell ((World.cell?_of_block (a := ⟨g, o + (i + 1 + j), none⟩) (HS.out.fr.block g (World.block_lt_of_cell? w _ (HR.out _ _ ht')) HNE.out)).trans (HR.out _ _ ht'))) (by omega) (by omega) HNE.out (fun t' ht' => HLT.out t' (List.mem_of_mem_drop ht')) (fun k hk => (HS.out.np k hk).fr HWD.out (fun h => h)) HKK.out
                  rw [hl] at hcall
                  exact hcall⟩
                simp only [ptrA_eq np] at HRC
                have HCO : Aside0 (Fr (fun k => np = some k) wr wd) := ⟨HWD.out.mono (fun _ h => h.elim)⟩
                clear e0
                refine (HRC.out (c - (i + 1)) (o + (i + 1)) (.inr rfl) (by have := HC.out; omega)).mono ?_
                rintro e w6 ⟨⟨b, rfl, hb, c', hn', hb0, hb1, hle⟩, hf⟩
                have H6 := Aside0.mk (And.intro hb (And.intro hn' (And.intro hb0 (And.intro hb1 (And.intro hle hf)))))
                clear hb hn' hb0 hb1 hle hf HRC
                cases b with
                | true =>
                  have HHT : Aside0 (toks ≠ [] ∧ HitP sub p toks) := ⟨⟨(fun e => by have := HIK.out; rw [e] at this; simp at this), HHN.out.2 (by rw [drop_cons HTI.out, hit_cons HFF.out]; exact .inl (H6.out.1.1 (by simp)).2)⟩⟩
                  go_wp2_with fail
                  go_ret
                  exact any_true HHT.out (HS.out.fr.trans (HCO.out.trans H6.out.2.2.2.2.2 (fun _ _ h => h)) (fun _ _ h => h)) H6.out.2.1 (H6.out.2.2.2.1 (by simp)) H6.out.2.2.2.2.1
                | false =>
                  go_wp2_with fail
                  go_meet
                  case rel => exact ⟨HCO.out.trans H6.out.2.2.2.2.2 (fun _ _ h => h), (by have := H6.out.2.2.1 (by simp); subst this; exact H6.out.2.1), (by
                    by_cases hd : toks.drop (i + 1) = []
                    · exact .inl hd
                    · exact .inr (fun h => by have := H6.out.1.2 ⟨hd, h⟩; cases this))⟩
          case rest =>
            have HCU := Aside0.mk hcut.out
            have HTC : Aside0 (Tri wc B K nd lv sub) := ⟨tri_np HTW.out HS.out.np HCU.out.1⟩
            obtain ⟨-, -, hB, hM⟩ := HTC.out.lev _ x HL.out
            have HMC := Aside0.mk hM
            replace d0 := hB.cell 0 rfl
            obtain ⟨kt, hkt⟩ : ∃ kt, nd (q ++ [t]) = kt := ⟨_, rfl⟩
            have HKT := Aside0.mk hkt
            have HKG : Aside0 (VN.mkV ((kids nd q t).getD VN.zv) = .pointer ((kt.map Prod.fst).map (fun b => (⟨b, 0, none⟩ : Addr)))) := ⟨by
              show ptrA ((kids nd q t).getD none) = _
              rw [kids_get q HTL.out.1 HTL.out.2.1, ← ptrA_eq, ← hkt]
              rfl⟩
            have HFI : Aside0 (∀ vl' vp' vn', vl' = ptrA ((lv (q ++ [t])).map Prod.fst) → vp' = ptrA (ns.map Prod.fst) → vn' = ptrA (kt.map Prod.fst) → AnyS w sub nd lv p toks np (i + 1) vl' vp' vn' wc) := ⟨fun vl' vp' vn' h1 h3 h2 => HS.out.next HTI.out (by rw [HQ.out]; exact HFF.out) (by rw [HQ.out]; exact HCU.out.2.2) HCU.out.1 HCU.out.2.1 (by rw [HQ.out]; exact h1) (by rw [HQ.out, HNS.out]; exact h3) (by rw [HQ.out, HKT.out]; exact h2)⟩
            clear hB hM hkt hcut d1 d2
            go_upto_region 16 with (fail)
            go_upto_region 17 with (first | (at_lookup; refine wpList_mp_look rfl _ _ rfl rfl HMC.out (by show _ ≤ _; have := HTL.out.2.2; unfold maxLen; omega) rfl ?_; rw [HKG.out]) | fail)
            cases kt with
            | none =>
              simp only [Option.map_none]
              have HLN : Aside0 (lv (q ++ [t]) = none) := ⟨by
                cases hq : lv (q ++ [t]) with
                | none => rfl
                | some z =>
                  obtain ⟨y, hy⟩ := HTC.out.lvnd _ _ (ne_nil _ _) hq
                  rw [HKT.out] at hy
                  cases hy⟩
              go_wp2_with fail
              go_roundg (toks.length - (i + 1))
              case measure => have := HI.out; have := HIK.out; omega
              case rel => exact ⟨i + 1, rfl, ⟨by have := HIK.out; omega⟩, ⟨HFI.out _ _ _ (by rw [HLN.out]; rfl) (by cases ns <;> rfl) rfl⟩⟩
            | some z =>
              simp only [Option.map_some]
              obtain ⟨-, -, hBz, -⟩ := HTC.out.node _ z HKT.out
              have e0 := hBz.cell 0 rfl
              clear hBz
              go_wp2_with fail
              go_roundg (toks.length - (i + 1))
              case measure => have := HI.out; have := HIK.out; omega
              case rel => exact ⟨i + 1, rfl, ⟨by have := HIK.out; omega⟩, ⟨HFI.out _ _ _ rfl (by cases ns <;> rfl) rfl⟩⟩
    · have hie : i = toks.length := by have := HI.out; omega
      subst hie
      have i2 : decide ((toks.length : Int) < (toks.length : Int)) = false := decide_eq_false (by omega)
      rcases Nat.eq_zero_or_pos toks.length with hz | hz
      · obtain ⟨h7, h8⟩ := HS.out.zero hz
        have HF0 : Aside0 (¬ (toks ≠ [] ∧ HitP sub p toks)) := ⟨fun h => h.1 (List.length_eq_zero_iff.1 hz)⟩
        clear hz
        obtain ⟨v7, hv7⟩ : ∃ v7, u7 = v7 := ⟨_, rfl⟩
        obtain ⟨v8, hv8⟩ : ∃ v8, u8 = v8 := ⟨_, rfl⟩
        rw [hv7] at HS h7
        rw [hv8] at HS h8
        rw [hv7, hv8]
        clear hv7 hv8
        subst h7
        subst h8
        go_wp2_with fail
        go_ret
        exact any_false HF0.out HS.out.fr HS.out.np
      · obtain ⟨j, hj⟩ : ∃ j, toks.length = j + 1 := ⟨toks.length - 1, by omega⟩
        obtain ⟨t, ht⟩ : ∃ t, toks[j]? = some t := ⟨_, List.getElem?_eq_getElem (by omega)⟩
        obtain ⟨h7, h8⟩ := HS.out.pos j t hj ht
        obtain ⟨q, hq⟩ : ∃ q, p ++ toks.take j = q := ⟨_, rfl⟩
        have hh : HitP sub p toks ↔ SubAt sub (q ++ [t]) ∨ SubAt sub (q ++ [star]) := by
          rw [HS.out.hit, List.drop_length, hit_nil, hj, path_snoc ht, hq]
          constructor
          · rintro (h | ⟨_, j', h1, h2⟩)
            · exact .inl h
            · obtain rfl : j' = j := by omega
              rw [hq] at h2
              exact .inr h2
          · rintro (h | h)
            · exact .inl h
            · exact .inr ⟨rfl, j, rfl, by rw [hq]; exact h⟩
        have HHH := Aside0.mk (And.intro (show toks ≠ [] from fun e => by rw [e] at hz; simp at hz) hh)
        obtain ⟨nt, hnt⟩ : ∃ nt, nd (q ++ [t]) = nt := ⟨_, rfl⟩
        obtain ⟨ns, hns⟩ : ∃ ns, nd (q ++ [star]) = ns := ⟨_, rfl⟩
        rw [hq, hns] at h7
        have HV7 := Aside0.mk h7
        rw [hq, hnt, ptrA_eq] at h8
        obtain ⟨po, hpo⟩ : ∃ po : Option Addr, (nt.map Prod.fst).map (fun b => (⟨b, 0, none⟩ : Addr)) = po := ⟨_, rfl⟩
        rw [hpo] at h8
        have HPO := Aside0.mk hpo
        have HNT := Aside0.mk hnt
        have HNS := Aside0.mk hns
        have HSF := Aside0.mk HS.out.fr
        have HSN := Aside0.mk HS.out.np
        clear hz hj ht hq hh hnt hns HS h7 hpo
        subst h8
        go_upto_if 72 with (fail)
        go_cut [] from 73 to 90 (fun wc => Aside0 (Fr (fun k => np = some k) wr wc ∧ NpA wc np 0 ∧ ¬ SubAt sub (q ++ [t])))
        case first =>
          cases nt with
          | none =>
            have hv : none = po := HPO.out
            subst hv
            have HG : Aside0 (¬ SubAt sub (q ++ [t])) := ⟨by have := HF.out.gone HTW.out HNT.out (ne_nil _ _) []; rwa [List.append_nil] at this⟩
            go_wp2_with fail
            go_meet
            case rel => exact ⟨Fr.refl _ _, HSN.out, HG.out⟩
          | some y =>
            have hv : some ⟨y.1, 0, none⟩ = po := HPO.out
            subst hv
            obtain ⟨-, -, hBy, hMy⟩ := HTW.out.node _ y HNT.out
            have HMY := Aside0.mk hMy
            have e1 := hBy.cell 1 rfl
            have HNC := Aside0.mk HSN.out
            clear hBy hMy
            go_upto_if 74 with (fail)
            go_cut [] from 75 to 84 (fun wd => Aside0 (Fr (fun k => np = some k) wr wd ∧ ∃ m : Nat, NpA wd np (m : Int) ∧ (m = 0 ↔ ∀ s, sub (q ++ [t]) s = none) ∧ m ≤ K + 1))
            case first =>
              cases np with
              | none =>
                have HCM : Aside0 (∃ m : Nat, (m = 0 ↔ ∀ s, sub (q ++ [t]) s = none) ∧ m ≤ K + 1) := ⟨by
                  by_cases hz : ∀ s, sub (q ++ [t]) s = none
                  · exact ⟨0, ⟨fun _ => hz, fun _ => rfl⟩, by omega⟩
                  · exact ⟨1, ⟨fun h => (by cases h), fun h => (hz h).elim⟩, by omega⟩⟩
                simp only [Option.map_none]
                go_wp2_with fail
                go_meet
                case rel =>
                  obtain ⟨m, h1, h2⟩ := HCM.out
                  exact ⟨Fr.refl _ _, m, (fun b hb => by cases hb), h1, h2⟩
              | some b =>
                have HNB := Aside0.mk (HNC.out b rfl)
                have n0 := HNB.out.cell 0 rfl
                have z0 := HNB.out.free 0
                simp only [Option.map_some]
                go_upto_region 23 with (fail)
                go_region_law (first | (refine step_mp_len rfl _ (by rfl) (by rfl) (by first | exact HMY.out | exact HMY.out.fr (Fr.refl (fun _ => False) _).drew (fun h => h) | exact HMY.out.fr (Fr.refl (fun _ => False) _).drew.drew (fun h => h)) ?_; intro m hm hle; have HM0 := Aside0.mk (And.intro hm hle); clear hm hle))
                all_goals (
                  have HFI := Aside0.mk (any_raise (w := wr) (Fr.refl _ _) HNC.out HM0.out HKK.out)
                  clear n0 z0 e1
                  go_wp2_with fail
                  go_meet
                  case rel => first | exact ⟨HFI.out⟩ | exact ⟨any_raise_drew HFI.out⟩ | exact ⟨any_raise_drew (any_raise_drew HFI.out)⟩)
            case rest =>
              obtain ⟨hf1, m, hm1, hm2, hm3⟩ := hcut.out
              have HCU := Aside0.mk (And.intro hf1 (And.intro hm1 (And.intro hm2 hm3)))
              have HTC : Aside0 (Tri wc B K nd lv sub) := ⟨tri_np HTW.out HSN.out hf1⟩
              obtain ⟨-, -, hBy, hMy⟩ := HTC.out.node _ y HNT.out
              have HMC := Aside0.mk hMy
              replace e1 := hBy.cell 1 rfl
              clear hcut hf1 hm1 hm2 hm3 hBy hMy
              by_cases hs : SubAt sub (q ++ [t])
              · have HHT : Aside0 (toks ≠ [] ∧ HitP sub p toks) := ⟨⟨HHH.out.1, HHH.out.2.2 (.inl hs)⟩⟩
                have HM1 : Aside0 (0 < m) := ⟨Nat.pos_of_ne_zero (fun e => by obtain ⟨v, s, h⟩ := hs; rw [HCU.out.2.2.1.1 e v] at h; cases h)⟩
                have HSS := Aside0.mk hs
                clear hs
                go_wp2_with (first | (at_len; refine wpList_mp_len rfl _ rfl rfl HMC.out ?_; intro m2 hm hle; have p0 : 0 < m2 := Nat.pos_of_ne_zero (fun e => by obtain ⟨v, s, h⟩ := HSS.out; rw [hm.1 e v] at h; cases h); clear hm hle) | fail)
                go_ret
                exact any_true HHT.out (HSF.out.trans HCU.out.1 (fun _ _ h => h)) HCU.out.2.1 HM1.out HCU.out.2.2.2
              · have HZ : Aside0 (∀ s, sub (q ++ [t]) s = none) := ⟨fun v => by
                  cases e : sub (q ++ [t]) v with
                  | none => rfl
                  | some s => exact (hs ⟨v, s, e⟩).elim⟩
                have HSS := Aside0.mk hs
                clear hs
                go_wp2_with (first | (at_len; refine wpList_mp_len rfl _ rfl rfl HMC.out ?_; intro m2 hm hle; obtain rfl : m2 = 0 := hm.2 HZ.out; clear hm hle) | fail)
                go_meet
                case rel => exact ⟨HCU.out.1, (by have := HCU.out.2.2.1.2 HZ.out; subst this; exact HCU.out.2.1), HSS.out⟩
        case rest =>
          have HCV := Aside0.mk hcut.out
          have HTV : Aside0 (Tri wc B K nd lv sub) := ⟨tri_np HTW.out HSN.out HCV.out.1⟩
          have HNC := Aside0.mk HCV.out.2.1
          have HFV : Aside0 (Fr (fun k => np = some k) w wc) := ⟨HSF.out.trans HCV.out.1 (fun _ _ h => h)⟩
          obtain ⟨v7, hv7⟩ : ∃ v7, u7 = v7 := ⟨_, rfl⟩
          rw [hv7] at HV7
          rw [hv7]
          clear hcut hv7
          cases ns with
          | none =>
            have hv : v7 = .pointer none := HV7.out
            subst hv
            have HFA : Aside0 (¬ (toks ≠ [] ∧ HitP sub p toks)) := ⟨fun h => by
              rcases HHH.out.2.1 h.2 with h | h
              · exact HCV.out.2.2 h
              · have := HF.out.gone HTW.out HNS.out (ne_nil _ _) []
                rw [List.append_nil] at this
                exact this h⟩
            go_wp2_with fail
            go_ret
            exact any_false HFA.out HFV.out HNC.out
          | some y =>
            have hv : v7 = .pointer (some ⟨y.1, 0, none⟩) := HV7.out
            subst hv
            obtain ⟨-, -, hBy, hMy⟩ := HTV.out.node _ y HNS.out
            have HMY := Aside0.mk hMy
            have e1 := hBy.cell 1 rfl
            clear hBy hMy
            go_upto_if 94 with (fail)
            go_cut [] from 95 to 104 (fun wd => Aside0 (Fr (fun k => np = some k) wc wd ∧ ∃ m : Nat, NpA wd np (m : Int) ∧ (m = 0 ↔ ∀ s, sub (q ++ [star]) s = none) ∧ m ≤ K + 1))
            case first =>
              cases np with
              | none =>
                have HCM : Aside0 (∃ m : Nat, (m = 0 ↔ ∀ s, sub (q ++ [star]) s = none) ∧ m ≤ K + 1) := ⟨by
                  by_cases hz : ∀ s, sub (q ++ [star]) s = none
                  · exact ⟨0, ⟨fun _ => hz, fun _ => rfl⟩, by omega⟩
                  · exact ⟨1, ⟨fun h => (by cases h), fun h => (hz h).elim⟩, by omega⟩⟩
                simp only [Option.map_none]
                go_wp2_with fail
                go_meet
                case rel =>
                  obtain ⟨m, h1, h2⟩ := HCM.out
                  exact ⟨Fr.refl _ _, m, (fun b hb => by cases hb), h1, h2⟩
              | some b =>
                have HNB := Aside0.mk (HNC.out b rfl)
                have n0 := HNB.out.cell 0 rfl
                have z0 := HNB.out.free 0
                simp only [Option.map_some]
                go_upto_region 28 with (fail)
                go_region_law (first | (refine step_mp_len rfl _ (by rfl) (by rfl) (by first | exact HMY.out | exact HMY.out.fr (Fr.refl (fun _ => False) _).drew (fun h => h) | exact HMY.out.fr (Fr.refl (fun _ => False) _).drew.drew (fun h => h)) ?_; intro m hm hle; have HM0 := Aside0.mk (And.intro hm hle); clear hm hle))
                all_goals (
                  have HFI := Aside0.mk (any_raise (w := wc) (Fr.refl _ _) HNC.out HM0.out HKK.out)
                  clear n0 z0 e1
                  go_wp2_with fail
                  go_meet
                  case rel => first | exact ⟨HFI.out⟩ | exact ⟨any_raise_drew HFI.out⟩ | exact ⟨any_raise_drew (any_raise_drew HFI.out)⟩)
            case rest =>
              obtain ⟨hf1, m, hm1, hm2, hm3⟩ := hcut.out
              have HCU := Aside0.mk (And.intro hf1 (And.intro hm1 (And.intro hm2 hm3)))
              have HTC : Aside0 (Tri wc B K nd lv sub) := ⟨tri_np HTV.out HNC.out hf1⟩
              obtain ⟨-, -, hBy, hMy⟩ := HTC.out.node _ y HNS.out
              have HMC := Aside0.mk hMy
              replace e1 := hBy.cell 1 rfl
              clear hcut hf1 hm1 hm2 hm3 hBy hMy
              by_cases hs : SubAt sub (q ++ [star])
              · have HHT : Aside0 (toks ≠ [] ∧ HitP sub p toks) := ⟨⟨HHH.out.1, HHH.out.2.2 (.inr hs)⟩⟩
                have HM1 : Aside0 (0 < m) := ⟨Nat.pos_of_ne_zero (fun e => by obtain ⟨v, s, h⟩ := hs; rw [HCU.out.2.2.1.1 e v] at h; cases h)⟩
                have HSS := Aside0.mk hs
                clear hs
                go_wp2_with (first | (at_len; refine wpList_mp_len rfl _ rfl rfl HMC.out ?_; intro m2 hm hle; have p0 : 0 < m2 := Nat.pos_of_ne_zero (fun e => by obtain ⟨v, s, h⟩ := HSS.out; rw [hm.1 e v] at h; cases h); clear hm hle) | fail)
                go_ret
                exact any_true HHT.out (HFV.out.trans HCU.out.1 (fun _ _ h => h)) HCU.out.2.1 HM1.out HCU.out.2.2.2
              · have HZ : Aside0 (∀ s, sub (q ++ [star]) s = none) := ⟨fun v => by
                  cases e : sub (q ++ [star]) v with
                  | none => rfl
                  | some s => exact (hs ⟨v, s, e⟩).elim⟩
                have HFA : Aside0 (¬ (toks ≠ [] ∧ HitP sub p toks)) := ⟨fun h => by
                  rcases HHH.out.2.1 h.2 with h | h
                  · exact HCV.out.2.2 h
                  · exact hs h⟩
                clear hs
                go_wp2_with (first | (at_len; refine wpList_mp_len rfl _ rfl rfl HMC.out ?_; intro m2 hm hle; obtain rfl : m2 = 0 := hm.2 HZ.out; clear hm hle) | fail)
                go_ret
                exact any_false HFA.out (HFV.out.trans HCU.out.1 (fun _ _ h => h)) (by have := HCU.out.2.2.1.2 HZ.out; subst this; exact HCU.out.2.1)
end
end Go.Proofs.YtimffhpnfdikoaaDoor.Ls
namespace Go.Proofs.YtimffhpnfdikoaaDoor.Ls
open Go.RowKit Go.Maps Go.Proofs.YtimffhpnfdikoaaDoor.Pl Go.Proofs.YtimffhpnfdikoaaDoor.Bs Go.Proofs.YtimffhpnfdikoaaDoorW.PrintWords Go.Proofs.YtimffhpnfdikoaaDoorW.PrintLast Go.Proofs.YtimffhpnfdikoaaDoorW.PrintMore Go.Proofs.YtimffhpnfdikoaaDoor.GFnListKinds Go.Proofs.YtimffhpnfdikoaaDoor.PlFnListKinds
set_option linter.unusedVariables false
set_option linter.unusedSimpArgs false
/-- A subject on its way apart: 'out' are behind, the next token begins at a, n bytes are read. -/
def TkS (s : ByteArray) (a n : Nat) (out : Path) : Prop := ∃ pre p rest : List UInt8, s = ba (pre ++ p ++ rest) ∧ a = pre.length ∧ n = pre.length + p.length ∧ tk s = out ++ (toksA p rest).map ba
theorem TkS.start (s : ByteArray) : TkS s 0 0 [] := ⟨[], [], s.data.toList, rfl, rfl, rfl, rfl⟩
theorem TkS.le {s : ByteArray} {a n : Nat} {out : Path} (h : TkS s a n out) : a ≤ n ∧ n ≤ s.size := by
  obtain ⟨pre, p, rest, h1, h2, h3, h4⟩ := h
  have : s.size = pre.length + p.length + rest.length := by rw [h1, ba_size]; simp; omega
  omega
theorem TkS.outl {s : ByteArray} {a n : Nat} {out : Path} (h : TkS s a n out) : out.length + 1 ≤ (tk s).length := by
  obtain ⟨pre, p, rest, h1, h2, h3, h4⟩ := h
  rw [h4, List.length_append, List.length_map, toksA_len]
  omega
theorem TkS.dot {s : ByteArray} {a n : Nat} {out : Path} (h : TkS s a n out) (hn : n < s.size) (hb : bt s (n : Int) = 46) (he : ∀ t ∈ tk s, t.size ≠ 0) : a < n ∧ TkS s (n + 1) (n + 1) (out ++ [s.extract a n]) := by
  obtain ⟨pre, p, rest, h1, h2, h3, h4⟩ := h
  cases rest with
  | nil => rw [h1, ba_size] at hn; simp at hn; omega
  | cons c rest =>
    have hc : bt s (n : Int) = (c.toNat : Int) := bt_mid (pre ++ p) c rest h1 (by simp; omega)
    rw [hc] at hb
    have hc6 : c = 46 := (toNat_eq (n := 46) (by omega)).1 hb
    subst hc6
    have hx : s.extract a n = ba p := by
      have := ext_mid (s := s) (a := (a : Int)) (b := (n : Int)) pre p (46 :: rest) h1 (by omega) (by omega)
      simpa using this
    rw [toksA_dot] at h4
    have hp : p ≠ [] := fun e => he (ba p) (by rw [h4]; simp) (by rw [e]; rfl)
    have hl : 0 < p.length := List.length_pos_iff.2 hp
    refine ⟨by omega, pre ++ p ++ [46], [], rest, by rw [h1]; simp, by simp; omega, by simp; omega, ?_⟩
    rw [h4, hx]
    simp
theorem TkS.other {s : ByteArray} {a n : Nat} {out : Path} (h : TkS s a n out) (hn : n < s.size) (hb : bt s (n : Int) ≠ 46) : TkS s a (n + 1) out := by
  obtain ⟨pre, p, rest, h1, h2, h3, h4⟩ := h
  cases rest with
  | nil => rw [h1, ba_size] at hn; simp at hn; omega
  | cons c rest =>
    have hc : bt s (n : Int) = (c.toNat : Int) := bt_mid (pre ++ p) c rest h1 (by simp; omega)
    have hc6 : c ≠ 46 := fun e => hb (by rw [hc, e]; rfl)
    refine ⟨pre, p ++ [c], rest, by rw [h1]; simp, h2, by simp; omega, ?_⟩
    rw [h4, toksA_other _ hc6]
theorem TkS.done {s : ByteArray} {a : Nat} {out : Path} (h : TkS s a s.size out) (he : ∀ t ∈ tk s, t.size ≠ 0) : a < s.size ∧ tk s = out ++ [s.extract a s.size] := by
  obtain ⟨pre, p, rest, h1, h2, h3, h4⟩ := h
  have hz : s.size = pre.length + p.length + rest.length := by rw [h1, ba_size]; simp; omega
  have hr : rest = [] := List.length_eq_zero_iff.1 (by omega)
  subst hr
  have hx : s.extract a s.size = ba p := by
    have := ext_end (s := s) (a := (a : Int)) pre p (by rw [h1, List.append_nil]) (by omega)
    simpa using this
  have h5 : tk s = out ++ [ba p] := h4
  have hp : p ≠ [] := fun e => he (ba p) (by rw [h5]; simp) (by rw [e]; rfl)
  have hl : 0 < p.length := List.length_pos_iff.2 hp
  exact ⟨by omega, by rw [h5, hx]⟩
abbrev S9 : TypeId → Prop := fun T => T = 106 ∨ T = 9
theorem info9b : (Tryd.prog.info? 9).map (fun i => (i.zero, i.size, i.bytes)) = some (some (.string .empty), 1, 16) := by kernel_rfl
theorem ek9 : ∃ i, ElemK Tryd.prog 51 9 i (.string .empty) 1 16 := elem_of Tryd.underlying51 info9b (by decide) (by decide) (by decide)
theorem lits_z106 : (Array.replicate 32 (Value.string .empty)).size = 32 := by simp
/-- What a question for interest answers. -/
structure HasPost (w : World) (B K : Nat) (sub : Path → Int → Option ByteArray) (s : ByteArray) (np : Option Nat) (e : Ending) (w' : World) : Prop where
  out : ∃ b : Bool, e = .returned (.bool b) ∧ (b = true ↔ HitP sub [] (tk s)) ∧ ∃ c : Nat, NpA w' np (c : Int) ∧ (b = false → c = 0) ∧ (b = true → 0 < c) ∧ c ≤ K + 1
  fr : Fr (fun k => B ≤ k) w w'
/-- A literal subject's tokens. -/
structure Lits (s : ByteArray) : Prop where
  size : s.size ≤ 900
  all : ∀ t ∈ tk s, t ≠ star ∧ t ≠ full ∧ t.size ≠ 0
section
set_option maxHeartbeats 16000000
set_option maxRecDepth 100000
theorem has_calls {w : World} {B L K : Nat} {sub : Path → Int → Option ByteArray} {ex : Prop} {cnt : Int} {s : ByteArray} {np : Option Nat} (h : Li w B L K sub ex cnt) (hex : ex) (hok : ∀ q v t, sub q v = some t → okF false q = true) (hs : Lits s) (hnp : NpA w np 0) (hnB : ∀ k, np = some k → B ≤ k) (hK : K < 1000000) :
    Calls Tryd.prog 55 #[.pointer (some ⟨L, 0, none⟩), .string s, .bool true, ptrA np] w (HasPost w B K sub s np) := by
  obtain ⟨nd, lv, hX⟩ := h
  obtain ⟨i9, hE9⟩ := ek9
  have HE := Aside0.mk hE9
  have HFN : Aside0 (Fine nd sub) := ⟨⟨hX.out, hX.live hex, hok⟩⟩
  have HX := Aside0.mk hX
  obtain ⟨xr, hxr, hh⟩ := hX.head
  have HR := Aside0.mk hxr
  have HH := Aside0.mk hh
  have HS := Aside0.mk hs
  have HNP := Aside0.mk hnp
  have HNB := Aside0.mk hnB
  have HK := Aside0.mk hK
  have hz : s.size ≤ 900 := hs.size
  rw [ptrA_eq]
  clear hX hE9 hxr hh hs hnp hnB hK hok hex
  go_enter_defers Tryd.func55, Tryd.ntmps55
  go_upto_region 1 with (fail)
  refine wp_region_lit ?_
  refine Wk.arrL_ (Array.replicate 32 (.string .empty)) (T := 106) (N1 := 13) (N2 := 9) rfl rfl rfl rfl rfl rfl (fun _ _ => by kernel_rfl) (fun _ _ => by kernel_rfl) rfl (by kernel_rfl) (by simp [Value.oneCell']) rfl rfl ?_
  intro w2 cur hB2 hblk hcur hsz
  simp only [Act.put, List.setIfInBounds_toArray, List.set_cons_zero, List.set_cons_succ]
  generalize Value.agg (Array.replicate 32 (.string .empty)) = v13
  have hsh : w2.shape? w.heap.size = some (106, 32) := Wk.shape_of hblk (by rw [← Array.length_toList, hcur]; simp)
  have HA0 : Aside0 (AG S9 w2 w.heap.size 1 (.slice (some ⟨w.heap.size, 0, none⟩) 0 32) 0 [] ∧ Same w w2) := ⟨AG.made hblk (.inl rfl) (Nat.le_refl _) (by rw [← Array.length_toList, hcur]; simp) (by decide), fr_of_below hB2⟩
  clear hB2 hblk hcur hsz
  obtain ⟨P0, hP0⟩ : ∃ P0, P0 = w.heap.size := ⟨_, rfl⟩
  rw [← hP0] at HA0 hsh ⊢
  have HP0 := Aside0.mk hP0
  clear hP0
  go_wp2_with fail
  go_loopg [10, 11, 12] s.size (fun kq v10 v11 v12 wr => ∃ (a n : Nat) (out : Path), v11 = .int .i64 (a : Int) ∧ v12 = .int .i64 (n : Int) ∧ Aside0 (kq + n = s.size) ∧ Aside0 (TkS s a n out) ∧ Aside0 (AG S9 wr P0 1 v10 out.length (out.map Value.string)) ∧ Aside0 (Same w wr))
  case atStart => exact ⟨0, 0, [], rfl, rfl, ⟨by omega⟩, ⟨TkS.start s⟩, ⟨HA0.out.1⟩, ⟨HA0.out.2⟩⟩
  case round =>
    obtain ⟨a, n, out, rfl, rfl, HI, HT, HA, HW⟩ := hrel
    have HLE := Aside0.mk HT.out.le
    have HOL : Aside0 (out.length ≤ 2000) := ⟨by have := HT.out.outl; have := tk_len s; omega⟩
    have HPW : Aside0 (P0 ≤ wr.heap.size) := ⟨by rw [HP0.out]; exact HW.out.size⟩
    obtain ⟨g, cap, cur, T', hvv, -, -, hgb, -, -⟩ := HA.out.block
    obtain ⟨v10, hv10⟩ : ∃ v10, u10 = v10 := ⟨_, rfl⟩
    rw [hv10] at HA hvv
    rw [hv10]
    subst hvv
    have HGB := Aside0.mk hgb
    clear hv10 u10 hgb
    by_cases hlt : n < s.size
    · have n0 : (0 : Int) ≤ (n : Int) := by omega
      have n1 : (n : Int) < (s.size : Int) := by omega
      have n2 : decide ((n : Int) < (s.size : Int)) = true := decide_eq_true n1
      have n3 : IntKind.i64.wrap ((n : Int) + 1) = (n : Int) + 1 := by rw [IntKind.wrap_i64]; omega
      have hx : ((s[n]'hlt).toNat : Int) = bt s (n : Int) := bt_at s (n : Int) hlt
      have HLT := Aside0.mk hlt
      replace n0 := eq_true n0
      replace n1 := eq_true n1
      by_cases h46 : bt s (n : Int) = 46
      · have e46 : (((s[n]'hlt).toNat : Int) == 46) = true := by rw [hx, h46]; rfl
        obtain ⟨h1, h2⟩ := HT.out.dot hlt h46 (fun t ht => (HS.out.all t ht).2.2)
        have HT2 := Aside0.mk h2
        have w1 : IntKind.i64.wrap ((n : Int) - (a : Int)) = (n : Int) - (a : Int) := by rw [IntKind.wrap_i64]; omega
        have w3 : (((n : Int) - (a : Int)) == 0) = false := by rw [beq_eq_false_iff_ne]; omega
        have a0 : (0 : Int) ≤ (a : Int) := by omega
        have a1 : (a : Int) ≤ (n : Int) := by omega
        have a2 : (n : Int) ≤ (s.size : Int) := by omega
        have HRN : Aside0 (ReadG (wr.alloc (.cells #[.string (s.extract a n)] 9)) (some ⟨wr.heap.size, 0, none⟩) 1 1 [.string (s.extract a n)]) := ⟨read_newG (us := [.string (s.extract a n)]) (by rfl) (by intro u hu; simp only [List.mem_cons, List.not_mem_nil, or_false] at hu; rcases hu with rfl; rfl)⟩
        have w2 : wrap64 ((n : Int) - (a : Int)) = (n : Int) - (a : Int) := Pl.w64 (by omega) (by omega)
        clear h46 h1 h2 hx
        go_upto_region 10 with (fail)
        go_upto_region 11 with (first | (at_builtin; refine AG.append HE.out rfl (.tmp 29) (.tmp 34) rfl (.inr rfl) (v := .slice (some ⟨g, 0, none⟩) out.length cap) rfl (HA.out.alloc _) (by have := HPW.out; simp; omega) rfl HRN.out (by decide) (by have := HOL.out; omega) ?_; intro v' w5 hp5; have HP5 := Aside0.mk hp5; clear hp5) | fail)
        have HW5 : Aside0 (Same w w5) := ⟨(HW.out.alloc _).trans HP5.out.fr (fun k hk e => by
          have : g = k := by simpa [Value.ownBlock] using e
          have := HGB.out
          have := HP0.out
          omega)⟩
        go_wp2_with fail
        go_roundg (s.size - (n + 1))
        case measure => have := HI.out; have := HLT.out; omega
        case rel => exact ⟨n + 1, n + 1, out ++ [s.extract a n], rfl, rfl, ⟨by have := HLT.out; omega⟩, HT2, ⟨by have := HP5.out.row; simpa using this⟩, HW5⟩
      · have e46 : (((s[n]'hlt).toNat : Int) == 46) = false := by rw [beq_eq_false_iff_ne, hx]; exact h46
        have HT2 := Aside0.mk (HT.out.other hlt h46)
        clear h46 hx
        go_wp2_with fail
        go_roundg (s.size - (n + 1))
        case measure => have := HI.out; have := HLT.out; omega
        case rel => exact ⟨a, n + 1, out, rfl, rfl, ⟨by have := HLT.out; omega⟩, HT2, HA, HW⟩
    · have hie : n = s.size := by have := HI.out; omega
      subst hie
      have n2 : decide ((s.size : Int) < (s.size : Int)) = false := decide_eq_false (by omega)
      obtain ⟨h1, h2⟩ := HT.out.done (fun t ht => (HS.out.all t ht).2.2)
      have HTK := Aside0.mk h2
      have a3 : decide ((a : Int) ≥ (s.size : Int)) = false := decide_eq_false (by omega)
      have a0 : (0 : Int) ≤ (a : Int) := by omega
      have a1 : (a : Int) ≤ (s.size : Int) := by omega
      have HRN : Aside0 (ReadG (wr.alloc (.cells #[.string (s.extract a s.size)] 9)) (some ⟨wr.heap.size, 0, none⟩) 1 1 [.string (s.extract a s.size)]) := ⟨read_newG (us := [.string (s.extract a s.size)]) (by rfl) (by intro u hu; simp only [List.mem_cons, List.not_mem_nil, or_false] at hu; rcases hu with rfl; rfl)⟩
      have a4 : ¬ s.size ≤ a := by omega
      clear h1 h2 hlt
      go_upto_region 14 with (fail)
      go_upto_region 15 with (first | (at_builtin; refine AG.append HE.out rfl (.tmp 42) (.tmp 46) rfl (.inr rfl) (v := .slice (some ⟨g, 0, none⟩) out.length cap) rfl (HA.out.alloc _) (by have := HPW.out; simp; omega) rfl HRN.out (by decide) (by have := HOL.out; omega) ?_; intro v' w5 hp5; have HP5 := Aside0.mk hp5; clear hp5) | fail)
      obtain ⟨g5, cap5, cur5, T5, rfl, hn5, hm5, hgb5, -, -⟩ := HP5.out.row.block
      have hrow : AG S9 w5 P0 1 (.slice (some ⟨g5, 0, none⟩) (tk s).length cap5) (tk s).length ((tk s).map Value.string) := by
        have := HP5.out.row
        rw [HTK.out, List.map_append, List.length_append]
        exact this
      have HROW := Aside0.mk hrow
      have HCAP : Aside0 ((tk s).length ≤ cap5) := ⟨by rw [HTK.out, List.length_append]; exact hn5⟩
      have HLN : Aside0 ((tk s).length = out.length + 1) := ⟨by rw [HTK.out, List.length_append]; rfl⟩
      have HG5 := Aside0.mk hgb5
      have HW5 : Aside0 (Same w w5) := ⟨(HW.out.alloc _).trans HP5.out.fr (fun k hk e => by
        have : g = k := by simpa [Value.ownBlock] using e
        have := HGB.out
        have := HP0.out
        omega)⟩
      have HH5 : Aside0 (Blk w5 L 81 (hdr 0 0 (.pointer (some ⟨xr.1, 0, none⟩)) cnt)) := ⟨HH.out.fr HW5.out (fun h => h)⟩
      rw [← HLN.out]
      clear hrow hn5 hm5 hgb5 a0 a1 a3 a4 n2
      go_wp2_with fail
      refine (rlock_L HH5.out).mono ?_
      rintro e w6 ⟨rfl, hb6, hf6⟩
      have HB6 := Aside0.mk hb6
      have HF6 := Aside0.mk hf6
      have c6 := hb6.cell 6 rfl
      have HX6 : Aside0 (Lx w6 B L K sub (fun _ => False) ex 0 1 cnt nd lv) := ⟨(HX.out.fr HW5.out (fun _ _ h => h)).turn (fun x hx => by rw [HR.out] at hx; injection hx with hx; subst hx; exact hb6) hf6⟩
      have HN6 : Aside0 (NpA w6 np 0) := ⟨fun k hk => by
        have h5 := (HNP.out k hk).fr HW5.out (fun h => h)
        exact h5.fr hf6 (blk_ne h5 HH5.out (by decide))⟩
      have HGN : Aside0 (np ≠ some g5) := ⟨fun e => by
        have hb := (HNP.out g5 e).blk
        have := (Array.getElem?_eq_some_iff.1 hb).1
        have := HG5.out
        have := HP0.out
        omega⟩
      have HANY := any_calls (tk s).length (w := w6) (p := []) (np := np) (g := g5) (o := 0) (c := cap5) rfl HX6.out.tri HFN.out (fun j t ht => by
        rw [Nat.zero_add]
        have hj := (List.getElem?_eq_some_iff.1 ht).1
        have hr := HROW.out.fr hf6 (fun k hk e => by
          have hgk : g5 = k := by simpa [Value.ownBlock] using hk
          subst hgk
          obtain ⟨g', cap', cur', T', e', q1, q2, q3, q4, q5⟩ := HROW.out.block
          injection e' with e1 _ _
          injection e1 with e1
          injection e1 with e1 _
          subst e1
          rw [e] at q5
          have := q5.symm.trans HH5.out.blk
          injection this with this
          injection this with _ this _
          subst this
          rcases q4 with q4 | q4 <;> exact absurd q4 (by decide))
        rw [hr.cell (by rw [List.length_map]; exact hj)]
        exact strs_get ht) HCAP.out (by have := tk_len s; omega) HGN.out (fun t ht => ⟨(HS.out.all t ht).1, (HS.out.all t ht).2.1, by have := tk_short s t ht; omega⟩) HN6.out HK.out
      rw [HR.out, ptrA_eq np] at HANY
      have HAN := Aside0.mk HANY
      clear hb6 hf6 HANY
      go_wp2_with fail
      refine HAN.out.mono ?_
      rintro e w7 ⟨⟨b, rfl, hb, c', hn', hb0, hb1, hle⟩, hf⟩
      have HB7 : Aside0 (Blk w7 L 81 (hdr 0 1 (.pointer (some ⟨xr.1, 0, none⟩)) cnt)) := ⟨HB6.out.fr hf (fun e => blk_ne HB6.out (HN6.out L e) (by decide) rfl)⟩
      have H7 := Aside0.mk (And.intro hb (And.intro hn' (And.intro hb0 (And.intro hb1 (And.intro hle hf)))))
      clear hb hn' hb0 hb1 hle hf HAN c6
      go_wp2_with fail
      refine leaves_cons (f := 52) (args := #[.pointer (some ⟨L, 0, none⟩)]) (by simp) (by simp [go_sem]) ?_
      refine (runlock_D HB7.out .returning).mono ?_
      rintro e u' w8 ⟨rfl, rfl, hb8, hf8⟩
      refine ⟨_, results_tmp rfl _ _ _, ?_⟩
      refine ⟨⟨b, rfl, ⟨fun e => (H7.out.1.1 e).2, fun e => H7.out.1.2 ⟨tk_ne s, e⟩⟩, c', fun k hk => ?_, H7.out.2.2.1, H7.out.2.2.2.1, H7.out.2.2.2.2.1⟩, ?_⟩
      · have := H7.out.2.1 k hk
        exact this.fr hf8 (blk_ne this HB7.out (by decide))
      · have hLB : B ≤ L := HX6.out.base
        exact (((HW5.out.mono (G := fun k => B ≤ k) (fun _ h => h.elim)).trans HF6.out (fun k _ e => by subst e; exact hLB)).trans H7.out.2.2.2.2.2 (fun k _ e => HNB.out k e)).trans hf8 (fun k _ e => by subst e; exact hLB)
/-- HasInterest. -/
theorem hasInterest_calls {w : World} {B L K : Nat} {sub : Path → Int → Option ByteArray} {ex : Prop} {cnt : Int} {s : ByteArray} (h : Li w B L K sub ex cnt) (hex : ex) (hok : ∀ q v t, sub q v = some t → okF false q = true) (hs : Lits s) (hK : K < 1000000) :
    Calls Tryd.prog 40 #[.pointer (some ⟨L, 0, none⟩), .string s] w (HasPost w B K sub s none) := by
  have HC := Aside0.mk (has_calls (np := none) h hex hok hs (fun b hb => by cases hb) (fun k hk => by cases hk) hK)
  clear h hex hok hs hK
  go_enter Tryd.func40, Tryd.ntmps40
  go_wp2_with fail
  refine HC.out.mono ?_
  rintro e w1 ⟨⟨b, rfl, hb⟩, hf⟩
  have HP : Aside0 (HasPost w B K sub s none (.returned (.bool b)) w1) := ⟨⟨b, rfl, hb⟩, hf⟩
  clear hb hf
  go_wp2_with fail
  go_ret
  exact HP.out
structure NumPost2 (w : World) (B K : Nat) (sub : Path → Int → Option ByteArray) (s : ByteArray) (e : Ending) (w' : World) : Prop where
  out : ∃ c : Nat, e = .returned (.int .i64 (c : Int)) ∧ (0 < c ↔ HitP sub [] (tk s)) ∧ c ≤ K + 1
  fr : Fr (fun k => B ≤ k) w w'
theorem num_calls {w : World} {B L K : Nat} {sub : Path → Int → Option ByteArray} {ex : Prop} {cnt : Int} {s : ByteArray} (h : Li w B L K sub ex cnt) (hex : ex) (hok : ∀ q v t, sub q v = some t → okF false q = true) (hs : Lits s) (hK : K < 1000000) :
    Calls Tryd.prog 41 #[.pointer (some ⟨L, 0, none⟩), .string s] w (NumPost2 w B K sub s) := by
  have hsz : B ≤ w.heap.size := by
    obtain ⟨nd, lv, hX⟩ := h
    exact hX.size
  have HC := Aside0.mk (has_calls (w := w.alloc (.cells #[.int .i64 0] 3)) (np := some w.heap.size) (Li.fr h ((Fr.refl (fun _ => False) w).alloc _) (fun _ _ h => h)) hex hok hs (fun b hb => by injection hb with hb; subst hb; exact Blk.new w 3 [.int .i64 0]) (fun k hk => by injection hk with hk; omega) hK)
  have HZ := Aside0.mk hsz
  clear h hex hok hs hK hsz
  go_enter Tryd.func41, Tryd.ntmps41
  go_wp2_with fail
  refine HC.out.mono ?_
  rintro e w1 ⟨⟨b, rfl, hb, c, hn, h0, h1, hle⟩, hf⟩
  have hc := (hn w.heap.size rfl).cell 0 rfl
  have HP : Aside0 (NumPost2 w B K sub s (.returned (.int .i64 (c : Int))) w1) := ⟨⟨c, rfl, ⟨fun e => hb.1 (by cases b with | true => rfl | false => have := h0 rfl; omega), fun e => h1 (hb.2 e)⟩, hle⟩, ((Fr.refl (fun k => B ≤ k) w).alloc _).trans hf (fun _ _ h => h)⟩
  clear hb hn h0 h1 hle hf HC
  go_wp2_with fail
  refine bodyPost_ret (v := .int .i64 (c : Int)) ?_ rfl HP.out
  have hr : Tryd.f41.results = #[.cell 4 3] := rfl
  simp only [results, hr]
  go_simp
end
end Go.Proofs.YtimffhpnfdikoaaDoor.Ls
