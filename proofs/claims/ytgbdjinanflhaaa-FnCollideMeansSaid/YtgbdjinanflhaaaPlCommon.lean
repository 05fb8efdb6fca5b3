/- What the printed functions of FnCollideMeans come to, as plain functions on lists. -/
import Derived.Test.YtgbdjinanflhaaaPlTok
import Derived.Test.YtgbdjinanflhaaaGFnCollideMeansx7
import Derived.Test.YtgbdjinanflhaaaGFnCollideMeansx8
import Derived.Test.YtgbdjinanflhaaaGFnCollideMeansx9
import Derived.Test.YtgbdjinanflhaaaGFnCollideMeansx10
import Derived.Test.YtgbdjinanflhaaaPlCollide
import Derived.Test.YtgbdjinanflhaaaPlPublish
namespace Go.Proofs.Ytgbdjinanflhaaa.PlFnCollideMeans
open Go.RowKit Go.Proofs.YtgbdjinanflhaaaW.PrintWords Go.Proofs.YtgbdjinanflhaaaW.PrintLast Go.Proofs.YtgbdjinanflhaaaW.PrintMore Go.Proofs.Ytgbdjinanflhaaa.Pl Go.Proofs.Ytgbdjinanflhaaa.GFnCollideMeans
set_option linter.unusedVariables false
set_option linter.unusedSimpArgs false

/-- Tokens with points between, behind a begin. -/
def jn : List UInt8 → List (List UInt8) → List UInt8
  | acc, [] => acc
  | acc, t :: r => jn (acc ++ 46 :: t) r
def join : List (List UInt8) → List UInt8
  | [] => []
  | t :: r => jn t r
theorem jn_le : ∀ (r : List (List UInt8)) (acc : List UInt8), acc.length ≤ (jn acc r).length
  | [], acc => Nat.le_refl _
  | t :: r, acc => by have := jn_le r (acc ++ 46 :: t); simp only [List.length_append, List.length_cons] at this; rw [jn]; omega
theorem jn_len (n : Nat) : ∀ (r : List (List UInt8)) (acc : List UInt8), (∀ t ∈ r, t.length ≤ n) → (jn acc r).length ≤ acc.length + (n + 1) * r.length
  | [], acc, _ => by simp [jn]
  | t :: r, acc, h => by
    have := jn_len n r (acc ++ 46 :: t) (fun t q => h t (List.mem_cons_of_mem _ q))
    have ht := h t List.mem_cons_self
    rw [jn, List.length_cons, Nat.mul_add]
    simp only [List.length_append, List.length_cons] at this
    omega
theorem toks_jn : ∀ (r : List (List UInt8)) (acc : List UInt8), (∀ t ∈ r, (46 : UInt8) ∉ t) → toks (jn acc r) = toks acc ++ r
  | [], acc, _ => by simp [jn]
  | t :: r, acc, h => by
    rw [jn, toks_jn r _ (fun t q => h t (List.mem_cons_of_mem _ q)), toks, toksA_app, toks, toksA_plain [] t (h t List.mem_cons_self)]
    simp [toks]
theorem toks_join (C : List (List UInt8)) (h0 : C ≠ []) (h : ∀ t ∈ C, (46 : UInt8) ∉ t) : toks (join C) = C := by
  rcases C with _ | ⟨t, r⟩
  · exact absurd rfl h0
  · rw [join, toks_jn r t (fun t q => h t (List.mem_cons_of_mem _ q)), toks, toksA_plain [] t (h t List.mem_cons_self)]; simp
theorem Join_l0 (L : List (List UInt8)) (hL : L.length ≤ 140737488351232) : ∀ (rest pre : List (List UInt8)) (acc : List UInt8) (i : Int), L = pre ++ rest → i = (pre.length : Int) → 0 < pre.length → (jn acc rest).length ≤ 9223372036854775807 →
    Ev (fun k => spec_Join.l0 k (L.map ba) (ba acc) i) (ba (jn acc rest)) := by
  intro rest
  induction rest with
  | nil =>
    intro pre acc i h hi _ _
    have hz : ((L.map ba).length : Int) = pre.length := by rw [h]; simp
    refine Ev.step (fun k => by rw [spec_Join.l0, if_neg (by omega)]) ?_
    exact Ev.now _
  | cons c rest ih =>
    intro pre acc i h hi hp hn
    have hz : ((L.map ba).length : Int) = pre.length + rest.length + 1 := by rw [h]; simp; omega
    have hz2 : (L.length : Int) = pre.length + rest.length + 1 := by rw [h]; simp; omega
    have hb : rdOf ByteArray.empty (L.map ba) i = ba c := rdOf_mid _ (pre.map ba) (ba c) (rest.map ba) (by rw [h]; simp) (by simp; omega)
    have hw : wrap64 (i + 1) = i + 1 := w64 (by omega) (by omega)
    have hle := jn_le rest (acc ++ 46 :: c)
    rw [jn] at hn
    simp only [List.length_append, List.length_cons] at hle
    have IH := ih (pre ++ [c]) (acc ++ 46 :: c) (i + 1) (by rw [h]; simp) (by simp; omega) (by simp) hn
    have e46 : (⟨#[46]⟩ : ByteArray) = ba [46] := rfl
    refine Ev.step (fun k => by rw [spec_Join.l0, if_pos (by omega), if_pos (by omega), if_pos (by rw [ba_size]; omega), if_pos (by omega), hb, e46, ba_append, if_pos (by rw [ba_size, ba_size]; simp; omega), ba_append, hw]) ?_
    refine Ev.det' (Ev.congr (fun k => by rw [show acc ++ [46] ++ c = acc ++ 46 :: c from by simp]) IH) rfl
theorem Join_ev (L : List (List UInt8)) (hL : L.length ≤ 140737488351232) (h : (join L).length ≤ 9223372036854775807) : Ev (fun k => spec_Join.f k (L.map ba)) (ba (join L)) := by
  rcases L with _ | ⟨c, rest⟩
  · refine Ev.congr (fun k => by rw [spec_Join.f]) ?_
    refine Ev.step (fun k => by rw [spec_Join.l0, if_neg (by simp)]) ?_
    exact Ev.now _
  · refine Ev.congr (fun k => by rw [spec_Join.f]) ?_
    have hb : rdOf ByteArray.empty ((c :: rest).map ba) 0 = ba c := rdOf_mid _ [] (ba c) (rest.map ba) (by simp) rfl
    have hw : wrap64 (0 + 1) = 0 + 1 := w64 (by omega) (by omega)
    have e0 : (⟨#[]⟩ : ByteArray) = ba [] := rfl
    rw [join] at h
    have hle := jn_le rest c
    refine Ev.step (fun k => by rw [spec_Join.l0, if_pos (by simp <;> omega), if_neg (by omega), if_pos (by omega), hb, e0, ba_append, if_pos (by rw [ba_size, ba_size]; simp; omega), hw]) ?_
    exact Join_l0 (c :: rest) hL rest [c] ([] ++ c) (0 + 1) rfl rfl (by simp) h
def cmT (s t : List UInt8) : List UInt8 := if s = [62] ∨ s = [42] then (if t = [62] ∨ t = [42] then [119] else t) else s
def comT : List (List UInt8) → List (List UInt8) → List (List UInt8)
  | [], b => b.map (cmT [62])
  | x :: a, [] => (x :: a).map fun x => cmT x [62]
  | x :: a, y :: b => cmT x y :: comT a b
theorem comT_nil (a : List (List UInt8)) : comT a [] = a.map fun x => cmT x [62] := by cases a <;> rfl
theorem comT_step (a b : List (List UInt8)) (h : a ≠ [] ∨ b ≠ []) : comT a b = cmT (a.headD [62]) (b.headD [62]) :: comT a.tail b.tail := by
  rcases a with _ | ⟨x, a⟩
  · rcases b with _ | ⟨y, b⟩
    · exact absurd h (by simp)
    · simp [comT]
  · rcases b with _ | ⟨y, b⟩
    · simp [comT, comT_nil]
    · simp [comT]
theorem comT_len : ∀ a b, (comT a b).length = max a.length b.length
  | [], b => by simp [comT]
  | x :: a, [] => by simp [comT]
  | x :: a, y :: b => by simp [comT, comT_len a b] <;> omega
theorem comT_all {P : List UInt8 → Prop} (hw : P [119]) : ∀ a b, (∀ t ∈ a, t = [62] ∨ t = [42] ∨ P t) → (∀ t ∈ b, t = [62] ∨ t = [42] ∨ P t) → ∀ t ∈ comT a b, P t := by
  have hf : ∀ x y, (x = [62] ∨ x = [42] ∨ P x) → (y = [62] ∨ y = [42] ∨ P y) → P (cmT x y) := by
    intro x y hx hy
    unfold cmT
    by_cases h1 : x = [62] ∨ x = [42]
    · rw [if_pos h1]
      by_cases h2 : y = [62] ∨ y = [42]
      · rw [if_pos h2]; exact hw
      · rw [if_neg h2]
        rcases hy with h | h | h
        · exact absurd (.inl h) h2
        · exact absurd (.inr h) h2
        · exact h
    · rw [if_neg h1]
      rcases hx with h | h | h
      · exact absurd (.inl h) h1
      · exact absurd (.inr h) h1
      · exact h
  intro a
  induction a with
  | nil =>
    intro b _ hb t ht
    rw [comT, List.mem_map] at ht
    obtain ⟨x, h1, rfl⟩ := ht
    exact hf _ _ (.inl rfl) (hb x h1)
  | cons x a ih =>
    intro b ha hb t ht
    rcases b with _ | ⟨y, b⟩
    · rw [comT, List.mem_map] at ht
      obtain ⟨z, h1, rfl⟩ := ht
      exact hf _ _ (ha z h1) (.inl rfl)
    · rw [comT] at ht
      rcases List.mem_cons.1 ht with rfl | ht
      · exact hf _ _ (ha x List.mem_cons_self) (hb y List.mem_cons_self)
      · exact ih b (fun t q => ha t (List.mem_cons_of_mem _ q)) (fun t q => hb t (List.mem_cons_of_mem _ q)) t ht
theorem cmT_ne (x y : List UInt8) : cmT x y ≠ [62] := by
  unfold cmT
  by_cases h1 : x = [62] ∨ x = [42]
  · rw [if_pos h1]
    by_cases h2 : y = [62] ∨ y = [42]
    · rw [if_pos h2]; simp
    · rw [if_neg h2]; exact fun e => h2 (.inl e)
  · rw [if_neg h1]; exact fun e => h1 (.inl e)
theorem cmT_r (x y : List UInt8) (hx : x = [62] ∨ x = [42]) : y = [62] ∨ y = [42] ∨ cmT x y = y := by
  unfold cmT
  rw [if_pos hx]
  by_cases h2 : y = [62] ∨ y = [42]
  · exact h2.elim .inl (fun e => .inr (.inl e))
  · rw [if_neg h2]; exact .inr (.inr rfl)
theorem cmT_l (x y : List UInt8) : x = [62] ∨ x = [42] ∨ cmT x y = x := by
  unfold cmT
  by_cases h2 : x = [62] ∨ x = [42]
  · exact h2.elim .inl (fun e => .inr (.inl e))
  · rw [if_neg h2]; exact .inr (.inr rfl)
theorem subT_cons (c y : List UInt8) (l p : List (List UInt8)) (hc : c ≠ [62]) (h : y = [62] ∨ y = [42] ∨ c = y) (hr : y ≠ [62] → subT l p = true) : subT (c :: l) (y :: p) = true := by
  unfold subT
  by_cases h1 : y = [62]
  · rw [if_pos h1]
  · rw [if_neg h1, if_neg hc, if_pos (h.elim (fun e => absurd e h1) id), hr h1]
theorem subT_ext (b : List (List UInt8)) : subT (b.map (cmT [62])) b = true := by
  induction b with
  | nil => rfl
  | cons y b ih => exact subT_cons _ _ _ _ (cmT_ne _ _) (cmT_r _ _ (.inl rfl)) (fun _ => ih)
theorem subT_ext2 (b : List (List UInt8)) : subT (b.map fun x => cmT x [62]) b = true := by
  induction b with
  | nil => rfl
  | cons y b ih => exact subT_cons _ _ _ _ (cmT_ne _ _) (cmT_l _ _) (fun _ => ih)
theorem com_sub1 : ∀ a b, formedB a = true → formedB b = true → colT a b = true → subT (comT a b) a = true
  | [], [], _, _, _ => rfl
  | [], _ :: _, _, _, h => by simp [colT] at h
  | _ :: _, [], _, _, h => by simp [colT] at h
  | x :: a, y :: b, ha, hb, h => by
    obtain ⟨ha1, ha2⟩ := formed_tail ha
    obtain ⟨hb1, hb2⟩ := formed_tail hb
    rw [comT]
    refine subT_cons _ _ _ _ (cmT_ne _ _) (cmT_l _ _) (fun hx => ?_)
    unfold colT at h
    by_cases hy : y = [62]
    · have := hb2 hy; subst this
      rw [comT_nil]; exact subT_ext2 a
    · rw [if_neg (fun q => q.elim hx hy)] at h
      by_cases g : x ≠ [42] ∧ y ≠ [42] ∧ x ≠ y
      · rw [if_pos g] at h; cases h
      · rw [if_neg g] at h
        exact com_sub1 a b ha1 hb1 h
theorem com_sub2 : ∀ a b, formedB a = true → formedB b = true → colT a b = true → subT (comT a b) b = true
  | [], [], _, _, _ => rfl
  | [], _ :: _, _, _, h => by simp [colT] at h
  | _ :: _, [], _, _, h => by simp [colT] at h
  | x :: a, y :: b, ha, hb, h => by
    obtain ⟨ha1, ha2⟩ := formed_tail ha
    obtain ⟨hb1, hb2⟩ := formed_tail hb
    rw [comT]
    unfold colT at h
    by_cases hx : x = [62]
    · have := ha2 hx; subst this
      rw [comT]
      exact subT_cons _ _ _ _ (cmT_ne _ _) (cmT_r _ _ (.inl hx)) (fun _ => subT_ext b)
    by_cases hy : y = [62]
    · exact subT_cons _ _ _ _ (cmT_ne _ _) (.inl hy) (fun q => absurd hy q)
    rw [if_neg (fun q => q.elim hx hy)] at h
    by_cases g : x ≠ [42] ∧ y ≠ [42] ∧ x ≠ y
    · rw [if_pos g] at h; cases h
    · rw [if_neg g] at h
      refine subT_cons _ _ _ _ (cmT_ne _ _) ?_ (fun _ => com_sub2 a b ha1 hb1 h)
      by_cases h1 : x = [42]
      · exact cmT_r _ _ (.inr h1)
      by_cases h2 : y = [42]
      · exact .inr (.inl h2)
      have h3 : x = y := Classical.byContradiction fun q => g ⟨h1, h2, q⟩
      subst h3
      exact cmT_l _ _
/-- What a literal matches twice collides. -/
theorem col_of_lit : ∀ l a b, l.all litT = true → subT l a = true → subT l b = true → colT a b = true
  | [], [], [], _, _, _ => rfl
  | [], _ :: _, _, _, h, _ => by simp [subT] at h
  | [], [], _ :: _, _, _, h => by simp [subT] at h
  | _ :: _, [], _, _, h, _ => by simp [subT] at h
  | _ :: _, _ :: _, [], _, _, h => by simp [subT] at h
  | x :: l, y :: a, z :: b, hl, h1, h2 => by
    simp only [List.all_cons, Bool.and_eq_true] at hl
    have hx := hl.1
    simp only [litT, Bool.and_eq_true, decide_eq_true_eq] at hx
    unfold colT
    unfold subT at h1 h2
    by_cases q : y = [62] ∨ z = [62]
    · rw [if_pos q]
    · rw [if_neg (fun e => q (.inl e)), if_neg hx.2] at h1
      rw [if_neg (fun e => q (.inr e)), if_neg hx.2] at h2
      rw [if_neg q]
      by_cases c1 : y = [42] ∨ x = y
      · rw [if_pos c1] at h1
        by_cases c2 : z = [42] ∨ x = z
        · rw [if_pos c2] at h2
          rw [if_neg (fun g => ?_), col_of_lit l a b hl.2 h1 h2]
          rcases c1 with c1 | c1
          · exact g.1 c1
          · rcases c2 with c2 | c2
            · exact g.2.1 c2
            · exact g.2.2 (c1.symm.trans c2)
        · rw [if_neg c2] at h2; cases h2
      · rw [if_neg c1] at h1; cases h1
theorem drop_cons {α : Type} {L : List α} {n : Nat} {x : α} {a : List α} (h : L.drop n = x :: a) (d : α) : n < L.length ∧ L.getD n d = x ∧ L.drop (n + 1) = a := by
  have hn : n < L.length := by
    apply Classical.byContradiction
    intro hc
    rw [List.drop_eq_nil_of_le (by omega)] at h; cases h
  rw [List.drop_eq_getElem_cons hn] at h
  injection h with h1 h2
  exact ⟨hn, by rw [List.getD_eq_getElem?_getD, List.getElem?_eq_getElem hn]; exact h1, h2⟩
theorem drop_nil {α : Type} {L : List α} {n : Nat} (h : L.drop n = []) : L.length ≤ n := by
  rw [List.drop_eq_nil_iff] at h; exact h
theorem Common_j3 (A B : List ByteArray) (out : List ByteArray) (i : Int) (s t : List UInt8) (ho : out.length < 8796093022208) (r : ByteArray) (h : Ev (fun k => spec_Common.l0 k (ba [119]) A B (out ++ [ba (cmT s t)]) (wrap64 (i + 1))) r) :
    Ev (fun k => spec_Common.j3 k (ba [119]) A B out i (ba s) (ba t)) r := by
  refine Ev.step (fun k => by rw [spec_Common.j3, ba_toList]) ?_
  have e1 : (([62] : List UInt8) = [42]) = False := by simp
  have H : ∀ q, (q = true ↔ s = [62] ∨ s = [42]) → Ev (fun k => spec_Common.j4 k (ba [119]) A B out i (ba s) (ba t) q) r := by
    intro q hq
    refine Ev.step (fun k => by rw [spec_Common.j4, ba_toList, ba_toList]) ?_
    cases q with
    | true =>
      refine Ev.pos rfl ?_
      have hs := hq.1 rfl
      unfold cmT at h
      rw [if_pos hs] at h
      by_cases h1 : t = [62]
      · rw [if_pos (.inl h1)] at h
        exact Ev.pos h1 (Ev.pos ho h)
      refine Ev.neg h1 ?_
      by_cases h2 : t = [42]
      · rw [if_pos (.inr h2)] at h
        exact Ev.pos h2 (Ev.pos ho h)
      refine Ev.neg h2 ?_
      rw [if_neg (fun g => g.elim h1 h2)] at h
      exact Ev.pos ho h
    | false =>
      refine Ev.neg (by simp) ?_
      have hs : ¬ (s = [62] ∨ s = [42]) := fun g => by have := hq.2 g; cases this
      unfold cmT at h
      rw [if_neg hs] at h
      exact Ev.neg (fun e => hs (.inl e)) (Ev.neg (fun e => hs (.inr e)) (Ev.pos ho h))
  by_cases h1 : s = [62]
  · exact Ev.pos h1 (H true ⟨fun _ => .inl h1, fun _ => rfl⟩)
  · refine Ev.neg h1 (H _ ?_)
    rw [beq_iff_eq]
    exact ⟨.inr, fun g => g.elim (fun e => absurd e h1) id⟩
theorem Common_l0 (A B : List (List UInt8)) (hA : A.length ≤ 140737488) (hB : B.length ≤ 140737488) (hC : (join (comT A B)).length ≤ 9223372036854775807) : ∀ (N n : Nat) (a b out : List (List UInt8)), a.length + b.length ≤ N → A.drop n = a → B.drop n = b → out.length = n → n ≤ max A.length B.length → out ++ comT a b = comT A B →
    Ev (fun k => spec_Common.l0 k (ba [119]) (A.map ba) (B.map ba) (out.map ba) (n : Int)) (ba (join (comT A B))) := by
  intro N
  induction N with
  | zero =>
    intro n a b out hN ha hb ho hn hq
    have h1 : a = [] := List.length_eq_zero_iff.1 (by omega)
    have h2 : b = [] := List.length_eq_zero_iff.1 (by omega)
    subst h1; subst h2
    have z1 := drop_nil ha
    have z2 := drop_nil hb
    have hlen := comT_len A B
    simp [comT] at hq
    refine Ev.step (fun k => by rw [spec_Common.l0, if_neg (by simp; omega), decide_eq_false (by simp; omega)]) ?_
    refine Ev.step (fun k => by rw [spec_Common.j1, if_neg (by simp)]) ?_
    rw [hq]
    exact Ev.bind (Join_ev _ (by omega) hC) (Ev.now _)
  | succ N ih =>
    intro n a b out hN ha hb ho hn hq
    by_cases he : a = [] ∧ b = []
    · obtain ⟨rfl, rfl⟩ := he
      exact ih n [] [] out (by simp) ha hb ho hn hq
    have he' : a ≠ [] ∨ b ≠ [] := Classical.byContradiction fun g => he ⟨Classical.byContradiction fun q => g (.inl q), Classical.byContradiction fun q => g (.inr q)⟩
    have hstep := comT_step a b he'
    rw [hstep] at hq
    have hw : wrap64 ((n : Int) + 1) = ((n + 1 : Nat) : Int) := by rw [w64 (by omega) (by omega)]; omega
    have hta : A.drop (n + 1) = a.tail := by rw [← ha]; simp
    have htb : B.drop (n + 1) = b.tail := by rw [← hb]; simp
    have hlt : n < A.length ∨ n < B.length := by
      rcases he' with h | h
      · rcases a with _ | ⟨x, a⟩
        · exact absurd rfl h
        · exact .inl (drop_cons ha []).1
      · rcases b with _ | ⟨y, b⟩
        · exact absurd rfl h
        · exact .inr (drop_cons hb []).1
    have IH := ih (n + 1) a.tail b.tail (out ++ [cmT (a.headD [62]) (b.headD [62])]) (by
      rcases a with _ | ⟨x, a⟩ <;> rcases b with _ | ⟨y, b⟩ <;> simp at hN he ⊢ <;> omega) hta htb (by simp; omega) (by omega) (by simpa using hq)
    rw [List.map_append, List.map_cons, List.map_nil, ← hw] at IH
    have J3 := Common_j3 (A.map ba) (B.map ba) (out.map ba) (n : Int) (a.headD [62]) (b.headD [62]) (by simp; omega) _ IH
    have J2 : Ev (fun k => spec_Common.j2 k (ba [119]) (A.map ba) (B.map ba) (out.map ba) (n : Int) (ba (a.headD [62])) (ba [62])) (ba (join (comT A B))) := by
      refine Ev.step (fun k => by rw [spec_Common.j2]) ?_
      rcases b with _ | ⟨y, b⟩
      · have := drop_nil hb
        exact Ev.neg (by simp; omega) J3
      · obtain ⟨g1, g2, -⟩ := drop_cons hb []
        refine Ev.pos (by simp; omega) (Ev.pos (by omega) ?_)
        rw [rdOf_ba, Int.toNat_natCast, g2]
        exact J3
    have J1 : Ev (fun k => spec_Common.j1 k (ba [119]) (A.map ba) (B.map ba) (out.map ba) (n : Int) true) (ba (join (comT A B))) := by
      refine Ev.step (fun k => by rw [spec_Common.j1, if_pos rfl]) ?_
      rcases a with _ | ⟨x, a⟩
      · have := drop_nil ha
        exact Ev.neg (by simp; omega) J2
      · obtain ⟨g1, g2, -⟩ := drop_cons ha []
        refine Ev.pos (by simp; omega) (Ev.pos (by omega) ?_)
        rw [rdOf_ba, Int.toNat_natCast, g2]
        exact J2
    refine Ev.step (fun k => by rw [spec_Common.l0]) ?_
    by_cases hl : n < A.length
    · exact Ev.pos (by simp; omega) J1
    · refine Ev.neg (by simp; omega) ?_
      rw [decide_eq_true (by simp; omega)]
      exact J1
theorem Common_ev (l p : List UInt8) (hl : l.length ≤ 140737000) (hp : p.length ≤ 140737000) (hC : (join (comT (toks l) (toks p))).length ≤ 9223372036854775807) :
    Ev (fun k => spec_Common.f k (ba l) (ba p) (ba [119])) (ba (join (comT (toks l) (toks p)))) := by
  have h1 : (toks l).length ≤ 140737488 := by rw [toks_len]; have := List.count_le_length (a := (46 : UInt8)) (l := l); omega
  have h2 : (toks p).length ≤ 140737488 := by rw [toks_len]; have := List.count_le_length (a := (46 : UInt8)) (l := p); omega
  refine Ev.congr (fun k => by rw [spec_Common.f]) ?_
  refine Ev.bind (Tokens_ev l (by omega)) ?_
  refine Ev.bind (Tokens_ev p (by omega)) ?_
  exact Common_l0 (toks l) (toks p) h1 h2 hC _ 0 (toks l) (toks p) [] (Nat.le_refl _) (by simp) (by simp) rfl (Nat.zero_le _) (by simp)

end Go.Proofs.Ytgbdjinanflhaaa.PlFnCollideMeans
