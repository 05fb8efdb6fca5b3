/- Splitting at a byte; the pieces of a token, plainly. -/
import Derived.Test.YtoopmpjgmgffoaaDoorPlTq
import Derived.Test.YtoopmpjgmgffoaaDoorTpH
import Derived.Test.YtoopmpjgmgffoaaDoorTrX
namespace Go.Proofs.YtoopmpjgmgffoaaDoor.PlFnTransformBack
open Go.RowKit Go.Proofs.YtoopmpjgmgffoaaDoorW.PrintWords Go.Proofs.YtoopmpjgmgffoaaDoorW.PrintLast Go.Proofs.YtoopmpjgmgffoaaDoorW.PrintMore Go.Proofs.YtoopmpjgmgffoaaDoor.Pl Go.Proofs.YtoopmpjgmgffoaaDoor.Bs Go.Proofs.YtoopmpjgmgffoaaDoor.GFnTransformBack Go.Proofs.YtoopmpjgmgffoaaDoor.Tr
set_option linter.unusedVariables false
set_option linter.unusedSimpArgs false
def toksC (by_ : UInt8) : List UInt8 → List UInt8 → List (List UInt8)
  | p, [] => [p]
  | p, c :: l => if c = by_ then p :: toksC by_ [] l else toksC by_ (p ++ [c]) l
theorem toksC_dot (by_ : UInt8) (p l : List UInt8) : toksC by_ p (by_ :: l) = p :: toksC by_ [] l := by rw [toksC, if_pos rfl]
theorem toksC_other (by_ : UInt8) (p : List UInt8) {c : UInt8} (h : c ≠ by_) (l : List UInt8) : toksC by_ p (c :: l) = toksC by_ (p ++ [c]) l := by rw [toksC, if_neg h]
theorem toksC_plain (by_ : UInt8) (p : List UInt8) : ∀ l : List UInt8, by_ ∉ l → toksC by_ p l = [p ++ l] := by
  intro l
  induction l generalizing p with
  | nil => intro _; simp [toksC]
  | cons c l ih =>
    intro h
    simp only [List.mem_cons, not_or] at h
    rw [toksC_other by_ _ (fun e => h.1 e.symm), ih _ h.2]; simp
theorem toksC_app (by_ : UInt8) : ∀ (q p l : List UInt8), toksC by_ p (q ++ by_ :: l) = toksC by_ p q ++ toksC by_ [] l
  | [], p, l => by rw [List.nil_append, toksC_dot by_]; simp [toksC]
  | c :: q, p, l => by
    by_cases h : c = by_
    · rw [List.cons_append, h, toksC_dot by_, toksC_dot by_, toksC_app by_ q [] l]; simp
    rw [List.cons_append, toksC_other by_ _ h, toksC_other by_ _ h, toksC_app by_ q _ l]
theorem sep_split (by_ : UInt8) : ∀ l : List UInt8, by_ ∉ l ∨ ∃ p r, l = p ++ by_ :: r ∧ by_ ∉ p
  | [] => .inl (by simp)
  | c :: l => by
    by_cases h : c = by_
    · exact .inr ⟨[], l, by rw [h]; rfl, by simp⟩
    rcases sep_split by_ l with g | ⟨p, r, rfl, g⟩
    · exact .inl (by simp only [List.mem_cons, not_or]; exact ⟨fun e => h e.symm, g⟩)
    exact .inr ⟨c :: p, r, rfl, by simp only [List.mem_cons, not_or]; exact ⟨fun e => h e.symm, g⟩⟩
theorem zzIndexC_none (by_ : UInt8) (s : ByteArray) (hs : s.size ≤ 140737488355328) : ∀ (rest pre : List UInt8) (i : Int), s = ba (pre ++ rest) → i = (pre.length : Int) → by_ ∉ rest → Ev (fun k => server_zzIndex.l0 k s (ba [by_]) i) (-1) := by
  intro rest
  induction rest with
  | nil =>
    intro pre i h hi _
    have hz : (s.size : Int) = pre.length := by rw [h, ba_size]; simp
    have hw : wrap64 (i + ((ba [by_]).size : Int)) = i + 1 := w64 (by rw [ba_size]; simp; omega) (by rw [ba_size]; simp; omega)
    refine Ev.step (fun k => by rw [server_zzIndex.l0, hw, if_neg (by omega)]) ?_
    exact Ev.now _
  | cons c rest ih =>
    intro pre i h hi hn
    have hz : (s.size : Int) = pre.length + rest.length + 1 := by rw [h, ba_size]; simp; omega
    have hw : wrap64 (i + ((ba [by_]).size : Int)) = i + 1 := w64 (by rw [ba_size]; simp; omega) (by rw [ba_size]; simp; omega)
    have hw2 : wrap64 (i + 1) = i + 1 := w64 (by omega) (by omega)
    simp only [List.mem_cons, not_or] at hn
    have he : s.extract i.toNat (i + 1).toNat = ba [c] := ext_mid pre [c] rest (by rw [h]; simp) hi (by simp; omega)
    refine Ev.step (fun k => by rw [server_zzIndex.l0, hw, if_pos (by omega), if_pos (by omega), if_pos (by omega), he, ba_toList, ba_toList, if_neg (fun e => hn.1 (by injection e with e; exact e.symm)), hw2]) ?_
    exact ih (pre ++ [c]) (i + 1) (by rw [h]; simp) (by simp; omega) hn.2
theorem zzIndexC_at (by_ : UInt8) (s : ByteArray) (hs : s.size ≤ 140737488355328) (r : List UInt8) : ∀ (p pre : List UInt8) (i : Int), s = ba (pre ++ p ++ by_ :: r) → i = (pre.length : Int) → by_ ∉ p → Ev (fun k => server_zzIndex.l0 k s (ba [by_]) i) ((pre.length + p.length : Nat) : Int) := by
  intro p
  induction p with
  | nil =>
    intro pre i h hi _
    have hz : (s.size : Int) = pre.length + r.length + 1 := by rw [h, ba_size]; simp; omega
    have hw : wrap64 (i + ((ba [by_]).size : Int)) = i + 1 := w64 (by rw [ba_size]; simp; omega) (by rw [ba_size]; simp; omega)
    have he : s.extract i.toNat (i + 1).toNat = ba [by_] := ext_mid pre [by_] r (by rw [h]; simp) hi (by simp; omega)
    refine Ev.step (fun k => by rw [server_zzIndex.l0, hw, if_pos (by omega), if_pos (by omega), if_pos (by omega), he, if_pos rfl]) ?_
    exact Ev.det' (Ev.now _) (by simp; omega)
  | cons c p ih =>
    intro pre i h hi hn
    have hz : (s.size : Int) = pre.length + p.length + r.length + 2 := by rw [h, ba_size]; simp; omega
    have hw : wrap64 (i + ((ba [by_]).size : Int)) = i + 1 := w64 (by rw [ba_size]; simp; omega) (by rw [ba_size]; simp; omega)
    have hw2 : wrap64 (i + 1) = i + 1 := w64 (by omega) (by omega)
    simp only [List.mem_cons, not_or] at hn
    have he : s.extract i.toNat (i + 1).toNat = ba [c] := ext_mid pre [c] (p ++ by_ :: r) (by rw [h]; simp) hi (by simp; omega)
    refine Ev.step (fun k => by rw [server_zzIndex.l0, hw, if_pos (by omega), if_pos (by omega), if_pos (by omega), he, ba_toList, ba_toList, if_neg (fun e => hn.1 (by injection e with e; exact e.symm)), hw2]) ?_
    exact Ev.det' (ih (pre ++ [c]) (i + 1) (by rw [h]; simp) (by simp; omega) hn.2) (by simp; omega)
theorem zzSplitC_l1 (by_ : UInt8) : ∀ (n : Nat) (l : List UInt8) (out : List ByteArray), l.length ≤ n → l.length + out.length < 8796093022208 → Ev (fun k => server_zzSplit.l1 k (ba l) (ba [by_]) out) (out ++ (toksC by_ [] l).map ba) := by
  intro n
  induction n with
  | zero =>
    intro l out h1 h2
    have : l = [] := List.length_eq_zero_iff.1 (by omega)
    subst this
    refine Ev.step (fun k => by rw [server_zzSplit.l1]) ?_
    refine Ev.bind (Ev.congr (fun k => by rw [server_zzIndex.f]) (zzIndexC_none by_ (ba []) (by simp [ba_size]) [] [] 0 (by simp) (by simp) (by simp))) ?_
    refine Ev.pos (by omega) (Ev.pos (by omega) (Ev.det' (Ev.now _) ?_))
    simp [toksC]
  | succ n ih =>
    intro l out h1 h2
    refine Ev.step (fun k => by rw [server_zzSplit.l1]) ?_
    rcases sep_split by_ l with hd | ⟨p, r, rfl, hd⟩
    · refine Ev.bind (Ev.congr (fun k => by rw [server_zzIndex.f]) (zzIndexC_none by_ (ba l) (by rw [ba_size]; omega) l [] 0 (by simp) (by simp) hd)) ?_
      refine Ev.pos (by omega) (Ev.pos (by omega) (Ev.det' (Ev.now _) ?_))
      rw [toksC_plain by_ [] l hd]; simp
    have hsz : ((ba (p ++ by_ :: r)).size : Int) = p.length + r.length + 1 := by rw [ba_size]; simp; omega
    simp only [List.length_append, List.length_cons] at h1 h2
    refine Ev.bind (Ev.congr (fun k => by rw [server_zzIndex.f]) (zzIndexC_at by_ (ba (p ++ by_ :: r)) (by omega) r p [] 0 (by simp) (by simp) hd)) ?_
    have hw : wrap64 ((((([] : List UInt8).length + p.length : Nat) : Int)) + ((ba [by_]).size : Int)) = ((p.length : Int) + 1) := by
      rw [ba_size]
      have := w64 (x := (p.length : Int) + 1) (by omega) (by omega)
      simpa using this
    rw [hw]
    have e1 : (ba (p ++ by_ :: r)).extract ((p.length : Int) + 1).toNat (ba (p ++ by_ :: r)).size = ba r := ext_end (p ++ [by_]) r (by simp) (by simp)
    have e2 : (ba (p ++ by_ :: r)).extract 0 ((([] : List UInt8).length + p.length : Nat) : Int).toNat = ba p := by
      have := ext_mid (s := ba (p ++ by_ :: r)) (a := 0) (b := (p.length : Int)) [] p (by_ :: r) (by simp) (by simp) (by simp)
      simpa using this
    rw [e1, e2]
    refine Ev.neg (by simp <;> omega) (Ev.pos (by simp <;> omega) (Ev.pos (by rw [hsz]; simp <;> omega) (Ev.pos (by omega) (Ev.pos (by omega) (Ev.pos (by omega) ?_)))))
    refine Ev.det' (ih r (out ++ [ba p]) (by omega) (by simp; omega)) ?_
    rw [show toksC by_ [] (p ++ by_ :: r) = [p] ++ toksC by_ [] r from by rw [toksC_app by_, toksC_plain by_ [] p hd]; simp]
    simp
theorem zzSplitC_ev (by_ : UInt8) (l : List UInt8) (h : l.length < 8796093022208) : Ev (fun k => server_zzSplit.f k (ba l) (ba [by_])) ((toksC by_ [] l).map ba) := by
  refine Ev.congr (fun k => by rw [server_zzSplit.f, if_neg (by rw [ba_size]; simp)]) ?_
  exact Ev.det' (zzSplitC_l1 by_ l.length l [] (Nat.le_refl _) (by simpa using h)) (by simp)
end Go.Proofs.YtoopmpjgmgffoaaDoor.PlFnTransformBack
