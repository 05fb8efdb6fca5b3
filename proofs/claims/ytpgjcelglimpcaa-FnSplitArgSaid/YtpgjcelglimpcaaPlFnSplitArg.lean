/- What the walked functions of FnSplitArg come to, as plain functions on lists. -/
import Derived.Test.YtpgjcelglimpcaaPlBase
import Derived.Test.YtpgjcelglimpcaaGFnSplitArgx2
namespace Go.Proofs.Ytpgjcelglimpcaa.PlFnSplitArg
open Go.RowKit Go.Proofs.YtpgjcelglimpcaaW.PrintWords Go.Proofs.YtpgjcelglimpcaaW.PrintLast Go.Proofs.YtpgjcelglimpcaaW.PrintMore Go.Proofs.Ytpgjcelglimpcaa.Pl Go.Proofs.Ytpgjcelglimpcaa.GFnSplitArg
set_option linter.unusedVariables false
set_option linter.unusedSimpArgs false

def nm (l : List UInt8) : List Int := l.map fun b => (b.toNat : Int)
theorem nm_append (a b : List UInt8) : nm (a ++ b) = nm a ++ nm b := by simp [nm]
theorem nm_len (a : List UInt8) : (nm a).length = a.length := by simp [nm]
/-- The words, with what is read of one. -/
def wd : List UInt8 → List UInt8 → List (List UInt8)
  | p, [] => if p = [] then [] else [p]
  | p, c :: r => if Sp.blank (c.toNat : Int) = true then (if p = [] then wd [] r else p :: wd [] r) else wd (p ++ [c]) r

theorem sp_wd : ∀ (rest pre p : List UInt8), (Sp.sp (nm rest) (pre.length + p.length) (if p = [] then none else some pre.length)).map (fun q => ((nm (pre ++ p ++ rest)).take q.2).drop q.1) = (wd p rest).map nm := by
  intro rest
  induction rest with
  | nil =>
    intro pre p
    by_cases hp : p = []
    · subst hp
      simp [nm, Sp.sp, wd]
    · rw [if_neg hp, wd, if_neg hp]
      simp only [nm, List.map_nil, Sp.sp, List.map_cons, List.append_nil]
      congr 1
      rw [List.take_of_length_le (by simp), List.map_append]
      exact List.drop_left' (by simp)
  | cons c r ih =>
    intro pre p
    have e0 : nm (c :: r) = (c.toNat : Int) :: nm r := rfl
    rw [e0]
    by_cases hb : Sp.blank (c.toNat : Int) = true
    · by_cases hp : p = []
      · subst hp
        rw [if_pos rfl, Sp.sp, if_pos hb, wd, if_pos hb, if_pos rfl]
        have := ih (pre ++ [c]) []
        rw [if_pos rfl] at this
        simp only [List.length_append, List.length_nil, List.length_cons, List.append_assoc, List.append_nil, List.cons_append, List.nil_append, Nat.add_zero, Nat.zero_add] at this ⊢
        exact this
      · rw [if_neg hp, Sp.sp, if_pos hb, wd, if_pos hb, if_neg hp]
        have := ih (pre ++ p ++ [c]) []
        rw [if_pos rfl] at this
        have e1 : ((nm (pre ++ p ++ c :: r)).take (pre.length + p.length)).drop pre.length = nm p := by
          rw [nm_append, List.take_left' (by simp [nm]), nm_append]
          exact List.drop_left' (by simp [nm])
        rw [List.map_cons, List.map_cons, e1]
        congr 1
        simp only [List.length_append, List.length_nil, List.length_cons, List.append_assoc, List.append_nil, List.cons_append, List.nil_append, Nat.add_zero, Nat.zero_add] at this ⊢
        exact this
    · by_cases hp : p = []
      · subst hp
        rw [if_pos rfl, Sp.sp, if_neg hb, wd, if_neg hb]
        have := ih pre [c]
        rw [if_neg (by simp)] at this
        simp only [List.length_append, List.length_nil, List.length_cons, List.append_assoc, List.append_nil, List.cons_append, List.nil_append, Nat.add_zero, Nat.zero_add] at this ⊢
        exact this
      · rw [if_neg hp, Sp.sp, if_neg hb, wd, if_neg hb]
        have := ih pre (p ++ [c])
        rw [if_neg (by simp)] at this
        simp only [List.length_append, List.length_nil, List.length_cons, List.append_assoc, List.append_nil, List.cons_append, List.nil_append, Nat.add_zero, Nat.zero_add] at this ⊢
        exact this
theorem words_wd (l : List UInt8) : Sp.wordsOf (nm l) = (wd [] l).map nm := by
  have := sp_wd l [] []
  simpa [Sp.wordsOf] using this

theorem Words_l0 (s : ByteArray) (hs : s.size < 8796093022208) : ∀ (rest pre p : List UInt8) (out : List ByteArray) (i : Int), s = ba (pre ++ p ++ rest) → i = (pre.length : Int) + p.length → out.length ≤ pre.length →
    Ev (fun k => spec_Words.l0 k s out (ba p) i) (out ++ (wd p rest).map ba) := by
  intro rest
  induction rest with
  | nil =>
    intro pre p out i h hi ho
    have hz : (s.size : Int) = pre.length + p.length := by rw [h, ba_size]; simp
    have hw : wrap64 (i + 1) = i + 1 := w64 (by omega) (by omega)
    refine Ev.step (fun k => by rw [spec_Words.l0, if_pos (by omega), if_neg (by omega)]) ?_
    by_cases hp : p = []
    · subst hp
      refine Ev.step (fun k => by rw [spec_Words.j1, if_neg (by decide), if_pos (ba_toList []), hw]) ?_
      refine Ev.step (fun k => by rw [spec_Words.l0, if_neg (by omega)]) ?_
      refine Ev.det' (Ev.now _) ?_
      simp [wd]
    · refine Ev.step (fun k => by rw [spec_Words.j1, if_neg (by decide), if_neg (by rw [ba_toList]; exact hp), if_pos (by omega), hw]) ?_
      refine Ev.step (fun k => by rw [spec_Words.l0, if_neg (by omega)]) ?_
      refine Ev.det' (Ev.now _) ?_
      simp [wd, hp]
  | cons c rest ih =>
    intro pre p out i h hi ho
    have hz : (s.size : Int) = pre.length + p.length + rest.length + 1 := by rw [h, ba_size]; simp; omega
    have hb : bt s i = (c.toNat : Int) := bt_mid (pre ++ p) c rest h (by simp; omega)
    have hw : wrap64 (i + 1) = i + 1 := w64 (by omega) (by omega)
    have go : Ev (fun k => spec_Words.j1 k s out (ba p) i (!Sp.blank (c.toNat : Int))) (out ++ (wd p (c :: rest)).map ba) := by
      by_cases hbl : Sp.blank (c.toNat : Int) = true
      · rw [hbl]
        by_cases hp : p = []
        · subst hp
          refine Ev.step (fun k => by rw [spec_Words.j1, if_neg (by decide), if_pos (ba_toList []), hw]) ?_
          refine Ev.det' (ih (pre ++ [c]) [] out (i + 1) (by rw [h]; simp) (by simp at hi ⊢; omega) (by simp; omega)) ?_
          rw [wd, if_pos hbl, if_pos rfl]
        · refine Ev.step (fun k => by rw [spec_Words.j1, if_neg (by decide), if_neg (by rw [ba_toList]; exact hp), if_pos (by omega), hw]) ?_
          have hpl : 0 < p.length := List.length_pos_iff.2 hp
          refine Ev.det' (ih (pre ++ p ++ [c]) [] (out ++ [ba p]) (i + 1) (by rw [h]; simp) (by simp; omega) (by simp; omega)) ?_
          rw [wd, if_pos hbl, if_neg hp]
          simp
      · have hx : s.extract i.toNat (i + 1).toNat = ba [c] := ext_mid (pre ++ p) [c] rest (by rw [h]; simp) (by simp; omega) (by simp; omega)
        have hbf : Sp.blank (c.toNat : Int) = false := by simpa using hbl
        rw [hbf]
        refine Ev.step (fun k => by
          rw [spec_Words.j1, if_pos (by decide), if_pos (by omega), hw, if_pos (by omega), if_pos (by omega), hx, if_pos (by rw [ba_size, ba_size]; simp; omega), ba_append]) ?_
        refine Ev.det' (ih pre (p ++ [c]) out (i + 1) (by rw [h]; simp) (by simp; omega) ho) ?_
        rw [wd, if_neg hbl]
    refine Ev.step (f := fun k => spec_Words.j1 k s out (ba p) i (!Sp.blank (c.toNat : Int))) (fun k => ?_) go
    rw [spec_Words.l0, if_pos (by omega), if_pos (by omega), if_pos (by omega), hb]
    by_cases c1 : (c.toNat : Int) = 32
    · rw [if_pos c1, c1]; rfl
    rw [if_neg c1]
    by_cases c2 : (c.toNat : Int) = 9
    · rw [if_pos c2, c2]; rfl
    rw [if_neg c2]
    by_cases c3 : (c.toNat : Int) = 13
    · rw [if_pos c3, c3]; rfl
    rw [if_neg c3]
    congr 1
    simp [Sp.blank, c1, c2, c3, bne]
theorem Words_ev (l : List UInt8) (hs : l.length < 8796093022208) : Ev (fun k => spec_Words.f k (ba l)) ((wd [] l).map ba) := by
  have := Words_l0 (ba l) hs l [] [] [] 0 (by simp) (by simp) (by simp)
  exact this
theorem Same_l0 (xs : List (List UInt8)) (hx : xs.length ≤ 1000000) : ∀ (n i : Nat), i + n = xs.length → Ev (fun k => laws_sameWords.l0 k (xs.map nm) (xs.map ba) (i : Int)) true := by
  intro n
  induction n with
  | zero =>
    intro i h
    exact Ev.step (fun k => by rw [laws_sameWords.l0, if_neg (by simp; omega)]) (Ev.now _)
  | succ n ih =>
    intro i h
    have hw : wrap64 ((i : Int) + 1) = ((i + 1 : Nat) : Int) := by rw [w64 (by omega) (by omega)]; rfl
    refine Ev.step (fun k => ?_) (ih (i + 1) (by omega))
    rw [laws_sameWords.l0, if_pos (by simp; omega), if_pos (by omega), if_pos (by simp; omega), rdOf_ba, hw]
    have e1 : rd_L1 (xs.map nm) (i : Int) = nm (xs.getD (i : Int).toNat []) := by
      unfold rd_L1
      rw [List.getD_eq_getElem?_getD, List.getD_eq_getElem?_getD, List.getElem?_map]
      cases xs[(i : Int).toNat]? <;> rfl
    rw [e1, nm, strOfNums_bytes, if_pos rfl]
theorem wd_len : ∀ (l p : List UInt8), (wd p l).length ≤ l.length + 1
  | [], p => by rw [wd]; split <;> simp
  | c :: r, p => by
    rw [wd]
    split
    · split
      · have := wd_len r []; simp; omega
      · have := wd_len r []; simp; omega
    · have := wd_len r (p ++ [c]); simp; omega
theorem pure : laws_FnSplitArg.Pure := by
  intro l0 _ _ hwf
  obtain ⟨l, rfl⟩ := nums_surj l0 hwf
  have hlen : (l.map fun b => (b.toNat : Int)).length = l.length := by simp
  by_cases h1 : (l.length : Int) > 2147483647
  · exact ⟨0, by rw [laws_FnSplitArg.f, hlen, if_pos h1]⟩
  by_cases h2 : l.length ≤ 200
  · have hsame : Ev (fun k => laws_sameWords.f k ((wd [] l).map nm) ((wd [] l).map ba)) true := by
      refine Ev.congr (fun k => ?_) (Same_l0 (wd [] l) (by have := wd_len l []; omega) (wd [] l).length 0 (by omega))
      rw [laws_sameWords.f, if_pos (by simp)]
      rfl
    obtain ⟨K1, hK1⟩ := Words_ev l (by omega)
    obtain ⟨K2, hK2⟩ := hsame
    refine ⟨max K1 K2, ?_⟩
    have a1 := hK1 (max K1 K2) (by omega)
    have a2 := hK2 (max K1 K2) (by omega)
    rw [laws_FnSplitArg.f, hlen, if_neg h1, laws_short.f, hlen]
    rw [decide_eq_true (by omega : (l.length : Int) ≤ 200)]
    simp only [Option.bind_some, if_true, List.nil_append, List.length_nil, Nat.zero_add]
    rw [if_pos (by omega), impl_SplitArg.f, if_pos (by omega)]
    simp only [Option.bind_some]
    rw [strOfNums_bytes]
    simp only [] at a1 a2
    rw [a1]
    simp only [Option.bind_some]
    have e1 := words_wd l
    unfold nm at e1 a2
    rw [e1, a2]
    rfl
  · refine ⟨0, ?_⟩
    rw [laws_FnSplitArg.f, hlen, if_neg h1, laws_short.f, hlen]
    rw [decide_eq_false (by omega : ¬ (l.length : Int) ≤ 200)]
    rfl
end Go.Proofs.Ytpgjcelglimpcaa.PlFnSplitArg
