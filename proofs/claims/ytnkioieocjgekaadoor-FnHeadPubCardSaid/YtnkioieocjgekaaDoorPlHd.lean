/- The plain law of FnHeadPub. -/
import Derived.Test.YtnkioieocjgekaaDoorPlBase
import Derived.Test.YtnkioieocjgekaaDoorHdF
namespace Go.Proofs.YtnkioieocjgekaaDoor.PlHd
open Go.RowKit Go.Proofs.YtnkioieocjgekaaDoorW.PrintWords Go.Proofs.YtnkioieocjgekaaDoorW.PrintLast Go.Proofs.YtnkioieocjgekaaDoorW.PrintMore Go.Proofs.YtnkioieocjgekaaDoor.Pl Go.Proofs.YtnkioieocjgekaaDoor.GFnHeadPub
set_option linter.unusedVariables false
set_option linter.unusedSimpArgs false

def nm (l : List UInt8) : List Int := l.map fun b => (b.toNat : Int)
theorem nm_append (a b : List UInt8) : nm (a ++ b) = nm a ++ nm b := by simp [nm]
theorem nm_len (a : List UInt8) : (nm a).length = a.length := by simp [nm]
/-- The words, with what is read of one. -/
def wd : List UInt8 → List UInt8 → List (List UInt8)
  | p, [] => if p = [] then [] else [p]
  | p, c :: r => if Hd.blank (c.toNat : Int) = true then (if p = [] then wd [] r else p :: wd [] r) else wd (p ++ [c]) r

theorem sp_wd : ∀ (rest pre p : List UInt8), (Hd.sp (nm rest) (pre.length + p.length) (if p = [] then none else some pre.length)).map (fun q => ((nm (pre ++ p ++ rest)).take q.2).drop q.1) = (wd p rest).map nm := by
  intro rest
  induction rest with
  | nil =>
    intro pre p
    by_cases hp : p = []
    · subst hp
      simp [nm, Hd.sp, wd]
    · rw [if_neg hp, wd, if_neg hp]
      simp only [nm, List.map_nil, Hd.sp, List.map_cons, List.append_nil]
      congr 1
      rw [List.take_of_length_le (by simp), List.map_append]
      exact List.drop_left' (by simp)
  | cons c r ih =>
    intro pre p
    have e0 : nm (c :: r) = (c.toNat : Int) :: nm r := rfl
    rw [e0]
    by_cases hb : Hd.blank (c.toNat : Int) = true
    · by_cases hp : p = []
      · subst hp
        rw [if_pos rfl, Hd.sp, if_pos hb, wd, if_pos hb, if_pos rfl]
        have := ih (pre ++ [c]) []
        rw [if_pos rfl] at this
        simp only [List.length_append, List.length_nil, List.length_cons, List.append_assoc, List.append_nil, List.cons_append, List.nil_append, Nat.add_zero, Nat.zero_add] at this ⊢
        exact this
      · rw [if_neg hp, Hd.sp, if_pos hb, wd, if_pos hb, if_neg hp]
        have := ih (pre ++ p ++ [c]) []
        rw [if_pos rfl] at this
        have e1 : ((nm (pre ++ p ++ c :: r)).take (pre.length + p.length)).drop pre.length = nm p := by
          rw [nm_append, List.take_left' (by simp [nm]), nm_append]
          exact List.drop_left' (by simp [nm])
        rw [List.map_cons, List.map_cons, e1]
        congr 1
        simp only [List.length_append, List.length_nil, List.length_cons, List.append_assoc, List.append_nil, List.cons_append, List.nil_append, Nat.add_zero, Nat.zero_add] at this ⊢
        exact this
    · by_cases hp : p = []
      · subst hp
        rw [if_pos rfl, Hd.sp, if_neg hb, wd, if_neg hb]
        have := ih pre [c]
        rw [if_neg (by simp)] at this
        simp only [List.length_append, List.length_nil, List.length_cons, List.append_assoc, List.append_nil, List.cons_append, List.nil_append, Nat.add_zero, Nat.zero_add] at this ⊢
        exact this
      · rw [if_neg hp, Hd.sp, if_neg hb, wd, if_neg hb]
        have := ih pre (p ++ [c])
        rw [if_neg (by simp)] at this
        simp only [List.length_append, List.length_nil, List.length_cons, List.append_assoc, List.append_nil, List.cons_append, List.nil_append, Nat.add_zero, Nat.zero_add] at this ⊢
        exact this
theorem words_wd (l : List UInt8) : (Hd.sp (nm l) 0 none).map (Hd.cut (nm l)) = (wd [] l).map nm := by
  have := sp_wd l [] []
  simp only [List.length_nil, Nat.add_zero, if_true, List.nil_append] at this
  exact this

theorem Words_l0 (s : ByteArray) (hs : s.size < 8796093022208) : ∀ (rest pre p : List UInt8) (out : List ByteArray) (i : Int), (∀ c ∈ rest, ¬ (c.toNat : Int) = 13 ∧ ¬ (c.toNat : Int) = 10) → s = ba (pre ++ p ++ rest) → i = (pre.length : Int) + p.length → out.length ≤ pre.length →
    Ev (fun k => spec_Words.l0 k s out (ba p) i) (out ++ (wd p rest).map ba) := by
  intro rest
  induction rest with
  | nil =>
    intro pre p out i hn h hi ho
    have hz : (s.size : Int) = pre.length + p.length := by rw [h, ba_size]; simp
    have hw : wrap64 (i + 1) = i + 1 := w64 (by omega) (by omega)
    refine Ev.step (fun k => by rw [spec_Words.l0, if_pos (by omega), if_neg (by omega)]) ?_
    by_cases hp : p = []
    · subst hp
      refine Ev.step (fun k => by rw [spec_Words.j1, if_neg (by decide), if_pos (ba_toList []), hw]) ?_
      refine Ev.step (fun k => by rw [spec_Words.l0, if_neg (by omega)]) ?_
      refine Ev.det' (Ev.now _) ?_
      simp [wd]
    · refine Ev.step (fun k => by rw [spec_Words.j1, if_neg (by decide), if_neg (by rw [ba_toList]; exact hp), if_pos (by omega), hw]) ?_
      refine Ev.step (fun k => by rw [spec_Words.l0, if_neg (by omega)]) ?_
      refine Ev.det' (Ev.now _) ?_
      simp [wd, hp]
  | cons c rest ih =>
    intro pre p out i hn h hi ho
    have hz : (s.size : Int) = pre.length + p.length + rest.length + 1 := by rw [h, ba_size]; simp; omega
    have hn2 : ∀ c ∈ rest, ¬ (c.toNat : Int) = 13 ∧ ¬ (c.toNat : Int) = 10 := fun x hx => hn x (List.mem_cons_of_mem _ hx)
    have hb : bt s i = (c.toNat : Int) := bt_mid (pre ++ p) c rest h (by simp; omega)
    have hw : wrap64 (i + 1) = i + 1 := w64 (by omega) (by omega)
    have go : Ev (fun k => spec_Words.j1 k s out (ba p) i (!Hd.blank (c.toNat : Int))) (out ++ (wd p (c :: rest)).map ba) := by
      by_cases hbl : Hd.blank (c.toNat : Int) = true
      · rw [hbl]
        by_cases hp : p = []
        · subst hp
          refine Ev.step (fun k => by rw [spec_Words.j1, if_neg (by decide), if_pos (ba_toList []), hw]) ?_
          refine Ev.det' (ih (pre ++ [c]) [] out (i + 1) hn2 (by rw [h]; simp) (by simp at hi ⊢; omega) (by simp; omega)) ?_
          rw [wd, if_pos hbl, if_pos rfl]
        · refine Ev.step (fun k => by rw [spec_Words.j1, if_neg (by decide), if_neg (by rw [ba_toList]; exact hp), if_pos (by omega), hw]) ?_
          have hpl : 0 < p.length := List.length_pos_iff.2 hp
          refine Ev.det' (ih (pre ++ p ++ [c]) [] (out ++ [ba p]) (i + 1) hn2 (by rw [h]; simp) (by simp; omega) (by simp; omega)) ?_
          rw [wd, if_pos hbl, if_neg hp]
          simp
      · have hx : s.extract i.toNat (i + 1).toNat = ba [c] := ext_mid (pre ++ p) [c] rest (by rw [h]; simp) (by simp; omega) (by simp; omega)
        have hbf : Hd.blank (c.toNat : Int) = false := by simpa using hbl
        rw [hbf]
        refine Ev.step (fun k => by
          rw [spec_Words.j1, if_pos (by decide), if_pos (by omega), hw, if_pos (by omega), if_pos (by omega), hx, if_pos (by rw [ba_size, ba_size]; simp; omega), ba_append]) ?_
        refine Ev.det' (ih pre (p ++ [c]) out (i + 1) hn2 (by rw [h]; simp) (by simp; omega) ho) ?_
        rw [wd, if_neg hbl]
    refine Ev.step (f := fun k => spec_Words.j1 k s out (ba p) i (!Hd.blank (c.toNat : Int))) (fun k => ?_) go
    rw [spec_Words.l0, if_pos (by omega), if_pos (by omega), if_pos (by omega), hb]
    by_cases c1 : (c.toNat : Int) = 32
    · rw [if_pos c1, c1]; rfl
    rw [if_neg c1]
    by_cases c2 : (c.toNat : Int) = 9
    · rw [if_pos c2, c2]; rfl
    rw [if_neg c2]
    have c3 := (hn c List.mem_cons_self).1
    have c4 := (hn c List.mem_cons_self).2
    rw [if_neg c3]
    congr 1
    rw [Hd.blank, beq_eq_false_iff_ne.2 c1, beq_eq_false_iff_ne.2 c2, bne, beq_eq_false_iff_ne.2 c4]; rfl
theorem Words_ev (l : List UInt8) (hs : l.length < 8796093022208) (hn : ∀ c ∈ l, ¬ (c.toNat : Int) = 13 ∧ ¬ (c.toNat : Int) = 10) : Ev (fun k => spec_Words.f k (ba l)) ((wd [] l).map ba) := by
  have := Words_l0 (ba l) hs l [] [] [] 0 hn (by simp) (by simp) (by simp)
  exact this
theorem within_l0 (L : List UInt8) (hs : L.length ≤ 2147483647) : ∀ (rest pre : List UInt8) (i : Int), L = pre ++ rest → i = (pre.length : Int) →
    ∃ b, Ev (fun k => laws_within.l0 k (nm L) i) b ∧ (b = true → L.length ≤ 200 ∧ ∀ c ∈ rest, ¬ (c.toNat : Int) = 13 ∧ ¬ (c.toNat : Int) = 10) := by
  intro rest
  induction rest with
  | nil =>
    intro pre i h hi
    have hz : L.length = pre.length := by rw [h]; simp
    refine ⟨decide (((nm L).length : Int) ≤ 200), Ev.step (fun k => by rw [laws_within.l0, if_neg (by rw [nm_len]; omega)]) (Ev.step (fun k => by rw [laws_within.j1, if_neg (by simp)]) (Ev.now _)), fun hb => ⟨?_, fun c hc => by cases hc⟩⟩
    have := of_decide_eq_true hb
    rw [nm_len] at this
    omega
  | cons c rest ih =>
    intro pre i h hi
    have hz : L.length = pre.length + rest.length + 1 := by rw [h]; simp; omega
    have hx : rd (nm L) i = (c.toNat : Int) := rd_mid (nm pre) _ (nm rest) (by rw [h]; simp [nm]) (by rw [nm_len]; exact hi)
    have hw : wrap64 (i + 1) = i + 1 := w64 (by omega) (by omega)
    obtain ⟨b, hb, hp⟩ := ih (pre ++ [c]) (i + 1) (by rw [h]; simp) (by simp; omega)
    by_cases hlong : i ≤ 200
    · by_cases c1 : (c.toNat : Int) = 13
      · exact ⟨false, Ev.step (fun k => by rw [laws_within.l0, if_pos (by rw [nm_len]; omega), decide_eq_true hlong]) (Ev.step (fun k => by rw [laws_within.j1, if_pos rfl, if_pos (by omega), if_pos (by rw [nm_len]; omega), hx, if_pos c1]) (Ev.now _)), fun h => by cases h⟩
      by_cases c2 : (c.toNat : Int) = 10
      · exact ⟨false, Ev.step (fun k => by rw [laws_within.l0, if_pos (by rw [nm_len]; omega), decide_eq_true hlong]) (Ev.step (fun k => by rw [laws_within.j1, if_pos rfl, if_pos (by omega), if_pos (by rw [nm_len]; omega), hx, if_neg c1, if_pos c2]) (Ev.now _)), fun h => by cases h⟩
      refine ⟨b, Ev.step (fun k => by rw [laws_within.l0, if_pos (by rw [nm_len]; omega), decide_eq_true hlong]) (Ev.step (fun k => by rw [laws_within.j1, if_pos rfl, if_pos (by omega), if_pos (by rw [nm_len]; omega), hx, if_neg c1, if_neg c2, hw]) hb), fun hbt => ⟨(hp hbt).1, fun x hx => ?_⟩⟩
      rcases List.mem_cons.1 hx with rfl | hx
      · exact ⟨c1, c2⟩
      · exact (hp hbt).2 x hx
    · refine ⟨decide (((nm L).length : Int) ≤ 200), Ev.step (fun k => by rw [laws_within.l0, if_pos (by rw [nm_len]; omega), decide_eq_false hlong]) (Ev.step (fun k => by rw [laws_within.j1, if_neg (by simp)]) (Ev.now _)), fun hb => ?_⟩
      have := of_decide_eq_true hb
      rw [nm_len] at this
      omega
theorem within_ev (L : List UInt8) (hs : L.length ≤ 2147483647) : ∃ b, Ev (fun k => laws_within.f k (nm L)) b ∧ (b = true → L.length ≤ 200 ∧ ∀ c ∈ L, ¬ (c.toNat : Int) = 13 ∧ ¬ (c.toNat : Int) = 10) :=
  within_l0 L hs L [] 0 (by simp) (by simp)
theorem Size_l0 (w : List UInt8) (hw9 : w.length ≤ 9) (h0 : w ≠ []) : ∀ (rest pre : List UInt8) (acc i : Int), w = pre ++ rest → i = (pre.length : Int) → 0 ≤ acc → acc < 10 ^ pre.length →
    Ev (fun k => spec_Size.l0 k (ba w) acc i) (Hd.dig (nm rest) acc) := by
  intro rest
  induction rest with
  | nil =>
    intro pre acc i h hi _ _
    have hz : (ba w).size = pre.length := by rw [h, ba_size]; simp
    exact Ev.step (f := fun _ => some acc) (fun k => by rw [spec_Size.l0, if_neg (by omega), if_neg (by rw [ba_toList]; exact h0)]) (Ev.now _)
  | cons c rest ih =>
    intro pre acc i h hi a0 a1
    have hz : (ba w).size = pre.length + rest.length + 1 := by rw [h, ba_size]; simp; omega
    have hzw : (ba w).size = w.length := ba_size w
    have hb : bt (ba w) i = (c.toNat : Int) := bt_mid pre c rest (by rw [h]) hi
    have hwi : wrap64 (i + 1) = i + 1 := w64 (by omega) (by omega)
    have hc : c.toNat < 256 := c.toNat_lt
    have e0 : nm (c :: rest) = (c.toNat : Int) :: nm rest := rfl
    have hp : (10 : Int) ^ pre.length ≤ 10 ^ 9 := by
      have := Nat.pow_le_pow_right (n := 10) (by omega) (show pre.length ≤ 9 by omega)
      have h3 : ((10 ^ pre.length : Nat) : Int) ≤ ((10 ^ 9 : Nat) : Int) := Int.ofNat_le.2 this
      simpa using h3
    have hp9 : (10 : Int) ^ 9 = 1000000000 := by decide
    have hpS : (10 : Int) ^ (pre.length + 1) = 10 ^ pre.length * 10 := Int.pow_succ ..
    rw [e0, Hd.dig]
    by_cases c1 : (c.toNat : Int) < 48
    · exact Ev.step (fun k => by rw [spec_Size.l0, if_pos (by omega), if_pos (by omega), hb, if_pos c1]) (Ev.det' (Ev.now _) (by rw [if_pos (.inl c1)]))
    by_cases c2 : (c.toNat : Int) > 57
    · exact Ev.step (fun k => by rw [spec_Size.l0, if_pos (by omega), if_pos (by omega), hb, if_neg c1, if_pos c2]) (Ev.det' (Ev.now _) (by rw [if_pos (.inr (by omega))]))
    have hm : ((c.toNat : Int) - 48) % 256 = (c.toNat : Int) - 48 := by omega
    have hw1 : wrap64 (10 * acc) = 10 * acc := w64 (by omega) (by omega)
    have hw2 : wrap64 (10 * acc + ((c.toNat : Int) - 48)) = 10 * acc + ((c.toNat : Int) - 48) := w64 (by omega) (by omega)
    rw [if_neg (by omega)]
    refine Ev.step (fun k => by rw [spec_Size.l0, if_pos (by omega), if_pos (by omega), hb, if_neg c1, if_neg c2, if_neg (by omega), hw1, hm, hw2, hwi]) ?_
    exact ih (pre ++ [c]) (10 * acc + ((c.toNat : Int) - 48)) (i + 1) (by rw [h]; simp) (by simp; omega) (by omega) (by rw [List.length_append, List.length_singleton, hpS]; omega)
theorem Size_ev (w : List UInt8) (hw : w.length ≤ 2147483647) : Ev (fun k => spec_Size.f k (ba w)) (Hd.psz (nm w)) := by
  unfold Hd.psz
  rw [nm_len]
  by_cases h0 : w.length = 0
  · obtain rfl := List.length_eq_zero_iff.1 h0
    rw [if_pos (.inl h0)]
    refine Ev.congr (f := fun k => spec_Size.l0 k (ba []) 0 0) (fun k => rfl) ?_
    exact Ev.step (fun k => by rw [spec_Size.l0, if_neg (by simp [ba_size]), if_pos (ba_toList [])]) (Ev.now _)
  by_cases h9 : 9 < w.length
  · rw [if_pos (.inr h9)]
    refine Ev.congr (f := fun k => spec_Size.l0 k (ba w) 0 0) (fun k => rfl) ?_
    refine Ev.step (f := fun _ => some (-1)) (fun k => ?_) (Ev.now _)
    have hz : ((ba w).size : Int) = w.length := rfl
    rw [spec_Size.l0, if_pos (by omega), if_pos (by omega)]
    split
    · rfl
    split
    · rfl
    rw [if_pos (by omega)]
  · rw [if_neg (by omega)]
    exact Size_l0 w (by omega) (fun h => by rw [h] at h0; exact h0 rfl) w [] 0 0 (by simp) (by simp) (by omega) (by simp)
end Go.Proofs.YtnkioieocjgekaaDoor.PlHd
