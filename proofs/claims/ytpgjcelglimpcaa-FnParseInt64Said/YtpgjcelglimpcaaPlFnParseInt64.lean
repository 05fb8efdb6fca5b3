/- What the printed functions of FnParseInt64 come to, as plain functions on lists. -/
import Derived.Test.YtpgjcelglimpcaaPlBase
import Derived.Test.YtpgjcelglimpcaaQFnParseInt64x2
namespace Go.Proofs.Ytpgjcelglimpcaa.PlFnParseInt64
open Go.RowKit Go.Proofs.YtpgjcelglimpcaaW.PrintWords Go.Proofs.YtpgjcelglimpcaaW.PrintLast Go.Proofs.YtpgjcelglimpcaaW.PrintMore Go.Proofs.Ytpgjcelglimpcaa.Pl Go.Proofs.Ytpgjcelglimpcaa.PFnParseInt64
set_option linter.unusedVariables false
set_option linter.unusedSimpArgs false

def digitB (c : UInt8) : Bool := decide (48 ≤ c) && decide (c ≤ 57)
theorem digitB_iff (c : UInt8) : digitB c = true ↔ 48 ≤ c.toNat ∧ c.toNat ≤ 57 := by
  simp [digitB, UInt8.le_iff_toNat_le]
abbrev nums8 (l : List UInt8) : List Int := l.map fun b => (b.toNat : Int)
theorem digital_l0 (l : List UInt8) (hs : l.length ≤ 140737488351232) : ∀ (rest pre : List UInt8) (i : Int), l = pre ++ rest → i = (pre.length : Int) →
    Ev (fun k => laws_digital.l0 k (nums8 l) i) (rest.all digitB && decide ((l.length : Int) > 0)) := by
  intro rest
  induction rest with
  | nil =>
    intro pre i h hi
    have hz : ((nums8 l).length : Int) = pre.length := by rw [h]; simp
    refine Ev.step (fun k => by rw [laws_digital.l0, if_neg (by omega)]) ?_
    exact Ev.const (by simp)
  | cons c rest ih =>
    intro pre i h hi
    have hz : ((nums8 l).length : Int) = pre.length + rest.length + 1 := by rw [h]; simp; omega
    have hz2 : (l.length : Int) = pre.length + rest.length + 1 := by rw [h]; simp; omega
    have hb : rd (nums8 l) i = (c.toNat : Int) := rd_mid (nums8 pre) _ (nums8 rest) (by rw [h]; simp) (by simp; omega)
    have hw : wrap64 (i + 1) = i + 1 := w64 (by omega) (by omega)
    have hd := digitB_iff c
    by_cases hc : digitB c = true
    · have h48 := (hd.1 hc)
      refine Ev.step (fun k => by rw [laws_digital.l0, if_pos (by omega), if_pos (by omega), hb, if_neg (by omega), if_neg (by omega), hw]) ?_
      refine Ev.det' (ih (pre ++ [c]) (i + 1) (by rw [h]; simp) (by simp; omega)) ?_
      rw [List.all_cons, hc, Bool.true_and]
    · have h48 := mt hd.2 hc
      by_cases h1 : (c.toNat : Int) < 48
      · refine Ev.step (fun k => by rw [laws_digital.l0, if_pos (by omega), if_pos (by omega), hb, if_pos h1]) ?_
        exact Ev.const (by simp [hc])
      · refine Ev.step (fun k => by rw [laws_digital.l0, if_pos (by omega), if_pos (by omega), hb, if_neg h1, if_pos (by omega)]) ?_
        exact Ev.const (by simp [hc])
def numA : Int → List UInt8 → Int
  | n, [] => n
  | n, c :: l => if digitB c = true then (if n > (9223372036854775807 - ((c.toNat : Int) - 48)) / 10 then -1 else numA (10 * n + ((c.toNat : Int) - 48)) l) else -1
theorem Number_l0 (l : List UInt8) (hl : l ≠ []) (hs : l.length ≤ 140737488351232) : ∀ (rest pre : List UInt8) (n i : Int), l = pre ++ rest → i = (pre.length : Int) → 0 ≤ n → n ≤ 9223372036854775807 →
    Ev (fun k => spec_Number.l0 k (ba l) n i) (numA n rest) := by
  intro rest
  induction rest with
  | nil =>
    intro pre n i h hi h0 h1
    have hz : ((ba l).size : Int) = pre.length := by rw [ba_size, h]; simp
    refine Ev.step (fun k => by rw [spec_Number.l0, if_neg (by omega), ba_toList, if_neg hl]) ?_
    exact Ev.now _
  | cons c rest ih =>
    intro pre n i h hi h0 h1
    have hz : ((ba l).size : Int) = pre.length + rest.length + 1 := by rw [ba_size, h]; simp; omega
    have hz2 : (l.length : Int) = pre.length + rest.length + 1 := by rw [h]; simp; omega
    have hb : bt (ba l) i = (c.toNat : Int) := bt_mid pre c rest (by rw [h]) hi
    have hw : wrap64 (i + 1) = i + 1 := w64 (by omega) (by omega)
    have hd := digitB_iff c
    rw [numA]
    by_cases hc : digitB c = true
    · have h48 := (hd.1 hc)
      rw [if_pos hc]
      have hm : ((c.toNat : Int) - 48) % 256 = (c.toNat : Int) - 48 := by omega
      refine Ev.step (fun k => by rw [spec_Number.l0, if_pos (by omega), if_pos (by omega), hb, if_neg (by omega), decide_eq_false (by omega)]) ?_
      by_cases hov : n > (9223372036854775807 - ((c.toNat : Int) - 48)) / 10
      · rw [if_pos hov]
        refine Ev.step (fun k => by rw [spec_Number.j1, if_neg (by simp), if_pos (by omega), if_pos (by omega), hb, hm, if_pos hov]) ?_
        exact Ev.now _
      · rw [if_neg hov]
        have hw1 : wrap64 (10 * n) = 10 * n := w64 (by omega) (by omega)
        have hw2 : wrap64 (10 * n + ((c.toNat : Int) - 48)) = 10 * n + ((c.toNat : Int) - 48) := w64 (by omega) (by omega)
        refine Ev.step (fun k => by rw [spec_Number.j1, if_neg (by simp), if_pos (by omega), if_pos (by omega), hb, hm, if_neg hov, hw, hw1, hw2]) ?_
        exact ih (pre ++ [c]) _ (i + 1) (by rw [h]; simp) (by simp; omega) (by omega) (by omega)
    · have h48 := mt hd.2 hc
      rw [if_neg hc]
      have : ∀ b, b = true → Ev (fun k => spec_Number.j1 k (ba l) n i b) (-1) := by
        rintro b rfl
        refine Ev.step (fun k => by rw [spec_Number.j1, if_pos rfl]) ?_
        exact Ev.now _
      by_cases h1 : (c.toNat : Int) < 48
      · refine Ev.step (fun k => by rw [spec_Number.l0, if_pos (by omega), if_pos (by omega), hb, if_pos h1]) ?_
        exact this _ rfl
      · refine Ev.step (fun k => by rw [spec_Number.l0, if_pos (by omega), if_pos (by omega), hb, if_neg h1]) ?_
        exact this _ (decide_eq_true (by omega))
theorem Number_ev (l : List UInt8) (hs : l.length ≤ 140737488351232) : Ev (fun k => spec_Number.f k (ba l)) (if l = [] then -1 else numA 0 l) := by
  by_cases h : l = []
  · subst h
    refine Ev.congr (fun k => by rw [spec_Number.f]) ?_
    refine Ev.step (fun k => by rw [spec_Number.l0, if_neg (by simp [ba_size]), ba_toList, if_pos rfl]) ?_
    exact Ev.now _
  · rw [if_neg h]
    exact Number_l0 l h hs l [] 0 0 (by simp) (by simp) (by omega) (by omega)
def parA : Int → List UInt8 → Int
  | n, [] => n
  | n, c :: l => if digitB c = true then parA (wrap64 (wrap64 (n * 10) + ((c.toNat : Int) - 48))) l else -1
theorem parse_l0 (l : List UInt8) (hs : l.length ≤ 140737488351232) : ∀ (rest pre : List UInt8) (n i : Int), l = pre ++ rest → i = (pre.length : Int) →
    Ev (fun k => server_parseInt64.l0 k n (nums8 l) (l.length : Int) i) (parA n rest) := by
  intro rest
  induction rest with
  | nil =>
    intro pre n i h hi
    have hz : (l.length : Int) = pre.length := by rw [h]; simp
    refine Ev.step (fun k => by rw [server_parseInt64.l0, if_neg (by omega)]) ?_
    exact Ev.now _
  | cons c rest ih =>
    intro pre n i h hi
    have hz : ((nums8 l).length : Int) = pre.length + rest.length + 1 := by rw [h]; simp; omega
    have hz2 : (l.length : Int) = pre.length + rest.length + 1 := by rw [h]; simp; omega
    have hb : rd (nums8 l) i = (c.toNat : Int) := rd_mid (nums8 pre) _ (nums8 rest) (by rw [h]; simp) (by simp; omega)
    have hw : wrap64 (i + 1) = i + 1 := w64 (by omega) (by omega)
    have hd := digitB_iff c
    have hr : c.toNat < 256 := c.toNat_lt
    rw [parA]
    by_cases hc : digitB c = true
    · have h48 := (hd.1 hc)
      rw [if_pos hc]
      have hw1 : wrap64 (c.toNat : Int) = c.toNat := w64 (by omega) (by omega)
      have hw2 : wrap64 ((c.toNat : Int) - 48) = (c.toNat : Int) - 48 := w64 (by omega) (by omega)
      refine Ev.step (fun k => by rw [server_parseInt64.l0, if_pos (by omega), if_pos (by omega), if_pos (by omega), hb, if_neg (by omega), if_neg (by omega), hw, hw1, hw2]) ?_
      exact ih (pre ++ [c]) _ (i + 1) (by rw [h]; simp) (by simp; omega)
    · have h48 := mt hd.2 hc
      rw [if_neg hc]
      by_cases h1 : (c.toNat : Int) < 48
      · refine Ev.step (fun k => by rw [server_parseInt64.l0, if_pos (by omega), if_pos (by omega), if_pos (by omega), hb, if_pos h1]) ?_
        exact Ev.now _
      · refine Ev.step (fun k => by rw [server_parseInt64.l0, if_pos (by omega), if_pos (by omega), if_pos (by omega), hb, if_neg h1, if_pos (by omega)]) ?_
        exact Ev.now _
theorem parse_ev (l : List UInt8) (hs : l.length ≤ 140737488351232) : Ev (fun k => impl_ParseInt64.f k (nums8 l)) (if l = [] then -1 else parA 0 l) := by
  refine Ev.congr (fun k => by rw [impl_ParseInt64.f, server_ParseInt64.f]) ?_
  refine Ev.bind (Ev.bind ?_ (Ev.now _)) (Ev.now _)
  by_cases h : l = []
  · subst h
    refine Ev.congr (fun k => by rw [server_parseInt64.f, if_pos (by simp)]) ?_
    exact Ev.now _
  · rw [if_neg h]
    refine Ev.congr (fun k => by rw [server_parseInt64.f, if_neg (by simpa using h)]) ?_
    have := parse_l0 l hs l [] 0 0 (by simp) (by simp)
    simpa using this
/-- Bytes that are not digits alone: both say -1. -/
theorem numA_not : ∀ (l : List UInt8) (n : Int), l.all digitB = false → numA n l = -1
  | [], n, h => by simp at h
  | c :: l, n, h => by
    rw [numA]
    by_cases hc : digitB c = true
    · rw [if_pos hc]
      split
      · rfl
      · exact numA_not l _ (by simpa [hc] using h)
    · rw [if_neg hc]
theorem parA_not : ∀ (l : List UInt8) (n : Int), l.all digitB = false → parA n l = -1
  | [], n, h => by simp at h
  | c :: l, n, h => by
    rw [parA]
    by_cases hc : digitB c = true
    · rw [if_pos hc]; exact parA_not l _ (by simpa [hc] using h)
    · rw [if_neg hc]
theorem numA_par : ∀ (l : List UInt8) (n : Int), 0 ≤ n → 0 ≤ numA n l → parA n l = numA n l
  | [], n, _, _ => rfl
  | c :: l, n, h0, h => by
    rw [numA] at h ⊢
    rw [parA]
    by_cases hc : digitB c = true
    · have h48 := (digitB_iff c).1 hc
      rw [if_pos hc] at h ⊢
      rw [if_pos hc]
      by_cases hov : n > (9223372036854775807 - ((c.toNat : Int) - 48)) / 10
      · rw [if_pos hov] at h; omega
      · rw [if_neg hov] at h ⊢
        have hw1 : wrap64 (n * 10) = 10 * n := by rw [w64 (by omega) (by omega)]; omega
        have hw2 : wrap64 (10 * n + ((c.toNat : Int) - 48)) = 10 * n + ((c.toNat : Int) - 48) := w64 (by omega) (by omega)
        rw [hw1, hw2]
        exact numA_par l _ (by omega) h
    · rw [if_neg hc]
      rw [if_neg hc]

theorem tail_ev (l : List UInt8) (hl : l.length ≤ 400) (h : (if l = [] then (-1 : Int) else parA 0 l) = (if l = [] then -1 else numA 0 l)) :
    Ev (fun k => (some (([] : List Int) : List Int)).bind fun y109 => (if y109.length + (nums8 l).length < 140737488355328 then ((impl_ParseInt64.f k (y109 ++ nums8 l)).bind fun t115 => ((spec_Number.f k (strOfNums (nums8 l))).bind fun t116 => (if t115 = t116 then ((impl_ParseInt64.f k (([49, 50] : List Int))).bind fun t120 => (some (t120 == 12))) else (some false)))) else (none))) true := by
  refine Ev.congr (fun k => by rw [Option.bind_some, List.nil_append, if_pos (by simp; omega)]) ?_
  refine Ev.bind (parse_ev l (by omega)) ?_
  rw [strOfNums_bytes]
  refine Ev.bind (Number_ev l (by omega)) ?_
  refine Ev.congr (fun k => by rw [if_pos h]) ?_
  have h12 : ([49, 50] : List Int) = nums8 [49, 50] := by decide
  rw [h12]
  refine Ev.bind (parse_ev [49, 50] (by simp)) ?_
  refine Ev.const ?_
  have : parA 0 [49, 50] = 12 := by decide +kernel
  rw [if_neg (by simp), this]; rfl
theorem pure : laws_FnParseInt64.Pure := by
  intro xs _ hs hw
  obtain ⟨l, rfl⟩ := nums_surj xs hw
  have hlen : (nums8 l).length = l.length := by simp
  apply Ev.rounds
  by_cases hb : ((nums8 l).length : Int) > 2147483647
  · exact Ev.congr (fun k => by rw [laws_FnParseInt64.f, if_pos hb]) (Ev.now _)
  refine Ev.congr (fun k => by rw [laws_FnParseInt64.f, if_neg hb, laws_short.f, Option.bind_some]) ?_
  by_cases h2 : ¬ ((nums8 l).length : Int) ≤ 200
  · rw [decide_eq_false h2]
    simp only [Bool.false_eq_true, if_false]; exact Ev.now _
  rw [decide_eq_true (Classical.not_not.1 h2)]
  by_cases h3 : ((nums8 l).length : Int) > 25
  · simp only [if_true, h3]; exact Ev.now _
  simp only [if_true, if_neg h3]
  have hD := digital_l0 l (by omega) l [] 0 (by simp) (by simp)
  refine Ev.bind hD ?_
  by_cases hd : l.all digitB = true
  · cases l with
    | nil =>
      simp only [List.all_nil, List.length_nil, Bool.true_and]
      have : decide (((0 : Nat) : Int) > 0) = false := by decide
      simp only [this, Bool.false_eq_true, if_false]
      exact tail_ev [] (by simp) rfl
    | cons c l =>
      have : decide (((c :: l).length : Int) > 0) = true := decide_eq_true (by simp)
      simp only [hd, this, Bool.and_self, if_true]
      rw [strOfNums_bytes]
      refine Ev.bind (Number_ev (c :: l) (by omega)) ?_
      rw [if_neg (by simp)]
      by_cases hn : numA 0 (c :: l) < 0
      · exact Ev.pos hn (Ev.now _)
      · refine Ev.neg hn ?_
        have ht := tail_ev (c :: l) (by omega) (by rw [if_neg (by simp), if_neg (by simp)]; exact numA_par _ 0 (by omega) (by omega))
        rw [strOfNums_bytes] at ht
        exact ht
  · have hd' : l.all digitB = false := by simpa using hd
    simp only [hd', Bool.false_and, Bool.false_eq_true, if_false]
    refine tail_ev l (by omega) ?_
    by_cases h0 : l = []
    · rw [if_pos h0, if_pos h0]
    · rw [if_neg h0, if_neg h0, numA_not l 0 hd', parA_not l 0 hd']

end Go.Proofs.Ytpgjcelglimpcaa.PlFnParseInt64
