/- Bits of words, numbers of nodes and trees: plain facts. -/
import Derived.Test.YtebgaedalbdhaaaDoorAvO
namespace Go.Proofs.YtebgaedalbdhaaaDoor.Av
open Go.RowKit Go.Proofs.YtebgaedalbdhaaaDoorW.PrintWords Go.Proofs.YtebgaedalbdhaaaDoorW.PrintLast Go.Proofs.YtebgaedalbdhaaaDoorW.PrintMore
set_option linter.unusedVariables false
set_option linter.unusedSimpArgs false

theorem pow_lt64 {k : Nat} (h : k < 64) : 2 ^ k < 18446744073709551616 := by
  have : 2 ^ k < 2 ^ 64 := Nat.pow_lt_pow_right (by decide) h
  omega
theorem mask_eq (o : Nat) : IntKind.u64.wrap (2 ^ (o % 64)) = ((2 ^ (o % 64) : Nat) : Int) := by
  have := pow_lt64 (show o % 64 < 64 by omega)
  have e : ((2 : Int) ^ (o % 64)) = ((2 ^ (o % 64) : Nat) : Int) := by simp
  rw [e]
  obtain ⟨M, hM⟩ : ∃ M, M = 2 ^ (o % 64) := ⟨_, rfl⟩
  rw [← hM] at this ⊢
  rw [IntKind.wrap_u64]; omega
theorem and_pow_ne (a k : Nat) : (a &&& 2 ^ k ≠ 0) ↔ a.testBit k = true := by
  constructor
  · intro h
    cases hb : a.testBit k
    · exfalso
      apply h
      apply Nat.eq_of_testBit_eq
      intro i
      rw [Nat.testBit_and, Nat.testBit_two_pow, Nat.zero_testBit]
      by_cases e : k = i
      · subst e; rw [hb]; rfl
      · simp [e]
    · rfl
  · intro h e
    have : (a &&& 2 ^ k).testBit k = true := by rw [Nat.testBit_and, h, Nat.testBit_two_pow]; simp
    rw [e, Nat.zero_testBit] at this
    cases this
/-- A word, as a natural number. -/
def wd (s : List Int) (i : Nat) : Nat := (s.getD i 0).toNat
theorem wd_lt {s : List Int} (h : WordsOk s) (i : Nat) : wd s i < 18446744073709551616 := by
  unfold wd
  rw [List.getD_eq_getElem?_getD]
  cases hi : s[i]? with
  | none => simp
  | some v =>
    have := h.2 v (List.mem_of_getElem? hi)
    simp only [Option.getD_some]
    omega
theorem wd_cast {s : List Int} (h : WordsOk s) (i : Nat) : (s[i]?.getD 0) = ((wd s i : Nat) : Int) := by
  unfold wd
  rw [List.getD_eq_getElem?_getD]
  cases hi : s[i]? with
  | none => simp
  | some v =>
    have := h.2 v (List.mem_of_getElem? hi)
    simp only [Option.getD_some]
    omega
theorem bget_iff {s : List Int} (h : WordsOk s) (o : Nat) : bget s o = (wd s (o / 64)).testBit (o % 64) := by
  unfold bget
  rw [wd_cast h, mask_eq, u64_and_nat _ _ (wd_lt h _) (pow_lt64 (by omega))]
  have := and_pow_ne (wd s (o / 64)) (o % 64)
  cases hb : (wd s (o / 64)).testBit (o % 64)
  · rw [hb] at this
    have h0 : wd s (o / 64) &&& 2 ^ (o % 64) = 0 := by
      rcases Nat.eq_zero_or_pos (wd s (o / 64) &&& 2 ^ (o % 64)) with e | e
      · exact e
      · exact absurd (this.1 (by omega)) (by decide)
    rw [h0]; rfl
  · rw [hb] at this
    have h0 := this.2 rfl
    simp only [bne_iff_ne, ne_eq]
    omega
theorem wd_set {s : List Int} (hs : s.length = 32) {i j : Nat} (hi : i < 32) {v : Nat} : wd (s.set i (v : Int)) j = if i = j then v else wd s j := by
  unfold wd
  rw [List.getD_eq_getElem?_getD, List.getD_eq_getElem?_getD, List.getElem?_set]
  split
  · rw [if_pos (by omega)]; simp
  · rfl
theorem bget_bset {s : List Int} (h : WordsOk s) {o : Nat} (ho : o < 2048) (o' : Nat) : bget (bset s o) o' = (decide (o = o') || bget s o') := by
  rw [bget_iff (words_bset h o), bget_iff h]
  unfold bset
  rw [wd_cast h, mask_eq, u64_or_nat _ _ (wd_lt h _) (pow_lt64 (by omega)), wd_set h.1 (by omega)]
  split
  · rename_i e
    rw [Nat.testBit_or, Nat.testBit_two_pow, ← e, Bool.or_comm]
    congr 1
    apply decide_eq_decide.2
    constructor <;> omega
  · rename_i e
    have : ¬ o = o' := by rintro rfl; exact e rfl
    simp [this]
theorem bget_bput {s : List Int} (h : WordsOk s) {o : Nat} (ho : o < 2048) (o' : Nat) : bget (bput s o) o' = (decide (o = o') || bget s o') := by
  unfold bput
  split
  · rename_i hb
    by_cases e : o = o'
    · subst e; simp [hb]
    · simp [e]
  · exact bget_bset h ho o'
theorem bget_bclr {s : List Int} (h : WordsOk s) {o : Nat} (ho : o < 2048) (o' : Nat) : bget (bclr s o) o' = (!decide (o = o') && bget s o') := by
  rw [bget_iff (words_bclr h o), bget_iff h]
  unfold bclr
  have hp := pow_lt64 (show o % 64 < 64 by omega)
  rw [wd_cast h, mask_eq, u64_andNot_nat _ _ (wd_lt h _) hp, wd_set h.1 (by omega)]
  split
  · rename_i e
    have e2 : 18446744073709551615 - 2 ^ (o % 64) = 2 ^ 64 - (2 ^ (o % 64) + 1) := by omega
    rw [Nat.testBit_and, e2, Nat.testBit_two_pow_sub_succ (by omega), Nat.testBit_two_pow, ← e, Bool.and_comm]
    have h64 : decide (o' % 64 < 64) = true := by simp; omega
    rw [h64, Bool.true_and]
    congr 2
    apply decide_eq_decide.2
    constructor <;> omega
  · rename_i e
    have : ¬ o = o' := by rintro rfl; exact e rfl
    simp [this]
theorem bget_none {s : List Int} (h : WordsOk s) (ha : s.all (· == 0) = true) (o : Nat) : bget s o = false := by
  rw [bget_iff h]
  have : wd s (o / 64) = 0 := by
    unfold wd
    rw [List.getD_eq_getElem?_getD]
    cases hi : s[o / 64]? with
    | none => rfl
    | some v =>
      have := List.all_eq_true.1 ha v (List.mem_of_getElem? hi)
      simp at this
      simp [this]
  rw [this, Nat.zero_testBit]

/-! ### the numbers of a word -/
theorem ctz_bits {b : Nat} (h0 : b ≠ 0) (h1 : b < 18446744073709551616) : Lib.ctz 64 b < 64 ∧ b.testBit (Lib.ctz 64 b) = true ∧ (∀ j, b.testBit j = true → Lib.ctz 64 b ≤ j) ∧ ∀ j, (b &&& (b - 1)).testBit j = (b.testBit j && !decide (j = Lib.ctz 64 b)) := by
  obtain ⟨m, hm, hk⟩ := Lib.ctzFrom_spec 64 b (by omega) (by omega)
  have e : Lib.ctz 64 b = Lib.ctzFrom 64 b := by simp [Lib.ctz, h0]
  rw [e]
  obtain ⟨c, hc⟩ : ∃ c, c = Lib.ctzFrom 64 b := ⟨_, rfl⟩
  rw [← hc] at hm hk ⊢
  clear hc e
  have hpos : 0 < 2 ^ c := Nat.two_pow_pos c
  have hb : ∀ j, b.testBit j = (decide (j ≥ c) && (2 * m + 1).testBit (j - c)) := fun j => by rw [hm, Nat.testBit_two_pow_mul]
  have hb1 : b - 1 = 2 ^ c * (2 * m) + (2 ^ c - 1) := by rw [hm, Nat.mul_add]; omega
  refine ⟨hk, ?_, fun j hj => ?_, fun j => ?_⟩
  · rw [hb, Nat.sub_self]
    simp [Nat.testBit_zero]
  · rw [hb, Bool.and_eq_true] at hj
    simpa using hj.1
  · rw [Nat.testBit_and, hb1, Nat.testBit_two_pow_mul_add _ (by omega), hb]
    by_cases hj : j < c
    · have : ¬ j ≥ c := by omega
      simp [this]
    · rw [if_neg hj]
      have hge : j ≥ c := by omega
      by_cases he : j = c
      · subst he
        simp [Nat.testBit_zero]
      · obtain ⟨d, rfl⟩ : ∃ d, j = c + (d + 1) := ⟨j - c - 1, by omega⟩
        have e3 : c + (d + 1) - c = d + 1 := by omega
        rw [e3, Nat.testBit_succ, Nat.testBit_succ]
        have d1 : (2 * m + 1) / 2 = m := by omega
        have d2 : (2 * m) / 2 = m := by omega
        rw [d1, d2]
        simp
theorem wordNums_spec (base : Int) : ∀ (b : Nat), b < 18446744073709551616 → (∀ q, q ∈ wordNums base b ↔ ∃ j : Nat, j < 64 ∧ q = base + j ∧ b.testBit j = true) ∧ (wordNums base b).Pairwise (· < ·) := by
  intro b
  induction b using Nat.strongRecOn with
  | _ b ih =>
    intro hb
    by_cases h0 : b = 0
    · subst h0
      rw [wordNums_zero]
      refine ⟨fun q => ⟨fun h => (by cases h), fun ⟨j, _, _, h⟩ => by rw [Nat.zero_testBit] at h; cases h⟩, List.Pairwise.nil⟩
    · obtain ⟨c1, c2, c3, c4⟩ := ctz_bits h0 hb
      obtain ⟨i1, i2⟩ := ih (b &&& (b - 1)) (and_pred_lt h0) (by have := and_pred_lt h0; omega)
      rw [wordNums_step base h0]
      refine ⟨fun q => ?_, ?_⟩
      · rw [List.mem_cons, i1]
        constructor
        · rintro (rfl | ⟨j, h1, h2, h3⟩)
          · exact ⟨_, c1, rfl, c2⟩
          · rw [c4, Bool.and_eq_true] at h3
            exact ⟨j, h1, h2, h3.1⟩
        · rintro ⟨j, h1, h2, h3⟩
          by_cases e : j = Lib.ctz 64 b
          · subst e; exact .inl h2
          · exact .inr ⟨j, h1, h2, by rw [c4, h3]; simp [e]⟩
      · refine List.Pairwise.cons (fun q hq => ?_) i2
        obtain ⟨j, h1, h2, h3⟩ := (i1 q).1 hq
        rw [c4, Bool.and_eq_true] at h3
        have h4 := c3 j h3.1
        have h5 : j ≠ Lib.ctz 64 b := by simpa using h3.2
        omega
/-! ### the numbers of a node -/
theorem nodeFrom_spec {x : Int} {s : List Int} (hs : WordsOk s) : (∀ q, q ∈ nodeFrom x s 0 ↔ x ≤ q ∧ q < x + 2048 ∧ bget s (q - x).toNat = true) ∧ (nodeFrom x s 0).Pairwise (· < ·) := by
  unfold nodeFrom
  refine ⟨fun q => ?_, ?_⟩
  · rw [List.mem_flatMap]
    constructor
    · rintro ⟨i, hi, hq⟩
      rw [List.mem_range'_1] at hi
      obtain ⟨j, h1, h2, h3⟩ := ((wordNums_spec _ _ (wd_lt hs i)).1 q).1 hq
      refine ⟨by omega, by omega, ?_⟩
      rw [bget_iff hs]
      have e1 : (q - x).toNat / 64 = i := by omega
      have e2 : (q - x).toNat % 64 = j := by omega
      rw [e1, e2]
      exact h3
    · rintro ⟨h1, h2, h3⟩
      refine ⟨(q - x).toNat / 64, by rw [List.mem_range'_1]; omega, ?_⟩
      refine ((wordNums_spec _ _ (wd_lt hs _)).1 q).2 ⟨(q - x).toNat % 64, by omega, by omega, ?_⟩
      rw [bget_iff hs] at h3
      exact h3
  · rw [List.pairwise_flatMap]
    refine ⟨fun i _ => (wordNums_spec _ _ (wd_lt hs i)).2, ?_⟩
    have hr : (List.range' 0 (32 - 0)).Pairwise (· < ·) := List.pairwise_lt_range'
    refine hr.imp (fun {i i'} hlt q hq q' hq' => ?_)
    obtain ⟨j, h1, h2, _⟩ := ((wordNums_spec _ _ (wd_lt hs i)).1 q).1 hq
    obtain ⟨j', h3, h4, _⟩ := ((wordNums_spec _ _ (wd_lt hs i')).1 q').1 hq'
    omega
end Go.Proofs.YtebgaedalbdhaaaDoor.Av
