/- Rows without gaps: the end of one, as the tree tells it and as the ascending numbers do. -/
import Derived.Test.YtebgaedalbdhaaaDoorSaF
import Derived.Test.YtebgaedalbdhaaaDoorPlWalk
namespace Go.Proofs.YtebgaedalbdhaaaDoor.Av
open Go.RowKit Go.Proofs.YtebgaedalbdhaaaDoorW.PrintWords Go.Proofs.YtebgaedalbdhaaaDoorW.PrintLast Go.Proofs.YtebgaedalbdhaaaDoorW.PrintMore
set_option linter.unusedVariables false
set_option linter.unusedSimpArgs false

/-- e is the last number of the row without gaps that begins with n. -/
def Span (L : List Int) (n e : Int) : Prop := n ≤ e ∧ (∀ y, n ≤ y → y ≤ e → y ∈ L) ∧ e + 1 ∉ L
theorem Span.uniq {L : List Int} {n e e' : Int} (h : Span L n e) (h' : Span L n e') : e = e' := by
  obtain ⟨h1, h2, h3⟩ := h
  obtain ⟨k1, k2, k3⟩ := h'
  rcases Int.lt_trichotomy e e' with h | h | h
  · exact absurd (k2 (e + 1) (by omega) (by omega)) h3
  · exact h
  · exact absurd (h2 (e' + 1) (by omega) (by omega)) k3
theorem span_of {L : List Int} {n E : Int} (hn : n ∈ L) (h0 : n ≤ E) (h1 : ∀ y, n ≤ y → y < E → y ∈ L) (h2 : E ∉ L) : Span L n (E - 1) := by
  have : n ≠ E := fun e => h2 (e ▸ hn)
  refine ⟨by omega, fun y a b => h1 y a (by omega), by rwa [Int.sub_add_cancel]⟩
/-- The bits of a word that are not there, from bit k on. -/
def missW (v k : Nat) : Nat := (18446744073709551615 - v) &&& (18446744073709551615 * 2 ^ k % 18446744073709551616)
theorem testBit_full (k j : Nat) : (18446744073709551615 * 2 ^ k % 18446744073709551616).testBit j = (decide (k ≤ j) && decide (j < 64)) := by
  have e : (18446744073709551616 : Nat) = 2 ^ 64 := by decide
  have e2 : (18446744073709551615 : Nat) = 2 ^ 64 - 1 := by decide
  rw [e, e2, Nat.testBit_mod_two_pow, Nat.mul_comm, Nat.testBit_two_pow_mul, Nat.testBit_two_pow_sub_one]
  by_cases h1 : k ≤ j <;> by_cases h2 : j < 64 <;> simp [h1, h2] <;> omega
theorem missW_bit {v k : Nat} (hv : v < 18446744073709551616) (j : Nat) : (missW v k).testBit j = (decide (k ≤ j) && decide (j < 64) && !v.testBit j) := by
  have e : (18446744073709551615 : Nat) - v = 2 ^ 64 - (v + 1) := by omega
  unfold missW
  rw [Nat.testBit_and, testBit_full, e, Nat.testBit_two_pow_sub_succ (by omega)]
  by_cases h1 : k ≤ j <;> by_cases h2 : j < 64 <;> simp [h1, h2]
theorem missW_lt (v k : Nat) : missW v k < 18446744073709551616 := by
  have := @Nat.and_le_left (18446744073709551615 - v) (18446744073709551615 * 2 ^ k % 18446744073709551616)
  unfold missW
  omega
theorem missW_zero {v k : Nat} (hv : v < 18446744073709551616) (h : missW v k = 0) : ∀ j, k ≤ j → j < 64 → v.testBit j = true := fun j h1 h2 => by
  have := missW_bit (k := k) hv j
  rw [h, Nat.zero_testBit] at this
  simpa [h1, h2] using this.symm
theorem missW_some {v k : Nat} (hv : v < 18446744073709551616) (h : missW v k ≠ 0) : k ≤ Lib.ctz 64 (missW v k) ∧ Lib.ctz 64 (missW v k) < 64 ∧ v.testBit (Lib.ctz 64 (missW v k)) = false ∧ ∀ j, k ≤ j → j < Lib.ctz 64 (missW v k) → v.testBit j = true := by
  obtain ⟨c1, c2, c3, -⟩ := ctz_bits h (missW_lt v k)
  rw [missW_bit hv] at c2
  simp only [Bool.and_eq_true, decide_eq_true_eq, Bool.not_eq_true'] at c2
  refine ⟨c2.1.1, c1, c2.2, fun j h1 h2 => ?_⟩
  cases hb : v.testBit j with
  | true => rfl
  | false =>
    have := c3 j (by rw [missW_bit hv, hb]; simp [h1]; omega)
    omega

/-! ### the tree's order -/
def stkOf : T → List Nd
  | .nil => []
  | .node b x s _ r => (b, x, s) :: r.flat
def flatS (st : List T) : List Nd := st.flatMap stkOf
structure StkOk (w : World) (st : List T) : Prop where
  each : ∀ u ∈ st, Lies w u ∧ ∃ b x s l r, u = .node b x s l r
theorem flatS_cons (b : Nat) (x : Int) (s : List Int) (l r : T) (st : List T) : flatS (.node b x s l r :: st) = (b, x, s) :: (r.flat ++ flatS st) := rfl
/-- Where the walk stands: at a node, behind nodes that are done, ahead of the others. -/
structure At (t : T) (n q : Int) (done : List Nd) (b : Nat) (x : Int) (s : List Int) (rest : List Nd) : Prop where
  split : t.flat = done ++ (b, x, s) :: rest
  low : n ≤ q
  had : ∀ y, n ≤ y → y < q → y ∈ t.nums
  lo : x ≤ q
section
variable {t : T} {n q : Int} {done rest : List Nd} {b : Nat} {x : Int} {s : List Int}
theorem At.words (h : At t n q done b x s rest) (hw : t.wf) : NW (b, x, s) := hw _ (by rw [h.split]; simp)
theorem At.mem (h : At t n q done b x s rest) (hw : t.wf) (ho : OrdF t.flat) {y : Int} (h1 : x ≤ y) (h2 : y < x + 2048) : y ∈ t.nums ↔ bget s (y - x).toNat = true := by
  have ho' := ho
  unfold OrdF at ho'
  rw [h.split, List.pairwise_append, List.pairwise_cons] at ho'
  rw [mem_nums hw, h.split]
  constructor
  · rintro ⟨p, hp, k1, k2, k3⟩
    rcases List.mem_append.1 hp with hp | hp
    · have := ho'.2.2 p hp _ List.mem_cons_self
      simp only at this
      omega
    · rcases List.mem_cons.1 hp with rfl | hp
      · exact k3
      · have := ho'.2.1.1 p hp
        simp only at this
        omega
  · intro hb
    exact ⟨(b, x, s), by simp, h1, h2, hb⟩
/-- Of the next node on: none, or a gap, or it goes on at once. -/
theorem At.gap (h : At t n q done b x s rest) (hw : t.wf) (ho : OrdF t.flat) (hq : q = x + 2048) (hr : ∀ p ∈ rest, q < p.2.1) : q ∉ t.nums := by
  have ho' := ho
  unfold OrdF at ho'
  rw [h.split, List.pairwise_append, List.pairwise_cons] at ho'
  rw [mem_nums hw, h.split]
  rintro ⟨p, hp, k1, k2, k3⟩
  rcases List.mem_append.1 hp with hp | hp
  · have := ho'.2.2 p hp _ List.mem_cons_self
    simp only at this
    omega
  · rcases List.mem_cons.1 hp with rfl | hp
    · simp only at k2; omega
    · have := hr p hp; omega
theorem At.after (h : At t n q done b x s rest) (ho : OrdF t.flat) : (∀ p ∈ rest, x + 2048 ≤ p.2.1) ∧ OrdF rest := by
  unfold OrdF at ho
  rw [h.split, List.pairwise_append, List.pairwise_cons] at ho
  exact ⟨ho.2.1.1, ho.2.1.2⟩
theorem At.next {b' : Nat} {x' : Int} {s' : List Int} {rest' : List Nd} (h : At t n q done b x s ((b', x', s') :: rest')) (hq : q = x') : At t n q (done ++ [(b, x, s)]) b' x' s' rest' :=
  ⟨by rw [h.split]; simp, h.low, h.had, by omega⟩
theorem At.gap' {b' : Nat} {x' : Int} {s' : List Int} {rest' : List Nd} (h : At t n q done b x s ((b', x', s') :: rest')) (hw : t.wf) (ho : OrdF t.flat) (hq : q = x + 2048) (hx : q < x') : q ∉ t.nums := by
  obtain ⟨h1, h2⟩ := h.after ho
  unfold OrdF at h2
  rw [List.pairwise_cons] at h2
  refine h.gap hw ho hq (fun p hp => ?_)
  rcases List.mem_cons.1 hp with rfl | hp
  · exact hx
  · have := h2.1 p hp
    simp only at this
    omega
/-- A word is looked at, from a bit on. -/
theorem At.miss {i k : Nat} {v : Nat} (h : At t n q done b x s rest) (hw : t.wf) (ho : OrdF t.flat) (hn : n ∈ t.nums) (hq : q = x + (i : Int) * 64 + (k : Int)) (hi : i < 32) (hk : k < 64) (hv : s.getD i 0 = (v : Int)) (hz : missW v k ≠ 0) :
    Span t.nums n (q + ((Lib.ctz 64 (missW v k) : Nat) - (k : Int)) - 1) ∧ k ≤ Lib.ctz 64 (missW v k) ∧ Lib.ctz 64 (missW v k) < 64 := by
  have hs := (NW_iff.1 (h.words hw)).2.2
  have hwd : wd s i = v := by unfold wd; rw [hv, Int.toNat_natCast]
  have hlt : v < 18446744073709551616 := hwd ▸ wd_lt hs i
  obtain ⟨c1, c2, c3, c4⟩ := missW_some hlt hz
  obtain ⟨c, hc⟩ : ∃ c, c = Lib.ctz 64 (missW v k) := ⟨_, rfl⟩
  rw [← hc] at c1 c2 c3 c4 ⊢
  have bit : ∀ j : Nat, j < 64 → (x + (i : Int) * 64 + (j : Int) ∈ t.nums ↔ v.testBit j = true) := fun j hj => by
    rw [h.mem hw ho (by omega) (by omega), bget_iff hs]
    have e1 : (x + (i : Int) * 64 + (j : Int) - x).toNat / 64 = i := by omega
    have e2 : (x + (i : Int) * 64 + (j : Int) - x).toNat % 64 = j := by omega
    rw [e1, e2, hwd]
  refine ⟨?_, c1, c2⟩
  have e : q + ((c : Int) - (k : Int)) - 1 = (x + (i : Int) * 64 + (c : Int)) - 1 := by omega
  rw [e]
  have hlow := h.low
  refine span_of hn (by omega) (fun y h1 h2 => ?_) (fun hm => ?_)
  · by_cases hy : y < q
    · exact h.had y h1 hy
    · obtain ⟨j, hj⟩ : ∃ j : Nat, y = x + (i : Int) * 64 + (j : Int) := ⟨(y - (x + (i : Int) * 64)).toNat, by omega⟩
      rw [hj, bit j (by omega)]
      exact c4 j (by omega) (by omega)
  · rw [bit c c2, c3] at hm
    cases hm
theorem At.full {i k : Nat} {v : Nat} (h : At t n q done b x s rest) (hw : t.wf) (ho : OrdF t.flat) (hq : q = x + (i : Int) * 64 + (k : Int)) (hi : i < 32) (hk : k < 64) (hv : s.getD i 0 = (v : Int)) (hz : missW v k = 0) :
    At t n (q + (64 - (k : Int))) done b x s rest := by
  have hs := (NW_iff.1 (h.words hw)).2.2
  have hwd : wd s i = v := by unfold wd; rw [hv, Int.toNat_natCast]
  have hlt : v < 18446744073709551616 := hwd ▸ wd_lt hs i
  have c4 := missW_zero hlt hz
  have hlow := h.low
  have hlo := h.lo
  refine ⟨h.split, by omega, fun y h1 h2 => ?_, by omega⟩
  by_cases hy : y < q
  · exact h.had y h1 hy
  · obtain ⟨j, hj⟩ : ∃ j : Nat, y = x + (i : Int) * 64 + (j : Int) := ⟨(y - (x + (i : Int) * 64)).toNat, by omega⟩
    rw [hj, h.mem hw ho (by omega) (by omega), bget_iff hs]
    have e1 : (x + (i : Int) * 64 + (j : Int) - x).toNat / 64 = i := by omega
    have e2 : (x + (i : Int) * 64 + (j : Int) - x).toNat % 64 = j := by omega
    rw [e1, e2, hwd]
    exact c4 j (by omega) (by omega)
end
end Go.Proofs.YtebgaedalbdhaaaDoor.Av
