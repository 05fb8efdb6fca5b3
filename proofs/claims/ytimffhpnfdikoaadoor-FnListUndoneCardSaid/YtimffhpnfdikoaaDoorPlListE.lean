/- What the printed functions of FnListKinds come to, as plain functions on lists. -/
import Derived.Test.YtimffhpnfdikoaaDoorPlListC
import Derived.Test.YtimffhpnfdikoaaDoorLsPd
namespace Go.Proofs.YtimffhpnfdikoaaDoor.PlFnListKinds
open Go.RowKit Go.Proofs.YtimffhpnfdikoaaDoorW.PrintWords Go.Proofs.YtimffhpnfdikoaaDoorW.PrintLast Go.Proofs.YtimffhpnfdikoaaDoorW.PrintMore Go.Proofs.YtimffhpnfdikoaaDoor.Pl Go.Proofs.YtimffhpnfdikoaaDoor.GFnListKinds
set_option linter.unusedVariables false
set_option linter.unusedSimpArgs false

theorem set_mid {α : Type} (a : List α) (x y : α) (b : List α) : (a ++ x :: b).set a.length y = a ++ y :: b := by
  induction a with
  | nil => rfl
  | cons z a ih => rw [List.cons_append, List.length_cons, List.set_cons_succ, ih]; rfl
theorem swap_mid (a : List Int) (y z : Int) (b : List Int) : ((a ++ y :: z :: b).set (a.length + 1) y).set a.length z = a ++ z :: y :: b := by
  have h1 : (a ++ y :: z :: b).set (a.length + 1) y = a ++ y :: y :: b := by
    have := set_mid (a ++ [y]) z y b
    rw [List.length_append, List.length_singleton, List.append_assoc, List.append_assoc] at this
    exact this
  rw [h1]
  exact set_mid a y z (y :: b)
theorem sorted_unique : ∀ {a b : List Int}, a.Perm b → a.Pairwise (· ≤ ·) → b.Pairwise (· ≤ ·) → a = b
  | [], b, h, _, _ => by rw [List.nil_perm.1 h]
  | x :: a, [], h, _, _ => by have := h.length_eq; simp at this
  | x :: a, y :: b, h, ha, hb => by
    obtain ⟨ha1, ha2⟩ := List.pairwise_cons.1 ha
    obtain ⟨hb1, hb2⟩ := List.pairwise_cons.1 hb
    have hxy : x = y := by
      have h1 : x ∈ y :: b := h.mem_iff.1 (by simp)
      have h2 : y ∈ x :: a := h.mem_iff.2 (by simp)
      rcases List.mem_cons.1 h1 with h1 | h1
      · exact h1
      · rcases List.mem_cons.1 h2 with h2 | h2
        · exact h2.symm
        · have := hb1 x h1
          have := ha1 y h2
          omega
    subst hxy
    rw [sorted_unique (List.Perm.cons_inv h) ha2 hb2]
/-- The inner loop: z goes down. -/
theorem Sorted_l1 (N : Nat) (hN : N ≤ 1000000) (x4 : Int) (r : List Int) : ∀ (n : Nat) (a b rest : List Int) (z : Int) (i : Int), a.length = n → i = (a.length : Int) → (a ++ z :: b ++ rest).length = N → (a ++ b).Pairwise (· ≤ ·) → (∀ y ∈ b, z ≤ y) →
    (∀ c : List Int, c.Perm (a ++ z :: b) → c.Pairwise (· ≤ ·) → Ev (fun k => spec_Sorted.l0 k (c ++ rest) (wrap64 (x4 + 1))) r) → Ev (fun k => spec_Sorted.l1 k (a ++ z :: b ++ rest) x4 i) r
  | 0, a, b, rest, z, i, ha, hi, hl, hs, hz, H => by
    have : a = [] := List.length_eq_zero_iff.1 ha
    subst this
    refine Ev.step (fun k => by rw [spec_Sorted.l1, if_neg (by rw [hi]; simp)]) ?_
    exact H _ (List.Perm.refl _) (List.pairwise_cons.2 ⟨hz, by simpa using hs⟩)
  | n + 1, a, b, rest, z, i, ha, hi, hl, hs, hz, H => by
    obtain ⟨a', y, rfl⟩ : ∃ a' y, a = a' ++ [y] := by
      rcases List.eq_nil_or_concat a with h | ⟨a', y, h⟩
      · rw [h] at ha; simp at ha
      · exact ⟨a', y, by rw [h, List.concat_eq_append]⟩
    rw [List.length_append, List.length_singleton] at ha hi
    have hal : a'.length = n := by omega
    have hl2 : N = a'.length + 1 + (1 + b.length) + rest.length := by rw [← hl]; simp; omega
    have hlen : (((a' ++ [y]) ++ z :: b ++ rest).length : Int) = N := by rw [hl]
    have hw : wrap64 (i - 1) = (a'.length : Int) := by rw [w64 (by omega) (by omega)]; omega
    have e : (a' ++ [y]) ++ z :: b ++ rest = a' ++ y :: z :: (b ++ rest) := by simp
    have hr1 : rd ((a' ++ [y]) ++ z :: b ++ rest) i = z := rd_mid (a' ++ [y]) z (b ++ rest) (by simp) (by rw [hi]; simp)
    have hr2 : rd ((a' ++ [y]) ++ z :: b ++ rest) (a'.length : Int) = y := rd_mid a' y (z :: (b ++ rest)) (by simp) rfl
    by_cases hc : z < y
    · refine Ev.step (fun k => by rw [spec_Sorted.l1, if_pos (by omega), if_pos (by omega), if_pos (by omega), hw, if_pos (by omega), if_pos (by omega), hr1, hr2, if_pos hc]) ?_
      have e2 : ((((a' ++ [y]) ++ z :: b ++ rest).set i.toNat y).set ((a'.length : Int)).toNat z) = a' ++ z :: (y :: b) ++ rest := by
        rw [e, show i.toNat = a'.length + 1 by omega, Int.toNat_natCast, swap_mid]
        simp
      rw [e2]
      have hs' : (a' ++ y :: b).Pairwise (· ≤ ·) := by simpa using hs
      refine Sorted_l1 N hN x4 r n a' (y :: b) rest z (a'.length : Int) hal rfl (by rw [hl2]; simp; omega) hs' (fun q hq => ?_) (fun c h1 h2 => H c (h1.trans ?_) h2)
      · rcases List.mem_cons.1 hq with rfl | hq
        · omega
        · exact hz q hq
      · rw [List.append_assoc]
        exact List.Perm.append_left a' (List.Perm.swap y z b)
    · refine Ev.step (fun k => by rw [spec_Sorted.l1, if_pos (by omega), if_pos (by omega), if_pos (by omega), hw, if_pos (by omega), if_pos (by omega), hr1, hr2, if_neg hc]) ?_
      refine H _ (List.Perm.refl _) ?_
      rw [List.append_assoc] at hs
      obtain ⟨q1, q2, q3⟩ := List.pairwise_append.1 hs
      rw [List.append_assoc]
      have hzb : (z :: b).Pairwise (· ≤ ·) := List.pairwise_cons.2 ⟨hz, (List.pairwise_append.1 q2).2.1⟩
      have hyz : ([y] ++ z :: b).Pairwise (· ≤ ·) := List.pairwise_cons.2 ⟨fun q hq => by
        rcases List.mem_cons.1 hq with rfl | hq
        · omega
        · exact (List.pairwise_append.1 q2).2.2 y (by simp) q hq, hzb⟩
      refine List.pairwise_append.2 ⟨q1, hyz, fun p hp q hq => ?_⟩
      have hpy : p ≤ y := q3 p hp y (by simp)
      rcases List.mem_append.1 hq with hq | hq
      · rw [List.mem_singleton.1 hq]; exact hpy
      · rcases List.mem_cons.1 hq with rfl | hq
        · omega
        · exact q3 p hp q (by simp [hq])
theorem Sorted_l0 (N : Nat) (hN : N ≤ 1000000) (L : List Int) : ∀ (m : Nat) (a rest : List Int) (i : Int), rest.length = m → i = (a.length : Int) → (a ++ rest).length = N → a.Pairwise (· ≤ ·) → (a ++ rest).Perm L → ∃ r, Ev (fun k => spec_Sorted.l0 k (a ++ rest) i) r ∧ r.Perm L ∧ r.Pairwise (· ≤ ·)
  | 0, a, rest, i, hm, hi, hl, hs, hp => by
    have : rest = [] := List.length_eq_zero_iff.1 hm
    subst this
    rw [List.append_nil] at hp hl ⊢
    exact ⟨a, Ev.step (fun k => by rw [spec_Sorted.l0, if_neg (by omega)]) (Ev.now _), hp, hs⟩
  | m + 1, a, rest, i, hm, hi, hl, hs, hp => by
    cases rest with
    | nil => simp at hm
    | cons z rest =>
      have hl2 : N = a.length + 1 + rest.length := by rw [← hl]; simp; omega
      have hlen : ((a ++ z :: rest).length : Int) = N := by rw [hl]
      have hw : wrap64 (i + 1) = ((a.length + 1 : Nat) : Int) := by rw [w64 (by omega) (by omega)]; omega
      have step : ∀ r, (∀ c : List Int, c.Perm (a ++ [z]) → c.Pairwise (· ≤ ·) → Ev (fun k => spec_Sorted.l0 k (c ++ rest) (wrap64 (i + 1))) r) → Ev (fun k => spec_Sorted.l0 k (a ++ z :: rest) i) r := fun r H => by
        refine Ev.step (fun k => by rw [spec_Sorted.l0, if_pos (by omega)]) ?_
        have := Sorted_l1 N hN i r a.length a [] rest z i rfl hi (by rw [← hl]; simp) (by rw [List.append_nil]; exact hs) (fun y hy => by cases hy) H
        have e : a ++ [z] ++ rest = a ++ z :: rest := by simp
        rw [e] at this
        exact this
      -- one sorted row is enough: they are all the same
      obtain ⟨c0, h1, h2⟩ : ∃ c : List Int, c.Perm (a ++ [z]) ∧ c.Pairwise (· ≤ ·) := by
        refine ⟨(a ++ [z]).mergeSort (fun x y => decide (x ≤ y)), List.mergeSort_perm _ _, ?_⟩
        have := List.pairwise_mergeSort (le := fun x y : Int => decide (x ≤ y)) (fun a b c h1 h2 => by simp only [decide_eq_true_eq] at *; omega) (fun a b => by simp only [Bool.or_eq_true, decide_eq_true_eq]; omega) (a ++ [z])
        exact this.imp (fun h => by simpa using h)
      have hcl : c0.length = a.length + 1 := by rw [h1.length_eq]; simp
      obtain ⟨r, e1, e2, e3⟩ := Sorted_l0 N hN L m c0 rest ((a.length + 1 : Nat) : Int) (by simpa using hm) (by rw [hcl]) (by rw [hl2, List.length_append, hcl]) h2 (((h1.append_right rest).trans (by simp)).trans hp)
      refine ⟨r, step r (fun c g1 g2 => ?_), e2, e3⟩
      rw [hw, sorted_unique (g1.trans h1.symm) g2 h2]
      exact e1
theorem Sorted_ev (L : List Int) (hL : L.length ≤ 1000000) : ∃ r, Ev (fun k => spec_Sorted.f k L) r ∧ r.Perm L ∧ r.Pairwise (· ≤ ·) := by
  have hf : ∀ k, spec_Sorted.f k L = spec_Sorted.l0 k ([] ++ L) 1 := fun k => by
    rw [spec_Sorted.f, Option.bind_some, if_pos (by simp; omega)]
  cases L with
  | nil => exact ⟨[], Ev.congr hf (Ev.step (fun k => by rw [spec_Sorted.l0, if_neg (by simp), List.append_nil]) (Ev.now _)), List.Perm.refl _, List.Pairwise.nil⟩
  | cons x L =>
    obtain ⟨r, h1, h2, h3⟩ := Sorted_l0 (x :: L).length hL (x :: L) L.length [x] L 1 rfl rfl (by simp) (List.pairwise_singleton _ _) (List.Perm.refl _)
    exact ⟨r, Ev.congr hf h1, h2, h3⟩
def und (d : S46) : S46 := ⟨1, d.f1, d.f2⟩
theorem undone_l0 (L : List S46) (hs : L.length ≤ 1000000) : ∀ (rest pre : List S46) (out : List S46) (i : Int), L = pre ++ rest → i = (pre.length : Int) → out.length ≤ pre.length →
    Ev (fun k => laws_undone.l0 k L out i) (out ++ rest.map und) := by
  intro rest
  induction rest with
  | nil =>
    intro pre out i h hi ho
    have hz : (L.length : Int) = pre.length := by rw [h]; simp
    refine Ev.step (fun k => by rw [laws_undone.l0, if_neg (by omega)]) ?_
    exact Ev.det' (Ev.now _) (by simp)
  | cons c rest ih =>
    intro pre out i h hi ho
    have hz : (L.length : Int) = pre.length + rest.length + 1 := by rw [h]; simp; omega
    have hb : rd_T46 L i = c := rd46_mid pre c rest h hi
    have hw : wrap64 (i + 1) = i + 1 := w64 (by omega) (by omega)
    refine Ev.step (fun k => by rw [laws_undone.l0, if_pos (by omega), if_pos (by omega), if_pos (by omega), hb, hw]) ?_
    refine Ev.det' (ih (pre ++ [c]) (out ++ [und c]) (i + 1) (by rw [h]; simp) (by simp; omega) (by simp; omega)) ?_
    simp
theorem undone_ev (L : List S46) (hs : L.length ≤ 1000000) : Ev (fun k => laws_undone.f k L) (L.map und) := by
  have := undone_l0 L hs L [] [] 0 (by simp) (by simp) (by simp)
  exact this

end Go.Proofs.YtimffhpnfdikoaaDoor.PlFnListKinds
