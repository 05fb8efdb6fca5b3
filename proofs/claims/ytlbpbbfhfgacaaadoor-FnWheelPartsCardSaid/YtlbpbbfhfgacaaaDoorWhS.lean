/- laws.sameTasks: lists of the same tasks, in whatever order. -/
import Derived.Test.YtlbpbbfhfgacaaaDoorWhJ
namespace Go.Proofs.YtlbpbbfhfgacaaaDoor.Wh
open Go.RowKit Go.Maps Go.Proofs.YtlbpbbfhfgacaaaDoor.Bs Go.Proofs.YtlbpbbfhfgacaaaDoorW.PrintWords Go.Proofs.YtlbpbbfhfgacaaaDoorW.PrintLast Go.Proofs.YtlbpbbfhfgacaaaDoorW.PrintMore Go.Proofs.YtlbpbbfhfgacaaaDoor.GFnWheelParts
set_option linter.unusedVariables false
set_option linter.unusedSimpArgs false
def kx (x : List S42) (a : Nat) : S42 := x.getD a z42
theorem rd_kx (x : List S42) (a : Nat) : rd_T42 x (a : Int) = kx x a := by
  unfold rd_T42 kx
  rw [Int.toNat_natCast]
theorem kx_get {x : List S42} {a : Nat} (h : a < x.length) : kx x a = x[a] := by
  unfold kx
  rw [List.getD_eq_getElem?_getD, List.getElem?_eq_getElem h]
  rfl
def swp (x : List S42) (j : Nat) : List S42 := (x.set (j + 1) (kx x j)).set j (kx x (j + 1))
theorem swp_len (x : List S42) (j : Nat) : (swp x j).length = x.length := by simp [swp]
theorem swp_kx {x : List S42} {j : Nat} (h : j + 1 < x.length) (a : Nat) (ha : a < x.length) : kx (swp x j) a = if a = j then kx x (j + 1) else if a = j + 1 then kx x j else kx x a := by
  rw [kx_get (by rw [swp_len]; exact ha), kx_get ha]
  unfold swp
  rw [List.getElem_set]
  by_cases h1 : j = a
  · rw [if_pos h1, if_pos h1.symm]
  · rw [if_neg h1, if_neg (fun e => h1 e.symm), List.getElem_set]
    by_cases h2 : j + 1 = a
    · rw [if_pos h2, if_pos h2.symm]
    · rw [if_neg h2, if_neg (fun e => h2 e.symm)]
theorem mem_kx {x : List S42} {z : S42} : z ∈ x ↔ ∃ a, a < x.length ∧ kx x a = z := by
  constructor
  · intro h
    obtain ⟨a, ha⟩ := List.getElem?_of_mem h
    obtain ⟨h1, h2⟩ := List.getElem?_eq_some_iff.1 ha
    exact ⟨a, h1, by rw [kx_get h1]; exact h2⟩
  · rintro ⟨a, h1, h2⟩
    rw [kx_get h1] at h2
    rw [← h2]
    exact List.getElem_mem h1
theorem swp_mem {x : List S42} {j : Nat} (h : j + 1 < x.length) (z : S42) : z ∈ swp x j ↔ z ∈ x := by
  rw [mem_kx, mem_kx, swp_len]
  constructor
  · rintro ⟨a, h1, h2⟩
    rw [swp_kx h a h1] at h2
    split at h2
    · exact ⟨j + 1, h, h2⟩
    · split at h2
      · exact ⟨j, by omega, h2⟩
      · exact ⟨a, h1, h2⟩
  · rintro ⟨a, h1, h2⟩
    by_cases e1 : a = j
    · exact ⟨j + 1, h, by rw [swp_kx h _ h, if_neg (by omega), if_pos rfl, ← e1]; exact h2⟩
    · by_cases e2 : a = j + 1
      · exact ⟨j, by omega, by rw [swp_kx h _ (by omega), if_pos rfl, ← e2]; exact h2⟩
      · exact ⟨a, h1, by rw [swp_kx h _ h1, if_neg e1, if_neg e2]; exact h2⟩
/-- No number twice. -/
def Dif (x : List S42) : Prop := ∀ a b, a < b → b < x.length → (kx x a).f0 ≠ (kx x b).f0
theorem swp_dif {x : List S42} {j : Nat} (h : j + 1 < x.length) (hd : Dif x) : Dif (swp x j) := by
  have hd2 : ∀ a b, a ≠ b → a < x.length → b < x.length → (kx x a).f0 ≠ (kx x b).f0 := fun a b hab ha hb => by
    rcases Nat.lt_or_ge a b with h1 | h1
    · exact hd a b h1 hb
    · exact fun e => hd b a (by omega) ha e.symm
  intro a b hab hb
  rw [swp_len] at hb
  rw [swp_kx h a (by omega), swp_kx h b hb]
  (repeat' split) <;> exact hd2 _ _ (by omega) (by omega) (by omega)
/-- The first i + 1 are in order, but for the one at j, which may be too great for those behind it .. ahead of it. -/
def Ins (x : List S42) (i j : Nat) : Prop := ∀ a b, a < b → b ≤ i → b ≠ j → (kx x a).f0 < (kx x b).f0
def Srt (x : List S42) (i : Nat) : Prop := ∀ a b, a < b → b < i → (kx x a).f0 < (kx x b).f0
theorem w64s {j : Nat} (h : j ≤ 100000) : wrap64 (((j + 1 : Nat) : Int) - 1) = (j : Int) := by
  rw [Pl.w64 (by omega) (by omega)]
  omega
theorem seq_l1 (i : Nat) : ∀ (j : Nat) (x : List S42), x.length ≤ 1000 → j ≤ i → i < x.length → Dif x → Ins x i j → ∃ y, y.length = x.length ∧ (∀ z, z ∈ y ↔ z ∈ x) ∧ Dif y ∧ Srt y (i + 1) ∧ ∀ k r, laws_bySeq.l0 k y ((i : Int) + 1) = some r → ∃ k', laws_bySeq.l1 k' x (i : Int) (j : Int) = some r
  | 0, x, hl, hj, hi, hd, hs => by
    refine ⟨x, rfl, fun z => Iff.rfl, hd, fun a b hab hb => hs a b hab (by omega) (by omega), fun k r hr => ⟨k + 1, ?_⟩⟩
    unfold laws_bySeq.l1
    rw [if_neg (by simp), Pl.w64 (by omega) (by omega)]
    exact hr
  | j + 1, x, hl, hj, hi, hd, hs => by
    have e1 : wrap64 (((j + 1 : Nat) : Int) - 1) = (j : Int) := w64s (by omega)
    by_cases hlt : (kx x (j + 1)).f0 < (kx x j).f0
    · obtain ⟨y, h1, h2, h3, h4, h5⟩ := seq_l1 i j (swp x j) (by rw [swp_len]; exact hl) (by omega) (by rw [swp_len]; exact hi) (swp_dif (by omega) hd) (fun a b hab hb hbj => by
        have hlen : j + 1 < x.length := by omega
        rw [swp_kx hlen a (by omega), swp_kx hlen b (by omega), if_neg hbj]
        by_cases c1 : b = j + 1
        · rw [if_pos c1]
          by_cases c2 : a = j
          · rw [if_pos c2]
            exact hlt
          · rw [if_neg c2, if_neg (by omega)]
            exact hs a j (by omega) (by omega) (by omega)
        · rw [if_neg c1]
          by_cases c2 : a = j
          · rw [if_pos c2]
            exact hs (j + 1) b (by omega) hb c1
          · rw [if_neg c2]
            by_cases c3 : a = j + 1
            · rw [if_pos c3]
              exact hs j b (by omega) hb c1
            · rw [if_neg c3]
              exact hs a b hab hb c1)
      refine ⟨y, by rw [h1, swp_len], fun z => (h2 z).trans (swp_mem (by omega) z), h3, h4, fun k r hr => ?_⟩
      obtain ⟨k', hk'⟩ := h5 k r hr
      refine ⟨k' + 1, ?_⟩
      unfold laws_bySeq.l1
      rw [e1, if_pos (by omega), if_pos (by omega), if_pos (by omega), if_pos (by omega), if_pos (by omega), rd_kx, rd_kx, if_pos hlt, Int.toNat_natCast, Int.toNat_natCast]
      exact hk'
    · have hlt2 : (kx x j).f0 < (kx x (j + 1)).f0 := by
        have := hd j (j + 1) (by omega) (by omega)
        omega
      refine ⟨x, rfl, fun z => Iff.rfl, hd, fun a b hab hb => ?_, fun k r hr => ⟨k + 1, ?_⟩⟩
      · by_cases c : b = j + 1
        · subst c
          by_cases c2 : a = j
          · rw [c2]
            exact hlt2
          · have := hs a j (by omega) (by omega) (by omega)
            omega
        · exact hs a b hab (by omega) c
      · unfold laws_bySeq.l1
        rw [e1, if_pos (by omega), if_pos (by omega), if_pos (by omega), if_pos (by omega), if_pos (by omega), rd_kx, rd_kx, if_neg hlt, Pl.w64 (by omega) (by omega)]
        exact hr
theorem seq_l0 : ∀ (n i : Nat) (x : List S42), x.length ≤ 1000 → 1 ≤ i → x.length ≤ i + n → Dif x → Srt x i → ∃ y k, (∀ z, z ∈ y ↔ z ∈ x) ∧ y.length = x.length ∧ Srt y y.length ∧ laws_bySeq.l0 k x (i : Int) = some y
  | 0, i, x, hl, h1, hi, hd, hs => ⟨x, 1, fun z => Iff.rfl, rfl, fun a b hab hb => hs a b hab (by omega), by
      unfold laws_bySeq.l0
      rw [if_neg (by omega)]⟩
  | n + 1, i, x, hl, h1, hi, hd, hs => by
    by_cases hlt : i < x.length
    · obtain ⟨y, g1, g2, g3, g4, g5⟩ := seq_l1 i i x hl (Nat.le_refl _) hlt hd (fun a b hab hb hbi => hs a b hab (by omega))
      obtain ⟨y2, k, q1, q2, q3, q4⟩ := seq_l0 n (i + 1) y (by rw [g1]; exact hl) (by omega) (by rw [g1]; omega) g3 g4
      obtain ⟨k', hk'⟩ := g5 k y2 (by rw [← q4]; rfl)
      refine ⟨y2, k' + 1, fun z => (q1 z).trans (g2 z), by rw [q2, g1], q3, ?_⟩
      unfold laws_bySeq.l0
      rw [if_pos (by omega)]
      exact hk'
    · exact ⟨x, 1, fun z => Iff.rfl, rfl, fun a b hab hb => hs a b hab (by omega), by
        unfold laws_bySeq.l0
        rw [if_neg (by omega)]⟩
theorem byseq_endG (L : List S42) (N : Nat) (g : List S42 → Option (List S42)) (h : ([] : List S42).length + L.length < N) : ((some (([] : List (S42)) : List (S42))).bind fun y253 => (if y253.length + L.length < N then g (y253 ++ L) else (none))) = g L := by
  simp only [Option.bind_some]
  rw [if_pos h, List.nil_append]
theorem byseq_f {L : List S42} (hl : L.length ≤ 1000) (hd : Dif L) : ∃ y k, (∀ z, z ∈ y ↔ z ∈ L) ∧ y.length = L.length ∧ Srt y y.length ∧ laws_bySeq.f k L = some y := by
  obtain ⟨y, k, h1, h2, h3, h4⟩ := seq_l0 L.length 1 L hl (Nat.le_refl _) (by omega) hd (fun a b hab hb => by omega)
  have h0 : ([] : List S42).length = 0 := rfl
  exact ⟨y, k, h1, h2, h3, (byseq_endG L 8796093022208 (fun x => laws_bySeq.l0 k x 1) (by omega)).trans h4⟩
theorem byseq_more {L y : List S42} {k : Nat} (h : laws_bySeq.f k L = some y) : ∀ k', k ≤ k' → laws_bySeq.f k' L = some y := by
  intro k' hk
  induction hk with
  | refl => exact h
  | step _ ih => exact laws_bySeq.mono _ _ _ ih
theorem srt_eq {x y : List S42} (hx : Srt x x.length) (hy : Srt y y.length) (hl : x.length = y.length) (hm : ∀ z, z ∈ x ↔ z ∈ y) : x = y := by
  have key : ∀ n, ∀ a, a < n → a < x.length → kx x a = kx y a := by
    intro n
    induction n with
    | zero => intro a h; omega
    | succ n ih =>
      intro a han hax
      rcases Nat.lt_or_ge a n with h | h
      · exact ih a h hax
      · have ha : a = n := by omega
        subst ha
        obtain ⟨b, hb, hb2⟩ := mem_kx.1 ((hm (kx x a)).1 (mem_kx.2 ⟨a, hax, rfl⟩))
        obtain ⟨c, hc, hc2⟩ := mem_kx.1 ((hm (kx y a)).2 (mem_kx.2 ⟨a, by omega, rfl⟩))
        rcases Nat.lt_trichotomy b a with h1 | h1 | h1
        · have e1 := ih b h1 (by omega)
          have := hx b a h1 hax
          rw [e1, hb2] at this
          omega
        · rw [← hb2, h1]
        · rcases Nat.lt_trichotomy c a with h2 | h2 | h2
          · have e1 := ih c h2 hc
            have := hy c a h2 (by omega)
            rw [← e1, hc2] at this
            omega
          · rw [← hc2, h2]
          · have g1 := hy a b h1 hb
            have g2 := hx a c h2 hc
            rw [hb2] at g1
            rw [hc2] at g2
            omega
  apply List.ext_getElem hl
  intro a h1 h2
  have := key (a + 1) a (by omega) h1
  rw [kx_get h1, kx_get h2] at this
  exact this
theorem same_l0 (x : List S42) (hl : x.length ≤ 1000) : ∀ n j, j + n = x.length → laws_sameTasks.l0 (n + 1) x x (j : Int) = some true
  | 0, j, hj => by
    unfold laws_sameTasks.l0
    rw [if_neg (by omega)]
  | n + 1, j, hj => by
    unfold laws_sameTasks.l0
    rw [if_pos (by omega), if_pos (by omega), if_pos (by omega), if_neg (by simp), w64n (by omega)]
    exact same_l0 x hl n (j + 1) (by omega)
theorem same_more {x : List S42} {k : Nat} (h : laws_sameTasks.l0 k x x 0 = some true) : ∀ k', k ≤ k' → laws_sameTasks.l0 k' x x 0 = some true := by
  intro k' hk
  induction hk with
  | refl => exact h
  | step _ ih => exact laws_sameTasks.mono_l _ _ _ _ _ ih
theorem dif_of {L : List S42} (h : (L.map S42.f0).Nodup) : Dif L := by
  intro a b hab hb e
  rw [kx_get (by omega), kx_get hb] at e
  have h2 := List.pairwise_iff_getElem.1 h a b (by simpa using Nat.lt_trans hab hb) (by simpa using hb) hab
  simp only [List.getElem_map] at h2
  exact h2 e
theorem same_f {A B : List S42} (hA : (A.map S42.f0).Nodup) (hB : (B.map S42.f0).Nodup) (la : A.length ≤ 1000) (lb : B.length ≤ 1000) (hm : ∀ z, z ∈ A ↔ z ∈ B) : ∃ k, laws_sameTasks.f k A B = some true := by
  obtain ⟨x, k1, a1, a2, a3, a4⟩ := byseq_f la (dif_of hA)
  obtain ⟨y, k2, b1, b2, b3, b4⟩ := byseq_f lb (dif_of hB)
  have hlen : A.length = B.length := by
    have n1 : (A.map S42.f0).length ≤ (B.map S42.f0).length := nodup_len hA (fun z hz => by
      obtain ⟨w, hw, rfl⟩ := List.mem_map.1 hz
      exact List.mem_map.2 ⟨w, (hm w).1 hw, rfl⟩)
    have n2 : (B.map S42.f0).length ≤ (A.map S42.f0).length := nodup_len hB (fun z hz => by
      obtain ⟨w, hw, rfl⟩ := List.mem_map.1 hz
      exact List.mem_map.2 ⟨w, (hm w).2 hw, rfl⟩)
    simp at n1 n2
    omega
  obtain rfl : x = y := srt_eq a3 b3 (by omega) (fun z => by rw [a1, b1, hm])
  have hs := same_l0 x (by omega) x.length 0 (by omega)
  refine ⟨max (max k1 k2) (x.length + 1), ?_⟩
  unfold laws_sameTasks.f
  rw [byseq_more a4 _ (by omega), Option.bind_some, byseq_more b4 _ (by omega), Option.bind_some, if_pos rfl]
  exact same_more hs _ (by omega)
end Go.Proofs.YtlbpbbfhfgacaaaDoor.Wh
