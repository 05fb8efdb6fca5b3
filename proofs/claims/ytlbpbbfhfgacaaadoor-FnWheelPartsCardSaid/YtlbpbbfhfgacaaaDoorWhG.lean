/- An expiry: what the loops over the slots and over a slot's map keep. -/
import Derived.Test.YtlbpbbfhfgacaaaDoorWhF
namespace Go.Proofs.YtlbpbbfhfgacaaaDoor.Wh
open Go.RowKit Go.Maps Go.Proofs.YtlbpbbfhfgacaaaDoor.Bs Go.Proofs.YtlbpbbfhfgacaaaDoorW.PrintWords Go.Proofs.YtlbpbbfhfgacaaaDoorW.PrintLast Go.Proofs.YtlbpbbfhfgacaaaDoorW.PrintMore
set_option linter.unusedVariables false
set_option linter.unusedSimpArgs false
theorem fm_ext {m m' : Fm} (h : ∀ s e, m s = some e ↔ m' s = some e) : ∀ s, m s = m' s := by
  intro s
  cases h1 : m s with
  | some e => exact ((h s e).1 h1).symm
  | none =>
    cases h2 : m' s with
    | none => rfl
    | some e =>
      rw [(h s e).2 h2] at h1
      cases h1
def kp (odd : Bool) (s : Int) : Bool := odd && !decide (s % 2 = 0)
theorem kp_not (odd : Bool) (s : Int) : (!odd || decide (s % 2 = 0)) = !kp odd s := by
  unfold kp
  cases odd <;> simp
section
variable {f : Fm} {ts : Int} {odd : Bool} {q : Nat} {lf : Int → Bool}
def fq (f : Fm) (ts : Int) (odd : Bool) (q : Nat) : Fm := fun s => (f s).bind fun e => if pos e < q ∧ e ≤ ts ∧ kp odd s = false then none else some e
def gone (f : Fm) (ts : Int) (odd : Bool) : Fm := fun s => (f s).bind fun e => if e ≤ ts ∧ kp odd s = false then none else some e
def mi (f : Fm) (ts : Int) (odd : Bool) (q : Nat) (lf : Int → Bool) : Fm := fun s => (f s).bind fun e => if pos e = q ∧ ¬ (lf s = false ∧ e ≤ ts ∧ kp odd s = false) then some e else none
theorem fq_some {s e : Int} : fq f ts odd q s = some e ↔ f s = some e ∧ ¬ (pos e < q ∧ e ≤ ts ∧ kp odd s = false) := by
  unfold fq
  cases h : f s with
  | none => simp
  | some x =>
    simp only [Option.bind_some]
    by_cases hc : pos x < q ∧ x ≤ ts ∧ kp odd s = false
    · rw [if_pos hc]
      constructor
      · intro h1; cases h1
      · rintro ⟨h1, h2⟩
        injection h1 with h1
        subst h1
        exact absurd hc h2
    · rw [if_neg hc]
      constructor
      · intro h1
        injection h1 with h1
        subst h1
        exact ⟨rfl, hc⟩
      · exact fun h1 => h1.1
theorem gone_some {s e : Int} : gone f ts odd s = some e ↔ f s = some e ∧ ¬ (e ≤ ts ∧ kp odd s = false) := by
  unfold gone
  cases h : f s with
  | none => simp
  | some x =>
    simp only [Option.bind_some]
    by_cases hc : x ≤ ts ∧ kp odd s = false
    · rw [if_pos hc]
      constructor
      · intro h1; cases h1
      · rintro ⟨h1, h2⟩
        injection h1 with h1
        subst h1
        exact absurd hc h2
    · rw [if_neg hc]
      constructor
      · intro h1
        injection h1 with h1
        subst h1
        exact ⟨rfl, hc⟩
      · exact fun h1 => h1.1
theorem mi_some {s e : Int} : mi f ts odd q lf s = some e ↔ f s = some e ∧ pos e = q ∧ ¬ (lf s = false ∧ e ≤ ts ∧ kp odd s = false) := by
  unfold mi
  cases h : f s with
  | none => simp
  | some x =>
    simp only [Option.bind_some]
    by_cases hc : pos x = q ∧ ¬ (lf s = false ∧ x ≤ ts ∧ kp odd s = false)
    · rw [if_pos hc]
      constructor
      · intro h1
        injection h1 with h1
        subst h1
        exact ⟨rfl, hc⟩
      · exact fun h1 => h1.1
    · rw [if_neg hc]
      constructor
      · intro h1; cases h1
      · rintro ⟨h1, h2⟩
        injection h1 with h1
        subst h1
        exact absurd h2 hc
theorem fq_zero : fq f ts odd 0 = f := funext (fm_ext (fun s e => by rw [fq_some]; constructor; exact fun h => h.1; exact fun h => ⟨h, by omega⟩))
theorem fq_full : fq f ts odd 4096 = gone f ts odd := funext (fm_ext (fun s e => by
  rw [fq_some, gone_some]
  have := pos_lt e
  simp only [this, true_and]))
theorem fq_other {p : Nat} (hp : p ≠ q) : ∀ s, part (fq f ts odd (q + 1)) p s = part (fq f ts odd q) p s := fm_ext (fun s e => by
  rw [part_some, part_some, fq_some, fq_some]
  constructor
  · rintro ⟨⟨h1, h2⟩, h3⟩
    exact ⟨⟨h1, fun h => h2 ⟨by omega, h.2⟩⟩, h3⟩
  · rintro ⟨⟨h1, h2⟩, h3⟩
    exact ⟨⟨h1, fun h => h2 ⟨by omega, h.2⟩⟩, h3⟩)
theorem fq_skip (h : ∀ s e, f s = some e → pos e = q → ts < e) : fq f ts odd (q + 1) = fq f ts odd q := funext (fm_ext (fun s e => by
  rw [fq_some, fq_some]
  constructor
  · rintro ⟨h1, h2⟩
    exact ⟨h1, fun h => h2 ⟨by omega, h.2⟩⟩
  · rintro ⟨h1, h2⟩
    refine ⟨h1, fun h3 => h2 ⟨?_, h3.2⟩⟩
    rcases Nat.lt_or_ge (pos e) q with h4 | h4
    · exact h4
    · have := h s e h1 (by omega)
      omega))
theorem part_q {s e : Int} : part (fq f ts odd q) q s = some e ↔ f s = some e ∧ pos e = q := by
  rw [part_some, fq_some]
  constructor
  · rintro ⟨⟨h1, h2⟩, h3⟩
    exact ⟨h1, h3⟩
  · rintro ⟨h1, h3⟩
    exact ⟨⟨h1, fun h => by omega⟩, h3⟩
theorem mi_start : ∀ s, mi f ts odd q (fun s => (part (fq f ts odd q) q s).isSome) s = part (fq f ts odd q) q s := fm_ext (fun s e => by
  rw [mi_some, part_q]
  constructor
  · rintro ⟨h1, h2, h3⟩
    exact ⟨h1, h2⟩
  · rintro ⟨h1, h2⟩
    refine ⟨h1, h2, fun h => ?_⟩
    have := part_q (ts := ts) (odd := odd) |>.2 ⟨h1, h2⟩
    rw [this] at h
    cases h.1)
theorem mi_end (hlf : ∀ s, lf s = false) : ∀ s, part (fq f ts odd (q + 1)) q s = mi f ts odd q lf s := fm_ext (fun s e => by
  rw [mi_some, part_some, fq_some]
  constructor
  · rintro ⟨⟨h1, h2⟩, h3⟩
    exact ⟨h1, h3, fun h => h2 ⟨by omega, h.2⟩⟩
  · rintro ⟨h1, h2, h3⟩
    exact ⟨⟨h1, fun h => h3 ⟨hlf s, h.2⟩⟩, h2⟩)
/-- The key x is struck. -/
def lx (lf : Int → Bool) (x : Int) : Int → Bool := fun z => lf z && !decide (z = x)
theorem lx_false {x z : Int} : lx lf x z = false ↔ lf z = false ∨ z = x := by
  unfold lx
  cases lf z <;> simp
theorem mi_keep {x c : Int} (hx : mi f ts odd q lf x = some c) (hc : ¬ (c ≤ ts ∧ kp odd x = false)) : ∀ s, mi f ts odd q (lx lf x) s = mi f ts odd q lf s := fm_ext (fun s e => by
  rw [mi_some, mi_some, lx_false]
  constructor
  · rintro ⟨h1, h2, h3⟩
    exact ⟨h1, h2, fun h => h3 ⟨.inl h.1, h.2⟩⟩
  · rintro ⟨h1, h2, h3⟩
    refine ⟨h1, h2, fun h => ?_⟩
    rcases h.1 with h4 | h4
    · exact h3 ⟨h4, h.2⟩
    · subst h4
      rw [(mi_some.1 hx).1] at h1
      injection h1 with h1
      subst h1
      exact hc h.2)
theorem mi_del {x c : Int} (hx : mi f ts odd q lf x = some c) (hc : c ≤ ts ∧ kp odd x = false) : ∀ s, mi f ts odd q (lx lf x) s = del (mi f ts odd q lf) x s := fm_ext (fun s e => by
  unfold del
  by_cases hs : s = x
  · subst hs
    rw [if_pos rfl, mi_some, lx_false]
    constructor
    · rintro ⟨h1, h2, h3⟩
      rw [(mi_some.1 hx).1] at h1
      injection h1 with h1
      subst h1
      exact absurd ⟨.inr rfl, hc⟩ h3
    · intro h; cases h
  · rw [if_neg hs, mi_some, mi_some, lx_false]
    simp only [hs, or_false])
/-- The tasks that have expired so far. -/
structure Xs (f : Fm) (ts : Int) (q : Nat) (lf : Int → Bool) (X : List (Int × Int)) : Prop where
  nd : (X.map Prod.fst).Nodup
  mem : ∀ x, x ∈ X ↔ f x.1 = some x.2 ∧ x.2 ≤ ts ∧ (pos x.2 < q ∨ (pos x.2 = q ∧ lf x.1 = false))
variable {X : List (Int × Int)}
theorem Xs.start (h : Xs f ts q (fun _ => true) X) : Xs f ts q (fun s => (part (fq f ts odd q) q s).isSome) X := ⟨h.nd, fun x => by
  rw [h.mem]
  constructor
  · rintro ⟨h1, h2, h3 | ⟨h3, h4⟩⟩
    · exact ⟨h1, h2, .inl h3⟩
    · cases h4
  · rintro ⟨h1, h2, h3 | ⟨h3, h4⟩⟩
    · exact ⟨h1, h2, .inl h3⟩
    · rw [part_q.2 ⟨h1, h3⟩] at h4
      cases h4⟩
theorem Xs.done (h : Xs f ts q lf X) (hl : ∀ s, lf s = false) : Xs f ts (q + 1) (fun _ => true) X := ⟨h.nd, fun x => by
  rw [h.mem]
  constructor
  · rintro ⟨h1, h2, h3 | ⟨h3, h4⟩⟩
    · exact ⟨h1, h2, .inl (by omega)⟩
    · exact ⟨h1, h2, .inl (by omega)⟩
  · rintro ⟨h1, h2, h3 | ⟨h3, h4⟩⟩
    · refine ⟨h1, h2, ?_⟩
      rcases Nat.lt_or_ge (pos x.2) q with h4 | h4
      · exact .inl h4
      · exact .inr ⟨by omega, hl _⟩
    · cases h4⟩
theorem Xs.skip (h : Xs f ts q (fun _ => true) X) (hn : ∀ s e, f s = some e → pos e = q → ts < e) : Xs f ts (q + 1) (fun _ => true) X := ⟨h.nd, fun x => by
  rw [h.mem]
  constructor
  · rintro ⟨h1, h2, h3 | ⟨h3, h4⟩⟩
    · exact ⟨h1, h2, .inl (by omega)⟩
    · cases h4
  · rintro ⟨h1, h2, h3 | ⟨h3, h4⟩⟩
    · refine ⟨h1, h2, .inl ?_⟩
      rcases Nat.lt_or_ge (pos x.2) q with h4 | h4
      · exact h4
      · have := hn _ _ h1 (by omega)
        omega
    · cases h4⟩
theorem Xs.add (h : Xs f ts q lf X) {x c : Int} (hx : f x = some c) (hp : pos c = q) (hl : lf x = true) (hc : c ≤ ts) : Xs f ts q (lx lf x) (X ++ [(x, c)]) := by
  have hnx : ∀ y ∈ X, y.1 ≠ x := fun y hy e => by
    obtain ⟨h1, h2, h3⟩ := (h.mem y).1 hy
    rw [e, hx] at h1
    injection h1 with h1
    rw [e, hl, ← h1] at h3
    rcases h3 with h3 | ⟨_, h3⟩
    · omega
    · cases h3
  refine ⟨?_, fun y => ?_⟩
  · rw [List.map_append, List.nodup_append]
    refine ⟨h.nd, by simp, fun a ha b hb => ?_⟩
    obtain ⟨y, hy, rfl⟩ := List.mem_map.1 ha
    simp at hb
    subst hb
    exact hnx y hy
  · rw [List.mem_append, h.mem, lx_false, List.mem_singleton]
    constructor
    · rintro (⟨h1, h2, h3⟩ | h1)
      · exact ⟨h1, h2, h3.imp id (fun h => ⟨h.1, .inl h.2⟩)⟩
      · subst h1
        exact ⟨hx, hc, .inr ⟨hp, .inr rfl⟩⟩
    · rintro ⟨h1, h2, h3⟩
      rcases h3 with h3 | ⟨h3, h4 | h4⟩
      · exact .inl ⟨h1, h2, .inl h3⟩
      · exact .inl ⟨h1, h2, .inr ⟨h3, h4⟩⟩
      · right
        rw [h4, hx] at h1
        injection h1 with h1
        exact Prod.ext h4 h1.symm
theorem Xs.late (h : Xs f ts q lf X) {x c : Int} (hx : f x = some c) (hc : ¬ c ≤ ts) : Xs f ts q (lx lf x) X := ⟨h.nd, fun y => by
  rw [h.mem, lx_false]
  constructor
  · rintro ⟨h1, h2, h3⟩
    exact ⟨h1, h2, h3.imp id (fun h => ⟨h.1, .inl h.2⟩)⟩
  · rintro ⟨h1, h2, h3⟩
    refine ⟨h1, h2, h3.imp id (fun h => ⟨h.1, ?_⟩)⟩
    rcases h.2 with h4 | h4
    · exact h4
    · rw [h4, hx] at h1
      injection h1 with h1
      omega⟩
theorem nodup_len {α : Type} [BEq α] [LawfulBEq α] : ∀ {X L : List α}, X.Nodup → (∀ x ∈ X, x ∈ L) → X.length ≤ L.length
  | [], _, _, _ => Nat.zero_le _
  | x :: r, L, hn, hs => by
    obtain ⟨h1, h2⟩ := List.nodup_cons.1 hn
    have hx := hs x (by simp)
    have ih := nodup_len (X := r) (L := L.erase x) h2 (fun y hy => (List.mem_erase_of_ne (fun e : y = x => h1 (by rw [← e]; exact hy))).2 (hs y (by simp [hy])))
    rw [List.length_erase_of_mem hx] at ih
    have := List.length_pos_of_mem hx
    simp
    omega
theorem Xs.len (h : Xs f ts q lf X) {L : List (Int × Int)} (hL : ∀ s e, f s = some e → (s, e) ∈ L) : X.length ≤ L.length :=
  nodup_len (List.Pairwise.of_map (S := (· ≠ ·)) Prod.fst (fun a b hab e => hab (by rw [e])) h.nd) (fun x hx => hL _ _ ((h.mem x).1 hx).1)
/-- How many of the expired tasks are taken off. -/
def dels (odd : Bool) (X : List (Int × Int)) : Nat := (X.filter fun x => !kp odd x.1).length
theorem dels_add (x c : Int) : dels odd (X ++ [(x, c)]) = dels odd X + if kp odd x = false then 1 else 0 := by
  unfold dels
  rw [List.filter_append, List.length_append]
  cases h : kp odd x <;> simp [h]
theorem wrap_dec (c d : Int) : IntKind.u64.wrap (IntKind.u64.wrap (c - d) - 1) = IntKind.u64.wrap (c - (d + 1)) := by
  rw [IntKind.wrap_u64, IntKind.wrap_u64, IntKind.wrap_u64]
  omega
/-- The least time among those that the loop over a slot has left there. -/
structure Sw (m : Fm) (lf : Int → Bool) (slow : Int) : Prop where
  max : slow ≤ maxI
  le : ∀ s e, lf s = false → m s = some e → slow ≤ e
  at_ : (∃ s, lf s = false ∧ m s = some slow) ∨ (slow = maxI ∧ ∀ s, lf s = false → m s = none)
theorem Sw.start (m : Fm) : Sw m (fun s => (m s).isSome) maxI := ⟨Int.le_refl _, fun s e h1 h2 => (by rw [h2] at h1; cases h1), .inr ⟨rfl, fun s h => by
  cases hm : m s with
  | none => rfl
  | some e => rw [hm] at h; cases h⟩⟩
theorem Sw.struck {m : Fm} {slow x : Int} (h : Sw m lf slow) (hx : lf x = true) : Sw (del m x) (lx lf x) slow where
  max := h.max
  le := fun s e h1 h2 => by
    unfold del at h2
    split at h2
    · cases h2
    · rename_i hs
      rcases lx_false.1 h1 with h3 | h3
      · exact h.le s e h3 h2
      · exact absurd h3 hs
  at_ := by
    rcases h.at_ with ⟨s, h1, h2⟩ | ⟨h1, h2⟩
    · left
      refine ⟨s, lx_false.2 (.inl h1), ?_⟩
      have hs : s ≠ x := by
        rintro rfl
        rw [hx] at h1
        cases h1
      unfold del
      rw [if_neg hs]
      exact h2
    · right
      refine ⟨h1, fun s hs => ?_⟩
      unfold del
      split
      · rfl
      · rename_i hsx
        rcases lx_false.1 hs with h3 | h3
        · exact h2 s h3
        · exact absurd h3 hsx
theorem Sw.kept {m : Fm} {slow x c : Int} (h : Sw m lf slow) (hc : m x = some c) (hc2 : c ≤ maxI) : Sw m (lx lf x) (if c < slow then c else slow) := by
  have hle : ∀ s e, lx lf x s = false → m s = some e → (if c < slow then c else slow) ≤ e := fun s e h1 h2 => by
    rcases lx_false.1 h1 with h3 | h3
    · have := h.le s e h3 h2
      split <;> omega
    · subst h3
      rw [hc] at h2
      injection h2 with h2
      subst h2
      split <;> omega
  refine ⟨by have := h.max; split <;> omega, hle, ?_⟩
  split
  · exact .inl ⟨x, lx_false.2 (.inr rfl), hc⟩
  · rename_i hcs
    rcases h.at_ with ⟨s, h1, h2⟩ | ⟨h1, h2⟩
    · exact .inl ⟨s, lx_false.2 (.inl h1), h2⟩
    · left
      have : c = slow := by omega
      rw [← this]
      exact ⟨x, lx_false.2 (.inr rfl), hc⟩
end
end Go.Proofs.YtlbpbbfhfgacaaaDoor.Wh
