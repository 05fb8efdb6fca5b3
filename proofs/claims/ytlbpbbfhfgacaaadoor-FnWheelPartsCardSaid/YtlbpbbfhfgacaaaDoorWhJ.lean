/- What a script over a wheel leaves on it, as a function; lists of tasks that are that function. -/
import Derived.Test.YtlbpbbfhfgacaaaDoorWhG
import Derived.Test.YtlbpbbfhfgacaaaDoorWhPa
import Derived.Test.YtlbpbbfhfgacaaaDoorPlBase
namespace Go.Proofs.YtlbpbbfhfgacaaaDoor.Wh
open Go.RowKit Go.Maps Go.Proofs.YtlbpbbfhfgacaaaDoor.Bs Go.Proofs.YtlbpbbfhfgacaaaDoorW.PrintWords Go.Proofs.YtlbpbbfhfgacaaaDoorW.PrintLast Go.Proofs.YtlbpbbfhfgacaaaDoorW.PrintMore Go.Proofs.YtlbpbbfhfgacaaaDoor.GFnWheelParts
set_option linter.unusedVariables false
set_option linter.unusedSimpArgs false
theorem rd_at {L : List S42} {j : Nat} {x : S42} (h : L[j]? = some x) : rd_T42 L (j : Int) = x := by
  unfold rd_T42
  rw [Int.toNat_natCast, List.getD_eq_getElem?_getD, h]
  rfl
theorem rd30_at {L : List S30} {j : Nat} {x : S30} (h : L[j]? = some x) : rd_T30 L (j : Int) = x := by
  unfold rd_T30
  rw [Int.toNat_natCast, List.getD_eq_getElem?_getD, h]
  rfl
def SeatIs (L : List S42) (s r : Int) : Prop := (∃ (i : Nat) (x : S42), r = (i : Int) ∧ L[i]? = some x ∧ x.f0 = s) ∨ (r = -1 ∧ ∀ x ∈ L, x.f0 ≠ s)
theorem w64n {n : Nat} (h : n ≤ 100000) : wrap64 ((n : Int) + 1) = ((n + 1 : Nat) : Int) := by
  rw [Pl.w64 (by omega) (by omega)]
  omega
theorem seat_l0 {L : List S42} {s : Int} (hL : L.length ≤ 1000) : ∀ n j, j + n = L.length → (∀ i x, i < j → L[i]? = some x → x.f0 ≠ s) → ∃ r, SeatIs L s r ∧ spec_seat.l0 (n + 1) L s (j : Int) = some r
  | 0, j, hj, hb => ⟨-1, .inr ⟨rfl, fun x hx => by
      obtain ⟨i, hi⟩ := List.getElem?_of_mem hx
      have := (List.getElem?_eq_some_iff.1 hi).1
      exact hb i x (by omega) hi⟩, by
      unfold spec_seat.l0
      rw [if_neg (by omega)]⟩
  | n + 1, j, hj, hb => by
    have hjl : j < L.length := by omega
    have hx := List.getElem?_eq_getElem hjl
    by_cases hs : (L[j]).f0 = s
    · refine ⟨(j : Int), .inl ⟨j, _, rfl, hx, hs⟩, ?_⟩
      unfold spec_seat.l0
      rw [if_pos (by omega), if_pos (by omega), rd_at hx, if_pos hs]
    · obtain ⟨r, h1, h2⟩ := seat_l0 hL n (j + 1) (by omega) (fun i x hi hxi => by
        rcases Nat.lt_or_ge i j with h | h
        · exact hb i x h hxi
        · obtain rfl : i = j := by omega
          rw [hx] at hxi
          injection hxi with hxi
          rw [← hxi]
          exact hs)
      refine ⟨r, h1, ?_⟩
      unfold spec_seat.l0
      rw [if_pos (by omega), if_pos (by omega), rd_at hx, if_neg hs, w64n (by omega)]
      exact h2
theorem seat_f {L : List S42} (s : Int) (hL : L.length ≤ 1000) : ∃ k r, spec_seat.f k L s = some r ∧ SeatIs L s r := by
  obtain ⟨r, h1, h2⟩ := seat_l0 (s := s) hL L.length 0 (by omega) (fun i x hi => by omega)
  exact ⟨_, r, h2, h1⟩
theorem without_endG (A B : List S42) (N : Nat) (c1 c2 c3 c4 : Prop) [Decidable c1] [Decidable c2] [Decidable c3] [Decidable c4] (k1 : c1) (k2 : c2) (k3 : c3) (k4 : c4) (h1 : ([] : List S42).length + A.length < N) (h2 : ([] ++ A).length + B.length < N) :
    ((some (([] : List (S42)) : List (S42))).bind fun y102 => (if c1 then (if c2 then ((some (A : List (S42))).bind fun y105 => (if y102.length + y105.length < N then ((some (y102 ++ y105 : List (S42))).bind fun y109 => (if c3 then (if c4 then ((some (B : List (S42))).bind fun y112 => (if y109.length + y112.length < N then (some (y109 ++ y112)) else (none))) else (none)) else (none))) else (none))) else (none)) else (none))) = some (A ++ B) := by
  simp only [Option.bind_some]
  rw [if_pos k1, if_pos k2, if_pos h1, if_pos k3, if_pos k4, if_pos h2, List.nil_append]
theorem without_f {L : List S42} {i : Nat} (hi : i < L.length) (hL : L.length ≤ 1000) : spec_without.f L (i : Int) = some (L.take i ++ L.drop (i + 1)) := by
  have hw := w64n (n := i) (by omega)
  have g1 : (L.take i).length ≤ 1000 := by rw [List.length_take]; omega
  have g2 : (L.drop (i + 1)).length ≤ 1000 := by rw [List.length_drop]; omega
  have g3 : ([] ++ L.take i).length ≤ 1000 := g1
  have g5 : ([] : List S42).length = 0 := rfl
  have fin := without_endG (L.take i) (L.drop (i + 1)) 8796093022208 (0 ≤ (i : Int)) ((i : Int) ≤ (L.length : Int)) (0 ≤ wrap64 ((i : Int) + 1)) (wrap64 ((i : Int) + 1) ≤ (L.length : Int)) (by omega) (by omega) (by omega) (by omega) (by omega) (by omega)
  unfold spec_without.f
  rw [Int.toNat_natCast, show (wrap64 ((i : Int) + 1)).toNat = i + 1 by omega]
  exact fin
theorem put_endG (L A B C : List S42) (N : Nat) (h1 : ([] : List S42).length + A.length < N) (h2 : ([] ++ A).length + B.length < N) (h3 : ([] ++ A ++ B).length + C.length < N) :
  ((some (([] : List (S42)) : List (S42))).bind fun y121 => ((some (A : List (S42))).bind fun y124 => (if y121.length + y124.length < N then ((some (y121 ++ y124 : List (S42))).bind fun y128 => ((some (B : List (S42))).bind fun y131 => (if y128.length + y131.length < N then ((some (y128 ++ y131 : List (S42))).bind fun y134 => ((some (C : List (S42))).bind fun y137 => (if y134.length + y137.length < N then (some (y134 ++ y137)) else (none)))) else (none)))) else (none)))) = some (A ++ B ++ C) := by
  simp only [Option.bind_some]
  rw [if_pos h1, if_pos h2, if_pos h3, List.nil_append]
theorem put_eq {L : List S42} {s e : Int} (n : Nat) (j : Int) (h0 : 0 ≤ j) (h1 : j ≤ (L.length : Int)) (hc : ¬ (j < (L.length : Int) ∧ (rd_T42 L j).f0 < s)) (hL : L.length ≤ 1000) : spec_put.l0 (n + 1) L j s e = some (L.take j.toNat ++ [⟨s, e⟩] ++ L.drop j.toNat) := by
  have g1 : (L.take j.toNat).length ≤ 1000 := by rw [List.length_take]; omega
  have g2 : (L.drop j.toNat).length ≤ 1000 := by rw [List.length_drop]; omega
  have g3 : ([] ++ L.take j.toNat).length ≤ 1000 := g1
  have g4 : ([] ++ L.take j.toNat ++ [(⟨s, e⟩ : S42)]).length ≤ 1001 := by rw [List.length_append]; exact Nat.add_le_add g1 (Nat.le_refl 1)
  have g5 : ([] : List S42).length = 0 := rfl
  have g6 : [(⟨s, e⟩ : S42)].length = 1 := rfl
  have fin := put_endG L (L.take j.toNat) [⟨s, e⟩] (L.drop j.toNat) 8796093022208 (by omega) (by omega) (by omega)
  simp only [Option.bind_some] at fin
  unfold spec_put.l0
  by_cases hj : j < (L.length : Int)
  · have hs : ¬ (rd_T42 L j).f0 < s := fun h => hc ⟨hj, h⟩
    rw [if_pos hj, if_pos h0, if_neg hs]
    simp only [Option.bind_some]
    rw [if_pos h1]
    exact fin
  · rw [if_neg hj]
    simp only [Option.bind_some]
    rw [if_pos h0, if_pos h1]
    exact fin
theorem put_l0 {L : List S42} {s e : Int} (hL : L.length ≤ 1000) : ∀ n j, j + n = L.length → ∃ i, i ≤ L.length ∧ spec_put.l0 (n + 1) L (j : Int) s e = some (L.take i ++ [⟨s, e⟩] ++ L.drop i)
  | 0, j, hj => ⟨j, by omega, put_eq 0 (j : Int) (by omega) (by omega) (fun h => by omega) hL⟩
  | n + 1, j, hj => by
    have hjl : j < L.length := by omega
    have hx := List.getElem?_eq_getElem hjl
    by_cases hs : (L[j]).f0 < s
    · obtain ⟨i, h1, h2⟩ := put_l0 hL n (j + 1) (by omega)
      refine ⟨i, h1, ?_⟩
      unfold spec_put.l0
      rw [if_pos (by omega), if_pos (by omega), rd_at hx, if_pos hs, w64n (by omega)]
      exact h2
    · exact ⟨j, by omega, put_eq (n + 1) (j : Int) (by omega) (by omega) (fun h => by rw [rd_at hx] at h; exact hs h.2) hL⟩
theorem put_f {L : List S42} (s e : Int) (hL : L.length ≤ 1000) : ∃ k i, i ≤ L.length ∧ spec_put.f k L s e = some (L.take i ++ [⟨s, e⟩] ++ L.drop i) := by
  obtain ⟨i, h1, h2⟩ := put_l0 (s := s) (e := e) hL L.length 0 (by omega)
  exact ⟨_, i, h1, h2⟩
/-- A list of tasks that is the function f. -/
structure Rep (L : List S42) (f : Fm) : Prop where
  nd : (L.map S42.f0).Nodup
  mem : ∀ s e, f s = some e ↔ (⟨s, e⟩ : S42) ∈ L
theorem rep_nil : Rep [] (fun _ => none) := ⟨List.nodup_nil, fun s e => by simp⟩
section
variable {L : List S42} {f : Fm}
theorem Rep.none_ (h : Rep L f) {s : Int} : f s = none ↔ ∀ x ∈ L, x.f0 ≠ s := by
  constructor
  · intro hf x hx e
    have := (h.mem x.f0 x.f1).2 hx
    rw [e, hf] at this
    cases this
  · intro hx
    cases hf : f s with
    | none => rfl
    | some e => exact absurd rfl (hx _ ((h.mem s e).1 hf))
theorem Rep.cut {A B : List S42} {x : S42} (h : Rep (A ++ x :: B) f) : Rep (A ++ B) (del f x.f0) := by
  have hnd := h.nd
  simp only [List.map_append, List.map_cons] at hnd
  obtain ⟨n1, n2, n3⟩ := List.nodup_append.1 hnd
  obtain ⟨n4, n5⟩ := List.nodup_cons.1 n2
  refine ⟨?_, fun s e => ?_⟩
  · rw [List.map_append]
    exact List.nodup_append.2 ⟨n1, n5, fun a ha b hb => n3 a ha b (List.mem_cons_of_mem _ hb)⟩
  · have hm := h.mem s e
    unfold del
    by_cases hs : s = x.f0
    · rw [if_pos hs]
      subst hs
      constructor
      · intro h1; cases h1
      · intro h1
        rcases List.mem_append.1 h1 with h1 | h1
        · exact absurd rfl (n3 x.f0 (List.mem_map.2 ⟨_, h1, rfl⟩) x.f0 List.mem_cons_self)
        · exact absurd (List.mem_map.2 ⟨_, h1, rfl⟩) n4
    · rw [if_neg hs, hm]
      constructor
      · intro h1
        rcases List.mem_append.1 h1 with h1 | h1
        · exact List.mem_append_left _ h1
        · rcases List.mem_cons.1 h1 with h1 | h1
          · exact absurd (by rw [← h1]) hs
          · exact List.mem_append_right _ h1
      · intro h1
        rcases List.mem_append.1 h1 with h1 | h1
        · exact List.mem_append_left _ h1
        · exact List.mem_append_right _ (List.mem_cons_of_mem _ h1)
theorem Rep.put {A B : List S42} {s e : Int} (h : Rep (A ++ B) f) (hs : f s = none) : Rep (A ++ [⟨s, e⟩] ++ B) (upd f s e) := by
  have hno := h.none_.1 hs
  have hnd := h.nd
  rw [List.map_append] at hnd
  obtain ⟨n1, n2, n3⟩ := List.nodup_append.1 hnd
  refine ⟨?_, fun z c => ?_⟩
  · rw [List.map_append, List.map_append, List.append_assoc]
    refine List.nodup_append.2 ⟨n1, List.nodup_cons.2 ⟨fun hb => ?_, n2⟩, fun a ha b hb => ?_⟩
    · obtain ⟨y, hy, e1⟩ := List.mem_map.1 hb
      exact hno y (List.mem_append_right _ hy) e1
    · rcases List.mem_cons.1 hb with hb | hb
      · subst hb
        obtain ⟨y, hy, e1⟩ := List.mem_map.1 ha
        exact fun e2 => hno y (List.mem_append_left _ hy) (e1.trans e2)
      · exact n3 a ha b hb
  · unfold upd
    by_cases hz : z = s
    · rw [if_pos hz]
      subst hz
      constructor
      · intro h1
        injection h1 with h1
        subst h1
        simp
      · intro h1
        simp only [List.mem_append, List.mem_singleton] at h1
        rcases h1 with (h1 | h1) | h1
        · exact absurd rfl (hno _ (List.mem_append_left _ h1))
        · injection h1 with _ h1
          rw [h1]
        · exact absurd rfl (hno _ (List.mem_append_right _ h1))
    · rw [if_neg hz, h.mem]
      simp only [List.mem_append, List.mem_singleton]
      constructor
      · rintro (h1 | h1)
        · exact .inl (.inl h1)
        · exact .inr h1
      · rintro ((h1 | h1) | h1)
        · exact .inl h1
        · injection h1 with h1
          exact absurd h1 hz
        · exact .inr h1
theorem Rep.filter (h : Rep L f) (ts : Int) (odd : Bool) : Rep (L.filter fun x => !(decide (x.f1 ≤ ts) && !kp odd x.f0)) (gone f ts odd) := by
  refine ⟨h.nd.sublist (List.filter_sublist.map _), fun s e => ?_⟩
  rw [gone_some, h.mem, List.mem_filter]
  constructor
  · rintro ⟨h1, h2⟩
    refine ⟨h1, ?_⟩
    cases hk : kp odd s
    · have : ¬ e ≤ ts := fun h => h2 ⟨h, hk⟩
      simp [this]
    · simp [hk]
  · rintro ⟨h1, h2⟩
    refine ⟨h1, fun h3 => ?_⟩
    simp [h3.1, h3.2] at h2
end
/-- What one turn makes of what is on the wheel. -/
def stepF (f : Fm) (t : S30) : Fm :=
  if t.f0 = 0 then upd f t.f1 t.f2
  else if t.f0 = 1 then (if f t.f1 = some t.f2 then del f t.f1 else f)
  else if t.f0 = 2 then (if f t.f1 = some t.f2 then upd f t.f1 t.f3 else f)
  else if t.f0 = 3 then gone f t.f2 t.f4 else f
def fAt (T : List S30) : Fm := T.foldl stepF (fun _ => none)
theorem fAt_snoc (T : List S30) (t : S30) : fAt (T ++ [t]) = stepF (fAt T) t := by simp [fAt, List.foldl_append]
theorem fAt_take {T : List S30} {i : Nat} {t : S30} (h : T[i]? = some t) : fAt (T.take (i + 1)) = stepF (fAt (T.take i)) t := by
  rw [List.take_add_one, h]
  exact fAt_snoc _ _
theorem upd_del (f : Fm) (s e : Int) : upd (del f s) s e = upd f s e := by
  funext z
  unfold upd del
  split <;> rfl
theorem split_at {L : List S42} {i : Nat} {x : S42} (h : L[i]? = some x) : L = L.take i ++ x :: L.drop (i + 1) := by
  obtain ⟨h1, h2⟩ := List.getElem?_eq_some_iff.1 h
  conv => lhs; rw [← List.take_append_drop i L]
  rw [List.drop_eq_getElem_cons h1, h2]
theorem Rep.seat {L : List S42} {f : Fm} (h : Rep L f) {s r : Int} (hs : SeatIs L s r) : (∃ i x, r = ((i : Nat) : Int) ∧ L[i]? = some x ∧ x.f0 = s ∧ f s = some x.f1) ∨ (r = -1 ∧ f s = none) := by
  rcases hs with ⟨i, x, h1, h2, h3⟩ | ⟨h1, h2⟩
  · refine .inl ⟨i, x, h1, h2, h3, ?_⟩
    rw [h.mem, ← h3]
    exact List.mem_of_getElem? h2
  · exact .inr ⟨h1, h.none_.2 h2⟩
end Go.Proofs.YtlbpbbfhfgacaaaDoor.Wh
