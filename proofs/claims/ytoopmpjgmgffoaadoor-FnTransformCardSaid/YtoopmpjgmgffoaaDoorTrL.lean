/- Parts as they are read. -/
import Derived.Test.YtoopmpjgmgffoaaDoorTrK
import Derived.Deep.SlicePairs
namespace Go.Proofs.YtoopmpjgmgffoaaDoor.Tr
open Go.RowKit Go.Deep Go.Proofs.YtoopmpjgmgffoaaDoor.Bs Go.Proofs.YtoopmpjgmgffoaaDoorW.PrintWords Go.Proofs.YtoopmpjgmgffoaaDoorW.PrintLast Go.Proofs.YtoopmpjgmgffoaaDoorW.PrintMore Go.Proofs.YtoopmpjgmgffoaaDoor.GFnTransformBack
set_option linter.unusedVariables false
set_option linter.unusedSimpArgs false
theorem ints_of_trod {H : Type} {enc : TypeId × Value → H} {W : World} {base : Nat} {sp : Nat → Bool} {held : Bool} {fuel : Nat} {cs : List Value} {x : DataW H × List MemPlace} (h : DataW.trod enc Tryd.prog W base sp held fuel 31 cs = some x) :
  ∃ (A : Option Addr) (c : Nat) (z : List Int), cs = [.slice A z.length c] ∧ z.length ≤ c ∧ Kd.C (Kd.int .i64) W A z.length z := by
 rcases open_slice1 Tryd.underlying31 (by kernel_rfl) h with ⟨hcs, _⟩ | ⟨ad, l, c, m, n, D, Pl, V, hcs, hb, hl, hm, hmm, hx, hall⟩
 ·
  exact ⟨none, 0, [], hcs, Nat.le_refl _, rfl, Nat.zero_le _, fun h => absurd h (Nat.lt_irrefl 0)⟩
 have hlm : l ≤ m := by rw [hmm]; split <;> omega
 have each : ∀ i, i < l → ∃ z : Int, W.cell? (ad.add i) = some (.int .i64 z) := fun i hi => by
  obtain ⟨h1, h2⟩ := hall i (by omega)
  obtain ⟨z, e, -, -⟩ := DataW.trod_int (k := .i64) Tryd.underlying3 h2
  injection e with e _
  exact ⟨z, by rw [h1, e]⟩
 obtain ⟨f, hf⟩ := choose_lt (α := Int) each
 refine ⟨some ad, c, (List.range l).map f, by rw [hcs]; simp, by simpa using hl, rfl, by simp; unfold maxLen at hm; omega, fun h0 => ⟨ad, rfl, fun i q hq => ?_⟩⟩
 rw [List.getElem?_map] at hq
 have hi : i < l := by
  rcases Nat.lt_or_ge i l with h' | h'
  ·
   exact h'
  rw [List.getElem?_eq_none (by simpa using h')] at hq; cases hq
 rw [List.getElem?_range hi] at hq
 injection hq with hq
 subst hq
 refine ⟨[.int .i64 (f i)], rfl, rfl, fun j u hu => ?_⟩
 match j with
 | 0 =>
  injection hu with hu
  subst hu
  show W.cell? (ad.add (i * 1 + 0)) = _
  rw [Nat.mul_one, Nat.add_zero]
  exact hf i hi
 | j + 1 => simp at hu
set_option maxRecDepth 100000 in
theorem parts_of_trod {H : Type} {enc : TypeId × Value → H} {W : World} {base : Nat} {sp : Nat → Bool} {held : Bool} {fuel : Nat} {a : Option Addr} {len cap : Nat} {x : DataW H × List MemPlace} (h : DataW.trod enc Tryd.prog W base sp held fuel 22 [.slice a len cap] = some x) :
  ∃ T : List S42, T.length = len ∧ T.length ≤ cap ∧ Kd.C k42 W a T.length T := by
 rcases open_slice (Tryd.underlying22) h with ⟨hcs, _⟩ | ⟨ad, l, c, m, n, D, Pl, hcs, hb, hl, hm, hmm, hx, hall⟩
 ·
  injection hcs with hcs _
  injection hcs with e1 e2 e3
  subst e2
  exact ⟨[], rfl, Nat.zero_le _, rfl, Nat.zero_le _, fun h => absurd h (Nat.lt_irrefl 0)⟩
 injection hcs with hcs _
 injection hcs with e1 e2 e3
 subst e1 e2 e3
 have hlm : len ≤ m := by rw [hmm]; split <;> omega
 have ce : Tryd.prog.cellsOf 42 = 5 := by kernel_rfl
 have each : ∀ i, i < len → ∃ q : S42, ∃ A4 c4, (W.cell? (ad.add (i * 5)) = some (.int .i64 q.f0) ∧ W.cell? (ad.add (i * 5 + 1)) = some (.string q.f1) ∧ W.cell? (ad.add (i * 5 + 2)) = some (.int .i64 q.f2) ∧ W.cell? (ad.add (i * 5 + 3)) = some (.int .i64 q.f3) ∧ W.cell? (ad.add (i * 5 + 4)) = some (.slice A4 q.f4.length c4)) ∧ q.f4.length ≤ c4 ∧ Kd.C (Kd.int .i64) W A4 q.f4.length q.f4 := fun i hi => by
  obtain ⟨cs', h1, h2⟩ := hall i (by omega)
  rw [ce] at h1
  obtain ⟨_, hlen, hcell⟩ := World.cells?_some h1
  obtain ⟨xs, k, hk, hxy, _, hxl, hf⟩ := DataW.trod_struct Tryd.underlying42 h2
  have k3 : Tryd.prog.cellsOf 3 = 1 := by kernel_rfl
  have k9 : Tryd.prog.cellsOf 9 = 1 := by kernel_rfl
  have k31 : Tryd.prog.cellsOf 31 = 1 := by kernel_rfl
  match xs, hxl, cs', hlen with
  | [y0, y1, y2, y3, y4], _, [v0, v1, v2, v3, v4], _ =>
   have g0 : DataW.trod enc Tryd.prog W base sp held k 3 (([v0, v1, v2, v3, v4].drop 0).take (Tryd.prog.cellsOf 3)) = some y0 := hf 0 _ rfl
   have g1 : DataW.trod enc Tryd.prog W base sp held k 9 (([v0, v1, v2, v3, v4].drop 1).take (Tryd.prog.cellsOf 9)) = some y1 := hf 1 _ rfl
   have g2 : DataW.trod enc Tryd.prog W base sp held k 3 (([v0, v1, v2, v3, v4].drop 2).take (Tryd.prog.cellsOf 3)) = some y2 := hf 2 _ rfl
   have g3 : DataW.trod enc Tryd.prog W base sp held k 3 (([v0, v1, v2, v3, v4].drop 3).take (Tryd.prog.cellsOf 3)) = some y3 := hf 3 _ rfl
   have g4 : DataW.trod enc Tryd.prog W base sp held k 31 (([v0, v1, v2, v3, v4].drop 4).take (Tryd.prog.cellsOf 31)) = some y4 := hf 4 _ rfl
   rw [k3] at g0 g2 g3
   rw [k9] at g1
   rw [k31] at g4
   obtain ⟨z0, e0, -, -⟩ := DataW.trod_int (k := .i64) Tryd.underlying3 g0
   obtain ⟨z1, e1, -, -⟩ := DataW.trod_string Tryd.underlying9 g1
   obtain ⟨z2, e2, -, -⟩ := DataW.trod_int (k := .i64) Tryd.underlying3 g2
   obtain ⟨z3, e3, -, -⟩ := DataW.trod_int (k := .i64) Tryd.underlying3 g3
   obtain ⟨A4, c4, z4, e4, l4, C4⟩ := ints_of_trod g4
   have q0 := hcell 0 (by omega)
   have q1 := hcell 1 (by omega)
   have q2 := hcell 2 (by omega)
   have q3 := hcell 3 (by omega)
   have q4 := hcell 4 (by omega)
   rw [Bs.add_add'] at q0 q1 q2 q3 q4
   injection e0 with e0 _
   injection e1 with e1 _
   injection e2 with e2 _
   injection e3 with e3 _
   injection e4 with e4 _
   subst e0 e1 e2 e3 e4
   exact ⟨⟨z0, z1, z2, z3, z4⟩, A4, c4, ⟨by simpa using q0, by simpa using q1, by simpa using q2, by simpa using q3, by simpa using q4⟩, l4, C4⟩
 have : Inhabited S42 := ⟨z42⟩
 obtain ⟨f, hf⟩ := choose_lt (α := S42) each
 refine ⟨(List.range len).map f, by simp, by simpa using hl, rfl, by simp; unfold maxLen at hm; omega, fun h0 => ⟨ad, rfl, fun i q hq => ?_⟩⟩
 rw [List.getElem?_map] at hq
 have hi : i < len := by
  rcases Nat.lt_or_ge i len with h' | h'
  ·
   exact h'
  rw [List.getElem?_eq_none (by simpa using h')] at hq; cases hq
 rw [List.getElem?_range hi] at hq
 injection hq with hq
 subst hq
 obtain ⟨A4, c4, ⟨h1, h2, h3, h4, h5⟩, l4, C4⟩ := hf i hi
 refine ⟨_, rfl, k42_mk W (f i) l4 C4, fun j u hu => ?_⟩
 show W.cell? (ad.add (i * 5 + j)) = some u
 rcases j with _ | _ | _ | _ | _ | j
 ·
  injection hu with hu
  rw [← hu]
  exact h1
 ·
  injection hu with hu
  rw [← hu]
  exact h2
 ·
  injection hu with hu
  rw [← hu]
  exact h3
 ·
  injection hu with hu
  rw [← hu]
  exact h4
 ·
  injection hu with hu
  rw [← hu]
  exact h5
 simp at hu
end Go.Proofs.YtoopmpjgmgffoaaDoor.Tr
