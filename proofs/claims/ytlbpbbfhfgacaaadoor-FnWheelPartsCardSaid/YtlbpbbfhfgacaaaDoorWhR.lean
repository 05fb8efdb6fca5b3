/- A script as it is read. -/
import Derived.Test.YtlbpbbfhfgacaaaDoorWhQ
import Derived.Deep.SlicePairs
namespace Go.Proofs.YtlbpbbfhfgacaaaDoor.Wh
open Go.RowKit Go.Maps Go.Deep Go.Proofs.YtlbpbbfhfgacaaaDoor.Bs Go.Proofs.YtlbpbbfhfgacaaaDoorW.PrintWords Go.Proofs.YtlbpbbfhfgacaaaDoorW.PrintLast Go.Proofs.YtlbpbbfhfgacaaaDoorW.PrintMore Go.Proofs.YtlbpbbfhfgacaaaDoor.GFnWheelParts
set_option linter.unusedVariables false
set_option linter.unusedSimpArgs false
theorem turns_of_trod {H : Type} {enc : TypeId × Value → H} {W : World} {base : Nat} {sp : Nat → Bool} {held : Bool} {fuel : Nat} {a : Option Addr} {len cap : Nat} {x : DataW H × List MemPlace} (h : DataW.trod enc Tryd.prog W base sp held fuel 22 [.slice a len cap] = some x) :
    ∃ T : List S30, T.length = len ∧ T.length ≤ cap ∧ Kd.C k30 W a T.length T ∧ ∀ t ∈ T, U64 t.f1 := by
  rcases open_slice (Tryd.underlying22) h with ⟨hcs, _⟩ | ⟨ad, l, c, m, n, D, Pl, hcs, hb, hl, hm, hmm, hx, hall⟩
  · injection hcs with hcs _
    injection hcs with e1 e2 e3
    subst e2
    exact ⟨[], rfl, Nat.zero_le _, ⟨rfl, Nat.zero_le _, fun h => absurd h (Nat.lt_irrefl 0)⟩, fun p hp => (by cases hp)⟩
  · injection hcs with hcs _
    injection hcs with e1 e2 e3
    subst e1 e2 e3
    have hlm : len ≤ m := by rw [hmm]; split <;> omega
    have ce : Tryd.prog.cellsOf 30 = 5 := by kernel_rfl
    have each : ∀ i, i < len → ∃ q : S30, (W.cell? (ad.add (i * 5)) = some (.int .i64 q.f0) ∧ W.cell? (ad.add (i * 5 + 1)) = some (.int .u64 q.f1) ∧ W.cell? (ad.add (i * 5 + 2)) = some (.int .i64 q.f2) ∧ W.cell? (ad.add (i * 5 + 3)) = some (.int .i64 q.f3) ∧ W.cell? (ad.add (i * 5 + 4)) = some (.bool q.f4)) ∧ U64 q.f1 := fun i hi => by
      obtain ⟨cs', h1, h2⟩ := hall i (by omega)
      rw [ce] at h1
      obtain ⟨_, hlen, hcell⟩ := World.cells?_some h1
      obtain ⟨xs, k, hk, hxy, _, hxl, hf⟩ := DataW.trod_struct Tryd.underlying30 h2
      have k3 : Tryd.prog.cellsOf 3 = 1 := by kernel_rfl
      have k28 : Tryd.prog.cellsOf 28 = 1 := by kernel_rfl
      have k2 : Tryd.prog.cellsOf 2 = 1 := by kernel_rfl
      have k4 : Tryd.prog.cellsOf 4 = 1 := by kernel_rfl
      match xs, hxl, cs', hlen with
      | [y0, y1, y2, y3, y4], _, [v0, v1, v2, v3, v4], _ =>
        have g0 : DataW.trod enc Tryd.prog W base sp held k 3 (([v0, v1, v2, v3, v4].drop 0).take (Tryd.prog.cellsOf 3)) = some y0 := hf 0 _ rfl
        have g1 : DataW.trod enc Tryd.prog W base sp held k 28 (([v0, v1, v2, v3, v4].drop 1).take (Tryd.prog.cellsOf 28)) = some y1 := hf 1 _ rfl
        have g2 : DataW.trod enc Tryd.prog W base sp held k 2 (([v0, v1, v2, v3, v4].drop 2).take (Tryd.prog.cellsOf 2)) = some y2 := hf 2 _ rfl
        have g3 : DataW.trod enc Tryd.prog W base sp held k 2 (([v0, v1, v2, v3, v4].drop 3).take (Tryd.prog.cellsOf 2)) = some y3 := hf 3 _ rfl
        have g4 : DataW.trod enc Tryd.prog W base sp held k 4 (([v0, v1, v2, v3, v4].drop 4).take (Tryd.prog.cellsOf 4)) = some y4 := hf 4 _ rfl
        rw [k3] at g0
        rw [k28] at g1
        rw [k2] at g2 g3
        rw [k4] at g4
        obtain ⟨z0, e0, -, -⟩ := DataW.trod_int (k := .i64) Tryd.underlying3 g0
        obtain ⟨z1, e1, -, w1⟩ := DataW.trod_int (k := .u64) Tryd.underlying28 g1
        obtain ⟨z2, e2, -, -⟩ := DataW.trod_int (k := .i64) Tryd.underlying2 g2
        obtain ⟨z3, e3, -, -⟩ := DataW.trod_int (k := .i64) Tryd.underlying2 g3
        obtain ⟨z4, e4, -⟩ := DataW.trod_bool Tryd.underlying4 g4
        have q0 := hcell 0 (by omega)
        have q1 := hcell 1 (by omega)
        have q2 := hcell 2 (by omega)
        have q3 := hcell 3 (by omega)
        have q4 := hcell 4 (by omega)
        rw [Bs.add_add'] at q0 q1 q2 q3 q4
        injection e0 with e0 _
        injection e1 with e1 _
        injection e2 with e2 _
        injection e3 with e3 _
        injection e4 with e4 _
        subst e0 e1 e2 e3 e4
        exact ⟨⟨z0, z1, z2, z3, z4⟩, ⟨by simpa using q0, by simpa using q1, by simpa using q2, by simpa using q3, by simpa using q4⟩, w1⟩
    have : Inhabited S30 := ⟨z30⟩
    obtain ⟨f, hf⟩ := choose_lt (α := S30) each
    refine ⟨(List.range len).map f, by simp, by simpa using hl, ⟨rfl, by simp; unfold maxLen at hm; omega, fun h0 => ⟨ad, rfl, fun i q hq => ?_⟩⟩, fun p hp => ?_⟩
    · rw [List.getElem?_map] at hq
      have hi : i < len := by
        rcases Nat.lt_or_ge i len with h' | h'
        · exact h'
        · rw [List.getElem?_eq_none (by simpa using h')] at hq; cases hq
      rw [List.getElem?_range hi] at hq
      injection hq with hq
      subst hq
      obtain ⟨⟨h1, h2, h3, h4, h5⟩, -⟩ := hf i hi
      refine ⟨_, rfl, k30_mk W (f i), fun j u hu => ?_⟩
      show W.cell? (ad.add (i * 5 + j)) = some u
      rcases j with _ | _ | _ | _ | _ | j
      · injection hu with hu
        rw [← hu]
        exact h1
      · injection hu with hu
        rw [← hu]
        exact h2
      · injection hu with hu
        rw [← hu]
        exact h3
      · injection hu with hu
        rw [← hu]
        exact h4
      · injection hu with hu
        rw [← hu]
        exact h5
      · simp at hu
    · obtain ⟨i, hi, rfl⟩ := List.mem_map.1 hp
      exact (hf i (by simpa using hi)).2
theorem next_row {W : World} {A0 : Option Addr} {c0 : Nat} {T : List S30} {before : Int} (h0 : 0 < W.heap.size) (hT : Kd.C k30 W A0 T.length T) (hc0 : T.length ≤ c0) (hu : ∀ t ∈ T, U64 t.f1) (hg : Gl W) :
    Calls Tryd.prog 4 #[.slice A0 T.length c0, .int .i64 before] W (fun e w' => e = .returned (.bool true) ∧ Below W.heap.size W w') := (next_law h0 hT hc0 hu hg).mono (fun e w' h => ⟨h.1, below_of_fr h.2⟩)
end Go.Proofs.YtlbpbbfhfgacaaaDoor.Wh
