/- A script as it is handed in; rows over the walks of the tree laws. -/
import Derived.Test.YtjhmpcbpbdkddaaGreatTfI
import Derived.Deep.SlicePairs
namespace Go.Proofs.YtjhmpcbpbdkddaaGreat.Te
open Go.RowKit Go.Deep Go.Proofs.YtjhmpcbpbdkddaaGreat.Pl Go.Proofs.YtjhmpcbpbdkddaaGreat.Bs Go.Proofs.YtjhmpcbpbdkddaaGreatW.PrintWords Go.Proofs.YtjhmpcbpbdkddaaGreatW.PrintLast Go.Proofs.YtjhmpcbpbdkddaaGreatW.PrintMore Go.Proofs.YtjhmpcbpbdkddaaGreat.GFnTreeRun
set_option linter.unusedVariables false
set_option linter.unusedSimpArgs false
set_option maxRecDepth 100000 in
theorem deeds_of_trod {H : Type} {enc : TypeId × Value → H} {W : World} {base : Nat} {sp : Nat → Bool} {held : Bool} {fuel : Nat} {a : Option Addr} {len cap : Nat} {x : DataW H × List MemPlace} (h : DataW.trod enc Tryz.prog W base sp held fuel 22 [.slice a len cap] = some x) :
    ∃ T : List S51, T.length = len ∧ T.length ≤ cap ∧ Kd.C k51 W a T.length T ∧ ∀ t ∈ T, (Lit.int .i64 t.f2).wf = true := by
  rcases open_slice (Tryz.underlying22) h with ⟨hcs, _⟩ | ⟨ad, l, c, m, n, D, Pl, hcs, hb, hl, hm, hmm, hx, hall⟩
  · injection hcs with hcs _
    injection hcs with e1 e2 e3
    subst e2
    exact ⟨[], rfl, Nat.zero_le _, ⟨rfl, Nat.zero_le _, fun h => absurd h (Nat.lt_irrefl 0)⟩, fun p hp => (by cases hp)⟩
  · injection hcs with hcs _
    injection hcs with e1 e2 e3
    subst e1 e2 e3
    have hlm : len ≤ m := by rw [hmm]; split <;> omega
    have ce : Tryz.prog.cellsOf 51 = 3 := by kernel_rfl
    have each : ∀ i, i < len → ∃ q : S51, (W.cell? (ad.add (i * 3)) = some (.int .i64 q.f0) ∧ W.cell? (ad.add (i * 3 + 1)) = some (.string q.f1) ∧ W.cell? (ad.add (i * 3 + 2)) = some (.int .i64 q.f2)) ∧ (Lit.int .i64 q.f2).wf = true := fun i hi => by
      obtain ⟨cs', h1, h2⟩ := hall i (by omega)
      rw [ce] at h1
      obtain ⟨_, hlen, hcell⟩ := World.cells?_some h1
      obtain ⟨xs, k, hk, hxy, _, hxl, hf⟩ := DataW.trod_struct Tryz.underlying51 h2
      have k3 : Tryz.prog.cellsOf 3 = 1 := by kernel_rfl
      have k9 : Tryz.prog.cellsOf 9 = 1 := by kernel_rfl
      match xs, hxl, cs', hlen with
      | [y0, y1, y2], _, [v0, v1, v2], _ =>
        have g0 : DataW.trod enc Tryz.prog W base sp held k 3 (([v0, v1, v2].drop 0).take (Tryz.prog.cellsOf 3)) = some y0 := hf 0 _ rfl
        have g1 : DataW.trod enc Tryz.prog W base sp held k 9 (([v0, v1, v2].drop 1).take (Tryz.prog.cellsOf 9)) = some y1 := hf 1 _ rfl
        have g2 : DataW.trod enc Tryz.prog W base sp held k 3 (([v0, v1, v2].drop 2).take (Tryz.prog.cellsOf 3)) = some y2 := hf 2 _ rfl
        rw [k3] at g0 g2
        rw [k9] at g1
        obtain ⟨z0, e0, -, -⟩ := DataW.trod_int (k := .i64) Tryz.underlying3 g0
        obtain ⟨z1, e1, -, -⟩ := DataW.trod_string Tryz.underlying9 g1
        obtain ⟨z2, e2, -, w2⟩ := DataW.trod_int (k := .i64) Tryz.underlying3 g2
        have q0 := hcell 0 (by omega)
        have q1 := hcell 1 (by omega)
        have q2 := hcell 2 (by omega)
        rw [Bs.add_add'] at q0 q1 q2
        injection e0 with e0 _
        injection e1 with e1 _
        injection e2 with e2 _
        subst e0 e1 e2
        exact ⟨⟨z0, z1, z2⟩, ⟨by simpa using q0, by simpa using q1, by simpa using q2⟩, w2⟩
    have : Inhabited S51 := ⟨z51⟩
    obtain ⟨f, hf⟩ := choose_lt (α := S51) each
    refine ⟨(List.range len).map f, by simp, by simpa using hl, ⟨rfl, by simp; unfold maxLen at hm; omega, fun h0 => ⟨ad, rfl, fun i q hq => ?_⟩⟩, fun p hp => ?_⟩
    · rw [List.getElem?_map] at hq
      have hi : i < len := by
        rcases Nat.lt_or_ge i len with h' | h'
        · exact h'
        · rw [List.getElem?_eq_none (by simpa using h')] at hq; cases hq
      rw [List.getElem?_range hi] at hq
      injection hq with hq
      subst hq
      obtain ⟨⟨h1, h2, h3⟩, -⟩ := hf i hi
      refine ⟨_, rfl, k51_mk W (f i), fun j u hu => ?_⟩
      show W.cell? (ad.add (i * 3 + j)) = some u
      rcases j with _ | _ | _ | j
      · injection hu with hu
        rw [← hu]
        exact h1
      · injection hu with hu
        rw [← hu]
        exact h2
      · injection hu with hu
        rw [← hu]
        exact h3
      · simp at hu
    · obtain ⟨i, hi, rfl⟩ := List.mem_map.1 hp
      exact (hf i (by simpa using hi)).2
end Go.Proofs.YtjhmpcbpbdkddaaGreat.Te
