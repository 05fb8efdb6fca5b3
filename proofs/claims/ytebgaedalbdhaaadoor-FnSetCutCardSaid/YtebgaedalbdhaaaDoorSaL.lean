/- What a caller hands over, read: deeds in a slice; the table of the library, as it is laid. -/
import Derived.Test.YtebgaedalbdhaaaDoorAvW
import Derived.Lib.LaidTab
import Derived.Deep.SlicePairs
import Derived.ChangeArms
import Derived.LaidLaws
namespace Go.Proofs.YtebgaedalbdhaaaDoor.Av
open Go.ChangeShapes Go.Deep Go.RowKit Go.Proofs.YtebgaedalbdhaaaDoorW.PrintWords Go.Proofs.YtebgaedalbdhaaaDoorW.PrintLast Go.Proofs.YtebgaedalbdhaaaDoorW.PrintMore
set_option linter.unusedVariables false
set_option linter.unusedSimpArgs false

def tab64 : List Int := Lib.deBruijn64tab.map Int.ofNat
set_option maxRecDepth 100000 in
theorem tab_of_laid {W : World} {rest : List (String × DataW Unit)} (h : laidMet Tryd.prog (("math/bits.deBruijn64tab", Lib.tabData .u8 tab64) :: rest) W) : TabAt W := by
  have hT := Lib.tabIs_of_head (t := 97) (e := 5) (n := 64) (show Tryd.prog.globalNamed "math/bits.deBruijn64tab" = some 4 by kernel_rfl) (by kernel_rfl) (by kernel_rfl) (by kernel_rfl) (by kernel_rfl) (by kernel_rfl) h
  intro j hj
  have := World.var?_cell (show Tryd.prog.globalNamed "math/bits.deBruijn64tab" = some 4 by kernel_rfl) hT j
  rw [this]
  have e : Lib.deBruijn64tab.length = 64 := by decide
  simp [tab64, List.getElem?_map, List.getD_eq_getElem?_getD, List.getElem?_eq_getElem (show j < Lib.deBruijn64tab.length by omega)]
set_option maxRecDepth 100000 in
theorem acts_of_trod {H : Type} {enc : TypeId × Value → H} {W : World} {base : Nat} {sp : Nat → Bool} {held : Bool} {fuel : Nat} {a : Option Addr} {len cap : Nat} {x : DataW H × List MemPlace} (h : DataW.trod enc Tryd.prog W base sp held fuel 22 [.slice a len cap] = some x) :
    ∃ acts : List Deed, acts.length = len ∧ ActsR W a acts ∧ (∀ p ∈ acts, 0 ≤ p.2) ∧ acts.length ≤ maxLen := by
  rcases open_slice_pairs (e := 37) (by kernel_rfl) Tryd.underlying37 (by kernel_rfl) rfl rfl (by kernel_rfl) (by kernel_rfl) h with ⟨hcs, _⟩ | ⟨ad, l, c, m, n, V0, V1, D0, D1, P0, P1, hcs, hb, hl, hm, hmm, hx, hall⟩
  · injection hcs with hcs _
    injection hcs with e1 e2 e3
    subst e2
    exact ⟨[], rfl, fun h => by simp at h, fun p hp => (by cases hp), Nat.zero_le _⟩
  · injection hcs with hcs _
    injection hcs with e1 e2 e3
    subst e1 e2 e3
    have hlm : len ≤ m := by rw [hmm]; split <;> omega
    have each : ∀ i, i < len → ∃ q : Deed, W.cell? (ad.add (i * 2)) = some (.int .i64 q.1) ∧ W.cell? (ad.add (i * 2 + 1)) = some (.int .u64 q.2) ∧ 0 ≤ q.2 := fun i hi => by
      obtain ⟨c0, c1, h0, h1⟩ := hall i (by omega)
      obtain ⟨z0, e0, -, -⟩ := DataW.trod_int (k := .i64) (by kernel_rfl) h0
      obtain ⟨z1, e1, -, w1⟩ := DataW.trod_int (k := .u64) (by kernel_rfl) h1
      injection e0 with e0 _
      injection e1 with e1 _
      refine ⟨(z0, z1), by rw [c0, e0], by rw [c1, e1], ?_⟩
      have hm : IntKind.u64.min = 0 := by decide
      simp only [Lit.wf, Bool.and_eq_true, decide_eq_true_eq, hm] at w1
      exact w1.1
    obtain ⟨f, hf⟩ := choose_lt (α := Deed) each
    refine ⟨(List.range len).map f, by simp, fun h0 => ⟨ad, rfl, fun i q hq => ?_⟩, fun p hp => ?_, by simp; omega⟩
    · rw [List.getElem?_map] at hq
      have hi : i < len := by
        rcases Nat.lt_or_ge i len with h' | h'
        · exact h'
        · rw [List.getElem?_eq_none (by simpa using h')] at hq; cases hq
      rw [List.getElem?_range hi] at hq
      injection hq with hq
      subst hq
      exact ⟨(hf i hi).1, (hf i hi).2.1⟩
    · obtain ⟨i, hi, rfl⟩ := List.mem_map.1 hp
      exact (hf i (by simpa using hi)).2.2
end Go.Proofs.YtebgaedalbdhaaaDoor.Av
