/- The words of a text, as what they are read as. -/
import Derived.Test.YtpgjcelglimpcaaSpA
namespace Go.Proofs.Ytpgjcelglimpcaa.Sp
open Go.RowKit Go.Proofs.YtpgjcelglimpcaaW.PrintWords Go.Proofs.YtpgjcelglimpcaaW.PrintLast Go.Proofs.YtpgjcelglimpcaaW.PrintMore
set_option linter.unusedVariables false
set_option linter.unusedSimpArgs false

theorem sp_bound : ∀ (l : List Int) (i : Nat) (o : Option Nat), (∀ s, o = some s → s < i) → ∀ p ∈ sp l i o, p.1 < p.2 ∧ p.2 ≤ i + l.length
  | [], i, none, _, p, hp => by simp [sp] at hp
  | [], i, some s, h, p, hp => by
    simp only [sp, List.mem_singleton] at hp
    subst hp
    exact ⟨h s rfl, Nat.le_refl _⟩
  | b :: r, i, none, h, p, hp => by
    rw [sp] at hp
    split at hp
    · have := sp_bound r (i + 1) none (fun s h => by cases h) p hp
      simp only [List.length_cons]; omega
    · have := sp_bound r (i + 1) (some i) (fun s h => by cases h; omega) p hp
      simp only [List.length_cons]; omega
  | b :: r, i, some s, h, p, hp => by
    have hs := h s rfl
    rw [sp] at hp
    split at hp
    · rcases List.mem_cons.1 hp with rfl | hp
      · simp only [List.length_cons]; omega
      · have := sp_bound r (i + 1) none (fun s h => by cases h) p hp
        simp only [List.length_cons]; omega
    · have := sp_bound r (i + 1) (some s) (fun s' h => by cases h; omega) p hp
      simp only [List.length_cons]; omega
/-- The words. -/
def wordsOf (l : List Int) : List (List Int) := (sp l 0 none).map fun p => (l.take p.2).drop p.1
theorem words_V {w w1 w2 : World} {A : Option Addr} {ad : Addr} {c : Nat} {l : List Int} {v : Value} (hA : 0 < l.length → A = some ad) (hc : l.length ≤ c) (hl : l.length ≤ 1000000)
    (hF : Kd.F (Kd.int .u8) w2 (fun k => w.heap.size ≤ k) A l.length l) (hw : w.heap.size ≤ w1.heap.size) (hv : Wk.AR w2 w1.heap.size v ((sp l 0 none).map (wv ad c))) :
    Kd.V (Kd.slice 5 (Kd.int .u8)) 24 w2 w.heap.size (fun k => w.heap.size ≤ k) v (wordsOf l) := by
  obtain ⟨g, cap, rfl, h1, h2, h3, h4⟩ := hv.cell
  have hlen : ((sp l 0 none).map (wv ad c)).length = (wordsOf l).length := by simp [wordsOf]
  rw [hlen] at h1 h4 ⊢
  refine ⟨_, cap, rfl, h1, fun W' hW => ⟨rfl, by simp only [maxLen] at h2; omega, fun h0 => ⟨_, rfl, fun j p hj => ?_⟩⟩⟩
  have hj1 := (List.getElem?_eq_some_iff.1 hj).1
  rw [wordsOf, List.getElem?_map, Option.map_eq_some_iff] at hj
  obtain ⟨q, hq, rfl⟩ := hj
  obtain ⟨b1, b2⟩ := sp_bound l 0 none (fun s h => by cases h) q (List.mem_of_getElem? hq)
  rw [Nat.zero_add] at b2
  obtain rfl := hA (by omega)
  have hcw : w2.cell? ⟨g, j, none⟩ = some (wv ad c q) := by rw [h4 j hj1, List.getElem?_map, hq]; rfl
  have hlt : g < w2.heap.size := World.block_lt_of_cell? w2 _ hcw
  have hcell : W'.cell? ⟨g, j, none⟩ = some (wv ad c q) := (World.cell?_of_block (hW g (Nat.le_trans hw h3) hlt)).trans hcw
  have hln : ((l.take q.2).drop q.1).length = q.2 - q.1 := by rw [List.length_drop, List.length_take]; omega
  refine ⟨[wv ad c q], rfl, ⟨some (ad.add q.1), c - q.1, by rw [wv, hln], by rw [hln]; omega, ?_⟩, fun i u hu => ?_⟩
  · have hC : Kd.C (Kd.int .u8) W' (some ad) l.length l := hF W' hW
    have := Kd.C_mid (k := Kd.int .u8) (lo := q.1) (hi := q.2) hC (by omega) b2 hc
    rw [if_neg (by omega)] at this
    have e1 : q.1 * (Kd.int .u8).sz = q.1 := Nat.mul_one _
    rw [e1] at this
    exact this
  · cases i with
    | zero =>
      simp only [List.getElem?_cons_zero, Option.some.injEq] at hu
      subst hu
      have e1 : (⟨g, 0, none⟩ : Addr).add (j * (Kd.slice 5 (Kd.int .u8)).sz + 0) = ⟨g, j, none⟩ := by
        rw [Bs.add_at]
        show (⟨g, j * 1 + 0, none⟩ : Addr) = _
        rw [Nat.mul_one, Nat.add_zero]
      rw [e1]
      exact hcell
    | succ i => simp at hu
end Go.Proofs.Ytpgjcelglimpcaa.Sp
