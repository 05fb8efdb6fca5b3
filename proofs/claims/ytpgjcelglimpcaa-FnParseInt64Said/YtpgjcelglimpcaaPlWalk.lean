/- Words for walks, beside the print's: the conversions []byte(s) (a constant's row that is marked; a text's bytes in a new row). -/
import Derived.Test.YtpgjcelglimpcaaWMore
import Derived.Lib.ConvBytes
namespace Go.Proofs.Ytpgjcelglimpcaa.Wk
open Go.RowKit Go.Proofs.YtpgjcelglimpcaaW.PrintWords Go.Proofs.YtpgjcelglimpcaaW.PrintLast Go.Proofs.YtpgjcelglimpcaaW.PrintMore
set_option linter.unusedVariables false

theorem freeze_at (w : World) (a : Addr) (k : Nat) (h : k ≠ a.block) (n : Nat) : (w.freeze a n).heap[k]? = w.heap[k]? := by
  unfold World.freeze
  split
  · rfl
  · simp only [Array.getElem?_modify]
    rw [if_neg (fun e => h e.symm)]
theorem freeze_size (w : World) (a : Addr) (n : Nat) : (w.freeze a n).heap.size = w.heap.size := by
  unfold World.freeze
  split
  · rfl
  · simp
theorem freeze_cell (w : World) (a : Addr) (n : Nat) (p : Addr) : (w.freeze a n).cell? p = w.cell? p := by
  by_cases h : p.block = a.block
  · unfold World.freeze
    split
    · rfl
    · unfold World.cell?
      simp only [Array.getElem?_modify, h, if_true]
      cases w.heap[a.block]? with
      | none => rfl
      | some o => cases o <;> rfl
  · unfold World.cell?
    rw [freeze_at w a p.block h n]
theorem below_freeze {N : Nat} {w0 w : World} (h : Below N w0 w) (a : Addr) (n : Nat) (ha : N ≤ a.block) : Below N w0 (w.freeze a n) :=
  ⟨by unfold World.freeze; split <;> exact h.os, by unfold World.freeze; split <;> exact h.tape, by unfold World.freeze; split <;> exact h.output, by rw [freeze_size]; exact h.size,
    fun k hk => (freeze_at w a k (by omega) n).trans (h.block k hk)⟩
/-- What reads cell by cell alone. -/
theorem C_cells {w w1 : World} {k : IntKind} {A : Option Addr} {n : Nat} {xs : List Int} (h : Kd.C (Kd.int k) w A n xs) (hc : ∀ p, w1.cell? p = w.cell? p) : Kd.C (Kd.int k) w1 A n xs := by
  refine Kd.C_of_reads (h1 := fun _ => rfl) (enc := Value.int k) (d := (0 : Int)) ?_
  have h2 := Kd.reads_of_C (h1 := fun _ => rfl) (enc := Value.int k) (d := (0 : Int)) h
  exact ⟨h2.1, h2.2.1, fun hn => by
    obtain ⟨ad, e, hr⟩ := h2.2.2 hn
    exact ⟨ad, e, fun j hj => (hc _).trans (hr j hj)⟩⟩
/-- A constant's row turned to its own type: it is marked, and reads as it did. -/
theorem conv_same {P : Program} {t e : TypeId} (ht : P.underlying t = some (.slice e)) (he : P.underlying e = some (.int .u8)) {w w0 : World} {N base : Nat} {ok : Nat → Prop} {A : Option Addr} {n c : Nat} {xs : List Int}
    (h : Kd.R (Kd.int .u8) e w base ok (.slice A n c) xs) (hn : 0 < xs.length) (hb : N ≤ base) (hB : Below N w0 w) :
    ∃ w1, (convert t t (.slice A n c)).run P w = .ok (.slice A n c) w1 ∧ Kd.C (Kd.int .u8) w1 A n xs ∧ Below N w0 w1 ∧ w1.heap.size = w.heap.size ∧ ∀ p, w1.cell? p = w.cell? p := by
  have hR := Kd.R_reads' h
  have hl : xs.length = n := hR.1.symm
  obtain ⟨h0, inner, ho, hr⟩ := h
  rcases ho.2 with ⟨e1, e2⟩ | ⟨g, cap, cur, e1, hg, hh, r⟩
  · omega
  · injection e1 with eA eN eC
    subst eA eC
    have hsh : w.shape? g = some (e, cur.size) := by unfold World.shape?; rw [hh]
    refine ⟨w.freeze ⟨g, cur.size, none⟩ 1, ?_, ?_, below_freeze hB _ _ (by show N ≤ g; omega), freeze_size _ _ _, freeze_cell _ _ _⟩
    · simp [convert, run_underlying ht, run_underlying he, markStringish, hsh]
    · have h3 := hR.2.2
      rw [hl] at h3
      exact C_cells h3 (freeze_cell _ _ _)
/-- A text's bytes in a row of their own. -/
theorem conv_bytes {P : Program} {src t e : TypeId} {u : TypeDesc} (hs : P.underlying src = some .string) (ht : P.underlying t = some (.slice e)) (he : P.underlying e = some (.int .u8)) {w w0 : World} {N : Nat} (s : ByteArray) (hsz : s.size ≤ 140737488351232) (hN : N ≤ w.heap.size) (hB : Below N w0 w) :
    ∃ A c w1, (convert src t (.string s)).run P w = .ok (.slice A s.size c) w1 ∧ Kd.C (Kd.int .u8) w1 A s.size (bytesOf s) ∧ s.size ≤ c ∧ Below N w0 w1 ∧ Below w.heap.size w w1 := by
  have hBw : ∀ {M : Nat} {v : World}, M ≤ w.heap.size → Below M v w → Below M v (Lib.bytesWorld w e s) := fun {M v} hM hb => by
    refine ⟨?_, ?_, ?_, by rw [Lib.bytesWorld_size]; have := hb.size; omega, fun k hk => (Lib.bytesWorld_at_old w e s k (by omega)).trans (hb.block k hk)⟩
    · have : (Lib.bytesWorld w e s).os = w.os := by unfold Lib.bytesWorld World.freeze; split <;> rfl
      rw [this]; exact hb.os
    · have : (Lib.bytesWorld w e s).tape = w.tape := by unfold Lib.bytesWorld World.freeze; split <;> rfl
      rw [this]; exact hb.tape
    · have : (Lib.bytesWorld w e s).output = w.output := by unfold Lib.bytesWorld World.freeze; split <;> rfl
      rw [this]; exact hb.output
  refine ⟨some ⟨w.heap.size, 0, none⟩, grownCap w s.size 0 e, Lib.bytesWorld w e s, Lib.run_convert_string_bytes w src t e s hs ht he, ?_, ?_, hBw hN hB, hBw (Nat.le_refl _) (Below.refl _ _)⟩
  · refine Kd.C_of_reads (h1 := fun _ => rfl) (enc := Value.int .u8) (d := (0 : Int)) ⟨by simp [bytesOf], by omega, fun hn => ⟨_, rfl, fun j hj => ?_⟩⟩
    rw [add_plain, Lib.bytesWorld_cell w e s j hj]
    have e : (bytesOf s).getD j 0 = ((s.data.toList.getD j 0).toNat : Int) := by
      unfold bytesOf
      rw [List.getD_eq_getElem?_getD, List.getD_eq_getElem?_getD, List.getElem?_map]
      cases s.data.toList[j]? <;> rfl
    rw [e]
  · unfold grownCap Question.cut
    exact Nat.le_add_right _ _

end Go.Proofs.Ytpgjcelglimpcaa.Wk
