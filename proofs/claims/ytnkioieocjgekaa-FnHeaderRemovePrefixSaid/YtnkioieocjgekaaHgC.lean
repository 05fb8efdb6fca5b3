/- []byte(s): a row of its own, told by its footprint. -/
import Derived.Test.YtnkioieocjgekaaHgB
namespace Go.Proofs.Ytnkioieocjgekaa.Hg
open Go.RowKit Go.Proofs.YtnkioieocjgekaaW.PrintWords Go.Proofs.YtnkioieocjgekaaW.PrintLast Go.Proofs.YtnkioieocjgekaaW.PrintMore
set_option linter.unusedVariables false
set_option linter.unusedSimpArgs false

theorem conv_V {w : World} (s : ByteArray) (hsz : s.size ≤ 140737488351232) : ∃ c w1, (convert 9 28 (.string s)).run Try.prog w = .ok (.slice (some ⟨w.heap.size, 0, none⟩) s.size c) w1 ∧
    Kd.V (Kd.int .u8) 5 w1 w.heap.size (fun k => w.heap.size ≤ k) (.slice (some ⟨w.heap.size, 0, none⟩) s.size c) (bytesOf s) ∧ s.size ≤ c ∧ Below w.heap.size w w1 := by
  obtain ⟨A, c, w1, hrun, hC, hc, -, hB⟩ := Wk.conv_bytes (P := Try.prog) (u := .string) (w := w) (w0 := w) (N := w.heap.size) Try.underlying9 Try.underlying28 Try.underlying5 s hsz (Nat.le_refl _) (Below.refl _ _)
  have h2 := Lib.run_convert_string_bytes (P := Try.prog) w 9 28 5 s Try.underlying9 Try.underlying28 Try.underlying5
  have h3 := hrun.symm.trans h2
  injection h3 with h4 h5
  injection h4 with h6 h7 h8
  subst h6
  have hl : (bytesOf s).length = s.size := bytesOf_length s
  refine ⟨c, w1, hrun, ⟨_, c, by rw [hl], by rw [hl]; exact hc, fun W' hW => ?_⟩, hc, hB⟩
  rw [hl]
  refine ⟨hC.1, hC.2.1, fun hn => ?_⟩
  obtain ⟨ad, e, hcc⟩ := hC.2.2 hn
  refine ⟨ad, e, fun j p hj => ?_⟩
  obtain ⟨cs, k1, k2, k3⟩ := hcc j p hj
  refine ⟨cs, k1, k2, fun i u hu => ?_⟩
  have hcell := k3 i u hu
  have hlt := World.block_lt_of_cell? w1 _ hcell
  injection e with e
  subst e
  have hb : ((⟨w.heap.size, 0, none⟩ : Addr).add (j * (Kd.int .u8).sz + i)).block = w.heap.size := by rw [Bs.add_block]
  exact (World.cell?_of_block (hW _ (by rw [hb]; exact Nat.le_refl _) hlt)).trans hcell
end Go.Proofs.Ytnkioieocjgekaa.Hg
