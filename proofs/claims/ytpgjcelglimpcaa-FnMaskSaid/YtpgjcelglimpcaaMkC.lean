/- Bytes under a mask: the library's eight bytes at once; bytes in place. -/
import Derived.Test.YtpgjcelglimpcaaMkB
namespace Go.Proofs.Ytpgjcelglimpcaa.Mk
open Go.Proofs.Ytpgjcelglimpcaa.Bs Go.RowKit Go.Proofs.YtpgjcelglimpcaaW.PrintWords Go.Proofs.YtpgjcelglimpcaaW.PrintLast Go.Proofs.YtpgjcelglimpcaaW.PrintMore
set_option linter.unusedVariables false
set_option linter.unusedSimpArgs false

theorem mk_set (key : List Nat) {bs : List Nat} {p i b : Nat} (h : bs[i]? = some b) : (mk key p (bs.take i) ++ bs.drop i).set i (b ^^^ key.getD ((p + i) % 4) 0) = mk key p (bs.take (i + 1)) ++ bs.drop (i + 1) := by
  have hi := (List.getElem?_eq_some_iff.1 h).1
  have hl : (mk key p (bs.take i)).length = i := by rw [mk_len, List.length_take]; omega
  have hd : bs.drop i = b :: bs.drop (i + 1) := by rw [List.drop_eq_getElem_cons hi, (List.getElem?_eq_some_iff.1 h).2]
  rw [mk_snoc key bs p h, hd, List.set_append_right _ _ (by omega), hl, Nat.sub_self, List.set_cons_zero, List.append_assoc]
  rfl
theorem mk_at (key : List Nat) {bs : List Nat} {p i b : Nat} (h : bs[i]? = some b) : (mk key p (bs.take i) ++ bs.drop i)[i]? = some b := by
  have hi := (List.getElem?_eq_some_iff.1 h).1
  have hl : (mk key p (bs.take i)).length = i := by rw [mk_len, List.length_take]; omega
  rw [List.getElem?_append_right (by omega), hl, Nat.sub_self, List.getElem?_drop, Nat.add_zero, h]
/-- Bytes at a block's begin. -/
def BufN (W : World) (g : Nat) (T : TypeId) (L : List Nat) (rest : List Value) : Prop := Blk W g T (bC L ++ rest)
section
variable {W W' : World} {g : Nat} {T : TypeId} {L : List Nat} {rest : List Value}
theorem BufN.cell (h : BufN W g T L rest) {j b : Nat} (hb : L[j]? = some b) : W.cell? ⟨g, j, none⟩ = some (.int .u8 (b : Int)) :=
  Blk.cell h j (by rw [List.getElem?_append_left (by rw [bC_len]; exact (List.getElem?_eq_some_iff.1 hb).1)]; exact bC_get hb)
theorem BufN.set (h : BufN W g T L rest) (j x : Nat) (hj : j < L.length) : BufN (W.setCell ⟨g, j, none⟩ (.int .u8 (x : Int))) g T (L.set j x) rest := by
  have := Blk.set h j (by rw [List.length_append, bC_len]; omega) (.int .u8 (x : Int))
  rw [List.set_append_left _ _ (by rw [bC_len]; exact hj)] at this
  unfold BufN
  rw [show bC (L.set j x) = (bC L).set j (.int .u8 (x : Int)) from by simp [bC, List.map_set]]
  exact this
end
set_option maxHeartbeats 4000000 in
set_option maxRecDepth 100000 in
theorem get64_calls {W : World} {g o n c : Nat} {x0 x1 x2 x3 x4 x5 x6 x7 : Nat} (h0 : x0 < 256) (h1 : x1 < 256) (h2 : x2 < 256) (h3 : x3 < 256) (h4 : x4 < 256) (h5 : x5 < 256) (h6 : x6 < 256) (h7 : x7 < 256) (hn : 8 ≤ n)
    (c0 : W.cell? ⟨g, o, none⟩ = some (.int .u8 (x0 : Int))) (c1 : W.cell? ⟨g, o + 1, none⟩ = some (.int .u8 (x1 : Int))) (c2 : W.cell? ⟨g, o + 2, none⟩ = some (.int .u8 (x2 : Int))) (c3 : W.cell? ⟨g, o + 3, none⟩ = some (.int .u8 (x3 : Int))) (c4 : W.cell? ⟨g, o + 4, none⟩ = some (.int .u8 (x4 : Int))) (c5 : W.cell? ⟨g, o + 5, none⟩ = some (.int .u8 (x5 : Int))) (c6 : W.cell? ⟨g, o + 6, none⟩ = some (.int .u8 (x6 : Int))) (c7 : W.cell? ⟨g, o + 7, none⟩ = some (.int .u8 (x7 : Int))) :
    Calls Try.prog 49 #[.agg #[], .slice (some ⟨g, o, none⟩) n c] W fun e w' => e = .returned (.int .u64 ((be8 x0 x1 x2 x3 x4 x5 x6 x7 : Nat) : Int)) ∧ Fr (fun _ => False) W w' := by
  have HF := Aside0.mk ((Fr.refl (fun _ => False) W).alloc (.cells #[] 61))
  have d0 := Same.cell HF.out c0
  have d1 := Same.cell HF.out c1
  have d2 := Same.cell HF.out c2
  have d3 := Same.cell HF.out c3
  have d4 := Same.cell HF.out c4
  have d5 := Same.cell HF.out c5
  have d6 := Same.cell HF.out c6
  have d7 := Same.cell HF.out c7
  have HE := Aside0.mk (be8_or h0 h1 h2 h3 h4 h5 h6 h7)
  have m9 : 0 < n := by omega
  have m1 : (1 : Int) < (n : Int) := by omega
  have m2 : (2 : Int) < (n : Int) := by omega
  have m3 : (3 : Int) < (n : Int) := by omega
  have m4 : (4 : Int) < (n : Int) := by omega
  have m5 : (5 : Int) < (n : Int) := by omega
  have m6 : (6 : Int) < (n : Int) := by omega
  have m7 : (7 : Int) < (n : Int) := by omega
  have m0 : (0 : Int) < (n : Int) := by omega
  have y1 : 0 ≤ (x1 : Int) ∧ (x1 : Int) < 256 := by omega
  have y0 : 0 ≤ (x0 : Int) ∧ (x0 : Int) < 256 := by omega
  have y2 : 0 ≤ (x2 : Int) ∧ (x2 : Int) < 256 := by omega
  have y3 : 0 ≤ (x3 : Int) ∧ (x3 : Int) < 256 := by omega
  have y4 : 0 ≤ (x4 : Int) ∧ (x4 : Int) < 256 := by omega
  have y5 : 0 ≤ (x5 : Int) ∧ (x5 : Int) < 256 := by omega
  have y6 : 0 ≤ (x6 : Int) ∧ (x6 : Int) < 256 := by omega
  have y7 : 0 ≤ (x7 : Int) ∧ (x7 : Int) < 256 := by omega
  clear c0 c1 c2 c3 c4 c5 c6 c7 h0 h1 h2 h3 h4 h5 h6 h7
  go_enter Try.func49, Try.ntmps49
  go_upto_region 1 with (fail)
  generalize W.alloc (.cells #[] 61) = W1 at *
  go_upto_region 2 with (fail)
  go_quiet (fail)
  go_wp2
  go_ret
  refine ⟨?_, HF.out.drewN nq⟩
  show Ending.returned (.int .u64 _) = _
  rw [← HE.out]
set_option maxHeartbeats 4000000 in
set_option maxRecDepth 100000 in
theorem put64_calls {W : World} {g o n c : Nat} {T : TypeId} {L : List Nat} {rest : List Value} {V : Nat} (hB : BufN W g T L rest) (ho : o + 8 ≤ L.length) (hn : 8 ≤ n) (hV : V < 18446744073709551616) :
    Calls Try.prog 50 #[.agg #[], .slice (some ⟨g, o, none⟩) n c, .int .u64 (V : Int)] W fun e w' => e = .returned (.tuple #[]) ∧ BufN w' g T ((((((((L.set o (V / 2 ^ 56 % 256)).set (o + 1) (V / 2 ^ 48 % 256)).set (o + 2) (V / 2 ^ 40 % 256)).set (o + 3) (V / 2 ^ 32 % 256)).set (o + 4) (V / 2 ^ 24 % 256)).set (o + 5) (V / 2 ^ 16 % 256)).set (o + 6) (V / 2 ^ 8 % 256)).set (o + 7) (V % 256)) rest ∧ Fr (fun k => k = g) W w' := by
  have HB := Aside0.mk hB
  clear hB
  go_enter Try.func50, Try.ntmps50
  go_upto_region 1 with (fail)
  have HB1 : Aside0 (BufN (W.alloc (.cells #[] 61)) g T L rest) := ⟨HB.out.alloc _⟩
  have HF1 := Aside0.mk ((Fr.refl (fun k => k = g) W).alloc (.cells #[] 61))
  generalize W.alloc (.cells #[] 61) = W1 at *
  have cell : ∀ j, j < 8 → ∃ u : Value, W1.cell? ⟨g, o + j, none⟩ = some u := fun j hj => ⟨_, HB1.out.cell (List.getElem?_eq_getElem (show o + j < L.length by omega))⟩
  obtain ⟨x0, f0⟩ := cell 0 (by omega)
  obtain ⟨x1, f1⟩ := cell 1 (by omega)
  obtain ⟨x2, f2⟩ := cell 2 (by omega)
  obtain ⟨x3, f3⟩ := cell 3 (by omega)
  obtain ⟨x4, f4⟩ := cell 4 (by omega)
  obtain ⟨x5, f5⟩ := cell 5 (by omega)
  obtain ⟨x6, f6⟩ := cell 6 (by omega)
  obtain ⟨x7, f7⟩ := cell 7 (by omega)
  have z0 := Blk.free HB1.out (o + 0)
  have z1 := Blk.free HB1.out (o + 1)
  have z2 := Blk.free HB1.out (o + 2)
  have z3 := Blk.free HB1.out (o + 3)
  have z4 := Blk.free HB1.out (o + 4)
  have z5 := Blk.free HB1.out (o + 5)
  have z6 := Blk.free HB1.out (o + 6)
  have z7 := Blk.free HB1.out (o + 7)
  rw [Nat.add_zero] at f0 z0
  have m9 : 0 < n := by omega
  have m0 : (0 : Int) < (n : Int) := by omega
  have m1 : (1 : Int) < (n : Int) := by omega
  have m2 : (2 : Int) < (n : Int) := by omega
  have m3 : (3 : Int) < (n : Int) := by omega
  have m4 : (4 : Int) < (n : Int) := by omega
  have m5 : (5 : Int) < (n : Int) := by omega
  have m6 : (6 : Int) < (n : Int) := by omega
  have m7 : (7 : Int) < (n : Int) := by omega
  have v0 : (0 : Int) ≤ (V : Int) := by omega
  have v1 : (V : Int) < 18446744073709551616 := by omega
  clear cell
  go_wp2
  go_end0
  have E0 : ((V : Int) / 72057594037927936) = ((V / 2 ^ 56 % 256 : Nat) : Int) := by
    have : (2 : Nat) ^ 56 = 72057594037927936 := by decide
    rw [this]; omega
  have E1 : ((V : Int) / 281474976710656 % 256) = ((V / 2 ^ 48 % 256 : Nat) : Int) := by
    have : (2 : Nat) ^ 48 = 281474976710656 := by decide
    rw [this]; omega
  have E2 : ((V : Int) / 1099511627776 % 256) = ((V / 2 ^ 40 % 256 : Nat) : Int) := by
    have : (2 : Nat) ^ 40 = 1099511627776 := by decide
    rw [this]; omega
  have E3 : ((V : Int) / 4294967296 % 256) = ((V / 2 ^ 32 % 256 : Nat) : Int) := by
    have : (2 : Nat) ^ 32 = 4294967296 := by decide
    rw [this]; omega
  have E4 : ((V : Int) / 16777216 % 256) = ((V / 2 ^ 24 % 256 : Nat) : Int) := by
    have : (2 : Nat) ^ 24 = 16777216 := by decide
    rw [this]; omega
  have E5 : ((V : Int) / 65536 % 256) = ((V / 2 ^ 16 % 256 : Nat) : Int) := by
    have : (2 : Nat) ^ 16 = 65536 := by decide
    rw [this]; omega
  have E6 : ((V : Int) / 256 % 256) = ((V / 2 ^ 8 % 256 : Nat) : Int) := by
    have : (2 : Nat) ^ 8 = 256 := by decide
    rw [this]; omega
  have E7 : ((V : Int) % 256) = ((V % 256 : Nat) : Int) := by omega
  rw [E0, E1, E2, E3, E4, E5, E6, E7]
  exact ⟨rfl, (BufN.set (BufN.set (BufN.set (BufN.set (BufN.set (BufN.set (BufN.set (BufN.set HB1.out o (V / 2 ^ 56 % 256) (by first | omega | (simp only [List.length_set]; omega))) (o + 1) (V / 2 ^ 48 % 256) (by first | omega | (simp only [List.length_set]; omega))) (o + 2) (V / 2 ^ 40 % 256) (by first | omega | (simp only [List.length_set]; omega))) (o + 3) (V / 2 ^ 32 % 256) (by first | omega | (simp only [List.length_set]; omega))) (o + 4) (V / 2 ^ 24 % 256) (by first | omega | (simp only [List.length_set]; omega))) (o + 5) (V / 2 ^ 16 % 256) (by first | omega | (simp only [List.length_set]; omega))) (o + 6) (V / 2 ^ 8 % 256) (by first | omega | (simp only [List.length_set]; omega))) (o + 7) (V % 256) (by first | omega | (simp only [List.length_set]; omega))), (Fr.set (Fr.set (Fr.set (Fr.set (Fr.set (Fr.set (Fr.set (Fr.set HF1.out (p := ⟨g, o, none⟩) (.inl rfl) _) (p := ⟨g, o + 1, none⟩) (.inl rfl) _) (p := ⟨g, o + 2, none⟩) (.inl rfl) _) (p := ⟨g, o + 3, none⟩) (.inl rfl) _) (p := ⟨g, o + 4, none⟩) (.inl rfl) _) (p := ⟨g, o + 5, none⟩) (.inl rfl) _) (p := ⟨g, o + 6, none⟩) (.inl rfl) _) (p := ⟨g, o + 7, none⟩) (.inl rfl) _)⟩
end Go.Proofs.Ytpgjcelglimpcaa.Mk
