/- What the printed functions of FnProtoField come to, as plain functions on lists. -/
import Derived.Test.YtnkioieocjgekaaDoorPlBase
import Derived.Test.YtnkioieocjgekaaDoorGFnProtoFieldx3
namespace Go.Proofs.YtnkioieocjgekaaDoor.PlFnProtoField
open Go.RowKit Go.Proofs.YtnkioieocjgekaaDoorW.PrintWords Go.Proofs.YtnkioieocjgekaaDoorW.PrintLast Go.Proofs.YtnkioieocjgekaaDoorW.PrintMore Go.Proofs.YtnkioieocjgekaaDoor.Pl Go.Proofs.YtnkioieocjgekaaDoor.GFnProtoField
set_option linter.unusedVariables false
set_option linter.unusedSimpArgs false

theorem u64 {x : Int} (h0 : 0 ≤ x) (h1 : x < 18446744073709551616) : IntKind.u64.wrap x = x := by rw [IntKind.wrap_u64]; omega
/-- A number in bytes of seven bits, at most ten of them: what it is, and how many bytes it has. -/
def vr (len : Int) : List Int → Int → Int → Int → Option (Int × Int)
  | [], _, _, _ => none
  | b :: bs, i, acc, p => if len ≤ i then none else if i = 9 ∧ 1 < b then none else if b < 128 then some (acc + b * p, i + 1) else vr len bs (i + 1) (acc + (b - 128) * p) (p * 128)
def vrOf (l : List Int) : Option (Int × Int) := vr (l.length : Int) [rd l 0, rd l 1, rd l 2, rd l 3, rd l 4, rd l 5, rd l 6, rd l 7, rd l 8, rd l 9] 0 0 1
theorem rd_byte (l : List Int) (h : ∀ x ∈ l, (Lit.int .u8 x).wf = true) (i : Int) : 0 ≤ rd l i ∧ rd l i ≤ 255 := by
  unfold rd
  rw [List.getD_eq_getElem?_getD]
  cases e : l[i.toNat]? with
  | none => simp
  | some x =>
    have := h x (List.mem_of_getElem? e)
    simp [Lit.wf, IntKind.min, IntKind.max, IntKind.signed, IntKind.bits] at this ⊢
    omega
set_option maxHeartbeats 4000000 in
theorem scan_f (l : List Int) (hb : ∀ i, 0 ≤ rd l i ∧ rd l i ≤ 255) : (∃ c, server_protoScanVarint.f l = some (0, 0, some c) ∧ vrOf l = none) ∨ ∃ v n, server_protoScanVarint.f l = some (v, n, none) ∧ vrOf l = some (v, n) ∧ 0 ≤ v ∧ v < 18446744073709551616 ∧ 0 ≤ n ∧ n ≤ (l.length : Int) := by
  have F := server_protoScanVarint.f.eq_1 l
  have V : vrOf l = vr (l.length : Int) [rd l 0, rd l 1, rd l 2, rd l 3, rd l 4, rd l 5, rd l 6, rd l 7, rd l 8, rd l 9] 0 0 1 := rfl
  generalize vrOf l = R at *
  generalize server_protoScanVarint.f l = G at *
  have h0 := hb 0
  have h1 := hb 1
  have h2 := hb 2
  have h3 := hb 3
  have h4 := hb 4
  have h5 := hb 5
  have h6 := hb 6
  have h7 := hb 7
  have h8 := hb 8
  have h9 := hb 9
  clear hb
  generalize rd l 0 = b0 at *
  generalize rd l 1 = b1 at *
  generalize rd l 2 = b2 at *
  generalize rd l 3 = b3 at *
  generalize rd l 4 = b4 at *
  generalize rd l 5 = b5 at *
  generalize rd l 6 = b6 at *
  generalize rd l 7 = b7 at *
  generalize rd l 8 = b8 at *
  generalize rd l 9 = b9 at *
  generalize (l.length : Int) = len at *
  have w0 : IntKind.u64.wrap b0 = b0 := u64 (by omega) (by omega)
  have w1 : IntKind.u64.wrap b1 = b1 := u64 (by omega) (by omega)
  have w2 : IntKind.u64.wrap b2 = b2 := u64 (by omega) (by omega)
  have w3 : IntKind.u64.wrap b3 = b3 := u64 (by omega) (by omega)
  have w4 : IntKind.u64.wrap b4 = b4 := u64 (by omega) (by omega)
  have w5 : IntKind.u64.wrap b5 = b5 := u64 (by omega) (by omega)
  have w6 : IntKind.u64.wrap b6 = b6 := u64 (by omega) (by omega)
  have w7 : IntKind.u64.wrap b7 = b7 := u64 (by omega) (by omega)
  have w8 : IntKind.u64.wrap b8 = b8 := u64 (by omega) (by omega)
  have w9 : IntKind.u64.wrap b9 = b9 := u64 (by omega) (by omega)
  simp only [w0, w1, w2, w3, w4, w5, w6, w7, w8, w9] at F
  clear w0 w1 w2 w3 w4 w5 w6 w7 w8 w9
  by_cases l0 : len ≤ 0
  · rw [if_pos l0] at F; rw [vr, if_pos l0] at V; exact .inl ⟨_, F, V⟩
  rw [if_neg l0, if_pos (show (0 : Int) < len by omega)] at F
  by_cases g0 : b0 < 128
  · rw [if_pos g0] at F; rw [vr, if_neg l0, if_neg (by omega), if_pos g0] at V
    exact .inr ⟨_, _, F, V.trans (by congr 2; omega), by omega, by omega, by omega, by omega⟩
  rw [if_neg g0] at F; rw [vr, if_neg l0, if_neg (by omega), if_neg g0] at V
  obtain ⟨u1, e1⟩ : ∃ u, u = 0 + (b0 - 128) * 1 := ⟨_, rfl⟩
  rw [show 0 + (b0 - 128) * 1 = u1 from e1.symm, show (0 : Int) + 1 = 1 from rfl, show (1 : Int) * 128 = 128 from rfl] at V
  have a3 : IntKind.u64.wrap (b0 - 128) = u1 := by rw [u64 (by omega) (by omega)]; omega
  simp only [a3] at F
  have r1 : 0 ≤ u1 ∧ u1 < 128 := by omega
  clear a3 e1
  by_cases l1 : len ≤ 1
  · rw [if_pos l1] at F; rw [vr, if_pos l1] at V; exact .inl ⟨_, F, V⟩
  rw [if_neg l1, if_pos (show (1 : Int) < len by omega)] at F
  by_cases g1 : b1 < 128
  · rw [if_pos g1] at F; rw [vr, if_neg l1, if_neg (by omega), if_pos g1] at V
    have a1 : IntKind.u64.wrap (b1 * 128) = b1 * 128 := u64 (by omega) (by omega)
    have a2 : IntKind.u64.wrap (u1 + b1 * 128) = u1 + b1 * 128 := u64 (by omega) (by omega)
    rw [a1, a2] at F
    exact .inr ⟨_, _, F, V, by omega, by omega, by omega, by omega⟩
  rw [if_neg g1] at F; rw [vr, if_neg l1, if_neg (by omega), if_neg g1] at V
  obtain ⟨u2, e2⟩ : ∃ u, u = u1 + (b1 - 128) * 128 := ⟨_, rfl⟩
  rw [show u1 + (b1 - 128) * 128 = u2 from e2.symm, show (1 : Int) + 1 = 2 from rfl, show (128 : Int) * 128 = 16384 from rfl] at V
  have a1 : IntKind.u64.wrap (b1 * 128) = b1 * 128 := u64 (by omega) (by omega)
  have a2 : IntKind.u64.wrap (u1 + b1 * 128) = u1 + b1 * 128 := u64 (by omega) (by omega)
  have a3 : IntKind.u64.wrap (u1 + b1 * 128 - 16384) = u2 := by rw [u64 (by omega) (by omega)]; omega
  simp only [a1, a2, a3] at F
  have r2 : 0 ≤ u2 ∧ u2 < 16384 := by omega
  clear a1 a2 a3 e2
  by_cases l2 : len ≤ 2
  · rw [if_pos l2] at F; rw [vr, if_pos l2] at V; exact .inl ⟨_, F, V⟩
  rw [if_neg l2, if_pos (show (2 : Int) < len by omega)] at F
  by_cases g2 : b2 < 128
  · rw [if_pos g2] at F; rw [vr, if_neg l2, if_neg (by omega), if_pos g2] at V
    have a1 : IntKind.u64.wrap (b2 * 16384) = b2 * 16384 := u64 (by omega) (by omega)
    have a2 : IntKind.u64.wrap (u2 + b2 * 16384) = u2 + b2 * 16384 := u64 (by omega) (by omega)
    rw [a1, a2] at F
    exact .inr ⟨_, _, F, V, by omega, by omega, by omega, by omega⟩
  rw [if_neg g2] at F; rw [vr, if_neg l2, if_neg (by omega), if_neg g2] at V
  obtain ⟨u3, e3⟩ : ∃ u, u = u2 + (b2 - 128) * 16384 := ⟨_, rfl⟩
  rw [show u2 + (b2 - 128) * 16384 = u3 from e3.symm, show (2 : Int) + 1 = 3 from rfl, show (16384 : Int) * 128 = 2097152 from rfl] at V
  have a1 : IntKind.u64.wrap (b2 * 16384) = b2 * 16384 := u64 (by omega) (by omega)
  have a2 : IntKind.u64.wrap (u2 + b2 * 16384) = u2 + b2 * 16384 := u64 (by omega) (by omega)
  have a3 : IntKind.u64.wrap (u2 + b2 * 16384 - 2097152) = u3 := by rw [u64 (by omega) (by omega)]; omega
  simp only [a1, a2, a3] at F
  have r3 : 0 ≤ u3 ∧ u3 < 2097152 := by omega
  clear a1 a2 a3 e3
  by_cases l3 : len ≤ 3
  · rw [if_pos l3] at F; rw [vr, if_pos l3] at V; exact .inl ⟨_, F, V⟩
  rw [if_neg l3, if_pos (show (3 : Int) < len by omega)] at F
  by_cases g3 : b3 < 128
  · rw [if_pos g3] at F; rw [vr, if_neg l3, if_neg (by omega), if_pos g3] at V
    have a1 : IntKind.u64.wrap (b3 * 2097152) = b3 * 2097152 := u64 (by omega) (by omega)
    have a2 : IntKind.u64.wrap (u3 + b3 * 2097152) = u3 + b3 * 2097152 := u64 (by omega) (by omega)
    rw [a1, a2] at F
    exact .inr ⟨_, _, F, V, by omega, by omega, by omega, by omega⟩
  rw [if_neg g3] at F; rw [vr, if_neg l3, if_neg (by omega), if_neg g3] at V
  obtain ⟨u4, e4⟩ : ∃ u, u = u3 + (b3 - 128) * 2097152 := ⟨_, rfl⟩
  rw [show u3 + (b3 - 128) * 2097152 = u4 from e4.symm, show (3 : Int) + 1 = 4 from rfl, show (2097152 : Int) * 128 = 268435456 from rfl] at V
  have a1 : IntKind.u64.wrap (b3 * 2097152) = b3 * 2097152 := u64 (by omega) (by omega)
  have a2 : IntKind.u64.wrap (u3 + b3 * 2097152) = u3 + b3 * 2097152 := u64 (by omega) (by omega)
  have a3 : IntKind.u64.wrap (u3 + b3 * 2097152 - 268435456) = u4 := by rw [u64 (by omega) (by omega)]; omega
  simp only [a1, a2, a3] at F
  have r4 : 0 ≤ u4 ∧ u4 < 268435456 := by omega
  clear a1 a2 a3 e4
  by_cases l4 : len ≤ 4
  · rw [if_pos l4] at F; rw [vr, if_pos l4] at V; exact .inl ⟨_, F, V⟩
  rw [if_neg l4, if_pos (show (4 : Int) < len by omega)] at F
  by_cases g4 : b4 < 128
  · rw [if_pos g4] at F; rw [vr, if_neg l4, if_neg (by omega), if_pos g4] at V
    have a1 : IntKind.u64.wrap (b4 * 268435456) = b4 * 268435456 := u64 (by omega) (by omega)
    have a2 : IntKind.u64.wrap (u4 + b4 * 268435456) = u4 + b4 * 268435456 := u64 (by omega) (by omega)
    rw [a1, a2] at F
    exact .inr ⟨_, _, F, V, by omega, by omega, by omega, by omega⟩
  rw [if_neg g4] at F; rw [vr, if_neg l4, if_neg (by omega), if_neg g4] at V
  obtain ⟨u5, e5⟩ : ∃ u, u = u4 + (b4 - 128) * 268435456 := ⟨_, rfl⟩
  rw [show u4 + (b4 - 128) * 268435456 = u5 from e5.symm, show (4 : Int) + 1 = 5 from rfl, show (268435456 : Int) * 128 = 34359738368 from rfl] at V
  have a1 : IntKind.u64.wrap (b4 * 268435456) = b4 * 268435456 := u64 (by omega) (by omega)
  have a2 : IntKind.u64.wrap (u4 + b4 * 268435456) = u4 + b4 * 268435456 := u64 (by omega) (by omega)
  have a3 : IntKind.u64.wrap (u4 + b4 * 268435456 - 34359738368) = u5 := by rw [u64 (by omega) (by omega)]; omega
  simp only [a1, a2, a3] at F
  have r5 : 0 ≤ u5 ∧ u5 < 34359738368 := by omega
  clear a1 a2 a3 e5
  by_cases l5 : len ≤ 5
  · rw [if_pos l5] at F; rw [vr, if_pos l5] at V; exact .inl ⟨_, F, V⟩
  rw [if_neg l5, if_pos (show (5 : Int) < len by omega)] at F
  by_cases g5 : b5 < 128
  · rw [if_pos g5] at F; rw [vr, if_neg l5, if_neg (by omega), if_pos g5] at V
    have a1 : IntKind.u64.wrap (b5 * 34359738368) = b5 * 34359738368 := u64 (by omega) (by omega)
    have a2 : IntKind.u64.wrap (u5 + b5 * 34359738368) = u5 + b5 * 34359738368 := u64 (by omega) (by omega)
    rw [a1, a2] at F
    exact .inr ⟨_, _, F, V, by omega, by omega, by omega, by omega⟩
  rw [if_neg g5] at F; rw [vr, if_neg l5, if_neg (by omega), if_neg g5] at V
  obtain ⟨u6, e6⟩ : ∃ u, u = u5 + (b5 - 128) * 34359738368 := ⟨_, rfl⟩
  rw [show u5 + (b5 - 128) * 34359738368 = u6 from e6.symm, show (5 : Int) + 1 = 6 from rfl, show (34359738368 : Int) * 128 = 4398046511104 from rfl] at V
  have a1 : IntKind.u64.wrap (b5 * 34359738368) = b5 * 34359738368 := u64 (by omega) (by omega)
  have a2 : IntKind.u64.wrap (u5 + b5 * 34359738368) = u5 + b5 * 34359738368 := u64 (by omega) (by omega)
  have a3 : IntKind.u64.wrap (u5 + b5 * 34359738368 - 4398046511104) = u6 := by rw [u64 (by omega) (by omega)]; omega
  simp only [a1, a2, a3] at F
  have r6 : 0 ≤ u6 ∧ u6 < 4398046511104 := by omega
  clear a1 a2 a3 e6
  by_cases l6 : len ≤ 6
  · rw [if_pos l6] at F; rw [vr, if_pos l6] at V; exact .inl ⟨_, F, V⟩
  rw [if_neg l6, if_pos (show (6 : Int) < len by omega)] at F
  by_cases g6 : b6 < 128
  · rw [if_pos g6] at F; rw [vr, if_neg l6, if_neg (by omega), if_pos g6] at V
    have a1 : IntKind.u64.wrap (b6 * 4398046511104) = b6 * 4398046511104 := u64 (by omega) (by omega)
    have a2 : IntKind.u64.wrap (u6 + b6 * 4398046511104) = u6 + b6 * 4398046511104 := u64 (by omega) (by omega)
    rw [a1, a2] at F
    exact .inr ⟨_, _, F, V, by omega, by omega, by omega, by omega⟩
  rw [if_neg g6] at F; rw [vr, if_neg l6, if_neg (by omega), if_neg g6] at V
  obtain ⟨u7, e7⟩ : ∃ u, u = u6 + (b6 - 128) * 4398046511104 := ⟨_, rfl⟩
  rw [show u6 + (b6 - 128) * 4398046511104 = u7 from e7.symm, show (6 : Int) + 1 = 7 from rfl, show (4398046511104 : Int) * 128 = 562949953421312 from rfl] at V
  have a1 : IntKind.u64.wrap (b6 * 4398046511104) = b6 * 4398046511104 := u64 (by omega) (by omega)
  have a2 : IntKind.u64.wrap (u6 + b6 * 4398046511104) = u6 + b6 * 4398046511104 := u64 (by omega) (by omega)
  have a3 : IntKind.u64.wrap (u6 + b6 * 4398046511104 - 562949953421312) = u7 := by rw [u64 (by omega) (by omega)]; omega
  simp only [a1, a2, a3] at F
  have r7 : 0 ≤ u7 ∧ u7 < 562949953421312 := by omega
  clear a1 a2 a3 e7
  by_cases l7 : len ≤ 7
  · rw [if_pos l7] at F; rw [vr, if_pos l7] at V; exact .inl ⟨_, F, V⟩
  rw [if_neg l7, if_pos (show (7 : Int) < len by omega)] at F
  by_cases g7 : b7 < 128
  · rw [if_pos g7] at F; rw [vr, if_neg l7, if_neg (by omega), if_pos g7] at V
    have a1 : IntKind.u64.wrap (b7 * 562949953421312) = b7 * 562949953421312 := u64 (by omega) (by omega)
    have a2 : IntKind.u64.wrap (u7 + b7 * 562949953421312) = u7 + b7 * 562949953421312 := u64 (by omega) (by omega)
    rw [a1, a2] at F
    exact .inr ⟨_, _, F, V, by omega, by omega, by omega, by omega⟩
  rw [if_neg g7] at F; rw [vr, if_neg l7, if_neg (by omega), if_neg g7] at V
  obtain ⟨u8, e8⟩ : ∃ u, u = u7 + (b7 - 128) * 562949953421312 := ⟨_, rfl⟩
  rw [show u7 + (b7 - 128) * 562949953421312 = u8 from e8.symm, show (7 : Int) + 1 = 8 from rfl, show (562949953421312 : Int) * 128 = 72057594037927936 from rfl] at V
  have a1 : IntKind.u64.wrap (b7 * 562949953421312) = b7 * 562949953421312 := u64 (by omega) (by omega)
  have a2 : IntKind.u64.wrap (u7 + b7 * 562949953421312) = u7 + b7 * 562949953421312 := u64 (by omega) (by omega)
  have a3 : IntKind.u64.wrap (u7 + b7 * 562949953421312 - 72057594037927936) = u8 := by rw [u64 (by omega) (by omega)]; omega
  simp only [a1, a2, a3] at F
  have r8 : 0 ≤ u8 ∧ u8 < 72057594037927936 := by omega
  clear a1 a2 a3 e8
  by_cases l8 : len ≤ 8
  · rw [if_pos l8] at F; rw [vr, if_pos l8] at V; exact .inl ⟨_, F, V⟩
  rw [if_neg l8, if_pos (show (8 : Int) < len by omega)] at F
  by_cases g8 : b8 < 128
  · rw [if_pos g8] at F; rw [vr, if_neg l8, if_neg (by omega), if_pos g8] at V
    have a1 : IntKind.u64.wrap (b8 * 72057594037927936) = b8 * 72057594037927936 := u64 (by omega) (by omega)
    have a2 : IntKind.u64.wrap (u8 + b8 * 72057594037927936) = u8 + b8 * 72057594037927936 := u64 (by omega) (by omega)
    rw [a1, a2] at F
    exact .inr ⟨_, _, F, V, by omega, by omega, by omega, by omega⟩
  rw [if_neg g8] at F; rw [vr, if_neg l8, if_neg (by omega), if_neg g8] at V
  obtain ⟨u9, e9⟩ : ∃ u, u = u8 + (b8 - 128) * 72057594037927936 := ⟨_, rfl⟩
  rw [show u8 + (b8 - 128) * 72057594037927936 = u9 from e9.symm, show (8 : Int) + 1 = 9 from rfl, show (72057594037927936 : Int) * 128 = 9223372036854775808 from rfl] at V
  have a1 : IntKind.u64.wrap (b8 * 72057594037927936) = b8 * 72057594037927936 := u64 (by omega) (by omega)
  have a2 : IntKind.u64.wrap (u8 + b8 * 72057594037927936) = u8 + b8 * 72057594037927936 := u64 (by omega) (by omega)
  have a3 : IntKind.u64.wrap (u8 + b8 * 72057594037927936 - 9223372036854775808) = u9 := by rw [u64 (by omega) (by omega)]; omega
  simp only [a1, a2, a3] at F
  have r9 : 0 ≤ u9 ∧ u9 < 9223372036854775808 := by omega
  clear a1 a2 a3 e9
  by_cases l9 : len ≤ 9
  · rw [if_pos l9] at F; rw [vr, if_pos l9] at V; exact .inl ⟨_, F, V⟩
  rw [if_neg l9, if_pos (show (9 : Int) < len by omega)] at F
  by_cases g9 : b9 < 2
  · rw [if_pos g9] at F; rw [vr, if_neg l9, if_neg (by omega), if_pos (by omega)] at V
    have a1 : IntKind.u64.wrap (b9 * 9223372036854775808) = b9 * 9223372036854775808 := u64 (by omega) (by omega)
    have a2 : IntKind.u64.wrap (u9 + b9 * 9223372036854775808) = u9 + b9 * 9223372036854775808 := u64 (by omega) (by omega)
    rw [a1, a2] at F
    exact .inr ⟨_, _, F, V, by omega, by omega, by omega, by omega⟩
  · rw [if_neg g9] at F; rw [vr, if_neg l9, if_pos ⟨rfl, by omega⟩] at V; exact .inl ⟨_, F, V⟩
def outS : Option (Int × Int) → Int × Int × Bool
  | none => (0, 0, false)
  | some (v, n) => (v, n, true)
theorem spec_9 (l : List Int) (hl : (l.length : Int) ≤ 140737488355328) (hb : ∀ i, 0 ≤ rd l i ∧ rd l i ≤ 255) (acc : Int) (h0 : 0 ≤ acc) (h1 : acc < 9223372036854775808) : Ev (fun k => spec_Varint.l0 k l acc 9) (outS (vr (l.length : Int) [rd l 9] 9 acc 9223372036854775808)) := by
  have hbi := hb 9
  refine Ev.step (fun k => by rw [spec_Varint.l0]) ?_
  rw [vr]
  by_cases hi : (9 : Int) < (l.length : Int)
  rotate_left
  · refine Ev.neg hi (Ev.step (fun k => by rw [spec_Varint.j1, if_neg (by simp)]) ?_)
    rw [if_pos (by omega)]; exact Ev.now _
  refine Ev.pos hi ?_
  rw [if_neg (by omega), show decide ((9 : Int) < 10) = true from rfl]
  refine Ev.step (fun k => by rw [spec_Varint.j1, if_pos rfl, if_pos rfl, if_pos (by decide), if_pos hi]) ?_
  by_cases g : rd l 9 > 1
  · rw [decide_eq_true g, if_pos ⟨rfl, g⟩]
    refine Ev.step (fun k => by rw [spec_Varint.j2, if_pos rfl]) ?_
    exact Ev.now _
  rw [decide_eq_false g, if_neg (by omega)]
  have hm : IntKind.u64.wrap (Int.tmod (rd l 9) 128) = rd l 9 % 128 := by rw [Int.tmod_eq_emod_of_nonneg hbi.1, u64 (by omega) (by omega)]
  have hk : IntKind.u64.wrap (7 * (IntKind.u64.wrap 9)) = 63 := by decide
  have hs : shl .u64 (rd l 9 % 128) 63 = rd l 9 % 128 * 9223372036854775808 := by
    rw [shl, show (2 : Int) ^ min (63 : Int).toNat IntKind.u64.bits = 9223372036854775808 from by decide, u64 (by omega) (by omega)]
  have hw : IntKind.u64.wrap (acc + rd l 9 % 128 * 9223372036854775808) = acc + rd l 9 % 128 * 9223372036854775808 := u64 (by omega) (by omega)
  refine Ev.step (fun k => by rw [spec_Varint.j2, if_neg (by simp), if_pos (by decide), if_pos hi, hm, hk, hs, hw, if_pos (by decide)]) ?_
  refine Ev.pos (by omega) ?_
  rw [if_pos (by omega)]
  refine Ev.det' (Ev.now _) ?_
  rw [outS, w64 (by omega) (by omega)]; congr 1; omega
theorem spec_8 (l : List Int) (hl : (l.length : Int) ≤ 140737488355328) (hb : ∀ i, 0 ≤ rd l i ∧ rd l i ≤ 255) (acc : Int) (h0 : 0 ≤ acc) (h1 : acc < 72057594037927936) : Ev (fun k => spec_Varint.l0 k l acc 8) (outS (vr (l.length : Int) [rd l 8, rd l 9] 8 acc 72057594037927936)) := by
  have hbi := hb 8
  refine Ev.step (fun k => by rw [spec_Varint.l0]) ?_
  rw [vr]
  by_cases hi : (8 : Int) < (l.length : Int)
  rotate_left
  · refine Ev.neg hi (Ev.step (fun k => by rw [spec_Varint.j1, if_neg (by simp)]) ?_)
    rw [if_pos (by omega)]; exact Ev.now _
  refine Ev.pos hi ?_
  rw [if_neg (by omega), show decide ((8 : Int) < 10) = true from rfl]
  refine Ev.step (fun k => by rw [spec_Varint.j1, if_pos rfl, if_neg (by decide)]) ?_
  rw [if_neg (by omega)]
  have hm : IntKind.u64.wrap (Int.tmod (rd l 8) 128) = rd l 8 % 128 := by rw [Int.tmod_eq_emod_of_nonneg hbi.1, u64 (by omega) (by omega)]
  have hk : IntKind.u64.wrap (7 * (IntKind.u64.wrap 8)) = 56 := by decide
  have hs : shl .u64 (rd l 8 % 128) 56 = rd l 8 % 128 * 72057594037927936 := by
    rw [shl, show (2 : Int) ^ min (56 : Int).toNat IntKind.u64.bits = 72057594037927936 from by decide, u64 (by omega) (by omega)]
  have hw : IntKind.u64.wrap (acc + rd l 8 % 128 * 72057594037927936) = acc + rd l 8 % 128 * 72057594037927936 := u64 (by omega) (by omega)
  refine Ev.step (fun k => by rw [spec_Varint.j2, if_neg (by simp), if_pos (by decide), if_pos hi, hm, hk, hs, hw, if_pos (by decide)]) ?_
  by_cases g : rd l 8 < 128
  · refine Ev.pos g ?_
    rw [if_pos g]
    refine Ev.det' (Ev.now _) ?_
    rw [outS, w64 (by omega) (by omega)]; congr 1; omega
  · refine Ev.neg g ?_
    rw [if_neg g, w64 (by omega) (by omega), show acc + rd l 8 % 128 * 72057594037927936 = acc + (rd l 8 - 128) * 72057594037927936 by omega]
    exact spec_9 l hl hb _ (by omega) (by omega)
theorem spec_7 (l : List Int) (hl : (l.length : Int) ≤ 140737488355328) (hb : ∀ i, 0 ≤ rd l i ∧ rd l i ≤ 255) (acc : Int) (h0 : 0 ≤ acc) (h1 : acc < 562949953421312) : Ev (fun k => spec_Varint.l0 k l acc 7) (outS (vr (l.length : Int) [rd l 7, rd l 8, rd l 9] 7 acc 562949953421312)) := by
  have hbi := hb 7
  refine Ev.step (fun k => by rw [spec_Varint.l0]) ?_
  rw [vr]
  by_cases hi : (7 : Int) < (l.length : Int)
  rotate_left
  · refine Ev.neg hi (Ev.step (fun k => by rw [spec_Varint.j1, if_neg (by simp)]) ?_)
    rw [if_pos (by omega)]; exact Ev.now _
  refine Ev.pos hi ?_
  rw [if_neg (by omega), show decide ((7 : Int) < 10) = true from rfl]
  refine Ev.step (fun k => by rw [spec_Varint.j1, if_pos rfl, if_neg (by decide)]) ?_
  rw [if_neg (by omega)]
  have hm : IntKind.u64.wrap (Int.tmod (rd l 7) 128) = rd l 7 % 128 := by rw [Int.tmod_eq_emod_of_nonneg hbi.1, u64 (by omega) (by omega)]
  have hk : IntKind.u64.wrap (7 * (IntKind.u64.wrap 7)) = 49 := by decide
  have hs : shl .u64 (rd l 7 % 128) 49 = rd l 7 % 128 * 562949953421312 := by
    rw [shl, show (2 : Int) ^ min (49 : Int).toNat IntKind.u64.bits = 562949953421312 from by decide, u64 (by omega) (by omega)]
  have hw : IntKind.u64.wrap (acc + rd l 7 % 128 * 562949953421312) = acc + rd l 7 % 128 * 562949953421312 := u64 (by omega) (by omega)
  refine Ev.step (fun k => by rw [spec_Varint.j2, if_neg (by simp), if_pos (by decide), if_pos hi, hm, hk, hs, hw, if_pos (by decide)]) ?_
  by_cases g : rd l 7 < 128
  · refine Ev.pos g ?_
    rw [if_pos g]
    refine Ev.det' (Ev.now _) ?_
    rw [outS, w64 (by omega) (by omega)]; congr 1; omega
  · refine Ev.neg g ?_
    rw [if_neg g, w64 (by omega) (by omega), show acc + rd l 7 % 128 * 562949953421312 = acc + (rd l 7 - 128) * 562949953421312 by omega]
    exact spec_8 l hl hb _ (by omega) (by omega)
theorem spec_6 (l : List Int) (hl : (l.length : Int) ≤ 140737488355328) (hb : ∀ i, 0 ≤ rd l i ∧ rd l i ≤ 255) (acc : Int) (h0 : 0 ≤ acc) (h1 : acc < 4398046511104) : Ev (fun k => spec_Varint.l0 k l acc 6) (outS (vr (l.length : Int) [rd l 6, rd l 7, rd l 8, rd l 9] 6 acc 4398046511104)) := by
  have hbi := hb 6
  refine Ev.step (fun k => by rw [spec_Varint.l0]) ?_
  rw [vr]
  by_cases hi : (6 : Int) < (l.length : Int)
  rotate_left
  · refine Ev.neg hi (Ev.step (fun k => by rw [spec_Varint.j1, if_neg (by simp)]) ?_)
    rw [if_pos (by omega)]; exact Ev.now _
  refine Ev.pos hi ?_
  rw [if_neg (by omega), show decide ((6 : Int) < 10) = true from rfl]
  refine Ev.step (fun k => by rw [spec_Varint.j1, if_pos rfl, if_neg (by decide)]) ?_
  rw [if_neg (by omega)]
  have hm : IntKind.u64.wrap (Int.tmod (rd l 6) 128) = rd l 6 % 128 := by rw [Int.tmod_eq_emod_of_nonneg hbi.1, u64 (by omega) (by omega)]
  have hk : IntKind.u64.wrap (7 * (IntKind.u64.wrap 6)) = 42 := by decide
  have hs : shl .u64 (rd l 6 % 128) 42 = rd l 6 % 128 * 4398046511104 := by
    rw [shl, show (2 : Int) ^ min (42 : Int).toNat IntKind.u64.bits = 4398046511104 from by decide, u64 (by omega) (by omega)]
  have hw : IntKind.u64.wrap (acc + rd l 6 % 128 * 4398046511104) = acc + rd l 6 % 128 * 4398046511104 := u64 (by omega) (by omega)
  refine Ev.step (fun k => by rw [spec_Varint.j2, if_neg (by simp), if_pos (by decide), if_pos hi, hm, hk, hs, hw, if_pos (by decide)]) ?_
  by_cases g : rd l 6 < 128
  · refine Ev.pos g ?_
    rw [if_pos g]
    refine Ev.det' (Ev.now _) ?_
    rw [outS, w64 (by omega) (by omega)]; congr 1; omega
  · refine Ev.neg g ?_
    rw [if_neg g, w64 (by omega) (by omega), show acc + rd l 6 % 128 * 4398046511104 = acc + (rd l 6 - 128) * 4398046511104 by omega]
    exact spec_7 l hl hb _ (by omega) (by omega)
theorem spec_5 (l : List Int) (hl : (l.length : Int) ≤ 140737488355328) (hb : ∀ i, 0 ≤ rd l i ∧ rd l i ≤ 255) (acc : Int) (h0 : 0 ≤ acc) (h1 : acc < 34359738368) : Ev (fun k => spec_Varint.l0 k l acc 5) (outS (vr (l.length : Int) [rd l 5, rd l 6, rd l 7, rd l 8, rd l 9] 5 acc 34359738368)) := by
  have hbi := hb 5
  refine Ev.step (fun k => by rw [spec_Varint.l0]) ?_
  rw [vr]
  by_cases hi : (5 : Int) < (l.length : Int)
  rotate_left
  · refine Ev.neg hi (Ev.step (fun k => by rw [spec_Varint.j1, if_neg (by simp)]) ?_)
    rw [if_pos (by omega)]; exact Ev.now _
  refine Ev.pos hi ?_
  rw [if_neg (by omega), show decide ((5 : Int) < 10) = true from rfl]
  refine Ev.step (fun k => by rw [spec_Varint.j1, if_pos rfl, if_neg (by decide)]) ?_
  rw [if_neg (by omega)]
  have hm : IntKind.u64.wrap (Int.tmod (rd l 5) 128) = rd l 5 % 128 := by rw [Int.tmod_eq_emod_of_nonneg hbi.1, u64 (by omega) (by omega)]
  have hk : IntKind.u64.wrap (7 * (IntKind.u64.wrap 5)) = 35 := by decide
  have hs : shl .u64 (rd l 5 % 128) 35 = rd l 5 % 128 * 34359738368 := by
    rw [shl, show (2 : Int) ^ min (35 : Int).toNat IntKind.u64.bits = 34359738368 from by decide, u64 (by omega) (by omega)]
  have hw : IntKind.u64.wrap (acc + rd l 5 % 128 * 34359738368) = acc + rd l 5 % 128 * 34359738368 := u64 (by omega) (by omega)
  refine Ev.step (fun k => by rw [spec_Varint.j2, if_neg (by simp), if_pos (by decide), if_pos hi, hm, hk, hs, hw, if_pos (by decide)]) ?_
  by_cases g : rd l 5 < 128
  · refine Ev.pos g ?_
    rw [if_pos g]
    refine Ev.det' (Ev.now _) ?_
    rw [outS, w64 (by omega) (by omega)]; congr 1; omega
  · refine Ev.neg g ?_
    rw [if_neg g, w64 (by omega) (by omega), show acc + rd l 5 % 128 * 34359738368 = acc + (rd l 5 - 128) * 34359738368 by omega]
    exact spec_6 l hl hb _ (by omega) (by omega)
theorem spec_4 (l : List Int) (hl : (l.length : Int) ≤ 140737488355328) (hb : ∀ i, 0 ≤ rd l i ∧ rd l i ≤ 255) (acc : Int) (h0 : 0 ≤ acc) (h1 : acc < 268435456) : Ev (fun k => spec_Varint.l0 k l acc 4) (outS (vr (l.length : Int) [rd l 4, rd l 5, rd l 6, rd l 7, rd l 8, rd l 9] 4 acc 268435456)) := by
  have hbi := hb 4
  refine Ev.step (fun k => by rw [spec_Varint.l0]) ?_
  rw [vr]
  by_cases hi : (4 : Int) < (l.length : Int)
  rotate_left
  · refine Ev.neg hi (Ev.step (fun k => by rw [spec_Varint.j1, if_neg (by simp)]) ?_)
    rw [if_pos (by omega)]; exact Ev.now _
  refine Ev.pos hi ?_
  rw [if_neg (by omega), show decide ((4 : Int) < 10) = true from rfl]
  refine Ev.step (fun k => by rw [spec_Varint.j1, if_pos rfl, if_neg (by decide)]) ?_
  rw [if_neg (by omega)]
  have hm : IntKind.u64.wrap (Int.tmod (rd l 4) 128) = rd l 4 % 128 := by rw [Int.tmod_eq_emod_of_nonneg hbi.1, u64 (by omega) (by omega)]
  have hk : IntKind.u64.wrap (7 * (IntKind.u64.wrap 4)) = 28 := by decide
  have hs : shl .u64 (rd l 4 % 128) 28 = rd l 4 % 128 * 268435456 := by
    rw [shl, show (2 : Int) ^ min (28 : Int).toNat IntKind.u64.bits = 268435456 from by decide, u64 (by omega) (by omega)]
  have hw : IntKind.u64.wrap (acc + rd l 4 % 128 * 268435456) = acc + rd l 4 % 128 * 268435456 := u64 (by omega) (by omega)
  refine Ev.step (fun k => by rw [spec_Varint.j2, if_neg (by simp), if_pos (by decide), if_pos hi, hm, hk, hs, hw, if_pos (by decide)]) ?_
  by_cases g : rd l 4 < 128
  · refine Ev.pos g ?_
    rw [if_pos g]
    refine Ev.det' (Ev.now _) ?_
    rw [outS, w64 (by omega) (by omega)]; congr 1; omega
  · refine Ev.neg g ?_
    rw [if_neg g, w64 (by omega) (by omega), show acc + rd l 4 % 128 * 268435456 = acc + (rd l 4 - 128) * 268435456 by omega]
    exact spec_5 l hl hb _ (by omega) (by omega)
theorem spec_3 (l : List Int) (hl : (l.length : Int) ≤ 140737488355328) (hb : ∀ i, 0 ≤ rd l i ∧ rd l i ≤ 255) (acc : Int) (h0 : 0 ≤ acc) (h1 : acc < 2097152) : Ev (fun k => spec_Varint.l0 k l acc 3) (outS (vr (l.length : Int) [rd l 3, rd l 4, rd l 5, rd l 6, rd l 7, rd l 8, rd l 9] 3 acc 2097152)) := by
  have hbi := hb 3
  refine Ev.step (fun k => by rw [spec_Varint.l0]) ?_
  rw [vr]
  by_cases hi : (3 : Int) < (l.length : Int)
  rotate_left
  · refine Ev.neg hi (Ev.step (fun k => by rw [spec_Varint.j1, if_neg (by simp)]) ?_)
    rw [if_pos (by omega)]; exact Ev.now _
  refine Ev.pos hi ?_
  rw [if_neg (by omega), show decide ((3 : Int) < 10) = true from rfl]
  refine Ev.step (fun k => by rw [spec_Varint.j1, if_pos rfl, if_neg (by decide)]) ?_
  rw [if_neg (by omega)]
  have hm : IntKind.u64.wrap (Int.tmod (rd l 3) 128) = rd l 3 % 128 := by rw [Int.tmod_eq_emod_of_nonneg hbi.1, u64 (by omega) (by omega)]
  have hk : IntKind.u64.wrap (7 * (IntKind.u64.wrap 3)) = 21 := by decide
  have hs : shl .u64 (rd l 3 % 128) 21 = rd l 3 % 128 * 2097152 := by
    rw [shl, show (2 : Int) ^ min (21 : Int).toNat IntKind.u64.bits = 2097152 from by decide, u64 (by omega) (by omega)]
  have hw : IntKind.u64.wrap (acc + rd l 3 % 128 * 2097152) = acc + rd l 3 % 128 * 2097152 := u64 (by omega) (by omega)
  refine Ev.step (fun k => by rw [spec_Varint.j2, if_neg (by simp), if_pos (by decide), if_pos hi, hm, hk, hs, hw, if_pos (by decide)]) ?_
  by_cases g : rd l 3 < 128
  · refine Ev.pos g ?_
    rw [if_pos g]
    refine Ev.det' (Ev.now _) ?_
    rw [outS, w64 (by omega) (by omega)]; congr 1; omega
  · refine Ev.neg g ?_
    rw [if_neg g, w64 (by omega) (by omega), show acc + rd l 3 % 128 * 2097152 = acc + (rd l 3 - 128) * 2097152 by omega]
    exact spec_4 l hl hb _ (by omega) (by omega)
theorem spec_2 (l : List Int) (hl : (l.length : Int) ≤ 140737488355328) (hb : ∀ i, 0 ≤ rd l i ∧ rd l i ≤ 255) (acc : Int) (h0 : 0 ≤ acc) (h1 : acc < 16384) : Ev (fun k => spec_Varint.l0 k l acc 2) (outS (vr (l.length : Int) [rd l 2, rd l 3, rd l 4, rd l 5, rd l 6, rd l 7, rd l 8, rd l 9] 2 acc 16384)) := by
  have hbi := hb 2
  refine Ev.step (fun k => by rw [spec_Varint.l0]) ?_
  rw [vr]
  by_cases hi : (2 : Int) < (l.length : Int)
  rotate_left
  · refine Ev.neg hi (Ev.step (fun k => by rw [spec_Varint.j1, if_neg (by simp)]) ?_)
    rw [if_pos (by omega)]; exact Ev.now _
  refine Ev.pos hi ?_
  rw [if_neg (by omega), show decide ((2 : Int) < 10) = true from rfl]
  refine Ev.step (fun k => by rw [spec_Varint.j1, if_pos rfl, if_neg (by decide)]) ?_
  rw [if_neg (by omega)]
  have hm : IntKind.u64.wrap (Int.tmod (rd l 2) 128) = rd l 2 % 128 := by rw [Int.tmod_eq_emod_of_nonneg hbi.1, u64 (by omega) (by omega)]
  have hk : IntKind.u64.wrap (7 * (IntKind.u64.wrap 2)) = 14 := by decide
  have hs : shl .u64 (rd l 2 % 128) 14 = rd l 2 % 128 * 16384 := by
    rw [shl, show (2 : Int) ^ min (14 : Int).toNat IntKind.u64.bits = 16384 from by decide, u64 (by omega) (by omega)]
  have hw : IntKind.u64.wrap (acc + rd l 2 % 128 * 16384) = acc + rd l 2 % 128 * 16384 := u64 (by omega) (by omega)
  refine Ev.step (fun k => by rw [spec_Varint.j2, if_neg (by simp), if_pos (by decide), if_pos hi, hm, hk, hs, hw, if_pos (by decide)]) ?_
  by_cases g : rd l 2 < 128
  · refine Ev.pos g ?_
    rw [if_pos g]
    refine Ev.det' (Ev.now _) ?_
    rw [outS, w64 (by omega) (by omega)]; congr 1; omega
  · refine Ev.neg g ?_
    rw [if_neg g, w64 (by omega) (by omega), show acc + rd l 2 % 128 * 16384 = acc + (rd l 2 - 128) * 16384 by omega]
    exact spec_3 l hl hb _ (by omega) (by omega)
theorem spec_1 (l : List Int) (hl : (l.length : Int) ≤ 140737488355328) (hb : ∀ i, 0 ≤ rd l i ∧ rd l i ≤ 255) (acc : Int) (h0 : 0 ≤ acc) (h1 : acc < 128) : Ev (fun k => spec_Varint.l0 k l acc 1) (outS (vr (l.length : Int) [rd l 1, rd l 2, rd l 3, rd l 4, rd l 5, rd l 6, rd l 7, rd l 8, rd l 9] 1 acc 128)) := by
  have hbi := hb 1
  refine Ev.step (fun k => by rw [spec_Varint.l0]) ?_
  rw [vr]
  by_cases hi : (1 : Int) < (l.length : Int)
  rotate_left
  · refine Ev.neg hi (Ev.step (fun k => by rw [spec_Varint.j1, if_neg (by simp)]) ?_)
    rw [if_pos (by omega)]; exact Ev.now _
  refine Ev.pos hi ?_
  rw [if_neg (by omega), show decide ((1 : Int) < 10) = true from rfl]
  refine Ev.step (fun k => by rw [spec_Varint.j1, if_pos rfl, if_neg (by decide)]) ?_
  rw [if_neg (by omega)]
  have hm : IntKind.u64.wrap (Int.tmod (rd l 1) 128) = rd l 1 % 128 := by rw [Int.tmod_eq_emod_of_nonneg hbi.1, u64 (by omega) (by omega)]
  have hk : IntKind.u64.wrap (7 * (IntKind.u64.wrap 1)) = 7 := by decide
  have hs : shl .u64 (rd l 1 % 128) 7 = rd l 1 % 128 * 128 := by
    rw [shl, show (2 : Int) ^ min (7 : Int).toNat IntKind.u64.bits = 128 from by decide, u64 (by omega) (by omega)]
  have hw : IntKind.u64.wrap (acc + rd l 1 % 128 * 128) = acc + rd l 1 % 128 * 128 := u64 (by omega) (by omega)
  refine Ev.step (fun k => by rw [spec_Varint.j2, if_neg (by simp), if_pos (by decide), if_pos hi, hm, hk, hs, hw, if_pos (by decide)]) ?_
  by_cases g : rd l 1 < 128
  · refine Ev.pos g ?_
    rw [if_pos g]
    refine Ev.det' (Ev.now _) ?_
    rw [outS, w64 (by omega) (by omega)]; congr 1; omega
  · refine Ev.neg g ?_
    rw [if_neg g, w64 (by omega) (by omega), show acc + rd l 1 % 128 * 128 = acc + (rd l 1 - 128) * 128 by omega]
    exact spec_2 l hl hb _ (by omega) (by omega)
theorem spec_0 (l : List Int) (hl : (l.length : Int) ≤ 140737488355328) (hb : ∀ i, 0 ≤ rd l i ∧ rd l i ≤ 255) (acc : Int) (h0 : 0 ≤ acc) (h1 : acc < 1) : Ev (fun k => spec_Varint.l0 k l acc 0) (outS (vr (l.length : Int) [rd l 0, rd l 1, rd l 2, rd l 3, rd l 4, rd l 5, rd l 6, rd l 7, rd l 8, rd l 9] 0 acc 1)) := by
  have hbi := hb 0
  refine Ev.step (fun k => by rw [spec_Varint.l0]) ?_
  rw [vr]
  by_cases hi : (0 : Int) < (l.length : Int)
  rotate_left
  · refine Ev.neg hi (Ev.step (fun k => by rw [spec_Varint.j1, if_neg (by simp)]) ?_)
    rw [if_pos (by omega)]; exact Ev.now _
  refine Ev.pos hi ?_
  rw [if_neg (by omega), show decide ((0 : Int) < 10) = true from rfl]
  refine Ev.step (fun k => by rw [spec_Varint.j1, if_pos rfl, if_neg (by decide)]) ?_
  rw [if_neg (by omega)]
  have hm : IntKind.u64.wrap (Int.tmod (rd l 0) 128) = rd l 0 % 128 := by rw [Int.tmod_eq_emod_of_nonneg hbi.1, u64 (by omega) (by omega)]
  have hk : IntKind.u64.wrap (7 * (IntKind.u64.wrap 0)) = 0 := by decide
  have hs : shl .u64 (rd l 0 % 128) 0 = rd l 0 % 128 * 1 := by
    rw [shl, show (2 : Int) ^ min (0 : Int).toNat IntKind.u64.bits = 1 from by decide, u64 (by omega) (by omega)]
  have hw : IntKind.u64.wrap (acc + rd l 0 % 128 * 1) = acc + rd l 0 % 128 * 1 := u64 (by omega) (by omega)
  refine Ev.step (fun k => by rw [spec_Varint.j2, if_neg (by simp), if_pos (by decide), if_pos hi, hm, hk, hs, hw, if_pos (by decide)]) ?_
  by_cases g : rd l 0 < 128
  · refine Ev.pos g ?_
    rw [if_pos g]
    refine Ev.det' (Ev.now _) ?_
    rw [outS, w64 (by omega) (by omega)]; congr 1; omega
  · refine Ev.neg g ?_
    rw [if_neg g, w64 (by omega) (by omega), show acc + rd l 0 % 128 * 1 = acc + (rd l 0 - 128) * 1 by omega]
    exact spec_1 l hl hb _ (by omega) (by omega)
theorem spec_Varint_ev (l : List Int) (hl : (l.length : Int) ≤ 140737488355328) (hb : ∀ i, 0 ≤ rd l i ∧ rd l i ≤ 255) : Ev (fun k => spec_Varint.f k l) (outS (vrOf l)) :=
  Ev.congr (fun k => by rw [spec_Varint.f]) (spec_0 l hl hb 0 (by omega) (by omega))

theorem awake_f : laws_awakeProto.f = some true := by decide
def outI : Option (Int × Int) → Int × Int × Int
  | none => (0, 0, 1)
  | some (v, n) => (v, n, 0)
theorem impl_Varint_f (l : List Int) (hb : ∀ i, 0 ≤ rd l i ∧ rd l i ≤ 255) : impl_ProtoVarint.f l = some (outI (vrOf l)) := by
  rw [impl_ProtoVarint.f, server_ScanVarint.f]
  rcases scan_f l hb with ⟨c, F, V⟩ | ⟨v, n, F, V, _⟩
  · rw [F, V]; rfl
  · rw [F, V]; rfl

theorem and7 (v : Int) (h0 : 0 ≤ v) (h1 : v < 18446744073709551616) : Go.bits .and .u64 v 7 = v % 8 := by
  obtain ⟨n, rfl⟩ : ∃ n : Nat, v = (n : Int) := ⟨v.toNat, by omega⟩
  unfold Go.bits
  have e : ((BitVec.ofInt IntKind.u64.bits (n : Int)) &&& (BitVec.ofInt IntKind.u64.bits 7)).toNat = n % 8 := by
    rw [BitVec.toNat_and]
    have a : (BitVec.ofInt IntKind.u64.bits (n : Int)).toNat = n := by
      rw [BitVec.toNat_ofInt]
      have : ((2 ^ IntKind.u64.bits : Nat) : Int) = 18446744073709551616 := by decide
      rw [this]; omega
    have b : (BitVec.ofInt IntKind.u64.bits 7).toNat = 2 ^ 3 - 1 := by decide
    rw [a, b, Nat.and_two_pow_sub_one_eq_mod]
  show IntKind.u64.wrap (((BitVec.ofInt IntKind.u64.bits (n : Int)) &&& (BitVec.ofInt IntKind.u64.bits 7)).toNat : Int) = _
  rw [e, u64 (by omega) (by omega)]
  omega
def tagOf : Option (Int × Int) → Option (Int × Int × Int)
  | none => none
  | some (v, n) => if v / 8 < 1 ∨ v / 8 > 2147483647 then none else some (v / 8, v % 8, n)
def outT : Option (Int × Int × Int) → Int × Int × Int × Int
  | none => (0, 0, 0, 1)
  | some (a, b, n) => (a, b, n, 0)
def outTs : Option (Int × Int × Int) → Int × Int × Int × Bool
  | none => (0, 0, 0, false)
  | some (a, b, n) => (a, b, n, true)
theorem scanTag_f (l : List Int) (hb : ∀ i, 0 ≤ rd l i ∧ rd l i ≤ 255) : (∃ c, server_protoScanTag.f l = some (0, 0, 0, some c) ∧ tagOf (vrOf l) = none) ∨ ∃ a b n, server_protoScanTag.f l = some (a, b, n, none) ∧ tagOf (vrOf l) = some (a, b, n) ∧ 0 ≤ n ∧ n ≤ (l.length : Int) := by
  rcases scan_f l hb with ⟨c, F, V⟩ | ⟨v, n, F, V, h0, h1, h2, h3⟩
  · left
    refine ⟨c, ?_, by rw [V]; rfl⟩
    rw [server_protoScanTag.f, F]; rfl
  · have hF : server_protoScanTag.f l = if (v / 8) > 2147483647 then some (0, 0, 0, some 4) else if wrap64 (v / 8) < 1 then some (0, 0, 0, some 4) else some (wrap64 (v / 8), wrap64 (Go.bits .and .u64 v 7), n, none) := by
      rw [server_protoScanTag.f, F]; rfl
    rw [V, tagOf]
    by_cases c1 : v / 8 > 2147483647
    · left; exact ⟨4, by rw [hF, if_pos c1], by rw [if_pos (.inr c1)]⟩
    · by_cases c2 : v / 8 < 1
      · left; exact ⟨4, by rw [hF, if_neg c1, if_pos (by rw [w64 (by omega) (by omega)]; exact c2)], by rw [if_pos (.inl c2)]⟩
      · right
        refine ⟨v / 8, v % 8, n, ?_, by rw [if_neg (by omega)], h2, h3⟩
        rw [hF, if_neg c1, w64 (by omega) (by omega), if_neg c2, and7 v h0 h1, w64 (by omega) (by omega)]
theorem vr_pos : ∀ (bs : List Int) (len i acc p : Int), (∀ b ∈ bs, 0 ≤ b) → 0 ≤ acc → 0 ≤ p → ∀ q, vr len bs i acc p = some q → 0 ≤ q.1
  | [], _, _, _, _, _, _, _ => by simp [vr]
  | b :: bs, len, i, acc, p, hb, ha, hp => by
    intro q h
    have h0 := hb b List.mem_cons_self
    rw [vr] at h
    by_cases c1 : len ≤ i
    · rw [if_pos c1] at h; cases h
    rw [if_neg c1] at h
    by_cases c2 : i = 9 ∧ 1 < b
    · rw [if_pos c2] at h; cases h
    rw [if_neg c2] at h
    by_cases c3 : b < 128
    · rw [if_pos c3] at h
      obtain rfl := Option.some.inj h
      exact Int.add_nonneg ha (Int.mul_nonneg h0 hp)
    · rw [if_neg c3] at h
      exact vr_pos bs len _ _ _ (fun x hx => hb x (List.mem_cons_of_mem _ hx)) (Int.add_nonneg ha (Int.mul_nonneg (by omega) hp)) (by omega) q h
theorem spec_Tag_ev (l : List Int) (hl : (l.length : Int) ≤ 140737488355328) (hb : ∀ i, 0 ≤ rd l i ∧ rd l i ≤ 255) : Ev (fun k => spec_Tag.f k l) (outTs (tagOf (vrOf l))) := by
  refine Ev.congr (fun k => by rw [spec_Tag.f]) ?_
  refine Ev.bind (spec_Varint_ev l hl hb) ?_
  rcases scan_f l hb with ⟨c, F, V⟩ | ⟨v, n, F, V, h0, h1, h2, h3⟩
  · rw [V]; exact Ev.now _
  · rw [V, tagOf]
    have e1 : IntKind.u64.wrap (Int.tdiv v 8) = v / 8 := by rw [Int.tdiv_eq_ediv_of_nonneg h0, u64 (by omega) (by omega)]
    have e2 : Int.tmod v 8 = v % 8 := Int.tmod_eq_emod_of_nonneg h0
    refine Ev.pos rfl ?_
    show Ev (fun _ => if IntKind.u64.wrap (Int.tdiv v 8) < 1 then some (0, 0, 0, false) else if IntKind.u64.wrap (Int.tdiv v 8) > 2147483647 then some (0, 0, 0, false) else some (wrap64 (IntKind.u64.wrap (Int.tdiv v 8)), wrap64 (Int.tmod v 8), n, true)) _
    rw [e1, e2]
    by_cases c1 : v / 8 < 1
    · exact Ev.pos c1 (Ev.det' (Ev.now _) (by rw [if_pos (Or.inl c1)]; rfl))
    · by_cases c2 : v / 8 > 2147483647
      · exact Ev.neg c1 (Ev.pos c2 (Ev.det' (Ev.now _) (by rw [if_pos (Or.inr c2)]; rfl)))
      · refine Ev.neg c1 (Ev.neg c2 (Ev.det' (Ev.now _) ?_))
        rw [if_neg (show ¬ (v / 8 < 1 ∨ v / 8 > 2147483647) by omega), w64 (by omega) (by omega), w64 (by omega) (by omega)]; rfl

def bytesOf (l : List Int) : Option Int :=
  match vrOf l with
  | none => none
  | some (v, n) => if v > (l.length : Int) - n then none else some (n + v)
theorem vrOf_len (l : List Int) (hb : ∀ i, 0 ≤ rd l i ∧ rd l i ≤ 255) {v n : Int} (h : vrOf l = some (v, n)) : 0 ≤ v ∧ v < 18446744073709551616 ∧ 0 ≤ n ∧ n ≤ (l.length : Int) := by
  rcases scan_f l hb with ⟨c, F, V⟩ | ⟨v', n', F, V, h0, h1, h2, h3⟩
  · rw [h] at V; cases V
  · rw [h] at V
    injection V with V
    injection V with e1 e2
    subst e1; subst e2
    exact ⟨h0, h1, h2, h3⟩
def outB : Option Int → Int × Bool
  | none => (0, false)
  | some n => (n, true)
/-- A value's size, by its type. -/
def valueOf (t : Int) (l : List Int) : Option Int :=
  if t = 0 then (vrOf l).map Prod.snd
  else if t = 5 then (if (l.length : Int) < 4 then none else some 4)
  else if t = 1 then (if (l.length : Int) < 8 then none else some 8)
  else if t = 2 then bytesOf l
  else none
theorem bytes_rest (l : List Int) (hw : ∀ x ∈ l, (Lit.int .u8 x).wf = true) (n : Nat) : ∀ x ∈ l.drop n, (Lit.int .u8 x).wf = true := fun x hx => hw x (List.mem_of_mem_drop hx)
theorem bytes_rd (l : List Int) (hw : ∀ x ∈ l, (Lit.int .u8 x).wf = true) : ∀ i, 0 ≤ rd l i ∧ rd l i ≤ 255 := fun i => rd_byte l hw i
theorem scanBytes_f (l : List Int) (hl : (l.length : Int) ≤ 140737488355328) (hb : ∀ i, 0 ≤ rd l i ∧ rd l i ≤ 255) : (∃ c, server_protoScanBytes.f l = some (0, some c) ∧ bytesOf l = none) ∨ ∃ n, server_protoScanBytes.f l = some (n, none) ∧ bytesOf l = some n := by
  rcases scan_f l hb with ⟨c, F, V⟩ | ⟨v, n, F, V, h0, h1, h2, h3⟩
  · left
    refine ⟨c, ?_, ?_⟩
    · rw [server_protoScanBytes.f, F]; rfl
    · rw [bytesOf, V]
  · have hlen : ((l.drop n.toNat).length : Int) = (l.length : Int) - n := by rw [List.length_drop]; omega
    have hF : server_protoScanBytes.f l = if v > IntKind.u64.wrap (((l.drop n.toNat).length : Int)) then some (0, some 2) else some (wrap64 (n + wrap64 v), none) := by
      rw [server_protoScanBytes.f, F, Option.bind_some]
      simp only [Option.isNone_none, if_true]
      rw [if_pos h2, if_pos h3]
    rw [hlen, u64 (by omega) (by omega)] at hF
    by_cases c : v > (l.length : Int) - n
    · left
      exact ⟨2, by rw [hF, if_pos c], by rw [bytesOf, V]; exact if_pos c⟩
    · right
      refine ⟨n + v, ?_, by rw [bytesOf, V]; exact if_neg c⟩
      rw [hF, if_neg c, w64 (x := v) (by omega) (by omega), w64 (by omega) (by omega)]
theorem fieldValue_f (t : Int) (l : List Int) (hl : (l.length : Int) ≤ 140737488355328) (hb : ∀ i, 0 ≤ rd l i ∧ rd l i ≤ 255) : server_protoScanFieldValue.f t l = some (outB (valueOf t l)) := by
  unfold server_protoScanFieldValue.f valueOf
  by_cases c0 : t = 0
  · rw [if_pos c0, if_pos c0]
    rcases scan_f l hb with ⟨c, F, V⟩ | ⟨v, n, F, V, _⟩
    · rw [F, V]; rfl
    · rw [F, V]; rfl
  rw [if_neg c0, if_neg c0]
  by_cases c5 : t = 5
  · rw [if_pos c5, if_pos c5]
    by_cases d : (l.length : Int) < 4
    · rw [if_pos d, if_pos d]; rfl
    · rw [if_neg d, if_neg d]; rfl
  rw [if_neg c5, if_neg c5]
  by_cases c1 : t = 1
  · rw [if_pos c1, if_pos c1]
    by_cases d : (l.length : Int) < 8
    · rw [if_pos d, if_pos d]; rfl
    · rw [if_neg d, if_neg d]; rfl
  rw [if_neg c1, if_neg c1]
  by_cases c2 : t = 2
  · rw [if_pos c2, if_pos c2]
    rcases scanBytes_f l hl hb with ⟨c, F, V⟩ | ⟨n, F, V⟩
    · rw [F, V]; rfl
    · rw [F, V]; rfl
  rw [if_neg c2, if_neg c2]; rfl
theorem valueOf_le (t : Int) (l : List Int) (hb : ∀ i, 0 ≤ rd l i ∧ rd l i ≤ 255) {m : Int} (h : valueOf t l = some m) : 0 ≤ m ∧ m ≤ (l.length : Int) + 8 := by
  unfold valueOf at h
  by_cases c0 : t = 0
  · rw [if_pos c0] at h
    obtain ⟨⟨v, n⟩, hv, rfl⟩ := Option.map_eq_some_iff.mp h
    have := vrOf_len l hb hv
    simp only; omega
  rw [if_neg c0] at h
  by_cases c5 : t = 5
  · rw [if_pos c5] at h
    by_cases d : (l.length : Int) < 4
    · rw [if_pos d] at h; cases h
    · rw [if_neg d] at h; injection h with h; omega
  rw [if_neg c5] at h
  by_cases c1 : t = 1
  · rw [if_pos c1] at h
    by_cases d : (l.length : Int) < 8
    · rw [if_pos d] at h; cases h
    · rw [if_neg d] at h; injection h with h; omega
  rw [if_neg c1] at h
  by_cases c2 : t = 2
  · rw [if_pos c2, bytesOf] at h
    cases hv : vrOf l with
    | none => rw [hv] at h; cases h
    | some q =>
      obtain ⟨v, n⟩ := q
      have := vrOf_len l hb hv
      rw [hv] at h
      have h' : (if v > (l.length : Int) - n then none else some (n + v)) = some m := h
      by_cases d : v > (l.length : Int) - n
      · rw [if_pos d] at h'; cases h'
      · rw [if_neg d] at h'; injection h' with h'; omega
  rw [if_neg c2] at h; cases h
theorem spec_Bytes_ev (l : List Int) (hl : (l.length : Int) ≤ 140737488355328) (hb : ∀ i, 0 ≤ rd l i ∧ rd l i ≤ 255) : Ev (fun k => spec_Bytes.f k l) (outB (bytesOf l)) := by
  refine Ev.congr (fun k => by rw [spec_Bytes.f]) ?_
  refine Ev.bind (spec_Varint_ev l hl hb) ?_
  rw [bytesOf]
  cases hv : vrOf l with
  | none => exact Ev.neg (by simp [outS]) (Ev.now _)
  | some q =>
    obtain ⟨v, n⟩ := q
    obtain ⟨h0, h1, h2, h3⟩ := vrOf_len l hb hv
    refine Ev.pos rfl ?_
    show Ev (fun _ => if v > IntKind.u64.wrap (wrap64 ((l.length : Int) - n)) then some (0, false) else if 0 ≤ n ∧ n ≤ wrap64 (n + wrap64 v) ∧ wrap64 (n + wrap64 v) ≤ (l.length : Int) then some (wrap64 (n + wrap64 v), true) else none) (outB (if v > (l.length : Int) - n then none else some (n + v)))
    rw [w64 (x := (l.length : Int) - n) (by omega) (by omega), u64 (by omega) (by omega)]
    by_cases d : v > (l.length : Int) - n
    · refine Ev.pos d (Ev.det' (Ev.now _) ?_)
      rw [if_pos d]; rfl
    · refine Ev.neg d ?_
      rw [w64 (x := v) (by omega) (by omega), w64 (by omega) (by omega)]
      refine Ev.pos ⟨h2, by omega, by omega⟩ (Ev.det' (Ev.now _) ?_)
      rw [if_neg d]; rfl
theorem spec_Value_ev (t : Int) (l : List Int) (hl : (l.length : Int) ≤ 140737488355328) (hb : ∀ i, 0 ≤ rd l i ∧ rd l i ≤ 255) : ∃ x, Ev (fun k => spec_Value.f k t l) (x, (valueOf t l).isSome) ∧ ∀ n, valueOf t l = some n → x = n := by
  unfold spec_Value.f valueOf
  by_cases c0 : t = 0
  · simp only [if_pos c0]
    have h := spec_Varint_ev l hl hb
    cases hv : vrOf l with
    | none =>
      rw [hv] at h
      refine ⟨0, ?_, fun n hn => by simp at hn⟩
      obtain ⟨K, h⟩ := h
      exact ⟨K, fun k hk => by
        have h' := h k hk
        dsimp only at h' ⊢
        rw [h']; rfl⟩
    | some q =>
      obtain ⟨v, n⟩ := q
      rw [hv] at h
      refine ⟨n, ?_, fun n' hn => by simp at hn; exact hn⟩
      obtain ⟨K, h⟩ := h
      exact ⟨K, fun k hk => by
        have h' := h k hk
        dsimp only at h' ⊢
        rw [h']; rfl⟩
  simp only [if_neg c0]
  by_cases c1 : t = 1
  · have c5 : ¬ t = 5 := by omega
    simp only [if_pos c1, if_neg c5]
    by_cases d : (l.length : Int) < 8
    · simp only [if_pos d]
      exact ⟨8, Ev.det' (Ev.now _) (by simp; omega), fun n hn => by simp at hn⟩
    · simp only [if_neg d]
      exact ⟨8, Ev.det' (Ev.now _) (by simp; omega), fun n hn => by simpa using hn⟩
  simp only [if_neg c1]
  by_cases c2 : t = 2
  · have c5 : ¬ t = 5 := by omega
    simp only [if_pos c2, if_neg c5]
    have h := spec_Bytes_ev l hl hb
    cases hv : bytesOf l with
    | none => rw [hv] at h; exact ⟨0, h, fun n hn => by simp at hn⟩
    | some m => rw [hv] at h; exact ⟨m, h, fun n hn => by simpa using hn⟩
  simp only [if_neg c2]
  by_cases c5 : t = 5
  · simp only [if_pos c5]
    by_cases d : (l.length : Int) < 4
    · simp only [if_pos d]
      exact ⟨4, Ev.det' (Ev.now _) (by simp; omega), fun n hn => by simp at hn⟩
    · simp only [if_neg d]
      exact ⟨4, Ev.det' (Ev.now _) (by simp; omega), fun n hn => by simpa using hn⟩
  simp only [if_neg c5]
  exact ⟨0, Ev.now _, fun n hn => by simp at hn⟩
def fieldOf (l : List Int) : Option (Int × Int × Int) :=
  match tagOf (vrOf l) with
  | none => none
  | some (a, b, n) => (valueOf b (l.drop n.toNat)).map fun m => (a, b, n + m)
theorem impl_Field_f (l : List Int) (hl : (l.length : Int) ≤ 400) (hw : ∀ x ∈ l, (Lit.int .u8 x).wf = true) : impl_ProtoField.f l = some (outT (fieldOf l)) := by
  have hb := bytes_rd l hw
  rw [impl_ProtoField.f, server_ScanField.f, server_protoScanField.f, fieldOf]
  rcases scanTag_f l hb with ⟨c, F, V⟩ | ⟨a, b, n, F, V, h0, h1⟩
  · rw [F, V]; rfl
  · rw [F, V, Option.bind_some]
    have hb2 := bytes_rd _ (bytes_rest l hw n.toNat)
    have hlen : ((l.drop n.toNat).length : Int) ≤ 400 := by rw [List.length_drop]; omega
    simp only [Option.isNone_none, if_true]
    rw [if_pos ⟨h0, h1⟩, fieldValue_f b (l.drop n.toNat) (by omega) hb2]
    cases hv : valueOf b (l.drop n.toNat) with
    | none => rfl
    | some m =>
      have := valueOf_le b (l.drop n.toNat) hb2 hv
      simp only [outB, Option.bind_some, if_true, Option.map_some, outT]
      rw [w64 (by omega) (by omega)]
theorem spec_Field_ev (l : List Int) (hl : (l.length : Int) ≤ 400) (hw : ∀ x ∈ l, (Lit.int .u8 x).wf = true) : Ev (fun k => spec_ScanField.f k l) (outTs (fieldOf l)) := by
  have hb := bytes_rd l hw
  refine Ev.congr (fun k => by rw [spec_ScanField.f]) ?_
  refine Ev.bind (spec_Tag_ev l (by omega) hb) ?_
  rw [fieldOf]
  rcases scanTag_f l hb with ⟨c, F, V⟩ | ⟨a, b, n, F, V, h0, h1⟩
  · rw [V]; exact Ev.neg (by simp [outTs]) (Ev.now _)
  · rw [V]
    have hb2 := bytes_rd _ (bytes_rest l hw n.toNat)
    have hlen : ((l.drop n.toNat).length : Int) ≤ 400 := by rw [List.length_drop]; omega
    refine Ev.pos rfl (Ev.pos h0 (Ev.pos h1 ?_))
    obtain ⟨x, hx, hx2⟩ := spec_Value_ev b (l.drop n.toNat) (by omega) hb2
    refine Ev.bind hx ?_
    show Ev _ (outTs ((valueOf b (l.drop n.toNat)).map fun m => (a, b, n + m)))
    cases hv : valueOf b (l.drop n.toNat) with
    | none => exact Ev.neg (by simp) (Ev.now _)
    | some m =>
      have := valueOf_le b (l.drop n.toNat) hb2 hv
      rw [hx2 m hv]
      refine Ev.pos rfl (Ev.det' (Ev.now _) ?_)
      simp only [outTs, Option.map_some]
      rw [w64 (by omega) (by omega)]
theorem pure : laws_FnProtoField.Pure := by
  intro l hm _ hw
  apply Ev.rounds
  refine Ev.congr (fun k => by rw [laws_FnProtoField.f, awake_f]) ?_
  by_cases c1 : (l.length : Int) > 2147483647
  · exact Ev.pos c1 (Ev.now _)
  refine Ev.neg c1 ?_
  by_cases c2 : (l.length : Int) > 400
  · exact Ev.pos c2 (Ev.now _)
  refine Ev.neg c2 ?_
  refine Ev.bind (spec_Field_ev l (by omega) hw) ?_
  refine Ev.some_ (Ev.pos (by simp; omega) ?_)
  rw [List.nil_append, impl_Field_f l (by omega) hw]
  refine Ev.some_ ?_
  cases fieldOf l with
  | none => exact Ev.const (by simp [outT, outTs])
  | some q => obtain ⟨a, b, n⟩ := q; exact Ev.const (by simp [outT, outTs])

end Go.Proofs.YtnkioieocjgekaaDoor.PlFnProtoField
