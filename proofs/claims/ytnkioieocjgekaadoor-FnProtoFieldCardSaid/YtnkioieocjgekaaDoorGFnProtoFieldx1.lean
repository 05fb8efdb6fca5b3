/- A walk of Go functions (plain functions of theirs, and that the machine's calls do what these say), written by a program of this session's. -/
import Derived.Test.YtnkioieocjgekaaDoorGFnProtoFieldx0
namespace Go.Proofs.YtnkioieocjgekaaDoor.GFnProtoField
open Go.RowKit Go.Proofs.YtnkioieocjgekaaDoorW.PrintWords Go.Proofs.YtnkioieocjgekaaDoorW.PrintLast Go.Proofs.YtnkioieocjgekaaDoorW.PrintMore
attribute [local go_sem] max2_int min2_int max_two min_two max_three min_three max_four min_four   -- for this text's walks alone
set_option linter.unusedVariables false
set_option linter.unusedSimpArgs false

variable {E : Int → TypeId × Value}
/-! ### server_protoScanVarint: function 28 -/
def server_protoScanVarint.f (l0 : List Int) : Option (Int × Int × Option Int) := if (l0.length : Int) ≤ 0 then (some (0, 0, some 2)) else (if 0 < (l0.length : Int) then (if (IntKind.u64.wrap (rd l0 0)) < 128 then (some (IntKind.u64.wrap (rd l0 0), 1, none)) else (if (l0.length : Int) ≤ 1 then (some (0, 0, some 2)) else (if 1 < (l0.length : Int) then (if (IntKind.u64.wrap (rd l0 1)) < 128 then (some (IntKind.u64.wrap ((IntKind.u64.wrap ((IntKind.u64.wrap (rd l0 0)) - 128)) + (IntKind.u64.wrap ((IntKind.u64.wrap (rd l0 1)) * 128))), 2, none)) else (if (l0.length : Int) ≤ 2 then (some (0, 0, some 2)) else (if 2 < (l0.length : Int) then (if (IntKind.u64.wrap (rd l0 2)) < 128 then (some (IntKind.u64.wrap ((IntKind.u64.wrap ((IntKind.u64.wrap ((IntKind.u64.wrap ((IntKind.u64.wrap (rd l0 0)) - 128)) + (IntKind.u64.wrap ((IntKind.u64.wrap (rd l0 1)) * 128)))) - 16384)) + (IntKind.u64.wrap ((IntKind.u64.wrap (rd l0 2)) * 16384))), 3, none)) else (if (l0.length : Int) ≤ 3 then (some (0, 0, some 2)) else (if 3 < (l0.length : Int) then (if (IntKind.u64.wrap (rd l0 3)) < 128 then (some (IntKind.u64.wrap ((IntKind.u64.wrap ((IntKind.u64.wrap ((IntKind.u64.wrap ((IntKind.u64.wrap ((IntKind.u64.wrap ((IntKind.u64.wrap (rd l0 0)) - 128)) + (IntKind.u64.wrap ((IntKind.u64.wrap (rd l0 1)) * 128)))) - 16384)) + (IntKind.u64.wrap ((IntKind.u64.wrap (rd l0 2)) * 16384)))) - 2097152)) + (IntKind.u64.wrap ((IntKind.u64.wrap (rd l0 3)) * 2097152))), 4, none)) else (if (l0.length : Int) ≤ 4 then (some (0, 0, some 2)) else (if 4 < (l0.length : Int) then (if (IntKind.u64.wrap (rd l0 4)) < 128 then (some (IntKind.u64.wrap ((IntKind.u64.wrap ((IntKind.u64.wrap ((IntKind.u64.wrap ((IntKind.u64.wrap ((IntKind.u64.wrap ((IntKind.u64.wrap ((IntKind.u64.wrap ((IntKind.u64.wrap (rd l0 0)) - 128)) + (IntKind.u64.wrap ((IntKind.u64.wrap (rd l0 1)) * 128)))) - 16384)) + (IntKind.u64.wrap ((IntKind.u64.wrap (rd l0 2)) * 16384)))) - 2097152)) + (IntKind.u64.wrap ((IntKind.u64.wrap (rd l0 3)) * 2097152)))) - 268435456)) + (IntKind.u64.wrap ((IntKind.u64.wrap (rd l0 4)) * 268435456))), 5, none)) else (if (l0.length : Int) ≤ 5 then (some (0, 0, some 2)) else (if 5 < (l0.length : Int) then (if (IntKind.u64.wrap (rd l0 5)) < 128 then (some (IntKind.u64.wrap ((IntKind.u64.wrap ((IntKind.u64.wrap ((IntKind.u64.wrap ((IntKind.u64.wrap ((IntKind.u64.wrap ((IntKind.u64.wrap ((IntKind.u64.wrap ((IntKind.u64.wrap ((IntKind.u64.wrap ((IntKind.u64.wrap (rd l0 0)) - 128)) + (IntKind.u64.wrap ((IntKind.u64.wrap (rd l0 1)) * 128)))) - 16384)) + (IntKind.u64.wrap ((IntKind.u64.wrap (rd l0 2)) * 16384)))) - 2097152)) + (IntKind.u64.wrap ((IntKind.u64.wrap (rd l0 3)) * 2097152)))) - 268435456)) + (IntKind.u64.wrap ((IntKind.u64.wrap (rd l0 4)) * 268435456)))) - 34359738368)) + (IntKind.u64.wrap ((IntKind.u64.wrap (rd l0 5)) * 34359738368))), 6, none)) else (if (l0.length : Int) ≤ 6 then (some (0, 0, some 2)) else (if 6 < (l0.length : Int) then (if (IntKind.u64.wrap (rd l0 6)) < 128 then (some (IntKind.u64.wrap ((IntKind.u64.wrap ((IntKind.u64.wrap ((IntKind.u64.wrap ((IntKind.u64.wrap ((IntKind.u64.wrap ((IntKind.u64.wrap ((IntKind.u64.wrap ((IntKind.u64.wrap ((IntKind.u64.wrap ((IntKind.u64.wrap ((IntKind.u64.wrap ((IntKind.u64.wrap (rd l0 0)) - 128)) + (IntKind.u64.wrap ((IntKind.u64.wrap (rd l0 1)) * 128)))) - 16384)) + (IntKind.u64.wrap ((IntKind.u64.wrap (rd l0 2)) * 16384)))) - 2097152)) + (IntKind.u64.wrap ((IntKind.u64.wrap (rd l0 3)) * 2097152)))) - 268435456)) + (IntKind.u64.wrap ((IntKind.u64.wrap (rd l0 4)) * 268435456)))) - 34359738368)) + (IntKind.u64.wrap ((IntKind.u64.wrap (rd l0 5)) * 34359738368)))) - 4398046511104)) + (IntKind.u64.wrap ((IntKind.u64.wrap (rd l0 6)) * 4398046511104))), 7, none)) else (if (l0.length : Int) ≤ 7 then (some (0, 0, some 2)) else (if 7 < (l0.length : Int) then (if (IntKind.u64.wrap (rd l0 7)) < 128 then (some (IntKind.u64.wrap ((IntKind.u64.wrap ((IntKind.u64.wrap ((IntKind.u64.wrap ((IntKind.u64.wrap ((IntKind.u64.wrap ((IntKind.u64.wrap ((IntKind.u64.wrap ((IntKind.u64.wrap ((IntKind.u64.wrap ((IntKind.u64.wrap ((IntKind.u64.wrap ((IntKind.u64.wrap ((IntKind.u64.wrap ((IntKind.u64.wrap (rd l0 0)) - 128)) + (IntKind.u64.wrap ((IntKind.u64.wrap (rd l0 1)) * 128)))) - 16384)) + (IntKind.u64.wrap ((IntKind.u64.wrap (rd l0 2)) * 16384)))) - 2097152)) + (IntKind.u64.wrap ((IntKind.u64.wrap (rd l0 3)) * 2097152)))) - 268435456)) + (IntKind.u64.wrap ((IntKind.u64.wrap (rd l0 4)) * 268435456)))) - 34359738368)) + (IntKind.u64.wrap ((IntKind.u64.wrap (rd l0 5)) * 34359738368)))) - 4398046511104)) + (IntKind.u64.wrap ((IntKind.u64.wrap (rd l0 6)) * 4398046511104)))) - 562949953421312)) + (IntKind.u64.wrap ((IntKind.u64.wrap (rd l0 7)) * 562949953421312))), 8, none)) else (if (l0.length : Int) ≤ 8 then (some (0, 0, some 2)) else (if 8 < (l0.length : Int) then (if (IntKind.u64.wrap (rd l0 8)) < 128 then (some (IntKind.u64.wrap ((IntKind.u64.wrap ((IntKind.u64.wrap ((IntKind.u64.wrap ((IntKind.u64.wrap ((IntKind.u64.wrap ((IntKind.u64.wrap ((IntKind.u64.wrap ((IntKind.u64.wrap ((IntKind.u64.wrap ((IntKind.u64.wrap ((IntKind.u64.wrap ((IntKind.u64.wrap ((IntKind.u64.wrap ((IntKind.u64.wrap ((IntKind.u64.wrap ((IntKind.u64.wrap (rd l0 0)) - 128)) + (IntKind.u64.wrap ((IntKind.u64.wrap (rd l0 1)) * 128)))) - 16384)) + (IntKind.u64.wrap ((IntKind.u64.wrap (rd l0 2)) * 16384)))) - 2097152)) + (IntKind.u64.wrap ((IntKind.u64.wrap (rd l0 3)) * 2097152)))) - 268435456)) + (IntKind.u64.wrap ((IntKind.u64.wrap (rd l0 4)) * 268435456)))) - 34359738368)) + (IntKind.u64.wrap ((IntKind.u64.wrap (rd l0 5)) * 34359738368)))) - 4398046511104)) + (IntKind.u64.wrap ((IntKind.u64.wrap (rd l0 6)) * 4398046511104)))) - 562949953421312)) + (IntKind.u64.wrap ((IntKind.u64.wrap (rd l0 7)) * 562949953421312)))) - 72057594037927936)) + (IntKind.u64.wrap ((IntKind.u64.wrap (rd l0 8)) * 72057594037927936))), 9, none)) else (if (l0.length : Int) ≤ 9 then (some (0, 0, some 2)) else (if 9 < (l0.length : Int) then (if (IntKind.u64.wrap (rd l0 9)) < 2 then (some (IntKind.u64.wrap ((IntKind.u64.wrap ((IntKind.u64.wrap ((IntKind.u64.wrap ((IntKind.u64.wrap ((IntKind.u64.wrap ((IntKind.u64.wrap ((IntKind.u64.wrap ((IntKind.u64.wrap ((IntKind.u64.wrap ((IntKind.u64.wrap ((IntKind.u64.wrap ((IntKind.u64.wrap ((IntKind.u64.wrap ((IntKind.u64.wrap ((IntKind.u64.wrap ((IntKind.u64.wrap ((IntKind.u64.wrap ((IntKind.u64.wrap (rd l0 0)) - 128)) + (IntKind.u64.wrap ((IntKind.u64.wrap (rd l0 1)) * 128)))) - 16384)) + (IntKind.u64.wrap ((IntKind.u64.wrap (rd l0 2)) * 16384)))) - 2097152)) + (IntKind.u64.wrap ((IntKind.u64.wrap (rd l0 3)) * 2097152)))) - 268435456)) + (IntKind.u64.wrap ((IntKind.u64.wrap (rd l0 4)) * 268435456)))) - 34359738368)) + (IntKind.u64.wrap ((IntKind.u64.wrap (rd l0 5)) * 34359738368)))) - 4398046511104)) + (IntKind.u64.wrap ((IntKind.u64.wrap (rd l0 6)) * 4398046511104)))) - 562949953421312)) + (IntKind.u64.wrap ((IntKind.u64.wrap (rd l0 7)) * 562949953421312)))) - 72057594037927936)) + (IntKind.u64.wrap ((IntKind.u64.wrap (rd l0 8)) * 72057594037927936)))) - 9223372036854775808)) + (IntKind.u64.wrap ((IntKind.u64.wrap (rd l0 9)) * 9223372036854775808))), 10, none)) else (some (0, 0, some 3))) else (none)))) else (none)))) else (none)))) else (none)))) else (none)))) else (none)))) else (none)))) else (none)))) else (none)))) else (none))
set_option maxHeartbeats 8000000 in
set_option maxRecDepth 100000 in
theorem server_protoScanVarint.calls (A0 : Option Addr) (c0 : Nat) (l0 : List Int) (r1 : Int) (r2 : Int) (r3 : Option Int) (w : World) (hr0 : Kd.C (Kd.int .u8) w A0 l0.length l0) (hc0 : l0.length ≤ c0) (hG : GlE E w) (h : server_protoScanVarint.f l0 = some (r1, r2, r3)) :
    Calls Tryd.prog 28 #[.slice A0 l0.length c0] w fun e w' => e = .returned (.tuple #[.int .u64 r1, .int .i64 r2, errW E r3]) ∧ Drawn0 w w' := by
  have HG := Aside0.mk hG
  clear hG
  have HR0 := Aside0.mk hr0
  have HC0 := Aside0.mk hc0
  clear hr0 hc0
  have H : (if (l0.length : Int) ≤ 0 then (some (0, 0, some 2)) else (if 0 < (l0.length : Int) then (if (IntKind.u64.wrap (rd l0 0)) < 128 then (some (IntKind.u64.wrap (rd l0 0), 1, none)) else (if (l0.length : Int) ≤ 1 then (some (0, 0, some 2)) else (if 1 < (l0.length : Int) then (if (IntKind.u64.wrap (rd l0 1)) < 128 then (some (IntKind.u64.wrap ((IntKind.u64.wrap ((IntKind.u64.wrap (rd l0 0)) - 128)) + (IntKind.u64.wrap ((IntKind.u64.wrap (rd l0 1)) * 128))), 2, none)) else (if (l0.length : Int) ≤ 2 then (some (0, 0, some 2)) else (if 2 < (l0.length : Int) then (if (IntKind.u64.wrap (rd l0 2)) < 128 then (some (IntKind.u64.wrap ((IntKind.u64.wrap ((IntKind.u64.wrap ((IntKind.u64.wrap ((IntKind.u64.wrap (rd l0 0)) - 128)) + (IntKind.u64.wrap ((IntKind.u64.wrap (rd l0 1)) * 128)))) - 16384)) + (IntKind.u64.wrap ((IntKind.u64.wrap (rd l0 2)) * 16384))), 3, none)) else (if (l0.length : Int) ≤ 3 then (some (0, 0, some 2)) else (if 3 < (l0.length : Int) then (if (IntKind.u64.wrap (rd l0 3)) < 128 then (some (IntKind.u64.wrap ((IntKind.u64.wrap ((IntKind.u64.wrap ((IntKind.u64.wrap ((IntKind.u64.wrap ((IntKind.u64.wrap ((IntKind.u64.wrap (rd l0 0)) - 128)) + (IntKind.u64.wrap ((IntKind.u64.wrap (rd l0 1)) * 128)))) - 16384)) + (IntKind.u64.wrap ((IntKind.u64.wrap (rd l0 2)) * 16384)))) - 2097152)) + (IntKind.u64.wrap ((IntKind.u64.wrap (rd l0 3)) * 2097152))), 4, none)) else (if (l0.length : Int) ≤ 4 then (some (0, 0, some 2)) else (if 4 < (l0.length : Int) then (if (IntKind.u64.wrap (rd l0 4)) < 128 then (some (IntKind.u64.wrap ((IntKind.u64.wrap ((IntKind.u64.wrap ((IntKind.u64.wrap ((IntKind.u64.wrap ((IntKind.u64.wrap ((IntKind.u64.wrap ((IntKind.u64.wrap ((IntKind.u64.wrap (rd l0 0)) - 128)) + (IntKind.u64.wrap ((IntKind.u64.wrap (rd l0 1)) * 128)))) - 16384)) + (IntKind.u64.wrap ((IntKind.u64.wrap (rd l0 2)) * 16384)))) - 2097152)) + (IntKind.u64.wrap ((IntKind.u64.wrap (rd l0 3)) * 2097152)))) - 268435456)) + (IntKind.u64.wrap ((IntKind.u64.wrap (rd l0 4)) * 268435456))), 5, none)) else (if (l0.length : Int) ≤ 5 then (some (0, 0, some 2)) else (if 5 < (l0.length : Int) then (if (IntKind.u64.wrap (rd l0 5)) < 128 then (some (IntKind.u64.wrap ((IntKind.u64.wrap ((IntKind.u64.wrap ((IntKind.u64.wrap ((IntKind.u64.wrap ((IntKind.u64.wrap ((IntKind.u64.wrap ((IntKind.u64.wrap ((IntKind.u64.wrap ((IntKind.u64.wrap ((IntKind.u64.wrap (rd l0 0)) - 128)) + (IntKind.u64.wrap ((IntKind.u64.wrap (rd l0 1)) * 128)))) - 16384)) + (IntKind.u64.wrap ((IntKind.u64.wrap (rd l0 2)) * 16384)))) - 2097152)) + (IntKind.u64.wrap ((IntKind.u64.wrap (rd l0 3)) * 2097152)))) - 268435456)) + (IntKind.u64.wrap ((IntKind.u64.wrap (rd l0 4)) * 268435456)))) - 34359738368)) + (IntKind.u64.wrap ((IntKind.u64.wrap (rd l0 5)) * 34359738368))), 6, none)) else (if (l0.length : Int) ≤ 6 then (some (0, 0, some 2)) else (if 6 < (l0.length : Int) then (if (IntKind.u64.wrap (rd l0 6)) < 128 then (some (IntKind.u64.wrap ((IntKind.u64.wrap ((IntKind.u64.wrap ((IntKind.u64.wrap ((IntKind.u64.wrap ((IntKind.u64.wrap ((IntKind.u64.wrap ((IntKind.u64.wrap ((IntKind.u64.wrap ((IntKind.u64.wrap ((IntKind.u64.wrap ((IntKind.u64.wrap ((IntKind.u64.wrap (rd l0 0)) - 128)) + (IntKind.u64.wrap ((IntKind.u64.wrap (rd l0 1)) * 128)))) - 16384)) + (IntKind.u64.wrap ((IntKind.u64.wrap (rd l0 2)) * 16384)))) - 2097152)) + (IntKind.u64.wrap ((IntKind.u64.wrap (rd l0 3)) * 2097152)))) - 268435456)) + (IntKind.u64.wrap ((IntKind.u64.wrap (rd l0 4)) * 268435456)))) - 34359738368)) + (IntKind.u64.wrap ((IntKind.u64.wrap (rd l0 5)) * 34359738368)))) - 4398046511104)) + (IntKind.u64.wrap ((IntKind.u64.wrap (rd l0 6)) * 4398046511104))), 7, none)) else (if (l0.length : Int) ≤ 7 then (some (0, 0, some 2)) else (if 7 < (l0.length : Int) then (if (IntKind.u64.wrap (rd l0 7)) < 128 then (some (IntKind.u64.wrap ((IntKind.u64.wrap ((IntKind.u64.wrap ((IntKind.u64.wrap ((IntKind.u64.wrap ((IntKind.u64.wrap ((IntKind.u64.wrap ((IntKind.u64.wrap ((IntKind.u64.wrap ((IntKind.u64.wrap ((IntKind.u64.wrap ((IntKind.u64.wrap ((IntKind.u64.wrap ((IntKind.u64.wrap ((IntKind.u64.wrap (rd l0 0)) - 128)) + (IntKind.u64.wrap ((IntKind.u64.wrap (rd l0 1)) * 128)))) - 16384)) + (IntKind.u64.wrap ((IntKind.u64.wrap (rd l0 2)) * 16384)))) - 2097152)) + (IntKind.u64.wrap ((IntKind.u64.wrap (rd l0 3)) * 2097152)))) - 268435456)) + (IntKind.u64.wrap ((IntKind.u64.wrap (rd l0 4)) * 268435456)))) - 34359738368)) + (IntKind.u64.wrap ((IntKind.u64.wrap (rd l0 5)) * 34359738368)))) - 4398046511104)) + (IntKind.u64.wrap ((IntKind.u64.wrap (rd l0 6)) * 4398046511104)))) - 562949953421312)) + (IntKind.u64.wrap ((IntKind.u64.wrap (rd l0 7)) * 562949953421312))), 8, none)) else (if (l0.length : Int) ≤ 8 then (some (0, 0, some 2)) else (if 8 < (l0.length : Int) then (if (IntKind.u64.wrap (rd l0 8)) < 128 then (some (IntKind.u64.wrap ((IntKind.u64.wrap ((IntKind.u64.wrap ((IntKind.u64.wrap ((IntKind.u64.wrap ((IntKind.u64.wrap ((IntKind.u64.wrap ((IntKind.u64.wrap ((IntKind.u64.wrap ((IntKind.u64.wrap ((IntKind.u64.wrap ((IntKind.u64.wrap ((IntKind.u64.wrap ((IntKind.u64.wrap ((IntKind.u64.wrap ((IntKind.u64.wrap ((IntKind.u64.wrap (rd l0 0)) - 128)) + (IntKind.u64.wrap ((IntKind.u64.wrap (rd l0 1)) * 128)))) - 16384)) + (IntKind.u64.wrap ((IntKind.u64.wrap (rd l0 2)) * 16384)))) - 2097152)) + (IntKind.u64.wrap ((IntKind.u64.wrap (rd l0 3)) * 2097152)))) - 268435456)) + (IntKind.u64.wrap ((IntKind.u64.wrap (rd l0 4)) * 268435456)))) - 34359738368)) + (IntKind.u64.wrap ((IntKind.u64.wrap (rd l0 5)) * 34359738368)))) - 4398046511104)) + (IntKind.u64.wrap ((IntKind.u64.wrap (rd l0 6)) * 4398046511104)))) - 562949953421312)) + (IntKind.u64.wrap ((IntKind.u64.wrap (rd l0 7)) * 562949953421312)))) - 72057594037927936)) + (IntKind.u64.wrap ((IntKind.u64.wrap (rd l0 8)) * 72057594037927936))), 9, none)) else (if (l0.length : Int) ≤ 9 then (some (0, 0, some 2)) else (if 9 < (l0.length : Int) then (if (IntKind.u64.wrap (rd l0 9)) < 2 then (some (IntKind.u64.wrap ((IntKind.u64.wrap ((IntKind.u64.wrap ((IntKind.u64.wrap ((IntKind.u64.wrap ((IntKind.u64.wrap ((IntKind.u64.wrap ((IntKind.u64.wrap ((IntKind.u64.wrap ((IntKind.u64.wrap ((IntKind.u64.wrap ((IntKind.u64.wrap ((IntKind.u64.wrap ((IntKind.u64.wrap ((IntKind.u64.wrap ((IntKind.u64.wrap ((IntKind.u64.wrap ((IntKind.u64.wrap ((IntKind.u64.wrap (rd l0 0)) - 128)) + (IntKind.u64.wrap ((IntKind.u64.wrap (rd l0 1)) * 128)))) - 16384)) + (IntKind.u64.wrap ((IntKind.u64.wrap (rd l0 2)) * 16384)))) - 2097152)) + (IntKind.u64.wrap ((IntKind.u64.wrap (rd l0 3)) * 2097152)))) - 268435456)) + (IntKind.u64.wrap ((IntKind.u64.wrap (rd l0 4)) * 268435456)))) - 34359738368)) + (IntKind.u64.wrap ((IntKind.u64.wrap (rd l0 5)) * 34359738368)))) - 4398046511104)) + (IntKind.u64.wrap ((IntKind.u64.wrap (rd l0 6)) * 4398046511104)))) - 562949953421312)) + (IntKind.u64.wrap ((IntKind.u64.wrap (rd l0 7)) * 562949953421312)))) - 72057594037927936)) + (IntKind.u64.wrap ((IntKind.u64.wrap (rd l0 8)) * 72057594037927936)))) - 9223372036854775808)) + (IntKind.u64.wrap ((IntKind.u64.wrap (rd l0 9)) * 9223372036854775808))), 10, none)) else (some (0, 0, some 3))) else (none)))) else (none)))) else (none)))) else (none)))) else (none)))) else (none)))) else (none)))) else (none)))) else (none)))) else (none))) = some (r1, r2, r3) := h
  clear h
  by_cases c2 : (l0.length : Int) ≤ 0
  · rw [if_pos c2] at H
    have c2b0 : decide ((l0.length : Int) ≤ 0) = true := decide_eq_true c2
    have c2b1 : decide (l0.length ≤ 0) = true := decide_eq_true (by omega)
    have c2b7 : (l0 = []) = True := eq_true (List.length_eq_zero_iff.1 (by omega))
    clear c2
    simp only [Option.some.injEq, Prod.mk.injEq] at H
    obtain ⟨rfl, rfl, rfl⟩ := H
    have hgl3 : w.cell? ⟨2, 0, none⟩ = some (.iface (E 2).1 (E 2).2) := (by first | exact GlE.g2 HG.out | exact (HB.out.cell (World.block_lt_of_cell? w _ (GlE.g2 HG.out))).trans (GlE.g2 HG.out) | exact GlE.g2 (by repeat (first | exact HG.out | apply GlE.drewN | apply GlE.drew | apply GlE.alloc)))
    go_enter Tryd.func28, Tryd.ntmps28
    go_wp2
    repeat (go_quiet (fail); try go_wp2)
    go_ret3
    exact ⟨by first | rfl | (simp; done) | (simp [*]; done), by repeat (first | exact Drawn0.refl _ | apply Drawn0.step)⟩
  · rw [if_neg c2] at H
    have c2b0 : decide ((l0.length : Int) ≤ 0) = false := decide_eq_false c2
    have c2b1 : decide (l0.length ≤ 0) = false := decide_eq_false (by omega)
    have c2b7 : (l0 = []) = False := eq_false (fun e => by rw [e] at c2; simp at c2)
    clear c2
    by_cases c4 : 0 < (l0.length : Int)
    · rw [if_pos c4] at H
      have c4b0 : decide (0 < (l0.length : Int)) = true := decide_eq_true c4
      have c4b1 : decide (0 < l0.length) = true := decide_eq_true (by omega)
      clear c4
      by_cases c5 : (IntKind.u64.wrap (rd l0 0)) < 128
      · rw [if_pos c5] at H
        have c5b0 : decide ((IntKind.u64.wrap (rd l0 0)) < 128) = true := decide_eq_true c5
        clear c5
        simp only [Option.some.injEq, Prod.mk.injEq] at H
        obtain ⟨rfl, rfl, rfl⟩ := H
        have p101 : 0 ≤ (0 : Int) := (by omega)
        have q101 : 0 < (l0.length : Int) := of_decide_eq_true (by first | (with_reducible assumption) | assumption)
        obtain ⟨ad101, e101, hx101_0⟩ := Kd.at_int HR0.out 0 p101 q101
        cases e101
        have qi101 : (0 < l0.length) = True := eq_true (by omega)
        (try rw [show ((0 : Int)).toNat = 0 from rfl] at hx101_0)
        (try rw [Addr.add_zero'] at hx101_0)
        replace p101 := eq_true p101
        replace q101 := eq_true q101
        go_enter Tryd.func28, Tryd.ntmps28
        go_wp2
        repeat (go_quiet (fail); try go_wp2)
        go_ret3
        exact ⟨by first | rfl | (simp; done) | (simp [*]; done), by repeat (first | exact Drawn0.refl _ | apply Drawn0.step)⟩
      · rw [if_neg c5] at H
        have c5b0 : decide ((IntKind.u64.wrap (rd l0 0)) < 128) = false := decide_eq_false c5
        clear c5
        by_cases c6 : (l0.length : Int) ≤ 1
        · rw [if_pos c6] at H
          have c6b0 : decide ((l0.length : Int) ≤ 1) = true := decide_eq_true c6
          have c6b1 : decide (l0.length ≤ 1) = true := decide_eq_true (by omega)
          clear c6
          simp only [Option.some.injEq, Prod.mk.injEq] at H
          obtain ⟨rfl, rfl, rfl⟩ := H
          have p101 : 0 ≤ (0 : Int) := (by omega)
          have q101 : 0 < (l0.length : Int) := of_decide_eq_true (by first | (with_reducible assumption) | assumption)
          obtain ⟨ad101, e101, hx101_0⟩ := Kd.at_int HR0.out 0 p101 q101
          cases e101
          have qi101 : (0 < l0.length) = True := eq_true (by omega)
          (try rw [show ((0 : Int)).toNat = 0 from rfl] at hx101_0)
          (try rw [Addr.add_zero'] at hx101_0)
          replace p101 := eq_true p101
          replace q101 := eq_true q101
          have hgl7 : w.cell? ⟨2, 0, none⟩ = some (.iface (E 2).1 (E 2).2) := (by first | exact GlE.g2 HG.out | exact (HB.out.cell (World.block_lt_of_cell? w _ (GlE.g2 HG.out))).trans (GlE.g2 HG.out) | exact GlE.g2 (by repeat (first | exact HG.out | apply GlE.drewN | apply GlE.drew | apply GlE.alloc)))
          go_enter Tryd.func28, Tryd.ntmps28
          go_wp2
          repeat (go_quiet (fail); try go_wp2)
          go_ret3
          exact ⟨by first | rfl | (simp; done) | (simp [*]; done), by repeat (first | exact Drawn0.refl _ | apply Drawn0.step)⟩
        · rw [if_neg c6] at H
          have c6b0 : decide ((l0.length : Int) ≤ 1) = false := decide_eq_false c6
          have c6b1 : decide (l0.length ≤ 1) = false := decide_eq_false (by omega)
          clear c6
          by_cases c8 : 1 < (l0.length : Int)
          · rw [if_pos c8] at H
            have c8b0 : decide (1 < (l0.length : Int)) = true := decide_eq_true c8
            have c8b1 : decide (1 < l0.length) = true := decide_eq_true (by omega)
            clear c8
            by_cases c9 : (IntKind.u64.wrap (rd l0 1)) < 128
            · rw [if_pos c9] at H
              have c9b0 : decide ((IntKind.u64.wrap (rd l0 1)) < 128) = true := decide_eq_true c9
              clear c9
              simp only [Option.some.injEq, Prod.mk.injEq] at H
              obtain ⟨rfl, rfl, rfl⟩ := H
              have p101 : 0 ≤ (0 : Int) := (by omega)
              have q101 : 0 < (l0.length : Int) := of_decide_eq_true (by first | (with_reducible assumption) | assumption)
              obtain ⟨ad101, e101, hx101_0⟩ := Kd.at_int HR0.out 0 p101 q101
              cases e101
              have qi101 : (0 < l0.length) = True := eq_true (by omega)
              (try rw [show ((0 : Int)).toNat = 0 from rfl] at hx101_0)
              (try rw [Addr.add_zero'] at hx101_0)
              replace p101 := eq_true p101
              replace q101 := eq_true q101
              have p102 : 0 ≤ (1 : Int) := (by omega)
              have q102 : 1 < (l0.length : Int) := of_decide_eq_true (by first | (with_reducible assumption) | assumption)
              obtain ⟨ad102, e102, hx102_0⟩ := Kd.at_int HR0.out 1 p102 q102
              obtain rfl : ad101 = ad102 := (by injection e102)
              (try simp only [show (1 : Int).toNat = 1 from rfl, Nat.reduceMul, Nat.reduceEqDiff, Go.Addr.add, ↓reduceIte] at hx102_0)
              have qi102 : (1 < l0.length) = True := eq_true (by omega)
              (try rw [show ((1 : Int)).toNat = 1 from rfl] at hx102_0)
              replace p102 := eq_true p102
              replace q102 := eq_true q102
              go_enter Tryd.func28, Tryd.ntmps28
              go_wp2
              repeat (go_quiet (fail); try go_wp2)
              go_ret3
              exact ⟨by first | rfl | (simp; done) | (simp [*]; done), by repeat (first | exact Drawn0.refl _ | apply Drawn0.step)⟩
            · rw [if_neg c9] at H
              have c9b0 : decide ((IntKind.u64.wrap (rd l0 1)) < 128) = false := decide_eq_false c9
              clear c9
              by_cases c10 : (l0.length : Int) ≤ 2
              · rw [if_pos c10] at H
                have c10b0 : decide ((l0.length : Int) ≤ 2) = true := decide_eq_true c10
                have c10b1 : decide (l0.length ≤ 2) = true := decide_eq_true (by omega)
                clear c10
                simp only [Option.some.injEq, Prod.mk.injEq] at H
                obtain ⟨rfl, rfl, rfl⟩ := H
                have p101 : 0 ≤ (0 : Int) := (by omega)
                have q101 : 0 < (l0.length : Int) := of_decide_eq_true (by first | (with_reducible assumption) | assumption)
                obtain ⟨ad101, e101, hx101_0⟩ := Kd.at_int HR0.out 0 p101 q101
                cases e101
                have qi101 : (0 < l0.length) = True := eq_true (by omega)
                (try rw [show ((0 : Int)).toNat = 0 from rfl] at hx101_0)
                (try rw [Addr.add_zero'] at hx101_0)
                replace p101 := eq_true p101
                replace q101 := eq_true q101
                have p102 : 0 ≤ (1 : Int) := (by omega)
                have q102 : 1 < (l0.length : Int) := of_decide_eq_true (by first | (with_reducible assumption) | assumption)
                obtain ⟨ad102, e102, hx102_0⟩ := Kd.at_int HR0.out 1 p102 q102
                obtain rfl : ad101 = ad102 := (by injection e102)
                (try simp only [show (1 : Int).toNat = 1 from rfl, Nat.reduceMul, Nat.reduceEqDiff, Go.Addr.add, ↓reduceIte] at hx102_0)
                have qi102 : (1 < l0.length) = True := eq_true (by omega)
                (try rw [show ((1 : Int)).toNat = 1 from rfl] at hx102_0)
                replace p102 := eq_true p102
                replace q102 := eq_true q102
                have hgl11 : w.cell? ⟨2, 0, none⟩ = some (.iface (E 2).1 (E 2).2) := (by first | exact GlE.g2 HG.out | exact (HB.out.cell (World.block_lt_of_cell? w _ (GlE.g2 HG.out))).trans (GlE.g2 HG.out) | exact GlE.g2 (by repeat (first | exact HG.out | apply GlE.drewN | apply GlE.drew | apply GlE.alloc)))
                go_enter Tryd.func28, Tryd.ntmps28
                go_wp2
                repeat (go_quiet (fail); try go_wp2)
                go_ret3
                exact ⟨by first | rfl | (simp; done) | (simp [*]; done), by repeat (first | exact Drawn0.refl _ | apply Drawn0.step)⟩
              · rw [if_neg c10] at H
                have c10b0 : decide ((l0.length : Int) ≤ 2) = false := decide_eq_false c10
                have c10b1 : decide (l0.length ≤ 2) = false := decide_eq_false (by omega)
                clear c10
                by_cases c12 : 2 < (l0.length : Int)
                · rw [if_pos c12] at H
                  have c12b0 : decide (2 < (l0.length : Int)) = true := decide_eq_true c12
                  have c12b1 : decide (2 < l0.length) = true := decide_eq_true (by omega)
                  clear c12
                  by_cases c13 : (IntKind.u64.wrap (rd l0 2)) < 128
                  · rw [if_pos c13] at H
                    have c13b0 : decide ((IntKind.u64.wrap (rd l0 2)) < 128) = true := decide_eq_true c13
                    clear c13
                    simp only [Option.some.injEq, Prod.mk.injEq] at H
                    obtain ⟨rfl, rfl, rfl⟩ := H
                    have p101 : 0 ≤ (0 : Int) := (by omega)
                    have q101 : 0 < (l0.length : Int) := of_decide_eq_true (by first | (with_reducible assumption) | assumption)
                    obtain ⟨ad101, e101, hx101_0⟩ := Kd.at_int HR0.out 0 p101 q101
                    cases e101
                    have qi101 : (0 < l0.length) = True := eq_true (by omega)
                    (try rw [show ((0 : Int)).toNat = 0 from rfl] at hx101_0)
                    (try rw [Addr.add_zero'] at hx101_0)
                    replace p101 := eq_true p101
                    replace q101 := eq_true q101
                    have p102 : 0 ≤ (1 : Int) := (by omega)
                    have q102 : 1 < (l0.length : Int) := of_decide_eq_true (by first | (with_reducible assumption) | assumption)
                    obtain ⟨ad102, e102, hx102_0⟩ := Kd.at_int HR0.out 1 p102 q102
                    obtain rfl : ad101 = ad102 := (by injection e102)
                    (try simp only [show (1 : Int).toNat = 1 from rfl, Nat.reduceMul, Nat.reduceEqDiff, Go.Addr.add, ↓reduceIte] at hx102_0)
                    have qi102 : (1 < l0.length) = True := eq_true (by omega)
                    (try rw [show ((1 : Int)).toNat = 1 from rfl] at hx102_0)
                    replace p102 := eq_true p102
                    replace q102 := eq_true q102
                    have p103 : 0 ≤ (2 : Int) := (by omega)
                    have q103 : 2 < (l0.length : Int) := of_decide_eq_true (by first | (with_reducible assumption) | assumption)
                    obtain ⟨ad103, e103, hx103_0⟩ := Kd.at_int HR0.out 2 p103 q103
                    obtain rfl : ad101 = ad103 := (by injection e103)
                    (try simp only [show (2 : Int).toNat = 2 from rfl, Nat.reduceMul, Nat.reduceEqDiff, Go.Addr.add, ↓reduceIte] at hx103_0)
                    have qi103 : (2 < l0.length) = True := eq_true (by omega)
                    (try rw [show ((2 : Int)).toNat = 2 from rfl] at hx103_0)
                    replace p103 := eq_true p103
                    replace q103 := eq_true q103
                    go_enter Tryd.func28, Tryd.ntmps28
                    go_wp2
                    repeat (go_quiet (fail); try go_wp2)
                    go_ret3
                    exact ⟨by first | rfl | (simp; done) | (simp [*]; done), by repeat (first | exact Drawn0.refl _ | apply Drawn0.step)⟩
                  · rw [if_neg c13] at H
                    have c13b0 : decide ((IntKind.u64.wrap (rd l0 2)) < 128) = false := decide_eq_false c13
                    clear c13
                    by_cases c14 : (l0.length : Int) ≤ 3
                    · rw [if_pos c14] at H
                      have c14b0 : decide ((l0.length : Int) ≤ 3) = true := decide_eq_true c14
                      have c14b1 : decide (l0.length ≤ 3) = true := decide_eq_true (by omega)
                      clear c14
                      simp only [Option.some.injEq, Prod.mk.injEq] at H
                      obtain ⟨rfl, rfl, rfl⟩ := H
                      have p101 : 0 ≤ (0 : Int) := (by omega)
                      have q101 : 0 < (l0.length : Int) := of_decide_eq_true (by first | (with_reducible assumption) | assumption)
                      obtain ⟨ad101, e101, hx101_0⟩ := Kd.at_int HR0.out 0 p101 q101
                      cases e101
                      have qi101 : (0 < l0.length) = True := eq_true (by omega)
                      (try rw [show ((0 : Int)).toNat = 0 from rfl] at hx101_0)
                      (try rw [Addr.add_zero'] at hx101_0)
                      replace p101 := eq_true p101
                      replace q101 := eq_true q101
                      have p102 : 0 ≤ (1 : Int) := (by omega)
                      have q102 : 1 < (l0.length : Int) := of_decide_eq_true (by first | (with_reducible assumption) | assumption)
                      obtain ⟨ad102, e102, hx102_0⟩ := Kd.at_int HR0.out 1 p102 q102
                      obtain rfl : ad101 = ad102 := (by injection e102)
                      (try simp only [show (1 : Int).toNat = 1 from rfl, Nat.reduceMul, Nat.reduceEqDiff, Go.Addr.add, ↓reduceIte] at hx102_0)
                      have qi102 : (1 < l0.length) = True := eq_true (by omega)
                      (try rw [show ((1 : Int)).toNat = 1 from rfl] at hx102_0)
                      replace p102 := eq_true p102
                      replace q102 := eq_true q102
                      have p103 : 0 ≤ (2 : Int) := (by omega)
                      have q103 : 2 < (l0.length : Int) := of_decide_eq_true (by first | (with_reducible assumption) | assumption)
                      obtain ⟨ad103, e103, hx103_0⟩ := Kd.at_int HR0.out 2 p103 q103
                      obtain rfl : ad101 = ad103 := (by injection e103)
                      (try simp only [show (2 : Int).toNat = 2 from rfl, Nat.reduceMul, Nat.reduceEqDiff, Go.Addr.add, ↓reduceIte] at hx103_0)
                      have qi103 : (2 < l0.length) = True := eq_true (by omega)
                      (try rw [show ((2 : Int)).toNat = 2 from rfl] at hx103_0)
                      replace p103 := eq_true p103
                      replace q103 := eq_true q103
                      have hgl15 : w.cell? ⟨2, 0, none⟩ = some (.iface (E 2).1 (E 2).2) := (by first | exact GlE.g2 HG.out | exact (HB.out.cell (World.block_lt_of_cell? w _ (GlE.g2 HG.out))).trans (GlE.g2 HG.out) | exact GlE.g2 (by repeat (first | exact HG.out | apply GlE.drewN | apply GlE.drew | apply GlE.alloc)))
                      go_enter Tryd.func28, Tryd.ntmps28
                      go_wp2
                      repeat (go_quiet (fail); try go_wp2)
                      go_ret3
                      exact ⟨by first | rfl | (simp; done) | (simp [*]; done), by repeat (first | exact Drawn0.refl _ | apply Drawn0.step)⟩
                    · rw [if_neg c14] at H
                      have c14b0 : decide ((l0.length : Int) ≤ 3) = false := decide_eq_false c14
                      have c14b1 : decide (l0.length ≤ 3) = false := decide_eq_false (by omega)
                      clear c14
                      by_cases c16 : 3 < (l0.length : Int)
                      · rw [if_pos c16] at H
                        have c16b0 : decide (3 < (l0.length : Int)) = true := decide_eq_true c16
                        have c16b1 : decide (3 < l0.length) = true := decide_eq_true (by omega)
                        clear c16
                        by_cases c17 : (IntKind.u64.wrap (rd l0 3)) < 128
                        · rw [if_pos c17] at H
                          have c17b0 : decide ((IntKind.u64.wrap (rd l0 3)) < 128) = true := decide_eq_true c17
                          clear c17
                          simp only [Option.some.injEq, Prod.mk.injEq] at H
                          obtain ⟨rfl, rfl, rfl⟩ := H
                          have p101 : 0 ≤ (0 : Int) := (by omega)
                          have q101 : 0 < (l0.length : Int) := of_decide_eq_true (by first | (with_reducible assumption) | assumption)
                          obtain ⟨ad101, e101, hx101_0⟩ := Kd.at_int HR0.out 0 p101 q101
                          cases e101
                          have qi101 : (0 < l0.length) = True := eq_true (by omega)
                          (try rw [show ((0 : Int)).toNat = 0 from rfl] at hx101_0)
                          (try rw [Addr.add_zero'] at hx101_0)
                          replace p101 := eq_true p101
                          replace q101 := eq_true q101
                          have p102 : 0 ≤ (1 : Int) := (by omega)
                          have q102 : 1 < (l0.length : Int) := of_decide_eq_true (by first | (with_reducible assumption) | assumption)
                          obtain ⟨ad102, e102, hx102_0⟩ := Kd.at_int HR0.out 1 p102 q102
                          obtain rfl : ad101 = ad102 := (by injection e102)
                          (try simp only [show (1 : Int).toNat = 1 from rfl, Nat.reduceMul, Nat.reduceEqDiff, Go.Addr.add, ↓reduceIte] at hx102_0)
                          have qi102 : (1 < l0.length) = True := eq_true (by omega)
                          (try rw [show ((1 : Int)).toNat = 1 from rfl] at hx102_0)
                          replace p102 := eq_true p102
                          replace q102 := eq_true q102
                          have p103 : 0 ≤ (2 : Int) := (by omega)
                          have q103 : 2 < (l0.length : Int) := of_decide_eq_true (by first | (with_reducible assumption) | assumption)
                          obtain ⟨ad103, e103, hx103_0⟩ := Kd.at_int HR0.out 2 p103 q103
                          obtain rfl : ad101 = ad103 := (by injection e103)
                          (try simp only [show (2 : Int).toNat = 2 from rfl, Nat.reduceMul, Nat.reduceEqDiff, Go.Addr.add, ↓reduceIte] at hx103_0)
                          have qi103 : (2 < l0.length) = True := eq_true (by omega)
                          (try rw [show ((2 : Int)).toNat = 2 from rfl] at hx103_0)
                          replace p103 := eq_true p103
                          replace q103 := eq_true q103
                          have p104 : 0 ≤ (3 : Int) := (by omega)
                          have q104 : 3 < (l0.length : Int) := of_decide_eq_true (by first | (with_reducible assumption) | assumption)
                          obtain ⟨ad104, e104, hx104_0⟩ := Kd.at_int HR0.out 3 p104 q104
                          obtain rfl : ad101 = ad104 := (by injection e104)
                          (try simp only [show (3 : Int).toNat = 3 from rfl, Nat.reduceMul, Nat.reduceEqDiff, Go.Addr.add, ↓reduceIte] at hx104_0)
                          have qi104 : (3 < l0.length) = True := eq_true (by omega)
                          (try rw [show ((3 : Int)).toNat = 3 from rfl] at hx104_0)
                          replace p104 := eq_true p104
                          replace q104 := eq_true q104
                          go_enter Tryd.func28, Tryd.ntmps28
                          go_wp2
                          repeat (go_quiet (fail); try go_wp2)
                          go_ret3
                          exact ⟨by first | rfl | (simp; done) | (simp [*]; done), by repeat (first | exact Drawn0.refl _ | apply Drawn0.step)⟩
                        · rw [if_neg c17] at H
                          have c17b0 : decide ((IntKind.u64.wrap (rd l0 3)) < 128) = false := decide_eq_false c17
                          clear c17
                          by_cases c18 : (l0.length : Int) ≤ 4
                          · rw [if_pos c18] at H
                            have c18b0 : decide ((l0.length : Int) ≤ 4) = true := decide_eq_true c18
                            have c18b1 : decide (l0.length ≤ 4) = true := decide_eq_true (by omega)
                            clear c18
                            simp only [Option.some.injEq, Prod.mk.injEq] at H
                            obtain ⟨rfl, rfl, rfl⟩ := H
                            have p101 : 0 ≤ (0 : Int) := (by omega)
                            have q101 : 0 < (l0.length : Int) := of_decide_eq_true (by first | (with_reducible assumption) | assumption)
                            obtain ⟨ad101, e101, hx101_0⟩ := Kd.at_int HR0.out 0 p101 q101
                            cases e101
                            have qi101 : (0 < l0.length) = True := eq_true (by omega)
                            (try rw [show ((0 : Int)).toNat = 0 from rfl] at hx101_0)
                            (try rw [Addr.add_zero'] at hx101_0)
                            replace p101 := eq_true p101
                            replace q101 := eq_true q101
                            have p102 : 0 ≤ (1 : Int) := (by omega)
                            have q102 : 1 < (l0.length : Int) := of_decide_eq_true (by first | (with_reducible assumption) | assumption)
                            obtain ⟨ad102, e102, hx102_0⟩ := Kd.at_int HR0.out 1 p102 q102
                            obtain rfl : ad101 = ad102 := (by injection e102)
                            (try simp only [show (1 : Int).toNat = 1 from rfl, Nat.reduceMul, Nat.reduceEqDiff, Go.Addr.add, ↓reduceIte] at hx102_0)
                            have qi102 : (1 < l0.length) = True := eq_true (by omega)
                            (try rw [show ((1 : Int)).toNat = 1 from rfl] at hx102_0)
                            replace p102 := eq_true p102
                            replace q102 := eq_true q102
                            have p103 : 0 ≤ (2 : Int) := (by omega)
                            have q103 : 2 < (l0.length : Int) := of_decide_eq_true (by first | (with_reducible assumption) | assumption)
                            obtain ⟨ad103, e103, hx103_0⟩ := Kd.at_int HR0.out 2 p103 q103
                            obtain rfl : ad101 = ad103 := (by injection e103)
                            (try simp only [show (2 : Int).toNat = 2 from rfl, Nat.reduceMul, Nat.reduceEqDiff, Go.Addr.add, ↓reduceIte] at hx103_0)
                            have qi103 : (2 < l0.length) = True := eq_true (by omega)
                            (try rw [show ((2 : Int)).toNat = 2 from rfl] at hx103_0)
                            replace p103 := eq_true p103
                            replace q103 := eq_true q103
                            have p104 : 0 ≤ (3 : Int) := (by omega)
                            have q104 : 3 < (l0.length : Int) := of_decide_eq_true (by first | (with_reducible assumption) | assumption)
                            obtain ⟨ad104, e104, hx104_0⟩ := Kd.at_int HR0.out 3 p104 q104
                            obtain rfl : ad101 = ad104 := (by injection e104)
                            (try simp only [show (3 : Int).toNat = 3 from rfl, Nat.reduceMul, Nat.reduceEqDiff, Go.Addr.add, ↓reduceIte] at hx104_0)
                            have qi104 : (3 < l0.length) = True := eq_true (by omega)
                            (try rw [show ((3 : Int)).toNat = 3 from rfl] at hx104_0)
                            replace p104 := eq_true p104
                            replace q104 := eq_true q104
                            have hgl19 : w.cell? ⟨2, 0, none⟩ = some (.iface (E 2).1 (E 2).2) := (by first | exact GlE.g2 HG.out | exact (HB.out.cell (World.block_lt_of_cell? w _ (GlE.g2 HG.out))).trans (GlE.g2 HG.out) | exact GlE.g2 (by repeat (first | exact HG.out | apply GlE.drewN | apply GlE.drew | apply GlE.alloc)))
                            go_enter Tryd.func28, Tryd.ntmps28
                            go_wp2
                            repeat (go_quiet (fail); try go_wp2)
                            go_ret3
                            exact ⟨by first | rfl | (simp; done) | (simp [*]; done), by repeat (first | exact Drawn0.refl _ | apply Drawn0.step)⟩
                          · rw [if_neg c18] at H
                            have c18b0 : decide ((l0.length : Int) ≤ 4) = false := decide_eq_false c18
                            have c18b1 : decide (l0.length ≤ 4) = false := decide_eq_false (by omega)
                            clear c18
                            by_cases c20 : 4 < (l0.length : Int)
                            · rw [if_pos c20] at H
                              have c20b0 : decide (4 < (l0.length : Int)) = true := decide_eq_true c20
                              have c20b1 : decide (4 < l0.length) = true := decide_eq_true (by omega)
                              clear c20
                              by_cases c21 : (IntKind.u64.wrap (rd l0 4)) < 128
                              · rw [if_pos c21] at H
                                have c21b0 : decide ((IntKind.u64.wrap (rd l0 4)) < 128) = true := decide_eq_true c21
                                clear c21
                                simp only [Option.some.injEq, Prod.mk.injEq] at H
                                obtain ⟨rfl, rfl, rfl⟩ := H
                                have p101 : 0 ≤ (0 : Int) := (by omega)
                                have q101 : 0 < (l0.length : Int) := of_decide_eq_true (by first | (with_reducible assumption) | assumption)
                                obtain ⟨ad101, e101, hx101_0⟩ := Kd.at_int HR0.out 0 p101 q101
                                cases e101
                                have qi101 : (0 < l0.length) = True := eq_true (by omega)
                                (try rw [show ((0 : Int)).toNat = 0 from rfl] at hx101_0)
                                (try rw [Addr.add_zero'] at hx101_0)
                                replace p101 := eq_true p101
                                replace q101 := eq_true q101
                                have p102 : 0 ≤ (1 : Int) := (by omega)
                                have q102 : 1 < (l0.length : Int) := of_decide_eq_true (by first | (with_reducible assumption) | assumption)
                                obtain ⟨ad102, e102, hx102_0⟩ := Kd.at_int HR0.out 1 p102 q102
                                obtain rfl : ad101 = ad102 := (by injection e102)
                                (try simp only [show (1 : Int).toNat = 1 from rfl, Nat.reduceMul, Nat.reduceEqDiff, Go.Addr.add, ↓reduceIte] at hx102_0)
                                have qi102 : (1 < l0.length) = True := eq_true (by omega)
                                (try rw [show ((1 : Int)).toNat = 1 from rfl] at hx102_0)
                                replace p102 := eq_true p102
                                replace q102 := eq_true q102
                                have p103 : 0 ≤ (2 : Int) := (by omega)
                                have q103 : 2 < (l0.length : Int) := of_decide_eq_true (by first | (with_reducible assumption) | assumption)
                                obtain ⟨ad103, e103, hx103_0⟩ := Kd.at_int HR0.out 2 p103 q103
                                obtain rfl : ad101 = ad103 := (by injection e103)
                                (try simp only [show (2 : Int).toNat = 2 from rfl, Nat.reduceMul, Nat.reduceEqDiff, Go.Addr.add, ↓reduceIte] at hx103_0)
                                have qi103 : (2 < l0.length) = True := eq_true (by omega)
                                (try rw [show ((2 : Int)).toNat = 2 from rfl] at hx103_0)
                                replace p103 := eq_true p103
                                replace q103 := eq_true q103
                                have p104 : 0 ≤ (3 : Int) := (by omega)
                                have q104 : 3 < (l0.length : Int) := of_decide_eq_true (by first | (with_reducible assumption) | assumption)
                                obtain ⟨ad104, e104, hx104_0⟩ := Kd.at_int HR0.out 3 p104 q104
                                obtain rfl : ad101 = ad104 := (by injection e104)
                                (try simp only [show (3 : Int).toNat = 3 from rfl, Nat.reduceMul, Nat.reduceEqDiff, Go.Addr.add, ↓reduceIte] at hx104_0)
                                have qi104 : (3 < l0.length) = True := eq_true (by omega)
                                (try rw [show ((3 : Int)).toNat = 3 from rfl] at hx104_0)
                                replace p104 := eq_true p104
                                replace q104 := eq_true q104
                                have p105 : 0 ≤ (4 : Int) := (by omega)
                                have q105 : 4 < (l0.length : Int) := of_decide_eq_true (by first | (with_reducible assumption) | assumption)
                                obtain ⟨ad105, e105, hx105_0⟩ := Kd.at_int HR0.out 4 p105 q105
                                obtain rfl : ad101 = ad105 := (by injection e105)
                                (try simp only [show (4 : Int).toNat = 4 from rfl, Nat.reduceMul, Nat.reduceEqDiff, Go.Addr.add, ↓reduceIte] at hx105_0)
                                have qi105 : (4 < l0.length) = True := eq_true (by omega)
                                (try rw [show ((4 : Int)).toNat = 4 from rfl] at hx105_0)
                                replace p105 := eq_true p105
                                replace q105 := eq_true q105
                                go_enter Tryd.func28, Tryd.ntmps28
                                go_wp2
                                repeat (go_quiet (fail); try go_wp2)
                                go_ret3
                                exact ⟨by first | rfl | (simp; done) | (simp [*]; done), by repeat (first | exact Drawn0.refl _ | apply Drawn0.step)⟩
                              · rw [if_neg c21] at H
                                have c21b0 : decide ((IntKind.u64.wrap (rd l0 4)) < 128) = false := decide_eq_false c21
                                clear c21
                                by_cases c22 : (l0.length : Int) ≤ 5
                                · rw [if_pos c22] at H
                                  have c22b0 : decide ((l0.length : Int) ≤ 5) = true := decide_eq_true c22
                                  have c22b1 : decide (l0.length ≤ 5) = true := decide_eq_true (by omega)
                                  clear c22
                                  simp only [Option.some.injEq, Prod.mk.injEq] at H
                                  obtain ⟨rfl, rfl, rfl⟩ := H
                                  have p101 : 0 ≤ (0 : Int) := (by omega)
                                  have q101 : 0 < (l0.length : Int) := of_decide_eq_true (by first | (with_reducible assumption) | assumption)
                                  obtain ⟨ad101, e101, hx101_0⟩ := Kd.at_int HR0.out 0 p101 q101
                                  cases e101
                                  have qi101 : (0 < l0.length) = True := eq_true (by omega)
                                  (try rw [show ((0 : Int)).toNat = 0 from rfl] at hx101_0)
                                  (try rw [Addr.add_zero'] at hx101_0)
                                  replace p101 := eq_true p101
                                  replace q101 := eq_true q101
                                  have p102 : 0 ≤ (1 : Int) := (by omega)
                                  have q102 : 1 < (l0.length : Int) := of_decide_eq_true (by first | (with_reducible assumption) | assumption)
                                  obtain ⟨ad102, e102, hx102_0⟩ := Kd.at_int HR0.out 1 p102 q102
                                  obtain rfl : ad101 = ad102 := (by injection e102)
                                  (try simp only [show (1 : Int).toNat = 1 from rfl, Nat.reduceMul, Nat.reduceEqDiff, Go.Addr.add, ↓reduceIte] at hx102_0)
                                  have qi102 : (1 < l0.length) = True := eq_true (by omega)
                                  (try rw [show ((1 : Int)).toNat = 1 from rfl] at hx102_0)
                                  replace p102 := eq_true p102
                                  replace q102 := eq_true q102
                                  have p103 : 0 ≤ (2 : Int) := (by omega)
                                  have q103 : 2 < (l0.length : Int) := of_decide_eq_true (by first | (with_reducible assumption) | assumption)
                                  obtain ⟨ad103, e103, hx103_0⟩ := Kd.at_int HR0.out 2 p103 q103
                                  obtain rfl : ad101 = ad103 := (by injection e103)
                                  (try simp only [show (2 : Int).toNat = 2 from rfl, Nat.reduceMul, Nat.reduceEqDiff, Go.Addr.add, ↓reduceIte] at hx103_0)
                                  have qi103 : (2 < l0.length) = True := eq_true (by omega)
                                  (try rw [show ((2 : Int)).toNat = 2 from rfl] at hx103_0)
                                  replace p103 := eq_true p103
                                  replace q103 := eq_true q103
                                  have p104 : 0 ≤ (3 : Int) := (by omega)
                                  have q104 : 3 < (l0.length : Int) := of_decide_eq_true (by first | (with_reducible assumption) | assumption)
                                  obtain ⟨ad104, e104, hx104_0⟩ := Kd.at_int HR0.out 3 p104 q104
                                  obtain rfl : ad101 = ad104 := (by injection e104)
                                  (try simp only [show (3 : Int).toNat = 3 from rfl, Nat.reduceMul, Nat.reduceEqDiff, Go.Addr.add, ↓reduceIte] at hx104_0)
                                  have qi104 : (3 < l0.length) = True := eq_true (by omega)
                                  (try rw [show ((3 : Int)).toNat = 3 from rfl] at hx104_0)
                                  replace p104 := eq_true p104
                                  replace q104 := eq_true q104
                                  have p105 : 0 ≤ (4 : Int) := (by omega)
                                  have q105 : 4 < (l0.length : Int) := of_decide_eq_true (by first | (with_reducible assumption) | assumption)
                                  obtain ⟨ad105, e105, hx105_0⟩ := Kd.at_int HR0.out 4 p105 q105
                                  obtain rfl : ad101 = ad105 := (by injection e105)
                                  (try simp only [show (4 : Int).toNat = 4 from rfl, Nat.reduceMul, Nat.reduceEqDiff, Go.Addr.add, ↓reduceIte] at hx105_0)
                                  have qi105 : (4 < l0.length) = True := eq_true (by omega)
                                  (try rw [show ((4 : Int)).toNat = 4 from rfl] at hx105_0)
                                  replace p105 := eq_true p105
                                  replace q105 := eq_true q105
                                  have hgl23 : w.cell? ⟨2, 0, none⟩ = some (.iface (E 2).1 (E 2).2) := (by first | exact GlE.g2 HG.out | exact (HB.out.cell (World.block_lt_of_cell? w _ (GlE.g2 HG.out))).trans (GlE.g2 HG.out) | exact GlE.g2 (by repeat (first | exact HG.out | apply GlE.drewN | apply GlE.drew | apply GlE.alloc)))
                                  go_enter Tryd.func28, Tryd.ntmps28
                                  go_wp2
                                  repeat (go_quiet (fail); try go_wp2)
                                  go_ret3
                                  exact ⟨by first | rfl | (simp; done) | (simp [*]; done), by repeat (first | exact Drawn0.refl _ | apply Drawn0.step)⟩
                                · rw [if_neg c22] at H
                                  have c22b0 : decide ((l0.length : Int) ≤ 5) = false := decide_eq_false c22
                                  have c22b1 : decide (l0.length ≤ 5) = false := decide_eq_false (by omega)
                                  clear c22
                                  by_cases c24 : 5 < (l0.length : Int)
                                  · rw [if_pos c24] at H
                                    have c24b0 : decide (5 < (l0.length : Int)) = true := decide_eq_true c24
                                    have c24b1 : decide (5 < l0.length) = true := decide_eq_true (by omega)
                                    clear c24
                                    by_cases c25 : (IntKind.u64.wrap (rd l0 5)) < 128
                                    · rw [if_pos c25] at H
                                      have c25b0 : decide ((IntKind.u64.wrap (rd l0 5)) < 128) = true := decide_eq_true c25
                                      clear c25
                                      simp only [Option.some.injEq, Prod.mk.injEq] at H
                                      obtain ⟨rfl, rfl, rfl⟩ := H
                                      have p101 : 0 ≤ (0 : Int) := (by omega)
                                      have q101 : 0 < (l0.length : Int) := of_decide_eq_true (by first | (with_reducible assumption) | assumption)
                                      obtain ⟨ad101, e101, hx101_0⟩ := Kd.at_int HR0.out 0 p101 q101
                                      cases e101
                                      have qi101 : (0 < l0.length) = True := eq_true (by omega)
                                      (try rw [show ((0 : Int)).toNat = 0 from rfl] at hx101_0)
                                      (try rw [Addr.add_zero'] at hx101_0)
                                      replace p101 := eq_true p101
                                      replace q101 := eq_true q101
                                      have p102 : 0 ≤ (1 : Int) := (by omega)
                                      have q102 : 1 < (l0.length : Int) := of_decide_eq_true (by first | (with_reducible assumption) | assumption)
                                      obtain ⟨ad102, e102, hx102_0⟩ := Kd.at_int HR0.out 1 p102 q102
                                      obtain rfl : ad101 = ad102 := (by injection e102)
                                      (try simp only [show (1 : Int).toNat = 1 from rfl, Nat.reduceMul, Nat.reduceEqDiff, Go.Addr.add, ↓reduceIte] at hx102_0)
                                      have qi102 : (1 < l0.length) = True := eq_true (by omega)
                                      (try rw [show ((1 : Int)).toNat = 1 from rfl] at hx102_0)
                                      replace p102 := eq_true p102
                                      replace q102 := eq_true q102
                                      have p103 : 0 ≤ (2 : Int) := (by omega)
                                      have q103 : 2 < (l0.length : Int) := of_decide_eq_true (by first | (with_reducible assumption) | assumption)
                                      obtain ⟨ad103, e103, hx103_0⟩ := Kd.at_int HR0.out 2 p103 q103
                                      obtain rfl : ad101 = ad103 := (by injection e103)
                                      (try simp only [show (2 : Int).toNat = 2 from rfl, Nat.reduceMul, Nat.reduceEqDiff, Go.Addr.add, ↓reduceIte] at hx103_0)
                                      have qi103 : (2 < l0.length) = True := eq_true (by omega)
                                      (try rw [show ((2 : Int)).toNat = 2 from rfl] at hx103_0)
                                      replace p103 := eq_true p103
                                      replace q103 := eq_true q103
                                      have p104 : 0 ≤ (3 : Int) := (by omega)
                                      have q104 : 3 < (l0.length : Int) := of_decide_eq_true (by first | (with_reducible assumption) | assumption)
                                      obtain ⟨ad104, e104, hx104_0⟩ := Kd.at_int HR0.out 3 p104 q104
                                      obtain rfl : ad101 = ad104 := (by injection e104)
                                      (try simp only [show (3 : Int).toNat = 3 from rfl, Nat.reduceMul, Nat.reduceEqDiff, Go.Addr.add, ↓reduceIte] at hx104_0)
                                      have qi104 : (3 < l0.length) = True := eq_true (by omega)
                                      (try rw [show ((3 : Int)).toNat = 3 from rfl] at hx104_0)
                                      replace p104 := eq_true p104
                                      replace q104 := eq_true q104
                                      have p105 : 0 ≤ (4 : Int) := (by omega)
                                      have q105 : 4 < (l0.length : Int) := of_decide_eq_true (by first | (with_reducible assumption) | assumption)
                                      obtain ⟨ad105, e105, hx105_0⟩ := Kd.at_int HR0.out 4 p105 q105
                                      obtain rfl : ad101 = ad105 := (by injection e105)
                                      (try simp only [show (4 : Int).toNat = 4 from rfl, Nat.reduceMul, Nat.reduceEqDiff, Go.Addr.add, ↓reduceIte] at hx105_0)
                                      have qi105 : (4 < l0.length) = True := eq_true (by omega)
                                      (try rw [show ((4 : Int)).toNat = 4 from rfl] at hx105_0)
                                      replace p105 := eq_true p105
                                      replace q105 := eq_true q105
                                      have p106 : 0 ≤ (5 : Int) := (by omega)
                                      have q106 : 5 < (l0.length : Int) := of_decide_eq_true (by first | (with_reducible assumption) | assumption)
                                      obtain ⟨ad106, e106, hx106_0⟩ := Kd.at_int HR0.out 5 p106 q106
                                      obtain rfl : ad101 = ad106 := (by injection e106)
                                      (try simp only [show (5 : Int).toNat = 5 from rfl, Nat.reduceMul, Nat.reduceEqDiff, Go.Addr.add, ↓reduceIte] at hx106_0)
                                      have qi106 : (5 < l0.length) = True := eq_true (by omega)
                                      (try rw [show ((5 : Int)).toNat = 5 from rfl] at hx106_0)
                                      replace p106 := eq_true p106
                                      replace q106 := eq_true q106
                                      go_enter Tryd.func28, Tryd.ntmps28
                                      go_wp2
                                      repeat (go_quiet (fail); try go_wp2)
                                      go_ret3
                                      exact ⟨by first | rfl | (simp; done) | (simp [*]; done), by repeat (first | exact Drawn0.refl _ | apply Drawn0.step)⟩
                                    · rw [if_neg c25] at H
                                      have c25b0 : decide ((IntKind.u64.wrap (rd l0 5)) < 128) = false := decide_eq_false c25
                                      clear c25
                                      by_cases c26 : (l0.length : Int) ≤ 6
                                      · rw [if_pos c26] at H
                                        have c26b0 : decide ((l0.length : Int) ≤ 6) = true := decide_eq_true c26
                                        have c26b1 : decide (l0.length ≤ 6) = true := decide_eq_true (by omega)
                                        clear c26
                                        simp only [Option.some.injEq, Prod.mk.injEq] at H
                                        obtain ⟨rfl, rfl, rfl⟩ := H
                                        have p101 : 0 ≤ (0 : Int) := (by omega)
                                        have q101 : 0 < (l0.length : Int) := of_decide_eq_true (by first | (with_reducible assumption) | assumption)
                                        obtain ⟨ad101, e101, hx101_0⟩ := Kd.at_int HR0.out 0 p101 q101
                                        cases e101
                                        have qi101 : (0 < l0.length) = True := eq_true (by omega)
                                        (try rw [show ((0 : Int)).toNat = 0 from rfl] at hx101_0)
                                        (try rw [Addr.add_zero'] at hx101_0)
                                        replace p101 := eq_true p101
                                        replace q101 := eq_true q101
                                        have p102 : 0 ≤ (1 : Int) := (by omega)
                                        have q102 : 1 < (l0.length : Int) := of_decide_eq_true (by first | (with_reducible assumption) | assumption)
                                        obtain ⟨ad102, e102, hx102_0⟩ := Kd.at_int HR0.out 1 p102 q102
                                        obtain rfl : ad101 = ad102 := (by injection e102)
                                        (try simp only [show (1 : Int).toNat = 1 from rfl, Nat.reduceMul, Nat.reduceEqDiff, Go.Addr.add, ↓reduceIte] at hx102_0)
                                        have qi102 : (1 < l0.length) = True := eq_true (by omega)
                                        (try rw [show ((1 : Int)).toNat = 1 from rfl] at hx102_0)
                                        replace p102 := eq_true p102
                                        replace q102 := eq_true q102
                                        have p103 : 0 ≤ (2 : Int) := (by omega)
                                        have q103 : 2 < (l0.length : Int) := of_decide_eq_true (by first | (with_reducible assumption) | assumption)
                                        obtain ⟨ad103, e103, hx103_0⟩ := Kd.at_int HR0.out 2 p103 q103
                                        obtain rfl : ad101 = ad103 := (by injection e103)
                                        (try simp only [show (2 : Int).toNat = 2 from rfl, Nat.reduceMul, Nat.reduceEqDiff, Go.Addr.add, ↓reduceIte] at hx103_0)
                                        have qi103 : (2 < l0.length) = True := eq_true (by omega)
                                        (try rw [show ((2 : Int)).toNat = 2 from rfl] at hx103_0)
                                        replace p103 := eq_true p103
                                        replace q103 := eq_true q103
                                        have p104 : 0 ≤ (3 : Int) := (by omega)
                                        have q104 : 3 < (l0.length : Int) := of_decide_eq_true (by first | (with_reducible assumption) | assumption)
                                        obtain ⟨ad104, e104, hx104_0⟩ := Kd.at_int HR0.out 3 p104 q104
                                        obtain rfl : ad101 = ad104 := (by injection e104)
                                        (try simp only [show (3 : Int).toNat = 3 from rfl, Nat.reduceMul, Nat.reduceEqDiff, Go.Addr.add, ↓reduceIte] at hx104_0)
                                        have qi104 : (3 < l0.length) = True := eq_true (by omega)
                                        (try rw [show ((3 : Int)).toNat = 3 from rfl] at hx104_0)
                                        replace p104 := eq_true p104
                                        replace q104 := eq_true q104
                                        have p105 : 0 ≤ (4 : Int) := (by omega)
                                        have q105 : 4 < (l0.length : Int) := of_decide_eq_true (by first | (with_reducible assumption) | assumption)
                                        obtain ⟨ad105, e105, hx105_0⟩ := Kd.at_int HR0.out 4 p105 q105
                                        obtain rfl : ad101 = ad105 := (by injection e105)
                                        (try simp only [show (4 : Int).toNat = 4 from rfl, Nat.reduceMul, Nat.reduceEqDiff, Go.Addr.add, ↓reduceIte] at hx105_0)
                                        have qi105 : (4 < l0.length) = True := eq_true (by omega)
                                        (try rw [show ((4 : Int)).toNat = 4 from rfl] at hx105_0)
                                        replace p105 := eq_true p105
                                        replace q105 := eq_true q105
                                        have p106 : 0 ≤ (5 : Int) := (by omega)
                                        have q106 : 5 < (l0.length : Int) := of_decide_eq_true (by first | (with_reducible assumption) | assumption)
                                        obtain ⟨ad106, e106, hx106_0⟩ := Kd.at_int HR0.out 5 p106 q106
                                        obtain rfl : ad101 = ad106 := (by injection e106)
                                        (try simp only [show (5 : Int).toNat = 5 from rfl, Nat.reduceMul, Nat.reduceEqDiff, Go.Addr.add, ↓reduceIte] at hx106_0)
                                        have qi106 : (5 < l0.length) = True := eq_true (by omega)
                                        (try rw [show ((5 : Int)).toNat = 5 from rfl] at hx106_0)
                                        replace p106 := eq_true p106
                                        replace q106 := eq_true q106
                                        have hgl27 : w.cell? ⟨2, 0, none⟩ = some (.iface (E 2).1 (E 2).2) := (by first | exact GlE.g2 HG.out | exact (HB.out.cell (World.block_lt_of_cell? w _ (GlE.g2 HG.out))).trans (GlE.g2 HG.out) | exact GlE.g2 (by repeat (first | exact HG.out | apply GlE.drewN | apply GlE.drew | apply GlE.alloc)))
                                        go_enter Tryd.func28, Tryd.ntmps28
                                        go_wp2
                                        repeat (go_quiet (fail); try go_wp2)
                                        go_ret3
                                        exact ⟨by first | rfl | (simp; done) | (simp [*]; done), by repeat (first | exact Drawn0.refl _ | apply Drawn0.step)⟩
                                      · rw [if_neg c26] at H
                                        have c26b0 : decide ((l0.length : Int) ≤ 6) = false := decide_eq_false c26
                                        have c26b1 : decide (l0.length ≤ 6) = false := decide_eq_false (by omega)
                                        clear c26
                                        by_cases c28 : 6 < (l0.length : Int)
                                        · rw [if_pos c28] at H
                                          have c28b0 : decide (6 < (l0.length : Int)) = true := decide_eq_true c28
                                          have c28b1 : decide (6 < l0.length) = true := decide_eq_true (by omega)
                                          clear c28
                                          by_cases c29 : (IntKind.u64.wrap (rd l0 6)) < 128
                                          · rw [if_pos c29] at H
                                            have c29b0 : decide ((IntKind.u64.wrap (rd l0 6)) < 128) = true := decide_eq_true c29
                                            clear c29
                                            simp only [Option.some.injEq, Prod.mk.injEq] at H
                                            obtain ⟨rfl, rfl, rfl⟩ := H
                                            have p101 : 0 ≤ (0 : Int) := (by omega)
                                            have q101 : 0 < (l0.length : Int) := of_decide_eq_true (by first | (with_reducible assumption) | assumption)
                                            obtain ⟨ad101, e101, hx101_0⟩ := Kd.at_int HR0.out 0 p101 q101
                                            cases e101
                                            have qi101 : (0 < l0.length) = True := eq_true (by omega)
                                            (try rw [show ((0 : Int)).toNat = 0 from rfl] at hx101_0)
                                            (try rw [Addr.add_zero'] at hx101_0)
                                            replace p101 := eq_true p101
                                            replace q101 := eq_true q101
                                            have p102 : 0 ≤ (1 : Int) := (by omega)
                                            have q102 : 1 < (l0.length : Int) := of_decide_eq_true (by first | (with_reducible assumption) | assumption)
                                            obtain ⟨ad102, e102, hx102_0⟩ := Kd.at_int HR0.out 1 p102 q102
                                            obtain rfl : ad101 = ad102 := (by injection e102)
                                            (try simp only [show (1 : Int).toNat = 1 from rfl, Nat.reduceMul, Nat.reduceEqDiff, Go.Addr.add, ↓reduceIte] at hx102_0)
                                            have qi102 : (1 < l0.length) = True := eq_true (by omega)
                                            (try rw [show ((1 : Int)).toNat = 1 from rfl] at hx102_0)
                                            replace p102 := eq_true p102
                                            replace q102 := eq_true q102
                                            have p103 : 0 ≤ (2 : Int) := (by omega)
                                            have q103 : 2 < (l0.length : Int) := of_decide_eq_true (by first | (with_reducible assumption) | assumption)
                                            obtain ⟨ad103, e103, hx103_0⟩ := Kd.at_int HR0.out 2 p103 q103
                                            obtain rfl : ad101 = ad103 := (by injection e103)
                                            (try simp only [show (2 : Int).toNat = 2 from rfl, Nat.reduceMul, Nat.reduceEqDiff, Go.Addr.add, ↓reduceIte] at hx103_0)
                                            have qi103 : (2 < l0.length) = True := eq_true (by omega)
                                            (try rw [show ((2 : Int)).toNat = 2 from rfl] at hx103_0)
                                            replace p103 := eq_true p103
                                            replace q103 := eq_true q103
                                            have p104 : 0 ≤ (3 : Int) := (by omega)
                                            have q104 : 3 < (l0.length : Int) := of_decide_eq_true (by first | (with_reducible assumption) | assumption)
                                            obtain ⟨ad104, e104, hx104_0⟩ := Kd.at_int HR0.out 3 p104 q104
                                            obtain rfl : ad101 = ad104 := (by injection e104)
                                            (try simp only [show (3 : Int).toNat = 3 from rfl, Nat.reduceMul, Nat.reduceEqDiff, Go.Addr.add, ↓reduceIte] at hx104_0)
                                            have qi104 : (3 < l0.length) = True := eq_true (by omega)
                                            (try rw [show ((3 : Int)).toNat = 3 from rfl] at hx104_0)
                                            replace p104 := eq_true p104
                                            replace q104 := eq_true q104
                                            have p105 : 0 ≤ (4 : Int) := (by omega)
                                            have q105 : 4 < (l0.length : Int) := of_decide_eq_true (by first | (with_reducible assumption) | assumption)
                                            obtain ⟨ad105, e105, hx105_0⟩ := Kd.at_int HR0.out 4 p105 q105
                                            obtain rfl : ad101 = ad105 := (by injection e105)
                                            (try simp only [show (4 : Int).toNat = 4 from rfl, Nat.reduceMul, Nat.reduceEqDiff, Go.Addr.add, ↓reduceIte] at hx105_0)
                                            have qi105 : (4 < l0.length) = True := eq_true (by omega)
                                            (try rw [show ((4 : Int)).toNat = 4 from rfl] at hx105_0)
                                            replace p105 := eq_true p105
                                            replace q105 := eq_true q105
                                            have p106 : 0 ≤ (5 : Int) := (by omega)
                                            have q106 : 5 < (l0.length : Int) := of_decide_eq_true (by first | (with_reducible assumption) | assumption)
                                            obtain ⟨ad106, e106, hx106_0⟩ := Kd.at_int HR0.out 5 p106 q106
                                            obtain rfl : ad101 = ad106 := (by injection e106)
                                            (try simp only [show (5 : Int).toNat = 5 from rfl, Nat.reduceMul, Nat.reduceEqDiff, Go.Addr.add, ↓reduceIte] at hx106_0)
                                            have qi106 : (5 < l0.length) = True := eq_true (by omega)
                                            (try rw [show ((5 : Int)).toNat = 5 from rfl] at hx106_0)
                                            replace p106 := eq_true p106
                                            replace q106 := eq_true q106
                                            have p107 : 0 ≤ (6 : Int) := (by omega)
                                            have q107 : 6 < (l0.length : Int) := of_decide_eq_true (by first | (with_reducible assumption) | assumption)
                                            obtain ⟨ad107, e107, hx107_0⟩ := Kd.at_int HR0.out 6 p107 q107
                                            obtain rfl : ad101 = ad107 := (by injection e107)
                                            (try simp only [show (6 : Int).toNat = 6 from rfl, Nat.reduceMul, Nat.reduceEqDiff, Go.Addr.add, ↓reduceIte] at hx107_0)
                                            have qi107 : (6 < l0.length) = True := eq_true (by omega)
                                            (try rw [show ((6 : Int)).toNat = 6 from rfl] at hx107_0)
                                            replace p107 := eq_true p107
                                            replace q107 := eq_true q107
                                            go_enter Tryd.func28, Tryd.ntmps28
                                            go_wp2
                                            repeat (go_quiet (fail); try go_wp2)
                                            go_ret3
                                            exact ⟨by first | rfl | (simp; done) | (simp [*]; done), by repeat (first | exact Drawn0.refl _ | apply Drawn0.step)⟩
                                          · rw [if_neg c29] at H
                                            have c29b0 : decide ((IntKind.u64.wrap (rd l0 6)) < 128) = false := decide_eq_false c29
                                            clear c29
                                            by_cases c30 : (l0.length : Int) ≤ 7
                                            · rw [if_pos c30] at H
                                              have c30b0 : decide ((l0.length : Int) ≤ 7) = true := decide_eq_true c30
                                              have c30b1 : decide (l0.length ≤ 7) = true := decide_eq_true (by omega)
                                              clear c30
                                              simp only [Option.some.injEq, Prod.mk.injEq] at H
                                              obtain ⟨rfl, rfl, rfl⟩ := H
                                              have p101 : 0 ≤ (0 : Int) := (by omega)
                                              have q101 : 0 < (l0.length : Int) := of_decide_eq_true (by first | (with_reducible assumption) | assumption)
                                              obtain ⟨ad101, e101, hx101_0⟩ := Kd.at_int HR0.out 0 p101 q101
                                              cases e101
                                              have qi101 : (0 < l0.length) = True := eq_true (by omega)
                                              (try rw [show ((0 : Int)).toNat = 0 from rfl] at hx101_0)
                                              (try rw [Addr.add_zero'] at hx101_0)
                                              replace p101 := eq_true p101
                                              replace q101 := eq_true q101
                                              have p102 : 0 ≤ (1 : Int) := (by omega)
                                              have q102 : 1 < (l0.length : Int) := of_decide_eq_true (by first | (with_reducible assumption) | assumption)
                                              obtain ⟨ad102, e102, hx102_0⟩ := Kd.at_int HR0.out 1 p102 q102
                                              obtain rfl : ad101 = ad102 := (by injection e102)
                                              (try simp only [show (1 : Int).toNat = 1 from rfl, Nat.reduceMul, Nat.reduceEqDiff, Go.Addr.add, ↓reduceIte] at hx102_0)
                                              have qi102 : (1 < l0.length) = True := eq_true (by omega)
                                              (try rw [show ((1 : Int)).toNat = 1 from rfl] at hx102_0)
                                              replace p102 := eq_true p102
                                              replace q102 := eq_true q102
                                              have p103 : 0 ≤ (2 : Int) := (by omega)
                                              have q103 : 2 < (l0.length : Int) := of_decide_eq_true (by first | (with_reducible assumption) | assumption)
                                              obtain ⟨ad103, e103, hx103_0⟩ := Kd.at_int HR0.out 2 p103 q103
                                              obtain rfl : ad101 = ad103 := (by injection e103)
                                              (try simp only [show (2 : Int).toNat = 2 from rfl, Nat.reduceMul, Nat.reduceEqDiff, Go.Addr.add, ↓reduceIte] at hx103_0)
                                              have qi103 : (2 < l0.length) = True := eq_true (by omega)
                                              (try rw [show ((2 : Int)).toNat = 2 from rfl] at hx103_0)
                                              replace p103 := eq_true p103
                                              replace q103 := eq_true q103
                                              have p104 : 0 ≤ (3 : Int) := (by omega)
                                              have q104 : 3 < (l0.length : Int) := of_decide_eq_true (by first | (with_reducible assumption) | assumption)
                                              obtain ⟨ad104, e104, hx104_0⟩ := Kd.at_int HR0.out 3 p104 q104
                                              obtain rfl : ad101 = ad104 := (by injection e104)
                                              (try simp only [show (3 : Int).toNat = 3 from rfl, Nat.reduceMul, Nat.reduceEqDiff, Go.Addr.add, ↓reduceIte] at hx104_0)
                                              have qi104 : (3 < l0.length) = True := eq_true (by omega)
                                              (try rw [show ((3 : Int)).toNat = 3 from rfl] at hx104_0)
                                              replace p104 := eq_true p104
                                              replace q104 := eq_true q104
                                              have p105 : 0 ≤ (4 : Int) := (by omega)
                                              have q105 : 4 < (l0.length : Int) := of_decide_eq_true (by first | (with_reducible assumption) | assumption)
                                              obtain ⟨ad105, e105, hx105_0⟩ := Kd.at_int HR0.out 4 p105 q105
                                              obtain rfl : ad101 = ad105 := (by injection e105)
                                              (try simp only [show (4 : Int).toNat = 4 from rfl, Nat.reduceMul, Nat.reduceEqDiff, Go.Addr.add, ↓reduceIte] at hx105_0)
                                              have qi105 : (4 < l0.length) = True := eq_true (by omega)
                                              (try rw [show ((4 : Int)).toNat = 4 from rfl] at hx105_0)
                                              replace p105 := eq_true p105
                                              replace q105 := eq_true q105
                                              have p106 : 0 ≤ (5 : Int) := (by omega)
                                              have q106 : 5 < (l0.length : Int) := of_decide_eq_true (by first | (with_reducible assumption) | assumption)
                                              obtain ⟨ad106, e106, hx106_0⟩ := Kd.at_int HR0.out 5 p106 q106
                                              obtain rfl : ad101 = ad106 := (by injection e106)
                                              (try simp only [show (5 : Int).toNat = 5 from rfl, Nat.reduceMul, Nat.reduceEqDiff, Go.Addr.add, ↓reduceIte] at hx106_0)
                                              have qi106 : (5 < l0.length) = True := eq_true (by omega)
                                              (try rw [show ((5 : Int)).toNat = 5 from rfl] at hx106_0)
                                              replace p106 := eq_true p106
                                              replace q106 := eq_true q106
                                              have p107 : 0 ≤ (6 : Int) := (by omega)
                                              have q107 : 6 < (l0.length : Int) := of_decide_eq_true (by first | (with_reducible assumption) | assumption)
                                              obtain ⟨ad107, e107, hx107_0⟩ := Kd.at_int HR0.out 6 p107 q107
                                              obtain rfl : ad101 = ad107 := (by injection e107)
                                              (try simp only [show (6 : Int).toNat = 6 from rfl, Nat.reduceMul, Nat.reduceEqDiff, Go.Addr.add, ↓reduceIte] at hx107_0)
                                              have qi107 : (6 < l0.length) = True := eq_true (by omega)
                                              (try rw [show ((6 : Int)).toNat = 6 from rfl] at hx107_0)
                                              replace p107 := eq_true p107
                                              replace q107 := eq_true q107
                                              have hgl31 : w.cell? ⟨2, 0, none⟩ = some (.iface (E 2).1 (E 2).2) := (by first | exact GlE.g2 HG.out | exact (HB.out.cell (World.block_lt_of_cell? w _ (GlE.g2 HG.out))).trans (GlE.g2 HG.out) | exact GlE.g2 (by repeat (first | exact HG.out | apply GlE.drewN | apply GlE.drew | apply GlE.alloc)))
                                              go_enter Tryd.func28, Tryd.ntmps28
                                              go_wp2
                                              repeat (go_quiet (fail); try go_wp2)
                                              go_ret3
                                              exact ⟨by first | rfl | (simp; done) | (simp [*]; done), by repeat (first | exact Drawn0.refl _ | apply Drawn0.step)⟩
                                            · rw [if_neg c30] at H
                                              have c30b0 : decide ((l0.length : Int) ≤ 7) = false := decide_eq_false c30
                                              have c30b1 : decide (l0.length ≤ 7) = false := decide_eq_false (by omega)
                                              clear c30
                                              by_cases c32 : 7 < (l0.length : Int)
                                              · rw [if_pos c32] at H
                                                have c32b0 : decide (7 < (l0.length : Int)) = true := decide_eq_true c32
                                                have c32b1 : decide (7 < l0.length) = true := decide_eq_true (by omega)
                                                clear c32
                                                by_cases c33 : (IntKind.u64.wrap (rd l0 7)) < 128
                                                · rw [if_pos c33] at H
                                                  have c33b0 : decide ((IntKind.u64.wrap (rd l0 7)) < 128) = true := decide_eq_true c33
                                                  clear c33
                                                  simp only [Option.some.injEq, Prod.mk.injEq] at H
                                                  obtain ⟨rfl, rfl, rfl⟩ := H
                                                  have p101 : 0 ≤ (0 : Int) := (by omega)
                                                  have q101 : 0 < (l0.length : Int) := of_decide_eq_true (by first | (with_reducible assumption) | assumption)
                                                  obtain ⟨ad101, e101, hx101_0⟩ := Kd.at_int HR0.out 0 p101 q101
                                                  cases e101
                                                  have qi101 : (0 < l0.length) = True := eq_true (by omega)
                                                  (try rw [show ((0 : Int)).toNat = 0 from rfl] at hx101_0)
                                                  (try rw [Addr.add_zero'] at hx101_0)
                                                  replace p101 := eq_true p101
                                                  replace q101 := eq_true q101
                                                  have p102 : 0 ≤ (1 : Int) := (by omega)
                                                  have q102 : 1 < (l0.length : Int) := of_decide_eq_true (by first | (with_reducible assumption) | assumption)
                                                  obtain ⟨ad102, e102, hx102_0⟩ := Kd.at_int HR0.out 1 p102 q102
                                                  obtain rfl : ad101 = ad102 := (by injection e102)
                                                  (try simp only [show (1 : Int).toNat = 1 from rfl, Nat.reduceMul, Nat.reduceEqDiff, Go.Addr.add, ↓reduceIte] at hx102_0)
                                                  have qi102 : (1 < l0.length) = True := eq_true (by omega)
                                                  (try rw [show ((1 : Int)).toNat = 1 from rfl] at hx102_0)
                                                  replace p102 := eq_true p102
                                                  replace q102 := eq_true q102
                                                  have p103 : 0 ≤ (2 : Int) := (by omega)
                                                  have q103 : 2 < (l0.length : Int) := of_decide_eq_true (by first | (with_reducible assumption) | assumption)
                                                  obtain ⟨ad103, e103, hx103_0⟩ := Kd.at_int HR0.out 2 p103 q103
                                                  obtain rfl : ad101 = ad103 := (by injection e103)
                                                  (try simp only [show (2 : Int).toNat = 2 from rfl, Nat.reduceMul, Nat.reduceEqDiff, Go.Addr.add, ↓reduceIte] at hx103_0)
                                                  have qi103 : (2 < l0.length) = True := eq_true (by omega)
                                                  (try rw [show ((2 : Int)).toNat = 2 from rfl] at hx103_0)
                                                  replace p103 := eq_true p103
                                                  replace q103 := eq_true q103
                                                  have p104 : 0 ≤ (3 : Int) := (by omega)
                                                  have q104 : 3 < (l0.length : Int) := of_decide_eq_true (by first | (with_reducible assumption) | assumption)
                                                  obtain ⟨ad104, e104, hx104_0⟩ := Kd.at_int HR0.out 3 p104 q104
                                                  obtain rfl : ad101 = ad104 := (by injection e104)
                                                  (try simp only [show (3 : Int).toNat = 3 from rfl, Nat.reduceMul, Nat.reduceEqDiff, Go.Addr.add, ↓reduceIte] at hx104_0)
                                                  have qi104 : (3 < l0.length) = True := eq_true (by omega)
                                                  (try rw [show ((3 : Int)).toNat = 3 from rfl] at hx104_0)
                                                  replace p104 := eq_true p104
                                                  replace q104 := eq_true q104
                                                  have p105 : 0 ≤ (4 : Int) := (by omega)
                                                  have q105 : 4 < (l0.length : Int) := of_decide_eq_true (by first | (with_reducible assumption) | assumption)
                                                  obtain ⟨ad105, e105, hx105_0⟩ := Kd.at_int HR0.out 4 p105 q105
                                                  obtain rfl : ad101 = ad105 := (by injection e105)
                                                  (try simp only [show (4 : Int).toNat = 4 from rfl, Nat.reduceMul, Nat.reduceEqDiff, Go.Addr.add, ↓reduceIte] at hx105_0)
                                                  have qi105 : (4 < l0.length) = True := eq_true (by omega)
                                                  (try rw [show ((4 : Int)).toNat = 4 from rfl] at hx105_0)
                                                  replace p105 := eq_true p105
                                                  replace q105 := eq_true q105
                                                  have p106 : 0 ≤ (5 : Int) := (by omega)
                                                  have q106 : 5 < (l0.length : Int) := of_decide_eq_true (by first | (with_reducible assumption) | assumption)
                                                  obtain ⟨ad106, e106, hx106_0⟩ := Kd.at_int HR0.out 5 p106 q106
                                                  obtain rfl : ad101 = ad106 := (by injection e106)
                                                  (try simp only [show (5 : Int).toNat = 5 from rfl, Nat.reduceMul, Nat.reduceEqDiff, Go.Addr.add, ↓reduceIte] at hx106_0)
                                                  have qi106 : (5 < l0.length) = True := eq_true (by omega)
                                                  (try rw [show ((5 : Int)).toNat = 5 from rfl] at hx106_0)
                                                  replace p106 := eq_true p106
                                                  replace q106 := eq_true q106
                                                  have p107 : 0 ≤ (6 : Int) := (by omega)
                                                  have q107 : 6 < (l0.length : Int) := of_decide_eq_true (by first | (with_reducible assumption) | assumption)
                                                  obtain ⟨ad107, e107, hx107_0⟩ := Kd.at_int HR0.out 6 p107 q107
                                                  obtain rfl : ad101 = ad107 := (by injection e107)
                                                  (try simp only [show (6 : Int).toNat = 6 from rfl, Nat.reduceMul, Nat.reduceEqDiff, Go.Addr.add, ↓reduceIte] at hx107_0)
                                                  have qi107 : (6 < l0.length) = True := eq_true (by omega)
                                                  (try rw [show ((6 : Int)).toNat = 6 from rfl] at hx107_0)
                                                  replace p107 := eq_true p107
                                                  replace q107 := eq_true q107
                                                  have p108 : 0 ≤ (7 : Int) := (by omega)
                                                  have q108 : 7 < (l0.length : Int) := of_decide_eq_true (by first | (with_reducible assumption) | assumption)
                                                  obtain ⟨ad108, e108, hx108_0⟩ := Kd.at_int HR0.out 7 p108 q108
                                                  obtain rfl : ad101 = ad108 := (by injection e108)
                                                  (try simp only [show (7 : Int).toNat = 7 from rfl, Nat.reduceMul, Nat.reduceEqDiff, Go.Addr.add, ↓reduceIte] at hx108_0)
                                                  have qi108 : (7 < l0.length) = True := eq_true (by omega)
                                                  (try rw [show ((7 : Int)).toNat = 7 from rfl] at hx108_0)
                                                  replace p108 := eq_true p108
                                                  replace q108 := eq_true q108
                                                  go_enter Tryd.func28, Tryd.ntmps28
                                                  go_wp2
                                                  repeat (go_quiet (fail); try go_wp2)
                                                  go_ret3
                                                  exact ⟨by first | rfl | (simp; done) | (simp [*]; done), by repeat (first | exact Drawn0.refl _ | apply Drawn0.step)⟩
                                                · rw [if_neg c33] at H
                                                  have c33b0 : decide ((IntKind.u64.wrap (rd l0 7)) < 128) = false := decide_eq_false c33
                                                  clear c33
                                                  by_cases c34 : (l0.length : Int) ≤ 8
                                                  · rw [if_pos c34] at H
                                                    have c34b0 : decide ((l0.length : Int) ≤ 8) = true := decide_eq_true c34
                                                    have c34b1 : decide (l0.length ≤ 8) = true := decide_eq_true (by omega)
                                                    clear c34
                                                    simp only [Option.some.injEq, Prod.mk.injEq] at H
                                                    obtain ⟨rfl, rfl, rfl⟩ := H
                                                    have p101 : 0 ≤ (0 : Int) := (by omega)
                                                    have q101 : 0 < (l0.length : Int) := of_decide_eq_true (by first | (with_reducible assumption) | assumption)
                                                    obtain ⟨ad101, e101, hx101_0⟩ := Kd.at_int HR0.out 0 p101 q101
                                                    cases e101
                                                    have qi101 : (0 < l0.length) = True := eq_true (by omega)
                                                    (try rw [show ((0 : Int)).toNat = 0 from rfl] at hx101_0)
                                                    (try rw [Addr.add_zero'] at hx101_0)
                                                    replace p101 := eq_true p101
                                                    replace q101 := eq_true q101
                                                    have p102 : 0 ≤ (1 : Int) := (by omega)
                                                    have q102 : 1 < (l0.length : Int) := of_decide_eq_true (by first | (with_reducible assumption) | assumption)
                                                    obtain ⟨ad102, e102, hx102_0⟩ := Kd.at_int HR0.out 1 p102 q102
                                                    obtain rfl : ad101 = ad102 := (by injection e102)
                                                    (try simp only [show (1 : Int).toNat = 1 from rfl, Nat.reduceMul, Nat.reduceEqDiff, Go.Addr.add, ↓reduceIte] at hx102_0)
                                                    have qi102 : (1 < l0.length) = True := eq_true (by omega)
                                                    (try rw [show ((1 : Int)).toNat = 1 from rfl] at hx102_0)
                                                    replace p102 := eq_true p102
                                                    replace q102 := eq_true q102
                                                    have p103 : 0 ≤ (2 : Int) := (by omega)
                                                    have q103 : 2 < (l0.length : Int) := of_decide_eq_true (by first | (with_reducible assumption) | assumption)
                                                    obtain ⟨ad103, e103, hx103_0⟩ := Kd.at_int HR0.out 2 p103 q103
                                                    obtain rfl : ad101 = ad103 := (by injection e103)
                                                    (try simp only [show (2 : Int).toNat = 2 from rfl, Nat.reduceMul, Nat.reduceEqDiff, Go.Addr.add, ↓reduceIte] at hx103_0)
                                                    have qi103 : (2 < l0.length) = True := eq_true (by omega)
                                                    (try rw [show ((2 : Int)).toNat = 2 from rfl] at hx103_0)
                                                    replace p103 := eq_true p103
                                                    replace q103 := eq_true q103
                                                    have p104 : 0 ≤ (3 : Int) := (by omega)
                                                    have q104 : 3 < (l0.length : Int) := of_decide_eq_true (by first | (with_reducible assumption) | assumption)
                                                    obtain ⟨ad104, e104, hx104_0⟩ := Kd.at_int HR0.out 3 p104 q104
                                                    obtain rfl : ad101 = ad104 := (by injection e104)
                                                    (try simp only [show (3 : Int).toNat = 3 from rfl, Nat.reduceMul, Nat.reduceEqDiff, Go.Addr.add, ↓reduceIte] at hx104_0)
                                                    have qi104 : (3 < l0.length) = True := eq_true (by omega)
                                                    (try rw [show ((3 : Int)).toNat = 3 from rfl] at hx104_0)
                                                    replace p104 := eq_true p104
                                                    replace q104 := eq_true q104
                                                    have p105 : 0 ≤ (4 : Int) := (by omega)
                                                    have q105 : 4 < (l0.length : Int) := of_decide_eq_true (by first | (with_reducible assumption) | assumption)
                                                    obtain ⟨ad105, e105, hx105_0⟩ := Kd.at_int HR0.out 4 p105 q105
                                                    obtain rfl : ad101 = ad105 := (by injection e105)
                                                    (try simp only [show (4 : Int).toNat = 4 from rfl, Nat.reduceMul, Nat.reduceEqDiff, Go.Addr.add, ↓reduceIte] at hx105_0)
                                                    have qi105 : (4 < l0.length) = True := eq_true (by omega)
                                                    (try rw [show ((4 : Int)).toNat = 4 from rfl] at hx105_0)
                                                    replace p105 := eq_true p105
                                                    replace q105 := eq_true q105
                                                    have p106 : 0 ≤ (5 : Int) := (by omega)
                                                    have q106 : 5 < (l0.length : Int) := of_decide_eq_true (by first | (with_reducible assumption) | assumption)
                                                    obtain ⟨ad106, e106, hx106_0⟩ := Kd.at_int HR0.out 5 p106 q106
                                                    obtain rfl : ad101 = ad106 := (by injection e106)
                                                    (try simp only [show (5 : Int).toNat = 5 from rfl, Nat.reduceMul, Nat.reduceEqDiff, Go.Addr.add, ↓reduceIte] at hx106_0)
                                                    have qi106 : (5 < l0.length) = True := eq_true (by omega)
                                                    (try rw [show ((5 : Int)).toNat = 5 from rfl] at hx106_0)
                                                    replace p106 := eq_true p106
                                                    replace q106 := eq_true q106
                                                    have p107 : 0 ≤ (6 : Int) := (by omega)
                                                    have q107 : 6 < (l0.length : Int) := of_decide_eq_true (by first | (with_reducible assumption) | assumption)
                                                    obtain ⟨ad107, e107, hx107_0⟩ := Kd.at_int HR0.out 6 p107 q107
                                                    obtain rfl : ad101 = ad107 := (by injection e107)
                                                    (try simp only [show (6 : Int).toNat = 6 from rfl, Nat.reduceMul, Nat.reduceEqDiff, Go.Addr.add, ↓reduceIte] at hx107_0)
                                                    have qi107 : (6 < l0.length) = True := eq_true (by omega)
                                                    (try rw [show ((6 : Int)).toNat = 6 from rfl] at hx107_0)
                                                    replace p107 := eq_true p107
                                                    replace q107 := eq_true q107
                                                    have p108 : 0 ≤ (7 : Int) := (by omega)
                                                    have q108 : 7 < (l0.length : Int) := of_decide_eq_true (by first | (with_reducible assumption) | assumption)
                                                    obtain ⟨ad108, e108, hx108_0⟩ := Kd.at_int HR0.out 7 p108 q108
                                                    obtain rfl : ad101 = ad108 := (by injection e108)
                                                    (try simp only [show (7 : Int).toNat = 7 from rfl, Nat.reduceMul, Nat.reduceEqDiff, Go.Addr.add, ↓reduceIte] at hx108_0)
                                                    have qi108 : (7 < l0.length) = True := eq_true (by omega)
                                                    (try rw [show ((7 : Int)).toNat = 7 from rfl] at hx108_0)
                                                    replace p108 := eq_true p108
                                                    replace q108 := eq_true q108
                                                    have hgl35 : w.cell? ⟨2, 0, none⟩ = some (.iface (E 2).1 (E 2).2) := (by first | exact GlE.g2 HG.out | exact (HB.out.cell (World.block_lt_of_cell? w _ (GlE.g2 HG.out))).trans (GlE.g2 HG.out) | exact GlE.g2 (by repeat (first | exact HG.out | apply GlE.drewN | apply GlE.drew | apply GlE.alloc)))
                                                    go_enter Tryd.func28, Tryd.ntmps28
                                                    go_wp2
                                                    repeat (go_quiet (fail); try go_wp2)
                                                    go_ret3
                                                    exact ⟨by first | rfl | (simp; done) | (simp [*]; done), by repeat (first | exact Drawn0.refl _ | apply Drawn0.step)⟩
                                                  · rw [if_neg c34] at H
                                                    have c34b0 : decide ((l0.length : Int) ≤ 8) = false := decide_eq_false c34
                                                    have c34b1 : decide (l0.length ≤ 8) = false := decide_eq_false (by omega)
                                                    clear c34
                                                    by_cases c36 : 8 < (l0.length : Int)
                                                    · rw [if_pos c36] at H
                                                      have c36b0 : decide (8 < (l0.length : Int)) = true := decide_eq_true c36
                                                      have c36b1 : decide (8 < l0.length) = true := decide_eq_true (by omega)
                                                      clear c36
                                                      by_cases c37 : (IntKind.u64.wrap (rd l0 8)) < 128
                                                      · rw [if_pos c37] at H
                                                        have c37b0 : decide ((IntKind.u64.wrap (rd l0 8)) < 128) = true := decide_eq_true c37
                                                        clear c37
                                                        simp only [Option.some.injEq, Prod.mk.injEq] at H
                                                        obtain ⟨rfl, rfl, rfl⟩ := H
                                                        have p101 : 0 ≤ (0 : Int) := (by omega)
                                                        have q101 : 0 < (l0.length : Int) := of_decide_eq_true (by first | (with_reducible assumption) | assumption)
                                                        obtain ⟨ad101, e101, hx101_0⟩ := Kd.at_int HR0.out 0 p101 q101
                                                        cases e101
                                                        have qi101 : (0 < l0.length) = True := eq_true (by omega)
                                                        (try rw [show ((0 : Int)).toNat = 0 from rfl] at hx101_0)
                                                        (try rw [Addr.add_zero'] at hx101_0)
                                                        replace p101 := eq_true p101
                                                        replace q101 := eq_true q101
                                                        have p102 : 0 ≤ (1 : Int) := (by omega)
                                                        have q102 : 1 < (l0.length : Int) := of_decide_eq_true (by first | (with_reducible assumption) | assumption)
                                                        obtain ⟨ad102, e102, hx102_0⟩ := Kd.at_int HR0.out 1 p102 q102
                                                        obtain rfl : ad101 = ad102 := (by injection e102)
                                                        (try simp only [show (1 : Int).toNat = 1 from rfl, Nat.reduceMul, Nat.reduceEqDiff, Go.Addr.add, ↓reduceIte] at hx102_0)
                                                        have qi102 : (1 < l0.length) = True := eq_true (by omega)
                                                        (try rw [show ((1 : Int)).toNat = 1 from rfl] at hx102_0)
                                                        replace p102 := eq_true p102
                                                        replace q102 := eq_true q102
                                                        have p103 : 0 ≤ (2 : Int) := (by omega)
                                                        have q103 : 2 < (l0.length : Int) := of_decide_eq_true (by first | (with_reducible assumption) | assumption)
                                                        obtain ⟨ad103, e103, hx103_0⟩ := Kd.at_int HR0.out 2 p103 q103
                                                        obtain rfl : ad101 = ad103 := (by injection e103)
                                                        (try simp only [show (2 : Int).toNat = 2 from rfl, Nat.reduceMul, Nat.reduceEqDiff, Go.Addr.add, ↓reduceIte] at hx103_0)
                                                        have qi103 : (2 < l0.length) = True := eq_true (by omega)
                                                        (try rw [show ((2 : Int)).toNat = 2 from rfl] at hx103_0)
                                                        replace p103 := eq_true p103
                                                        replace q103 := eq_true q103
                                                        have p104 : 0 ≤ (3 : Int) := (by omega)
                                                        have q104 : 3 < (l0.length : Int) := of_decide_eq_true (by first | (with_reducible assumption) | assumption)
                                                        obtain ⟨ad104, e104, hx104_0⟩ := Kd.at_int HR0.out 3 p104 q104
                                                        obtain rfl : ad101 = ad104 := (by injection e104)
                                                        (try simp only [show (3 : Int).toNat = 3 from rfl, Nat.reduceMul, Nat.reduceEqDiff, Go.Addr.add, ↓reduceIte] at hx104_0)
                                                        have qi104 : (3 < l0.length) = True := eq_true (by omega)
                                                        (try rw [show ((3 : Int)).toNat = 3 from rfl] at hx104_0)
                                                        replace p104 := eq_true p104
                                                        replace q104 := eq_true q104
                                                        have p105 : 0 ≤ (4 : Int) := (by omega)
                                                        have q105 : 4 < (l0.length : Int) := of_decide_eq_true (by first | (with_reducible assumption) | assumption)
                                                        obtain ⟨ad105, e105, hx105_0⟩ := Kd.at_int HR0.out 4 p105 q105
                                                        obtain rfl : ad101 = ad105 := (by injection e105)
                                                        (try simp only [show (4 : Int).toNat = 4 from rfl, Nat.reduceMul, Nat.reduceEqDiff, Go.Addr.add, ↓reduceIte] at hx105_0)
                                                        have qi105 : (4 < l0.length) = True := eq_true (by omega)
                                                        (try rw [show ((4 : Int)).toNat = 4 from rfl] at hx105_0)
                                                        replace p105 := eq_true p105
                                                        replace q105 := eq_true q105
                                                        have p106 : 0 ≤ (5 : Int) := (by omega)
                                                        have q106 : 5 < (l0.length : Int) := of_decide_eq_true (by first | (with_reducible assumption) | assumption)
                                                        obtain ⟨ad106, e106, hx106_0⟩ := Kd.at_int HR0.out 5 p106 q106
                                                        obtain rfl : ad101 = ad106 := (by injection e106)
                                                        (try simp only [show (5 : Int).toNat = 5 from rfl, Nat.reduceMul, Nat.reduceEqDiff, Go.Addr.add, ↓reduceIte] at hx106_0)
                                                        have qi106 : (5 < l0.length) = True := eq_true (by omega)
                                                        (try rw [show ((5 : Int)).toNat = 5 from rfl] at hx106_0)
                                                        replace p106 := eq_true p106
                                                        replace q106 := eq_true q106
                                                        have p107 : 0 ≤ (6 : Int) := (by omega)
                                                        have q107 : 6 < (l0.length : Int) := of_decide_eq_true (by first | (with_reducible assumption) | assumption)
                                                        obtain ⟨ad107, e107, hx107_0⟩ := Kd.at_int HR0.out 6 p107 q107
                                                        obtain rfl : ad101 = ad107 := (by injection e107)
                                                        (try simp only [show (6 : Int).toNat = 6 from rfl, Nat.reduceMul, Nat.reduceEqDiff, Go.Addr.add, ↓reduceIte] at hx107_0)
                                                        have qi107 : (6 < l0.length) = True := eq_true (by omega)
                                                        (try rw [show ((6 : Int)).toNat = 6 from rfl] at hx107_0)
                                                        replace p107 := eq_true p107
                                                        replace q107 := eq_true q107
                                                        have p108 : 0 ≤ (7 : Int) := (by omega)
                                                        have q108 : 7 < (l0.length : Int) := of_decide_eq_true (by first | (with_reducible assumption) | assumption)
                                                        obtain ⟨ad108, e108, hx108_0⟩ := Kd.at_int HR0.out 7 p108 q108
                                                        obtain rfl : ad101 = ad108 := (by injection e108)
                                                        (try simp only [show (7 : Int).toNat = 7 from rfl, Nat.reduceMul, Nat.reduceEqDiff, Go.Addr.add, ↓reduceIte] at hx108_0)
                                                        have qi108 : (7 < l0.length) = True := eq_true (by omega)
                                                        (try rw [show ((7 : Int)).toNat = 7 from rfl] at hx108_0)
                                                        replace p108 := eq_true p108
                                                        replace q108 := eq_true q108
                                                        have p109 : 0 ≤ (8 : Int) := (by omega)
                                                        have q109 : 8 < (l0.length : Int) := of_decide_eq_true (by first | (with_reducible assumption) | assumption)
                                                        obtain ⟨ad109, e109, hx109_0⟩ := Kd.at_int HR0.out 8 p109 q109
                                                        obtain rfl : ad101 = ad109 := (by injection e109)
                                                        (try simp only [show (8 : Int).toNat = 8 from rfl, Nat.reduceMul, Nat.reduceEqDiff, Go.Addr.add, ↓reduceIte] at hx109_0)
                                                        have qi109 : (8 < l0.length) = True := eq_true (by omega)
                                                        (try rw [show ((8 : Int)).toNat = 8 from rfl] at hx109_0)
                                                        replace p109 := eq_true p109
                                                        replace q109 := eq_true q109
                                                        go_enter Tryd.func28, Tryd.ntmps28
                                                        go_wp2
                                                        repeat (go_quiet (fail); try go_wp2)
                                                        go_ret3
                                                        exact ⟨by first | rfl | (simp; done) | (simp [*]; done), by repeat (first | exact Drawn0.refl _ | apply Drawn0.step)⟩
                                                      · rw [if_neg c37] at H
                                                        have c37b0 : decide ((IntKind.u64.wrap (rd l0 8)) < 128) = false := decide_eq_false c37
                                                        clear c37
                                                        by_cases c38 : (l0.length : Int) ≤ 9
                                                        · rw [if_pos c38] at H
                                                          have c38b0 : decide ((l0.length : Int) ≤ 9) = true := decide_eq_true c38
                                                          have c38b1 : decide (l0.length ≤ 9) = true := decide_eq_true (by omega)
                                                          clear c38
                                                          simp only [Option.some.injEq, Prod.mk.injEq] at H
                                                          obtain ⟨rfl, rfl, rfl⟩ := H
                                                          have p101 : 0 ≤ (0 : Int) := (by omega)
                                                          have q101 : 0 < (l0.length : Int) := of_decide_eq_true (by first | (with_reducible assumption) | assumption)
                                                          obtain ⟨ad101, e101, hx101_0⟩ := Kd.at_int HR0.out 0 p101 q101
                                                          cases e101
                                                          have qi101 : (0 < l0.length) = True := eq_true (by omega)
                                                          (try rw [show ((0 : Int)).toNat = 0 from rfl] at hx101_0)
                                                          (try rw [Addr.add_zero'] at hx101_0)
                                                          replace p101 := eq_true p101
                                                          replace q101 := eq_true q101
                                                          have p102 : 0 ≤ (1 : Int) := (by omega)
                                                          have q102 : 1 < (l0.length : Int) := of_decide_eq_true (by first | (with_reducible assumption) | assumption)
                                                          obtain ⟨ad102, e102, hx102_0⟩ := Kd.at_int HR0.out 1 p102 q102
                                                          obtain rfl : ad101 = ad102 := (by injection e102)
                                                          (try simp only [show (1 : Int).toNat = 1 from rfl, Nat.reduceMul, Nat.reduceEqDiff, Go.Addr.add, ↓reduceIte] at hx102_0)
                                                          have qi102 : (1 < l0.length) = True := eq_true (by omega)
                                                          (try rw [show ((1 : Int)).toNat = 1 from rfl] at hx102_0)
                                                          replace p102 := eq_true p102
                                                          replace q102 := eq_true q102
                                                          have p103 : 0 ≤ (2 : Int) := (by omega)
                                                          have q103 : 2 < (l0.length : Int) := of_decide_eq_true (by first | (with_reducible assumption) | assumption)
                                                          obtain ⟨ad103, e103, hx103_0⟩ := Kd.at_int HR0.out 2 p103 q103
                                                          obtain rfl : ad101 = ad103 := (by injection e103)
                                                          (try simp only [show (2 : Int).toNat = 2 from rfl, Nat.reduceMul, Nat.reduceEqDiff, Go.Addr.add, ↓reduceIte] at hx103_0)
                                                          have qi103 : (2 < l0.length) = True := eq_true (by omega)
                                                          (try rw [show ((2 : Int)).toNat = 2 from rfl] at hx103_0)
                                                          replace p103 := eq_true p103
                                                          replace q103 := eq_true q103
                                                          have p104 : 0 ≤ (3 : Int) := (by omega)
                                                          have q104 : 3 < (l0.length : Int) := of_decide_eq_true (by first | (with_reducible assumption) | assumption)
                                                          obtain ⟨ad104, e104, hx104_0⟩ := Kd.at_int HR0.out 3 p104 q104
                                                          obtain rfl : ad101 = ad104 := (by injection e104)
                                                          (try simp only [show (3 : Int).toNat = 3 from rfl, Nat.reduceMul, Nat.reduceEqDiff, Go.Addr.add, ↓reduceIte] at hx104_0)
                                                          have qi104 : (3 < l0.length) = True := eq_true (by omega)
                                                          (try rw [show ((3 : Int)).toNat = 3 from rfl] at hx104_0)
                                                          replace p104 := eq_true p104
                                                          replace q104 := eq_true q104
                                                          have p105 : 0 ≤ (4 : Int) := (by omega)
                                                          have q105 : 4 < (l0.length : Int) := of_decide_eq_true (by first | (with_reducible assumption) | assumption)
                                                          obtain ⟨ad105, e105, hx105_0⟩ := Kd.at_int HR0.out 4 p105 q105
                                                          obtain rfl : ad101 = ad105 := (by injection e105)
                                                          (try simp only [show (4 : Int).toNat = 4 from rfl, Nat.reduceMul, Nat.reduceEqDiff, Go.Addr.add, ↓reduceIte] at hx105_0)
                                                          have qi105 : (4 < l0.length) = True := eq_true (by omega)
                                                          (try rw [show ((4 : Int)).toNat = 4 from rfl] at hx105_0)
                                                          replace p105 := eq_true p105
                                                          replace q105 := eq_true q105
                                                          have p106 : 0 ≤ (5 : Int) := (by omega)
                                                          have q106 : 5 < (l0.length : Int) := of_decide_eq_true (by first | (with_reducible assumption) | assumption)
                                                          obtain ⟨ad106, e106, hx106_0⟩ := Kd.at_int HR0.out 5 p106 q106
                                                          obtain rfl : ad101 = ad106 := (by injection e106)
                                                          (try simp only [show (5 : Int).toNat = 5 from rfl, Nat.reduceMul, Nat.reduceEqDiff, Go.Addr.add, ↓reduceIte] at hx106_0)
                                                          have qi106 : (5 < l0.length) = True := eq_true (by omega)
                                                          (try rw [show ((5 : Int)).toNat = 5 from rfl] at hx106_0)
                                                          replace p106 := eq_true p106
                                                          replace q106 := eq_true q106
                                                          have p107 : 0 ≤ (6 : Int) := (by omega)
                                                          have q107 : 6 < (l0.length : Int) := of_decide_eq_true (by first | (with_reducible assumption) | assumption)
                                                          obtain ⟨ad107, e107, hx107_0⟩ := Kd.at_int HR0.out 6 p107 q107
                                                          obtain rfl : ad101 = ad107 := (by injection e107)
                                                          (try simp only [show (6 : Int).toNat = 6 from rfl, Nat.reduceMul, Nat.reduceEqDiff, Go.Addr.add, ↓reduceIte] at hx107_0)
                                                          have qi107 : (6 < l0.length) = True := eq_true (by omega)
                                                          (try rw [show ((6 : Int)).toNat = 6 from rfl] at hx107_0)
                                                          replace p107 := eq_true p107
                                                          replace q107 := eq_true q107
                                                          have p108 : 0 ≤ (7 : Int) := (by omega)
                                                          have q108 : 7 < (l0.length : Int) := of_decide_eq_true (by first | (with_reducible assumption) | assumption)
                                                          obtain ⟨ad108, e108, hx108_0⟩ := Kd.at_int HR0.out 7 p108 q108
                                                          obtain rfl : ad101 = ad108 := (by injection e108)
                                                          (try simp only [show (7 : Int).toNat = 7 from rfl, Nat.reduceMul, Nat.reduceEqDiff, Go.Addr.add, ↓reduceIte] at hx108_0)
                                                          have qi108 : (7 < l0.length) = True := eq_true (by omega)
                                                          (try rw [show ((7 : Int)).toNat = 7 from rfl] at hx108_0)
                                                          replace p108 := eq_true p108
                                                          replace q108 := eq_true q108
                                                          have p109 : 0 ≤ (8 : Int) := (by omega)
                                                          have q109 : 8 < (l0.length : Int) := of_decide_eq_true (by first | (with_reducible assumption) | assumption)
                                                          obtain ⟨ad109, e109, hx109_0⟩ := Kd.at_int HR0.out 8 p109 q109
                                                          obtain rfl : ad101 = ad109 := (by injection e109)
                                                          (try simp only [show (8 : Int).toNat = 8 from rfl, Nat.reduceMul, Nat.reduceEqDiff, Go.Addr.add, ↓reduceIte] at hx109_0)
                                                          have qi109 : (8 < l0.length) = True := eq_true (by omega)
                                                          (try rw [show ((8 : Int)).toNat = 8 from rfl] at hx109_0)
                                                          replace p109 := eq_true p109
                                                          replace q109 := eq_true q109
                                                          have hgl39 : w.cell? ⟨2, 0, none⟩ = some (.iface (E 2).1 (E 2).2) := (by first | exact GlE.g2 HG.out | exact (HB.out.cell (World.block_lt_of_cell? w _ (GlE.g2 HG.out))).trans (GlE.g2 HG.out) | exact GlE.g2 (by repeat (first | exact HG.out | apply GlE.drewN | apply GlE.drew | apply GlE.alloc)))
                                                          go_enter Tryd.func28, Tryd.ntmps28
                                                          go_wp2
                                                          repeat (go_quiet (fail); try go_wp2)
                                                          go_ret3
                                                          exact ⟨by first | rfl | (simp; done) | (simp [*]; done), by repeat (first | exact Drawn0.refl _ | apply Drawn0.step)⟩
                                                        · rw [if_neg c38] at H
                                                          have c38b0 : decide ((l0.length : Int) ≤ 9) = false := decide_eq_false c38
                                                          have c38b1 : decide (l0.length ≤ 9) = false := decide_eq_false (by omega)
                                                          clear c38
                                                          by_cases c40 : 9 < (l0.length : Int)
                                                          · rw [if_pos c40] at H
                                                            have c40b0 : decide (9 < (l0.length : Int)) = true := decide_eq_true c40
                                                            have c40b1 : decide (9 < l0.length) = true := decide_eq_true (by omega)
                                                            clear c40
                                                            by_cases c41 : (IntKind.u64.wrap (rd l0 9)) < 2
                                                            · rw [if_pos c41] at H
                                                              have c41b0 : decide ((IntKind.u64.wrap (rd l0 9)) < 2) = true := decide_eq_true c41
                                                              clear c41
                                                              simp only [Option.some.injEq, Prod.mk.injEq] at H
                                                              obtain ⟨rfl, rfl, rfl⟩ := H
                                                              have p101 : 0 ≤ (0 : Int) := (by omega)
                                                              have q101 : 0 < (l0.length : Int) := of_decide_eq_true (by first | (with_reducible assumption) | assumption)
                                                              obtain ⟨ad101, e101, hx101_0⟩ := Kd.at_int HR0.out 0 p101 q101
                                                              cases e101
                                                              have qi101 : (0 < l0.length) = True := eq_true (by omega)
                                                              (try rw [show ((0 : Int)).toNat = 0 from rfl] at hx101_0)
                                                              (try rw [Addr.add_zero'] at hx101_0)
                                                              replace p101 := eq_true p101
                                                              replace q101 := eq_true q101
                                                              have p102 : 0 ≤ (1 : Int) := (by omega)
                                                              have q102 : 1 < (l0.length : Int) := of_decide_eq_true (by first | (with_reducible assumption) | assumption)
                                                              obtain ⟨ad102, e102, hx102_0⟩ := Kd.at_int HR0.out 1 p102 q102
                                                              obtain rfl : ad101 = ad102 := (by injection e102)
                                                              (try simp only [show (1 : Int).toNat = 1 from rfl, Nat.reduceMul, Nat.reduceEqDiff, Go.Addr.add, ↓reduceIte] at hx102_0)
                                                              have qi102 : (1 < l0.length) = True := eq_true (by omega)
                                                              (try rw [show ((1 : Int)).toNat = 1 from rfl] at hx102_0)
                                                              replace p102 := eq_true p102
                                                              replace q102 := eq_true q102
                                                              have p103 : 0 ≤ (2 : Int) := (by omega)
                                                              have q103 : 2 < (l0.length : Int) := of_decide_eq_true (by first | (with_reducible assumption) | assumption)
                                                              obtain ⟨ad103, e103, hx103_0⟩ := Kd.at_int HR0.out 2 p103 q103
                                                              obtain rfl : ad101 = ad103 := (by injection e103)
                                                              (try simp only [show (2 : Int).toNat = 2 from rfl, Nat.reduceMul, Nat.reduceEqDiff, Go.Addr.add, ↓reduceIte] at hx103_0)
                                                              have qi103 : (2 < l0.length) = True := eq_true (by omega)
                                                              (try rw [show ((2 : Int)).toNat = 2 from rfl] at hx103_0)
                                                              replace p103 := eq_true p103
                                                              replace q103 := eq_true q103
                                                              have p104 : 0 ≤ (3 : Int) := (by omega)
                                                              have q104 : 3 < (l0.length : Int) := of_decide_eq_true (by first | (with_reducible assumption) | assumption)
                                                              obtain ⟨ad104, e104, hx104_0⟩ := Kd.at_int HR0.out 3 p104 q104
                                                              obtain rfl : ad101 = ad104 := (by injection e104)
                                                              (try simp only [show (3 : Int).toNat = 3 from rfl, Nat.reduceMul, Nat.reduceEqDiff, Go.Addr.add, ↓reduceIte] at hx104_0)
                                                              have qi104 : (3 < l0.length) = True := eq_true (by omega)
                                                              (try rw [show ((3 : Int)).toNat = 3 from rfl] at hx104_0)
                                                              replace p104 := eq_true p104
                                                              replace q104 := eq_true q104
                                                              have p105 : 0 ≤ (4 : Int) := (by omega)
                                                              have q105 : 4 < (l0.length : Int) := of_decide_eq_true (by first | (with_reducible assumption) | assumption)
                                                              obtain ⟨ad105, e105, hx105_0⟩ := Kd.at_int HR0.out 4 p105 q105
                                                              obtain rfl : ad101 = ad105 := (by injection e105)
                                                              (try simp only [show (4 : Int).toNat = 4 from rfl, Nat.reduceMul, Nat.reduceEqDiff, Go.Addr.add, ↓reduceIte] at hx105_0)
                                                              have qi105 : (4 < l0.length) = True := eq_true (by omega)
                                                              (try rw [show ((4 : Int)).toNat = 4 from rfl] at hx105_0)
                                                              replace p105 := eq_true p105
                                                              replace q105 := eq_true q105
                                                              have p106 : 0 ≤ (5 : Int) := (by omega)
                                                              have q106 : 5 < (l0.length : Int) := of_decide_eq_true (by first | (with_reducible assumption) | assumption)
                                                              obtain ⟨ad106, e106, hx106_0⟩ := Kd.at_int HR0.out 5 p106 q106
                                                              obtain rfl : ad101 = ad106 := (by injection e106)
                                                              (try simp only [show (5 : Int).toNat = 5 from rfl, Nat.reduceMul, Nat.reduceEqDiff, Go.Addr.add, ↓reduceIte] at hx106_0)
                                                              have qi106 : (5 < l0.length) = True := eq_true (by omega)
                                                              (try rw [show ((5 : Int)).toNat = 5 from rfl] at hx106_0)
                                                              replace p106 := eq_true p106
                                                              replace q106 := eq_true q106
                                                              have p107 : 0 ≤ (6 : Int) := (by omega)
                                                              have q107 : 6 < (l0.length : Int) := of_decide_eq_true (by first | (with_reducible assumption) | assumption)
                                                              obtain ⟨ad107, e107, hx107_0⟩ := Kd.at_int HR0.out 6 p107 q107
                                                              obtain rfl : ad101 = ad107 := (by injection e107)
                                                              (try simp only [show (6 : Int).toNat = 6 from rfl, Nat.reduceMul, Nat.reduceEqDiff, Go.Addr.add, ↓reduceIte] at hx107_0)
                                                              have qi107 : (6 < l0.length) = True := eq_true (by omega)
                                                              (try rw [show ((6 : Int)).toNat = 6 from rfl] at hx107_0)
                                                              replace p107 := eq_true p107
                                                              replace q107 := eq_true q107
                                                              have p108 : 0 ≤ (7 : Int) := (by omega)
                                                              have q108 : 7 < (l0.length : Int) := of_decide_eq_true (by first | (with_reducible assumption) | assumption)
                                                              obtain ⟨ad108, e108, hx108_0⟩ := Kd.at_int HR0.out 7 p108 q108
                                                              obtain rfl : ad101 = ad108 := (by injection e108)
                                                              (try simp only [show (7 : Int).toNat = 7 from rfl, Nat.reduceMul, Nat.reduceEqDiff, Go.Addr.add, ↓reduceIte] at hx108_0)
                                                              have qi108 : (7 < l0.length) = True := eq_true (by omega)
                                                              (try rw [show ((7 : Int)).toNat = 7 from rfl] at hx108_0)
                                                              replace p108 := eq_true p108
                                                              replace q108 := eq_true q108
                                                              have p109 : 0 ≤ (8 : Int) := (by omega)
                                                              have q109 : 8 < (l0.length : Int) := of_decide_eq_true (by first | (with_reducible assumption) | assumption)
                                                              obtain ⟨ad109, e109, hx109_0⟩ := Kd.at_int HR0.out 8 p109 q109
                                                              obtain rfl : ad101 = ad109 := (by injection e109)
                                                              (try simp only [show (8 : Int).toNat = 8 from rfl, Nat.reduceMul, Nat.reduceEqDiff, Go.Addr.add, ↓reduceIte] at hx109_0)
                                                              have qi109 : (8 < l0.length) = True := eq_true (by omega)
                                                              (try rw [show ((8 : Int)).toNat = 8 from rfl] at hx109_0)
                                                              replace p109 := eq_true p109
                                                              replace q109 := eq_true q109
                                                              have p110 : 0 ≤ (9 : Int) := (by omega)
                                                              have q110 : 9 < (l0.length : Int) := of_decide_eq_true (by first | (with_reducible assumption) | assumption)
                                                              obtain ⟨ad110, e110, hx110_0⟩ := Kd.at_int HR0.out 9 p110 q110
                                                              obtain rfl : ad101 = ad110 := (by injection e110)
                                                              (try simp only [show (9 : Int).toNat = 9 from rfl, Nat.reduceMul, Nat.reduceEqDiff, Go.Addr.add, ↓reduceIte] at hx110_0)
                                                              have qi110 : (9 < l0.length) = True := eq_true (by omega)
                                                              (try rw [show ((9 : Int)).toNat = 9 from rfl] at hx110_0)
                                                              replace p110 := eq_true p110
                                                              replace q110 := eq_true q110
                                                              go_enter Tryd.func28, Tryd.ntmps28
                                                              go_wp2
                                                              repeat (go_quiet (fail); try go_wp2)
                                                              go_ret3
                                                              exact ⟨by first | rfl | (simp; done) | (simp [*]; done), by repeat (first | exact Drawn0.refl _ | apply Drawn0.step)⟩
                                                            · rw [if_neg c41] at H
                                                              have c41b0 : decide ((IntKind.u64.wrap (rd l0 9)) < 2) = false := decide_eq_false c41
                                                              clear c41
                                                              simp only [Option.some.injEq, Prod.mk.injEq] at H
                                                              obtain ⟨rfl, rfl, rfl⟩ := H
                                                              have p101 : 0 ≤ (0 : Int) := (by omega)
                                                              have q101 : 0 < (l0.length : Int) := of_decide_eq_true (by first | (with_reducible assumption) | assumption)
                                                              obtain ⟨ad101, e101, hx101_0⟩ := Kd.at_int HR0.out 0 p101 q101
                                                              cases e101
                                                              have qi101 : (0 < l0.length) = True := eq_true (by omega)
                                                              (try rw [show ((0 : Int)).toNat = 0 from rfl] at hx101_0)
                                                              (try rw [Addr.add_zero'] at hx101_0)
                                                              replace p101 := eq_true p101
                                                              replace q101 := eq_true q101
                                                              have p102 : 0 ≤ (1 : Int) := (by omega)
                                                              have q102 : 1 < (l0.length : Int) := of_decide_eq_true (by first | (with_reducible assumption) | assumption)
                                                              obtain ⟨ad102, e102, hx102_0⟩ := Kd.at_int HR0.out 1 p102 q102
                                                              obtain rfl : ad101 = ad102 := (by injection e102)
                                                              (try simp only [show (1 : Int).toNat = 1 from rfl, Nat.reduceMul, Nat.reduceEqDiff, Go.Addr.add, ↓reduceIte] at hx102_0)
                                                              have qi102 : (1 < l0.length) = True := eq_true (by omega)
                                                              (try rw [show ((1 : Int)).toNat = 1 from rfl] at hx102_0)
                                                              replace p102 := eq_true p102
                                                              replace q102 := eq_true q102
                                                              have p103 : 0 ≤ (2 : Int) := (by omega)
                                                              have q103 : 2 < (l0.length : Int) := of_decide_eq_true (by first | (with_reducible assumption) | assumption)
                                                              obtain ⟨ad103, e103, hx103_0⟩ := Kd.at_int HR0.out 2 p103 q103
                                                              obtain rfl : ad101 = ad103 := (by injection e103)
                                                              (try simp only [show (2 : Int).toNat = 2 from rfl, Nat.reduceMul, Nat.reduceEqDiff, Go.Addr.add, ↓reduceIte] at hx103_0)
                                                              have qi103 : (2 < l0.length) = True := eq_true (by omega)
                                                              (try rw [show ((2 : Int)).toNat = 2 from rfl] at hx103_0)
                                                              replace p103 := eq_true p103
                                                              replace q103 := eq_true q103
                                                              have p104 : 0 ≤ (3 : Int) := (by omega)
                                                              have q104 : 3 < (l0.length : Int) := of_decide_eq_true (by first | (with_reducible assumption) | assumption)
                                                              obtain ⟨ad104, e104, hx104_0⟩ := Kd.at_int HR0.out 3 p104 q104
                                                              obtain rfl : ad101 = ad104 := (by injection e104)
                                                              (try simp only [show (3 : Int).toNat = 3 from rfl, Nat.reduceMul, Nat.reduceEqDiff, Go.Addr.add, ↓reduceIte] at hx104_0)
                                                              have qi104 : (3 < l0.length) = True := eq_true (by omega)
                                                              (try rw [show ((3 : Int)).toNat = 3 from rfl] at hx104_0)
                                                              replace p104 := eq_true p104
                                                              replace q104 := eq_true q104
                                                              have p105 : 0 ≤ (4 : Int) := (by omega)
                                                              have q105 : 4 < (l0.length : Int) := of_decide_eq_true (by first | (with_reducible assumption) | assumption)
                                                              obtain ⟨ad105, e105, hx105_0⟩ := Kd.at_int HR0.out 4 p105 q105
                                                              obtain rfl : ad101 = ad105 := (by injection e105)
                                                              (try simp only [show (4 : Int).toNat = 4 from rfl, Nat.reduceMul, Nat.reduceEqDiff, Go.Addr.add, ↓reduceIte] at hx105_0)
                                                              have qi105 : (4 < l0.length) = True := eq_true (by omega)
                                                              (try rw [show ((4 : Int)).toNat = 4 from rfl] at hx105_0)
                                                              replace p105 := eq_true p105
                                                              replace q105 := eq_true q105
                                                              have p106 : 0 ≤ (5 : Int) := (by omega)
                                                              have q106 : 5 < (l0.length : Int) := of_decide_eq_true (by first | (with_reducible assumption) | assumption)
                                                              obtain ⟨ad106, e106, hx106_0⟩ := Kd.at_int HR0.out 5 p106 q106
                                                              obtain rfl : ad101 = ad106 := (by injection e106)
                                                              (try simp only [show (5 : Int).toNat = 5 from rfl, Nat.reduceMul, Nat.reduceEqDiff, Go.Addr.add, ↓reduceIte] at hx106_0)
                                                              have qi106 : (5 < l0.length) = True := eq_true (by omega)
                                                              (try rw [show ((5 : Int)).toNat = 5 from rfl] at hx106_0)
                                                              replace p106 := eq_true p106
                                                              replace q106 := eq_true q106
                                                              have p107 : 0 ≤ (6 : Int) := (by omega)
                                                              have q107 : 6 < (l0.length : Int) := of_decide_eq_true (by first | (with_reducible assumption) | assumption)
                                                              obtain ⟨ad107, e107, hx107_0⟩ := Kd.at_int HR0.out 6 p107 q107
                                                              obtain rfl : ad101 = ad107 := (by injection e107)
                                                              (try simp only [show (6 : Int).toNat = 6 from rfl, Nat.reduceMul, Nat.reduceEqDiff, Go.Addr.add, ↓reduceIte] at hx107_0)
                                                              have qi107 : (6 < l0.length) = True := eq_true (by omega)
                                                              (try rw [show ((6 : Int)).toNat = 6 from rfl] at hx107_0)
                                                              replace p107 := eq_true p107
                                                              replace q107 := eq_true q107
                                                              have p108 : 0 ≤ (7 : Int) := (by omega)
                                                              have q108 : 7 < (l0.length : Int) := of_decide_eq_true (by first | (with_reducible assumption) | assumption)
                                                              obtain ⟨ad108, e108, hx108_0⟩ := Kd.at_int HR0.out 7 p108 q108
                                                              obtain rfl : ad101 = ad108 := (by injection e108)
                                                              (try simp only [show (7 : Int).toNat = 7 from rfl, Nat.reduceMul, Nat.reduceEqDiff, Go.Addr.add, ↓reduceIte] at hx108_0)
                                                              have qi108 : (7 < l0.length) = True := eq_true (by omega)
                                                              (try rw [show ((7 : Int)).toNat = 7 from rfl] at hx108_0)
                                                              replace p108 := eq_true p108
                                                              replace q108 := eq_true q108
                                                              have p109 : 0 ≤ (8 : Int) := (by omega)
                                                              have q109 : 8 < (l0.length : Int) := of_decide_eq_true (by first | (with_reducible assumption) | assumption)
                                                              obtain ⟨ad109, e109, hx109_0⟩ := Kd.at_int HR0.out 8 p109 q109
                                                              obtain rfl : ad101 = ad109 := (by injection e109)
                                                              (try simp only [show (8 : Int).toNat = 8 from rfl, Nat.reduceMul, Nat.reduceEqDiff, Go.Addr.add, ↓reduceIte] at hx109_0)
                                                              have qi109 : (8 < l0.length) = True := eq_true (by omega)
                                                              (try rw [show ((8 : Int)).toNat = 8 from rfl] at hx109_0)
                                                              replace p109 := eq_true p109
                                                              replace q109 := eq_true q109
                                                              have p110 : 0 ≤ (9 : Int) := (by omega)
                                                              have q110 : 9 < (l0.length : Int) := of_decide_eq_true (by first | (with_reducible assumption) | assumption)
                                                              obtain ⟨ad110, e110, hx110_0⟩ := Kd.at_int HR0.out 9 p110 q110
                                                              obtain rfl : ad101 = ad110 := (by injection e110)
                                                              (try simp only [show (9 : Int).toNat = 9 from rfl, Nat.reduceMul, Nat.reduceEqDiff, Go.Addr.add, ↓reduceIte] at hx110_0)
                                                              have qi110 : (9 < l0.length) = True := eq_true (by omega)
                                                              (try rw [show ((9 : Int)).toNat = 9 from rfl] at hx110_0)
                                                              replace p110 := eq_true p110
                                                              replace q110 := eq_true q110
                                                              have hgl42 : w.cell? ⟨3, 0, none⟩ = some (.iface (E 3).1 (E 3).2) := (by first | exact GlE.g3 HG.out | exact (HB.out.cell (World.block_lt_of_cell? w _ (GlE.g3 HG.out))).trans (GlE.g3 HG.out) | exact GlE.g3 (by repeat (first | exact HG.out | apply GlE.drewN | apply GlE.drew | apply GlE.alloc)))
                                                              go_enter Tryd.func28, Tryd.ntmps28
                                                              go_wp2
                                                              repeat (go_quiet (fail); try go_wp2)
                                                              go_ret3
                                                              exact ⟨by first | rfl | (simp; done) | (simp [*]; done), by repeat (first | exact Drawn0.refl _ | apply Drawn0.step)⟩
                                                          · rw [if_neg c40] at H
                                                            exact absurd H (by simp)
                                                    · rw [if_neg c36] at H
                                                      exact absurd H (by simp)
                                              · rw [if_neg c32] at H
                                                exact absurd H (by simp)
                                        · rw [if_neg c28] at H
                                          exact absurd H (by simp)
                                  · rw [if_neg c24] at H
                                    exact absurd H (by simp)
                            · rw [if_neg c20] at H
                              exact absurd H (by simp)
                      · rw [if_neg c16] at H
                        exact absurd H (by simp)
                · rw [if_neg c12] at H
                  exact absurd H (by simp)
          · rw [if_neg c8] at H
            exact absurd H (by simp)
    · rw [if_neg c4] at H
      exact absurd H (by simp)

end Go.Proofs.YtnkioieocjgekaaDoor.GFnProtoField
