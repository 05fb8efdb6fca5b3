/- A walk of Go functions (plain functions of theirs, and that the machine's calls do what these say), written by a program of this session's. -/
import Derived.Test.YtoopmpjgmgffoaaDoorProg
import Derived.Below
import Derived.Deep.Draws
import Derived.Deep.AppendLies
import Derived.Maps.AppendAt
import Derived.OwnWalk
import Derived.Laws.BytesArg
import Derived.Laws.MakeOwn
import Derived.Laws.OwnMore
import Derived.Deep.OwnRows
import Derived.Tactics
import Derived.Lib.ConvBytes
import Derived.Laws.Slices
import Derived.WalkKit
import Derived.KernelRfl
import Derived.RowKit3
import Derived.Deep.LoopGhost
import Derived.Deep.QuietTactic
import Derived.BigQuiet
import Derived.WideLaws
import Derived.Deep.DeepCutAuto
import Derived.Deep.CutBlock
import Derived.Deep.RegionHeld3
import Derived.Laws.Rows
import Derived.Lib.AppendStr
import Derived.ArgAppend
import Derived.Laws.IdiomCopy
import Derived.OrdersHeld
import Derived.Laws.BitsLemmas
import Derived.RowKit
import Derived.Test.YtoopmpjgmgffoaaDoorShelf
import Derived.Test.YtoopmpjgmgffoaaDoorPlWalk
import Derived.Test.YtoopmpjgmgffoaaDoorPlWalk
import Derived.Test.YtoopmpjgmgffoaaDoorPlWalk
import Derived.Test.YtoopmpjgmgffoaaDoorPlWalk
import Derived.Test.YtoopmpjgmgffoaaDoorPlWalk
import Derived.Test.YtoopmpjgmgffoaaDoorWd
namespace Go.Proofs.YtoopmpjgmgffoaaDoor.GFnTransformBack
open Go.RowKit Go.Proofs.YtoopmpjgmgffoaaDoorW.PrintWords Go.Proofs.YtoopmpjgmgffoaaDoorW.PrintLast Go.Proofs.YtoopmpjgmgffoaaDoorW.PrintMore
set_option linter.unusedVariables false
set_option linter.unusedSimpArgs false
def errW : Option Int → Value
  | none => .nilIface
  | some c => .iface 0 (.int .i64 c)
theorem errW_none : errW none = .nilIface := rfl
theorem errW_some (c : Int) : errW (some c) = .iface 0 (.int .i64 c) := rfl
theorem info3 : (Tryd.prog.info? 3).map (fun i => (i.zero, i.size, i.bytes)) = some (some (.int .i64 0), 1, 8) := by kernel_rfl
theorem info9 : (Tryd.prog.info? 9).map (fun i => (i.zero, i.size, i.bytes)) = some (some (.string ⟨#[]⟩), 1, 16) := by kernel_rfl
theorem info31 : (Tryd.prog.info? 31).map (fun i => (i.zero, i.size, i.bytes)) = some (some (.slice none 0 0), 1, 24) := by kernel_rfl
theorem info80 : (Tryd.prog.info? 80).map (fun i => (i.zero, i.size, i.bytes)) = some (some (.int .i16 0), 1, 2) := by kernel_rfl
-- the values' own types
structure S42 where
  f0 : Int
  f1 : ByteArray
  f2 : Int
  f3 : Int
  f4 : (List Int)
def z42 : S42 := ⟨(0 : Int), (⟨#[]⟩ : ByteArray), (0 : Int), (0 : Int), ([] : List Int)⟩
def k42 : Kd S42 := Kd.iso (Kd.pair (Kd.int .i64) (Kd.pair Kd.string (Kd.pair (Kd.int .i64) (Kd.pair (Kd.int .i64) (Kd.slice 3 (Kd.int .i64)))))) (fun x : S42 => (x.f0, x.f1, x.f2, x.f3, x.f4))
theorem k42_open {w : World} {x : S42} {cs : List Value} (h : k42.K w x cs) : ∃ A4 c4, cs = [.int .i64 x.f0, .string x.f1, .int .i64 x.f2, .int .i64 x.f3, .slice A4 x.f4.length c4] ∧ x.f4.length ≤ c4 ∧ (Kd.int .i64).C w A4 x.f4.length x.f4 := by
  obtain ⟨_, _, rfl, rfl, ⟨_, _, rfl, rfl, ⟨_, _, rfl, rfl, ⟨_, _, rfl, rfl, ⟨A4, c4, rfl, l4, g4⟩⟩⟩⟩⟩ := h
  exact ⟨A4, c4, rfl, l4, g4⟩
theorem k42_mk (w : World) (x : S42) {A4 : Option Addr} {c4 : Nat} (l4 : x.f4.length ≤ c4) (g4 : (Kd.int .i64).C w A4 x.f4.length x.f4) : k42.K w x [.int .i64 x.f0, .string x.f1, .int .i64 x.f2, .int .i64 x.f3, .slice A4 x.f4.length c4] := ⟨[.int .i64 x.f0], [.string x.f1, .int .i64 x.f2, .int .i64 x.f3, .slice A4 x.f4.length c4], rfl, rfl, ⟨[.string x.f1], [.int .i64 x.f2, .int .i64 x.f3, .slice A4 x.f4.length c4], rfl, rfl, ⟨[.int .i64 x.f2], [.int .i64 x.f3, .slice A4 x.f4.length c4], rfl, rfl, ⟨[.int .i64 x.f3], [.slice A4 x.f4.length c4], rfl, rfl, ⟨A4, c4, rfl, l4, g4⟩⟩⟩⟩⟩
def rd_T42 (xs : List S42) (i : Int) : S42 := xs.getD i.toNat z42
theorem at_T42 {w : World} {A : Option Addr} {n : Nat} {xs : List S42} (h : Kd.C k42 w A n xs) (i : Int) (h0 : 0 ≤ i) (h1 : i < n) : ∃ ad A4 c4, A = some ad ∧ w.cell? (ad.add (i.toNat * 5)) = some (.int .i64 (rd_T42 xs i).f0) ∧ w.cell? ⟨(ad.add (i.toNat * 5)).block, (ad.add (i.toNat * 5)).off + 1, none⟩ = some (.string (rd_T42 xs i).f1) ∧ w.cell? ⟨(ad.add (i.toNat * 5)).block, (ad.add (i.toNat * 5)).off + 2, none⟩ = some (.int .i64 (rd_T42 xs i).f2) ∧ w.cell? ⟨(ad.add (i.toNat * 5)).block, (ad.add (i.toNat * 5)).off + 3, none⟩ = some (.int .i64 (rd_T42 xs i).f3) ∧ w.cell? ⟨(ad.add (i.toNat * 5)).block, (ad.add (i.toNat * 5)).off + 4, none⟩ = some (.slice A4 (rd_T42 xs i).f4.length c4) ∧ (rd_T42 xs i).f4.length ≤ c4 ∧ (Kd.int .i64).C w A4 (rd_T42 xs i).f4.length (rd_T42 xs i).f4 := by
  obtain ⟨ad, c, e, _, hK, hc0⟩ := Kd.C_get h z42 i h0 h1
  have hc : ∀ j u, c[j]? = some u → w.cell? (ad.add (i.toNat * 5 + j)) = some u := hc0
  obtain ⟨A4, c4, rfl, l4, g4⟩ := k42_open hK
  exact ⟨ad, A4, c4, e, hc 0 _ rfl, by rw [← add_field _ _ 1 (by omega)]; exact hc 1 _ rfl, by rw [← add_field _ _ 2 (by omega)]; exact hc 2 _ rfl, by rw [← add_field _ _ 3 (by omega)]; exact hc 3 _ rfl, by rw [← add_field _ _ 4 (by omega)]; exact hc 4 _ rfl, l4, g4⟩
end Go.Proofs.YtoopmpjgmgffoaaDoor.GFnTransformBack
