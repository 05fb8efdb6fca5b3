/- A walk of Go functions (plain functions of theirs, and that the machine's calls do what these say), written by a program of this session's. -/
import Derived.Test.YtlbpbbfhfgacaaaDoorProg
import Derived.Below
import Derived.Deep.Draws
import Derived.Deep.AppendLies
import Derived.Maps.AppendAt
import Derived.OwnWalk
import Derived.Laws.BytesArg
import Derived.Laws.MakeOwn
import Derived.Laws.OwnMore
import Derived.Deep.OwnRows
import Derived.Tactics
import Derived.Lib.ConvBytes
import Derived.Laws.Slices
import Derived.WalkKit
import Derived.KernelRfl
import Derived.RowKit3
import Derived.Deep.LoopGhost
import Derived.Deep.QuietTactic
import Derived.BigQuiet
import Derived.WideLaws
import Derived.Deep.DeepCutAuto
import Derived.Deep.CutBlock
import Derived.Deep.RegionHeld3
import Derived.Laws.Rows
import Derived.Lib.AppendStr
import Derived.ArgAppend
import Derived.Laws.IdiomCopy
import Derived.OrdersHeld
import Derived.Laws.BitsLemmas
import Derived.RowKit
import Derived.Test.YtlbpbbfhfgacaaaDoorWWords
import Derived.Test.YtlbpbbfhfgacaaaDoorWLast
import Derived.Test.YtlbpbbfhfgacaaaDoorWTab
import Derived.Test.YtlbpbbfhfgacaaaDoorWFour
import Derived.Test.YtlbpbbfhfgacaaaDoorWQPut
import Derived.Test.YtlbpbbfhfgacaaaDoorWApart
import Derived.Test.YtlbpbbfhfgacaaaDoorWArr
import Derived.Test.YtlbpbbfhfgacaaaDoorWZeros
import Derived.Test.YtlbpbbfhfgacaaaDoorWFoot
import Derived.Test.YtlbpbbfhfgacaaaDoorWKept
import Derived.Test.YtlbpbbfhfgacaaaDoorWShare
import Derived.Test.YtlbpbbfhfgacaaaDoorWN
import Derived.Test.YtlbpbbfhfgacaaaDoorWFootNe
import Derived.Test.YtlbpbbfhfgacaaaDoorWAt
import Derived.Test.YtlbpbbfhfgacaaaDoorWEqStruct
import Derived.Test.YtlbpbbfhfgacaaaDoorWRepsOne
import Derived.Test.YtlbpbbfhfgacaaaDoorWInv
import Derived.Test.YtlbpbbfhfgacaaaDoorWInvWords
import Derived.Test.YtlbpbbfhfgacaaaDoorWGuard
import Derived.Test.YtlbpbbfhfgacaaaDoorWNEv
import Derived.Test.YtlbpbbfhfgacaaaDoorWMore
namespace Go.Proofs.YtlbpbbfhfgacaaaDoor.GFnWheelParts
open Go.RowKit Go.Proofs.YtlbpbbfhfgacaaaDoorW.PrintWords Go.Proofs.YtlbpbbfhfgacaaaDoorW.PrintLast Go.Proofs.YtlbpbbfhfgacaaaDoorW.PrintMore
attribute [local go_sem] max2_int min2_int max_two min_two max_three min_three max_four min_four   -- for this text's walks alone
set_option linter.unusedVariables false
set_option linter.unusedSimpArgs false



def errW : Option Int → Value
  | none => .nilIface
  | some c => .iface 0 (.int .i64 c)
theorem errW_none : errW none = .nilIface := rfl
theorem errW_some (c : Int) : errW (some c) = .iface 0 (.int .i64 c) := rfl

theorem info33 : (Tryd.prog.info? 33).map (fun i => (i.zero, i.size, i.bytes)) = some (some (.agg #[(.int .i64 0), (.slice none 0 0)]), 2, 32) := by kernel_rfl
theorem info42 : (Tryd.prog.info? 42).map (fun i => (i.zero, i.size, i.bytes)) = some (some (.agg #[(.int .u64 0), (.int .i64 0)]), 2, 16) := by kernel_rfl
-- the values' own types
/-! #### struct type 42 -/
structure S42 where
  f0 : Int
  f1 : Int
def z42 : S42 := ⟨(0 : Int), (0 : Int)⟩
def k42 : Kd S42 := Kd.iso (Kd.pair (Kd.int .u64) (Kd.int .i64)) (fun x : S42 => (x.f0, x.f1))
theorem k42_open {w : World} {x : S42} {cs : List Value} (h : k42.K w x cs) : cs = [.int .u64 x.f0, .int .i64 x.f1] := by
  obtain ⟨_, _, rfl, rfl, rfl⟩ := h
  exact rfl
theorem k42_openM {w : World} {base : Nat} {ok : Nat → Prop} {x : S42} {cs : List Value} (h : k42.M w base ok x cs) : cs = [.int .u64 x.f0, .int .i64 x.f1] := by
  obtain ⟨_, _, rfl, rfl, rfl⟩ := h
  exact rfl
theorem k42_mk (w : World) (x : S42)  : k42.K w x [.int .u64 x.f0, .int .i64 x.f1] := ⟨[.int .u64 x.f0], [.int .i64 x.f1], rfl, rfl, rfl⟩
theorem k42_mkM (w : World) (base : Nat) (ok : Nat → Prop) (x : S42)  : k42.M w base ok x [.int .u64 x.f0, .int .i64 x.f1] := ⟨[.int .u64 x.f0], [.int .i64 x.f1], rfl, rfl, rfl⟩
def rd_T42 (xs : List S42) (i : Int) : S42 := xs.getD i.toNat z42
theorem at_T42 {w : World} {A : Option Addr} {n : Nat} {xs : List S42} (h : Kd.C k42 w A n xs) (i : Int) (h0 : 0 ≤ i) (h1 : i < n) : ∃ ad , A = some ad ∧ w.cell? (ad.add (i.toNat * 2)) = some (.int .u64 (rd_T42 xs i).f0) ∧ w.cell? ⟨(ad.add (i.toNat * 2)).block, (ad.add (i.toNat * 2)).off + 1, none⟩ = some (.int .i64 (rd_T42 xs i).f1) := by
  obtain ⟨ad, c, e, _, hK, hc0⟩ := Kd.C_get h z42 i h0 h1
  have hc : ∀ j u, c[j]? = some u → w.cell? (ad.add (i.toNat * 2 + j)) = some u := hc0
  obtain rfl := k42_open hK
  exact ⟨ad, e, hc 0 _ rfl, by rw [← add_field _ _ 1 (by omega)]; exact hc 1 _ rfl⟩

/-! #### struct type 30 -/
structure S30 where
  f0 : Int
  f1 : Int
  f2 : Int
  f3 : Int
  f4 : Bool
def z30 : S30 := ⟨(0 : Int), (0 : Int), (0 : Int), (0 : Int), false⟩
def k30 : Kd S30 := Kd.iso (Kd.pair (Kd.int .i64) (Kd.pair (Kd.int .u64) (Kd.pair (Kd.int .i64) (Kd.pair (Kd.int .i64) Kd.bool)))) (fun x : S30 => (x.f0, x.f1, x.f2, x.f3, x.f4))
theorem k30_open {w : World} {x : S30} {cs : List Value} (h : k30.K w x cs) : cs = [.int .i64 x.f0, .int .u64 x.f1, .int .i64 x.f2, .int .i64 x.f3, .bool x.f4] := by
  obtain ⟨_, _, rfl, rfl, ⟨_, _, rfl, rfl, ⟨_, _, rfl, rfl, ⟨_, _, rfl, rfl, rfl⟩⟩⟩⟩ := h
  exact rfl
theorem k30_openM {w : World} {base : Nat} {ok : Nat → Prop} {x : S30} {cs : List Value} (h : k30.M w base ok x cs) : cs = [.int .i64 x.f0, .int .u64 x.f1, .int .i64 x.f2, .int .i64 x.f3, .bool x.f4] := by
  obtain ⟨_, _, rfl, rfl, ⟨_, _, rfl, rfl, ⟨_, _, rfl, rfl, ⟨_, _, rfl, rfl, rfl⟩⟩⟩⟩ := h
  exact rfl
theorem k30_mk (w : World) (x : S30)  : k30.K w x [.int .i64 x.f0, .int .u64 x.f1, .int .i64 x.f2, .int .i64 x.f3, .bool x.f4] := ⟨[.int .i64 x.f0], [.int .u64 x.f1, .int .i64 x.f2, .int .i64 x.f3, .bool x.f4], rfl, rfl, ⟨[.int .u64 x.f1], [.int .i64 x.f2, .int .i64 x.f3, .bool x.f4], rfl, rfl, ⟨[.int .i64 x.f2], [.int .i64 x.f3, .bool x.f4], rfl, rfl, ⟨[.int .i64 x.f3], [.bool x.f4], rfl, rfl, rfl⟩⟩⟩⟩
theorem k30_mkM (w : World) (base : Nat) (ok : Nat → Prop) (x : S30)  : k30.M w base ok x [.int .i64 x.f0, .int .u64 x.f1, .int .i64 x.f2, .int .i64 x.f3, .bool x.f4] := ⟨[.int .i64 x.f0], [.int .u64 x.f1, .int .i64 x.f2, .int .i64 x.f3, .bool x.f4], rfl, rfl, ⟨[.int .u64 x.f1], [.int .i64 x.f2, .int .i64 x.f3, .bool x.f4], rfl, rfl, ⟨[.int .i64 x.f2], [.int .i64 x.f3, .bool x.f4], rfl, rfl, ⟨[.int .i64 x.f3], [.bool x.f4], rfl, rfl, rfl⟩⟩⟩⟩
def rd_T30 (xs : List S30) (i : Int) : S30 := xs.getD i.toNat z30
theorem at_T30 {w : World} {A : Option Addr} {n : Nat} {xs : List S30} (h : Kd.C k30 w A n xs) (i : Int) (h0 : 0 ≤ i) (h1 : i < n) : ∃ ad , A = some ad ∧ w.cell? (ad.add (i.toNat * 5)) = some (.int .i64 (rd_T30 xs i).f0) ∧ w.cell? ⟨(ad.add (i.toNat * 5)).block, (ad.add (i.toNat * 5)).off + 1, none⟩ = some (.int .u64 (rd_T30 xs i).f1) ∧ w.cell? ⟨(ad.add (i.toNat * 5)).block, (ad.add (i.toNat * 5)).off + 2, none⟩ = some (.int .i64 (rd_T30 xs i).f2) ∧ w.cell? ⟨(ad.add (i.toNat * 5)).block, (ad.add (i.toNat * 5)).off + 3, none⟩ = some (.int .i64 (rd_T30 xs i).f3) ∧ w.cell? ⟨(ad.add (i.toNat * 5)).block, (ad.add (i.toNat * 5)).off + 4, none⟩ = some (.bool (rd_T30 xs i).f4) := by
  obtain ⟨ad, c, e, _, hK, hc0⟩ := Kd.C_get h z30 i h0 h1
  have hc : ∀ j u, c[j]? = some u → w.cell? (ad.add (i.toNat * 5 + j)) = some u := hc0
  obtain rfl := k30_open hK
  exact ⟨ad, e, hc 0 _ rfl, by rw [← add_field _ _ 1 (by omega)]; exact hc 1 _ rfl, by rw [← add_field _ _ 2 (by omega)]; exact hc 2 _ rfl, by rw [← add_field _ _ 3 (by omega)]; exact hc 3 _ rfl, by rw [← add_field _ _ 4 (by omega)]; exact hc 4 _ rfl⟩

def rd_L5 (xs : List (List S42)) (i : Int) : (List S42) := xs.getD i.toNat ([] : List S42)
theorem at_L5 {w : World} {A : Option Addr} {n : Nat} {xs : List (List S42)} (h : Kd.C (Kd.slice 42 k42) w A n xs) (i : Int) (h0 : 0 ≤ i) (h1 : i < n) : ∃ ad A0 c0, A = some ad ∧ w.cell? (ad.add i.toNat) = some (.slice A0 (rd_L5 xs i).length c0) ∧ (rd_L5 xs i).length ≤ c0 ∧ k42.C w A0 (rd_L5 xs i).length (rd_L5 xs i) := by
  obtain ⟨ad, c, e, _, hK, hc0⟩ := Kd.C_get h ([] : List S42) i h0 h1
  have hc : ∀ j u, c[j]? = some u → w.cell? (ad.add (i.toNat * 1 + j)) = some u := hc0
  obtain ⟨A0, c0, rfl, l0, g0⟩ := hK
  exact ⟨ad, A0, c0, e, by have hq := hc 0 _ rfl; rwa [Nat.mul_one, Nat.add_zero] at hq, l0, g0⟩

/-! #### struct type 33 -/
structure S33 where
  f0 : Int
  f1 : (List S42)
def z33 : S33 := ⟨(0 : Int), ([] : List S42)⟩
def k33 : Kd S33 := Kd.iso (Kd.pair (Kd.int .i64) (Kd.slice 42 k42)) (fun x : S33 => (x.f0, x.f1))
theorem k33_open {w : World} {x : S33} {cs : List Value} (h : k33.K w x cs) : ∃ A1 c1, cs = [.int .i64 x.f0, .slice A1 x.f1.length c1] ∧ x.f1.length ≤ c1 ∧ k42.C w A1 x.f1.length x.f1 := by
  obtain ⟨_, _, rfl, rfl, ⟨A1, c1, rfl, l1, g1⟩⟩ := h
  exact ⟨A1, c1, rfl, l1, g1⟩
theorem k33_openM {w : World} {base : Nat} {ok : Nat → Prop} {x : S33} {cs : List Value} (h : k33.M w base ok x cs) : ∃ v1, cs = [.int .i64 x.f0, v1] ∧ k42.R 42 w base ok v1 x.f1 := by
  obtain ⟨_, _, rfl, rfl, ⟨v1, rfl, g1⟩⟩ := h
  exact ⟨v1, rfl, g1⟩
theorem k33_mk (w : World) (x : S33) {A1 : Option Addr} {c1 : Nat} (l1 : x.f1.length ≤ c1) (g1 : k42.C w A1 x.f1.length x.f1) : k33.K w x [.int .i64 x.f0, .slice A1 x.f1.length c1] := ⟨[.int .i64 x.f0], [.slice A1 x.f1.length c1], rfl, rfl, ⟨A1, c1, rfl, l1, g1⟩⟩
theorem k33_mkM (w : World) (base : Nat) (ok : Nat → Prop) (x : S33) {v1 : Value} (g1 : k42.R 42 w base ok v1 x.f1) : k33.M w base ok x [.int .i64 x.f0, v1] := ⟨[.int .i64 x.f0], [v1], rfl, rfl, ⟨v1, rfl, g1⟩⟩
def rd_T33 (xs : List S33) (i : Int) : S33 := xs.getD i.toNat z33
theorem at_T33 {w : World} {A : Option Addr} {n : Nat} {xs : List S33} (h : Kd.C k33 w A n xs) (i : Int) (h0 : 0 ≤ i) (h1 : i < n) : ∃ ad A1 c1, A = some ad ∧ w.cell? (ad.add (i.toNat * 2)) = some (.int .i64 (rd_T33 xs i).f0) ∧ w.cell? ⟨(ad.add (i.toNat * 2)).block, (ad.add (i.toNat * 2)).off + 1, none⟩ = some (.slice A1 (rd_T33 xs i).f1.length c1) ∧ (rd_T33 xs i).f1.length ≤ c1 ∧ k42.C w A1 (rd_T33 xs i).f1.length (rd_T33 xs i).f1 := by
  obtain ⟨ad, c, e, _, hK, hc0⟩ := Kd.C_get h z33 i h0 h1
  have hc : ∀ j u, c[j]? = some u → w.cell? (ad.add (i.toNat * 2 + j)) = some u := hc0
  obtain ⟨A1, c1, rfl, l1, g1⟩ := k33_open hK
  exact ⟨ad, A1, c1, e, hc 0 _ rfl, by rw [← add_field _ _ 1 (by omega)]; exact hc 1 _ rfl, l1, g1⟩

end Go.Proofs.YtlbpbbfhfgacaaaDoor.GFnWheelParts
