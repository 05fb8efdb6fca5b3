/- A walk of Go functions (plain functions of theirs, and that the machine's calls do what these say), written by a program of this session's. -/
import Derived.Test.YtjhmpcbpbdkddaaGreatProg
import Derived.Below
import Derived.Deep.Draws
import Derived.Deep.AppendLies
import Derived.Maps.AppendAt
import Derived.OwnWalk
import Derived.Laws.BytesArg
import Derived.Laws.MakeOwn
import Derived.Laws.OwnMore
import Derived.Deep.OwnRows
import Derived.Tactics
import Derived.Lib.ConvBytes
import Derived.Laws.Slices
import Derived.WalkKit
import Derived.KernelRfl
import Derived.RowKit3
import Derived.Deep.LoopGhost
import Derived.Deep.QuietTactic
import Derived.BigQuiet
import Derived.WideLaws
import Derived.Deep.DeepCutAuto
import Derived.Deep.CutBlock
import Derived.Deep.RegionHeld3
import Derived.Laws.Rows
import Derived.Lib.AppendStr
import Derived.ArgAppend
import Derived.Laws.IdiomCopy
import Derived.OrdersHeld
import Derived.Laws.BitsLemmas
import Derived.RowKit
import Derived.Test.YtjhmpcbpbdkddaaGreatWWords
import Derived.Test.YtjhmpcbpbdkddaaGreatWLast
import Derived.Test.YtjhmpcbpbdkddaaGreatWTab
import Derived.Test.YtjhmpcbpbdkddaaGreatWFour
import Derived.Test.YtjhmpcbpbdkddaaGreatWQPut
import Derived.Test.YtjhmpcbpbdkddaaGreatWApart
import Derived.Test.YtjhmpcbpbdkddaaGreatWArr
import Derived.Test.YtjhmpcbpbdkddaaGreatWZeros
import Derived.Test.YtjhmpcbpbdkddaaGreatWFoot
import Derived.Test.YtjhmpcbpbdkddaaGreatWKept
import Derived.Test.YtjhmpcbpbdkddaaGreatWShare
import Derived.Test.YtjhmpcbpbdkddaaGreatWN
import Derived.Test.YtjhmpcbpbdkddaaGreatWFootNe
import Derived.Test.YtjhmpcbpbdkddaaGreatWAt
import Derived.Test.YtjhmpcbpbdkddaaGreatWEqStruct
import Derived.Test.YtjhmpcbpbdkddaaGreatWRepsOne
import Derived.Test.YtjhmpcbpbdkddaaGreatWInv
import Derived.Test.YtjhmpcbpbdkddaaGreatWInvWords
import Derived.Test.YtjhmpcbpbdkddaaGreatWGuard
import Derived.Test.YtjhmpcbpbdkddaaGreatWNEv
import Derived.Test.YtjhmpcbpbdkddaaGreatWMore
namespace Go.Proofs.YtjhmpcbpbdkddaaGreat.GFnTreeRun
open Go.RowKit Go.Proofs.YtjhmpcbpbdkddaaGreatW.PrintWords Go.Proofs.YtjhmpcbpbdkddaaGreatW.PrintLast Go.Proofs.YtjhmpcbpbdkddaaGreatW.PrintMore
attribute [local go_sem] max2_int min2_int max_two min_two max_three min_three max_four min_four   -- for this text's walks alone
set_option linter.unusedVariables false
set_option linter.unusedSimpArgs false



def errW : Option Int → Value
  | none => .nilIface
  | some c => .iface 0 (.int .i64 c)
theorem errW_none : errW none = .nilIface := rfl
theorem errW_some (c : Int) : errW (some c) = .iface 0 (.int .i64 c) := rfl

theorem info9 : (Tryz.prog.info? 9).map (fun i => (i.zero, i.size, i.bytes)) = some (some (.string ⟨#[]⟩), 1, 16) := by kernel_rfl
theorem info48 : (Tryz.prog.info? 48).map (fun i => (i.zero, i.size, i.bytes)) = some (some (.agg #[(.string ⟨#[]⟩), (.int .i64 0)]), 2, 24) := by kernel_rfl
-- the values' own types
/-! #### struct type 51 -/
structure S51 where
  f0 : Int
  f1 : ByteArray
  f2 : Int
def z51 : S51 := ⟨(0 : Int), (⟨#[]⟩ : ByteArray), (0 : Int)⟩
def k51 : Kd S51 := Kd.iso (Kd.pair (Kd.int .i64) (Kd.pair Kd.string (Kd.int .i64))) (fun x : S51 => (x.f0, x.f1, x.f2))
theorem k51_open {w : World} {x : S51} {cs : List Value} (h : k51.K w x cs) : cs = [.int .i64 x.f0, .string x.f1, .int .i64 x.f2] := by
  obtain ⟨_, _, rfl, rfl, ⟨_, _, rfl, rfl, rfl⟩⟩ := h
  exact rfl
theorem k51_openM {w : World} {base : Nat} {ok : Nat → Prop} {x : S51} {cs : List Value} (h : k51.M w base ok x cs) : cs = [.int .i64 x.f0, .string x.f1, .int .i64 x.f2] := by
  obtain ⟨_, _, rfl, rfl, ⟨_, _, rfl, rfl, rfl⟩⟩ := h
  exact rfl
theorem k51_mk (w : World) (x : S51)  : k51.K w x [.int .i64 x.f0, .string x.f1, .int .i64 x.f2] := ⟨[.int .i64 x.f0], [.string x.f1, .int .i64 x.f2], rfl, rfl, ⟨[.string x.f1], [.int .i64 x.f2], rfl, rfl, rfl⟩⟩
theorem k51_mkM (w : World) (base : Nat) (ok : Nat → Prop) (x : S51)  : k51.M w base ok x [.int .i64 x.f0, .string x.f1, .int .i64 x.f2] := ⟨[.int .i64 x.f0], [.string x.f1, .int .i64 x.f2], rfl, rfl, ⟨[.string x.f1], [.int .i64 x.f2], rfl, rfl, rfl⟩⟩
def rd_T51 (xs : List S51) (i : Int) : S51 := xs.getD i.toNat z51
theorem at_T51 {w : World} {A : Option Addr} {n : Nat} {xs : List S51} (h : Kd.C k51 w A n xs) (i : Int) (h0 : 0 ≤ i) (h1 : i < n) : ∃ ad , A = some ad ∧ w.cell? (ad.add (i.toNat * 3)) = some (.int .i64 (rd_T51 xs i).f0) ∧ w.cell? ⟨(ad.add (i.toNat * 3)).block, (ad.add (i.toNat * 3)).off + 1, none⟩ = some (.string (rd_T51 xs i).f1) ∧ w.cell? ⟨(ad.add (i.toNat * 3)).block, (ad.add (i.toNat * 3)).off + 2, none⟩ = some (.int .i64 (rd_T51 xs i).f2) := by
  obtain ⟨ad, c, e, _, hK, hc0⟩ := Kd.C_get h z51 i h0 h1
  have hc : ∀ j u, c[j]? = some u → w.cell? (ad.add (i.toNat * 3 + j)) = some u := hc0
  obtain rfl := k51_open hK
  exact ⟨ad, e, hc 0 _ rfl, by rw [← add_field _ _ 1 (by omega)]; exact hc 1 _ rfl, by rw [← add_field _ _ 2 (by omega)]; exact hc 2 _ rfl⟩

/-! #### struct type 48 -/
structure S48 where
  f0 : ByteArray
  f1 : Int
def z48 : S48 := ⟨(⟨#[]⟩ : ByteArray), (0 : Int)⟩
def k48 : Kd S48 := Kd.iso (Kd.pair Kd.string (Kd.int .i64)) (fun x : S48 => (x.f0, x.f1))
theorem k48_open {w : World} {x : S48} {cs : List Value} (h : k48.K w x cs) : cs = [.string x.f0, .int .i64 x.f1] := by
  obtain ⟨_, _, rfl, rfl, rfl⟩ := h
  exact rfl
theorem k48_openM {w : World} {base : Nat} {ok : Nat → Prop} {x : S48} {cs : List Value} (h : k48.M w base ok x cs) : cs = [.string x.f0, .int .i64 x.f1] := by
  obtain ⟨_, _, rfl, rfl, rfl⟩ := h
  exact rfl
theorem k48_mk (w : World) (x : S48)  : k48.K w x [.string x.f0, .int .i64 x.f1] := ⟨[.string x.f0], [.int .i64 x.f1], rfl, rfl, rfl⟩
theorem k48_mkM (w : World) (base : Nat) (ok : Nat → Prop) (x : S48)  : k48.M w base ok x [.string x.f0, .int .i64 x.f1] := ⟨[.string x.f0], [.int .i64 x.f1], rfl, rfl, rfl⟩
def rd_T48 (xs : List S48) (i : Int) : S48 := xs.getD i.toNat z48
theorem at_T48 {w : World} {A : Option Addr} {n : Nat} {xs : List S48} (h : Kd.C k48 w A n xs) (i : Int) (h0 : 0 ≤ i) (h1 : i < n) : ∃ ad , A = some ad ∧ w.cell? (ad.add (i.toNat * 2)) = some (.string (rd_T48 xs i).f0) ∧ w.cell? ⟨(ad.add (i.toNat * 2)).block, (ad.add (i.toNat * 2)).off + 1, none⟩ = some (.int .i64 (rd_T48 xs i).f1) := by
  obtain ⟨ad, c, e, _, hK, hc0⟩ := Kd.C_get h z48 i h0 h1
  have hc : ∀ j u, c[j]? = some u → w.cell? (ad.add (i.toNat * 2 + j)) = some u := hc0
  obtain rfl := k48_open hK
  exact ⟨ad, e, hc 0 _ rfl, by rw [← add_field _ _ 1 (by omega)]; exact hc 1 _ rfl⟩

/-! #### struct type 34 -/
structure S34 where
  f0 : Bool
  f1 : Int
def z34 : S34 := ⟨false, (0 : Int)⟩
def k34 : Kd S34 := Kd.iso (Kd.pair Kd.bool (Kd.int .i64)) (fun x : S34 => (x.f0, x.f1))
theorem k34_open {w : World} {x : S34} {cs : List Value} (h : k34.K w x cs) : cs = [.bool x.f0, .int .i64 x.f1] := by
  obtain ⟨_, _, rfl, rfl, rfl⟩ := h
  exact rfl
theorem k34_openM {w : World} {base : Nat} {ok : Nat → Prop} {x : S34} {cs : List Value} (h : k34.M w base ok x cs) : cs = [.bool x.f0, .int .i64 x.f1] := by
  obtain ⟨_, _, rfl, rfl, rfl⟩ := h
  exact rfl
theorem k34_mk (w : World) (x : S34)  : k34.K w x [.bool x.f0, .int .i64 x.f1] := ⟨[.bool x.f0], [.int .i64 x.f1], rfl, rfl, rfl⟩
theorem k34_mkM (w : World) (base : Nat) (ok : Nat → Prop) (x : S34)  : k34.M w base ok x [.bool x.f0, .int .i64 x.f1] := ⟨[.bool x.f0], [.int .i64 x.f1], rfl, rfl, rfl⟩
def rd_T34 (xs : List S34) (i : Int) : S34 := xs.getD i.toNat z34
theorem at_T34 {w : World} {A : Option Addr} {n : Nat} {xs : List S34} (h : Kd.C k34 w A n xs) (i : Int) (h0 : 0 ≤ i) (h1 : i < n) : ∃ ad , A = some ad ∧ w.cell? (ad.add (i.toNat * 2)) = some (.bool (rd_T34 xs i).f0) ∧ w.cell? ⟨(ad.add (i.toNat * 2)).block, (ad.add (i.toNat * 2)).off + 1, none⟩ = some (.int .i64 (rd_T34 xs i).f1) := by
  obtain ⟨ad, c, e, _, hK, hc0⟩ := Kd.C_get h z34 i h0 h1
  have hc : ∀ j u, c[j]? = some u → w.cell? (ad.add (i.toNat * 2 + j)) = some u := hc0
  obtain rfl := k34_open hK
  exact ⟨ad, e, hc 0 _ rfl, by rw [← add_field _ _ 1 (by omega)]; exact hc 1 _ rfl⟩

end Go.Proofs.YtjhmpcbpbdkddaaGreat.GFnTreeRun
