/- TransformTokenizedSubject. -/
import Derived.Test.YtoopmpjgmgffoaaDoorTrH
namespace Go.Proofs.YtoopmpjgmgffoaaDoor.Tr
open Go.RowKit Go.Proofs.YtoopmpjgmgffoaaDoor.Pl Go.Proofs.YtoopmpjgmgffoaaDoor.Bs Go.Proofs.YtoopmpjgmgffoaaDoorW.PrintWords Go.Proofs.YtoopmpjgmgffoaaDoorW.PrintLast Go.Proofs.YtoopmpjgmgffoaaDoorW.PrintMore Go.Proofs.YtoopmpjgmgffoaaDoor.GFnTransformBack Go.Proofs.YtoopmpjgmgffoaaDoor.PlFnTransformBack
set_option linter.unusedVariables false
set_option linter.unusedSimpArgs false
structure MapAt (W : World) (m : Nat) (P : PlanL) : Prop where
  out : ∃ Ad cd As cs Ak ck Ap cp An cn At ct, Blk W m 69 [.string P.src, .string P.dest, .slice Ad P.dt.length cd, .slice As P.st.length cs, .slice Ak P.ks.length ck, .slice Ap P.ps.length cp, .slice An P.ns.length cn, .slice At P.ts.length ct] ∧
    Kd.C Kd.string W Ad P.dt.length P.dt ∧ Kd.C Kd.string W As P.st.length P.st ∧ Kd.C (Kd.int .i16) W Ak P.ks.length P.ks ∧ Kd.C (Kd.slice 3 (Kd.int .i64)) W Ap P.ps.length P.ps ∧ Kd.C (Kd.int .i32) W An P.ns.length P.ns ∧ Kd.C Kd.string W At P.ts.length P.ts
def accB (n : Nat) (pc : Nat → ByteArray) : Nat → List UInt8
  | 0 => []
  | i + 1 => accB n pc i ++ ((pc i).data.toList ++ (if i + 1 < n then [46] else []))
def restB (toks : List ByteArray) (from_ : Nat) : Nat → List UInt8
  | 0 => []
  | k + 1 => restB toks from_ k ++ ((toks[from_ + k]?.getD ByteArray.empty).data.toList ++ (if from_ + k + 1 < toks.length then [46] else []))
def madeB (P : PlanL) (toks : List ByteArray) (pc : Nat → ByteArray) : List UInt8 :=
  accB P.ks.length pc P.ks.length ++ (if P.dt.getLast? = some ⟨#[62]⟩ then restB toks (P.st.length - 1) (toks.length - (P.st.length - 1)) else [])
def ToksPost (w : World) (l : List UInt8) (e : Ending) (w' : World) : Prop := e = .returned (.string ⟨l.toArray⟩) ∧ Same w w'
theorem acc_len {n : Nat} {pc : Nat → ByteArray} (h : ∀ i, (pc i).size ≤ 2147483647) : ∀ i, (accB n pc i).length ≤ i * 2147483648
  | 0 => by simp [accB]
  | i + 1 => by
    have := acc_len (n := n) h i
    have h2 := h i
    have h3 : (pc i).data.toList.length = (pc i).size := rfl
    unfold accB
    rw [List.length_append, List.length_append, h3]
    split <;> simp <;> omega
theorem rest_len {toks : List ByteArray} (h : ∀ t ∈ toks, t.size ≤ 1000) (fr : Nat) : ∀ j, (restB toks fr j).length ≤ j * 1001
  | 0 => by simp [restB]
  | j + 1 => by
    have := rest_len h fr j
    have h2 : (toks[fr + j]?.getD ByteArray.empty).data.toList.length ≤ 1000 := by
      cases hq : toks[fr + j]? with
      | none => exact Nat.zero_le _
      | some t => exact h t (List.mem_of_getElem? hq)
    unfold restB
    rw [List.length_append, List.length_append]
    split <;> simp at * <;> omega
structure LpA (m b n : Nat) (Ak : Option Addr) (ck : Nat) (tv : Value) (i : Nat) (a : Act) : Prop where
  fm : Fm a
  s0 : Sl a 0 = some (.pointer (some ⟨m, 0, none⟩))
  s1 : Sl a 1 = some tv
  s5 : Sl a 5 = some (.pointer (some ⟨b, 0, none⟩))
  s6 : Sl a 6 = some (.int .i64 ((n - 1 : Nat) : Int))
  s59 : Sl a 59 = some (.slice Ak n ck)
  s60 : Sl a 60 = some (.int .i64 (n : Int))
  s61 : Sl a 61 = some (.int .i64 (i : Int))
structure RsA (m b : Nat) (tv : Value) (a : Act) : Prop where
  fm : Fm a
  s0 : Sl a 0 = some (.pointer (some ⟨m, 0, none⟩))
  s1 : Sl a 1 = some tv
  s5 : Sl a 5 = some (.pointer (some ⟨b, 0, none⟩))
section
set_option maxHeartbeats 16000000
set_option maxRecDepth 1000000
end
end Go.Proofs.YtoopmpjgmgffoaaDoor.Tr
