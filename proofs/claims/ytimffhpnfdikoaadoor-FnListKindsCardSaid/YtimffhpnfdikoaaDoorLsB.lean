/- The two maps of a list of interest: nodes by tokens, subjects by values; loops over a map. -/
import Derived.Test.YtimffhpnfdikoaaDoorLsA
import Derived.StringKeys
namespace Go.Proofs.YtimffhpnfdikoaaDoor.Ls
open Go.RowKit Go.Maps Go.Proofs.YtimffhpnfdikoaaDoor.Bs Go.Proofs.YtimffhpnfdikoaaDoorW.PrintWords Go.Proofs.YtimffhpnfdikoaaDoorW.PrintLast Go.Proofs.YtimffhpnfdikoaaDoorW.PrintMore
set_option linter.unusedVariables false
set_option linter.unusedSimpArgs false
/-! ### subjects by values -/
theorem i64_keyInv (v : Value) (kl : Lit) (h : keyOf Tryd.prog 3 v = some kl) : ∃ x : Int, (Lit.int .i64 x).wf = true ∧ v = .int .i64 x ∧ kl = .int .i64 x := by
  obtain ⟨x, h1, h2, h3⟩ := keyOf_int_inv Tryd.underlying3 h
  exact ⟨x, h3, h1, h2⟩
noncomputable def strR : Value → Option (DataW Unit × List MemPlace) := plainElem Tryd.prog 9
theorem strR_inv (v : Value) (y : DataW Unit × List MemPlace) (h : strR v = some y) : ∃ b : ByteArray, b.size ≤ maxLen ∧ v = .string b ∧ y = (.lit (.string b.data.toList), []) := by
  have hu : Tryd.prog.underlying 9 = some .string := Tryd.underlying9
  unfold strR plainElem at h
  simp only [hu] at h
  cases v <;> simp at h
  obtain ⟨h1, h2⟩ := h
  exact ⟨_, h1, rfl, h2.symm⟩
noncomputable def VS : KV 3 9 93 Int ByteArray where
  mkK := fun x => .int .i64 x
  litK := fun x => .int .i64 x
  okK := fun x => (Lit.int .i64 x).wf = true
  mkV := fun b => .string b
  okV := fun b => b.size ≤ maxLen
  R := strR
  enc := fun b => .lit (.string b.data.toList)
  zv := ByteArray.empty
  keyed := int_keyed Tryd.underlying3
  under := Tryd.underlying93
  key := fun x hx => keyOf_int_mk Tryd.underlying3 hx
  keyInv := i64_keyInv
  litInj := fun x y h => by injection h
  isK := fun x => trivial
  val := fun b hb => plainElem_string Tryd.underlying9 hb
  valInv := strR_inv
  encInj := fun b c h => by
    injection h with h
    injection h with h
    cases b
    cases c
    congr 1
    exact Array.toList_inj.1 h
  zero := fun w => by kernel_rfl
  okz := Nat.zero_le _
/-! ### nodes by tokens -/
def ptrA : Option Nat → Value
  | none => .pointer none
  | some b => .pointer (some ⟨b, 0, none⟩)
def ptrR : Value → Option (DataW Unit × List MemPlace)
  | .pointer none => some (.nil, [])
  | .pointer (some ⟨b, 0, none⟩) => some (.lit (.int .u64 (b : Int)), [])
  | _ => none
theorem ptrR_inv (v : Value) (y : DataW Unit × List MemPlace) (h : ptrR v = some y) : ∃ b : Option Nat, True ∧ v = ptrA b ∧ y = ((match b with | none => DataW.nil | some b => .lit (.int .u64 (b : Int))), []) := by
  unfold ptrR at h
  split at h
  · injection h with h
    exact ⟨none, trivial, rfl, h.symm⟩
  · injection h with h
    exact ⟨some _, trivial, rfl, h.symm⟩
  · cases h
theorem str_keyInv (v : Value) (kl : Lit) (h : keyOf Tryd.prog 9 v = some kl) : ∃ x : ByteArray, x.size ≤ maxLen ∧ v = .string x ∧ kl = .string x.data.toList := by
  obtain ⟨s, h1, h2, h3⟩ := WideMaps.string_of_keyOf Tryd.underlying9 h
  exact ⟨s, h3, h1, h2⟩
noncomputable def VN : KV 9 83 82 ByteArray (Option Nat) where
  mkK := fun x => .string x
  litK := fun x => .string x.data.toList
  okK := fun x => x.size ≤ maxLen
  mkV := ptrA
  okV := fun _ => True
  R := ptrR
  enc := fun b => match b with | none => DataW.nil | some b => .lit (.int .u64 (b : Int))
  zv := none
  keyed := string_keyed Tryd.underlying9
  under := Tryd.underlying82
  key := fun x hx => WideMaps.keyOf_string_mk Tryd.underlying9 hx
  keyInv := str_keyInv
  litInj := fun x y h => by
    injection h with h
    cases x
    cases y
    congr 1
    exact Array.toList_inj.1 h
  isK := fun x => trivial
  val := fun b _ => by cases b <;> rfl
  valInv := ptrR_inv
  encInj := fun b c h => by
    cases b <;> cases c
    · rfl
    · cases h
    · cases h
    · injection h with h
      injection h with _ h
      congr 1
      omega
  zero := fun w => by kernel_rfl
  okz := trivial
end Go.Proofs.YtimffhpnfdikoaaDoor.Ls
