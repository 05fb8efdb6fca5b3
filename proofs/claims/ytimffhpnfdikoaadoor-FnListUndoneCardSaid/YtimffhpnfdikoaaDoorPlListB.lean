/- What the printed functions of FnListKinds come to, as plain functions on lists. -/
import Derived.Test.YtimffhpnfdikoaaDoorPlList
import Derived.Test.YtimffhpnfdikoaaDoorLsPb
namespace Go.Proofs.YtimffhpnfdikoaaDoor.PlFnListKinds
open Go.RowKit Go.Proofs.YtimffhpnfdikoaaDoorW.PrintWords Go.Proofs.YtimffhpnfdikoaaDoorW.PrintLast Go.Proofs.YtimffhpnfdikoaaDoorW.PrintMore Go.Proofs.YtimffhpnfdikoaaDoor.Pl Go.Proofs.YtimffhpnfdikoaaDoor.GFnListKinds
set_option linter.unusedVariables false
set_option linter.unusedSimpArgs false

def blankB (c : UInt8) : Bool := decide (c = 32) || decide (c = 9) || decide (c = 10) || decide (c = 13) || decide (c = 12)
theorem Blank_eq (c : UInt8) : spec_Blank.f (c.toNat : Int) = some (blankB c) := by
  unfold spec_Blank.f
  have e32 := toNat_eq (c := c) (n := 32) (by omega)
  have e9 := toNat_eq (c := c) (n := 9) (by omega)
  have e10 := toNat_eq (c := c) (n := 10) (by omega)
  have e13 := toNat_eq (c := c) (n := 13) (by omega)
  have e12 := toNat_eq (c := c) (n := 12) (by omega)
  simp at e32 e9 e10 e13 e12
  unfold blankB
  by_cases h32 : c = 32
  · subst h32; rfl
  rw [if_neg (by rw [e32]; exact h32)]
  by_cases h9 : c = 9
  · subst h9; rfl
  rw [if_neg (by rw [e9]; exact h9)]
  by_cases h10 : c = 10
  · subst h10; rfl
  rw [if_neg (by rw [e10]; exact h10)]
  by_cases h13 : c = 13
  · subst h13; rfl
  rw [if_neg (by rw [e13]; exact h13)]
  simp [h32, h9, h10, h13]
  rw [Bool.eq_iff_iff]
  simp
  exact e12

theorem Spaced_l0 (s : ByteArray) (hs : s.size ≤ 140737488351232) : ∀ (rest pre : List UInt8) (i : Int), s = ba (pre ++ rest) → i = (pre.length : Int) →
    Ev (fun k => spec_Spaced.l0 k s i) (rest.any blankB) := by
  intro rest
  induction rest with
  | nil =>
    intro pre i h hi
    have hz : (s.size : Int) = pre.length := by rw [h, ba_size]; simp
    refine Ev.step (fun k => by rw [spec_Spaced.l0, if_neg (by omega)]) ?_
    exact Ev.now _
  | cons c rest ih =>
    intro pre i h hi
    have hz : (s.size : Int) = pre.length + rest.length + 1 := by rw [h, ba_size]; simp; omega
    have hb : bt s i = (c.toNat : Int) := bt_mid pre c rest h hi
    have hw : wrap64 (i + 1) = i + 1 := w64 (by omega) (by omega)
    refine Ev.step (fun k => by rw [spec_Spaced.l0, if_pos (by omega), if_pos (by omega), hb, Blank_eq, Option.bind_some, hw]) ?_
    rw [List.any_cons]
    cases hc : blankB c with
    | true => simp only [if_true, Bool.true_or]; exact Ev.now _
    | false =>
      simp only [Bool.false_eq_true, if_false, Bool.false_or]
      exact ih (pre ++ [c]) (i + 1) (by rw [h]; simp) (by simp; omega)
theorem Spaced_ev (l : List UInt8) (hs : l.length ≤ 140737488351232) : Ev (fun k => spec_Spaced.f k (ba l)) (l.any blankB) := by
  have := Spaced_l0 (ba l) hs l [] 0 (by simp) (by simp)
  exact this

def validB (l : List UInt8) : Bool := formedB (toks l) && !l.any blankB
theorem Valid_ev (l : List UInt8) (hs : l.length < 8796093022208) : Ev (fun k => spec_Valid.f k (ba l)) (validB l) := by
  have ht : (toks l).length ≤ 140737488351232 := by rw [toks_len]; have := List.count_le_length (a := (46 : UInt8)) (l := l); omega
  refine Ev.congr (fun k => by rw [spec_Valid.f]) ?_
  refine Ev.bind (Tokens_ev l hs) ?_
  refine Ev.bind (Formed_ev _ ht) ?_
  unfold validB
  cases formedB (toks l) with
  | true =>
    simp only [if_true, Bool.true_and]
    refine Ev.bind (Spaced_ev l (by omega)) ?_
    exact Ev.now _
  | false => simp only [Bool.false_eq_true, if_false, Bool.false_and]; exact Ev.now _

end Go.Proofs.YtimffhpnfdikoaaDoor.PlFnListKinds
