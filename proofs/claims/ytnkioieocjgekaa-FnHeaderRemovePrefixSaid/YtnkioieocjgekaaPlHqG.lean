/- spec.Get, spec.Header, laws.knownKey: they come to an end, and what they say. -/
import Derived.Test.YtnkioieocjgekaaPlHqF
namespace Go.Proofs.Ytnkioieocjgekaa.PlHq
open Go.RowKit Go.Proofs.YtnkioieocjgekaaW.PrintWords Go.Proofs.YtnkioieocjgekaaW.PrintLast Go.Proofs.YtnkioieocjgekaaW.PrintMore Go.Proofs.Ytnkioieocjgekaa.Pl Go.Proofs.Ytnkioieocjgekaa.GFnHeaderRemovePrefix
set_option linter.unusedVariables false
set_option linter.unusedSimpArgs false

theorem toList_inj {a b : ByteArray} : a.toList = b.toList ↔ a = b := by
  constructor
  · intro h
    rw [ByteArray.toList_eq, ByteArray.toList_eq] at h
    exact ByteArray.ext (Array.toList_inj.1 h)
  · rintro rfl; rfl
/-- A line's text. -/
def ln (x : S34) : List UInt8 := x.f0.data.toList ++ ([58, 32] ++ (x.f1.data.toList ++ [13, 10]))
theorem ba_data_ (s : ByteArray) : ba s.data.toList = s := rfl
theorem Header_l0 (l : List S34) (hl : l.length ≤ 8) (hsz : ∀ x ∈ l, x.f0.size ≤ 40 ∧ x.f1.size ≤ 60) : ∀ (rest pre : List S34) (acc : List UInt8) (i : Int), l = pre ++ rest → i = (pre.length : Int) → acc.length ≤ 1000 + 200 * pre.length →
    Ev (fun k => spec_Header.l0 k l (ba acc) i) (ba (acc ++ (rest.flatMap ln ++ [13, 10]))) := by
  intro rest
  induction rest with
  | nil =>
    intro pre acc i h hi ha
    have hz : l.length = pre.length := by rw [h]; simp
    refine Ev.step (fun k => by rw [spec_Header.l0, if_neg (by omega), if_pos (by rw [ba_size]; omega)]) (Ev.det' (Ev.now _) ?_)
    rw [show (⟨#[13, 10]⟩ : ByteArray) = ba [13, 10] from rfl, ba_append]
    rfl
  | cons x rest ih =>
    intro pre acc i h hi ha
    have hz : l.length = pre.length + rest.length + 1 := by rw [h]; simp; omega
    have hx := rdT pre x rest h hi
    have hs := hsz x (by rw [h]; simp)
    have hw : wrap64 (i + 1) = i + 1 := w64 (by omega) (by omega)
    have e1 : (x.f0 ++ (⟨#[58, 32]⟩ : ByteArray)).size = x.f0.size + 2 := by rw [ByteArray.size_append]; rfl
    have e2 : (x.f0 ++ (⟨#[58, 32]⟩ : ByteArray) ++ x.f1).size = x.f0.size + 2 + x.f1.size := by rw [ByteArray.size_append, e1]
    have e3 : (x.f0 ++ (⟨#[58, 32]⟩ : ByteArray) ++ x.f1 ++ (⟨#[13, 10]⟩ : ByteArray)).size = x.f0.size + 2 + x.f1.size + 2 := by rw [ByteArray.size_append, e2]; rfl
    have e4 : ba acc ++ (x.f0 ++ (⟨#[58, 32]⟩ : ByteArray) ++ x.f1 ++ (⟨#[13, 10]⟩ : ByteArray)) = ba (acc ++ ln x) := by
      rw [← ba_data_ x.f0, ← ba_data_ x.f1, show (⟨#[58, 32]⟩ : ByteArray) = ba [58, 32] from rfl, show (⟨#[13, 10]⟩ : ByteArray) = ba [13, 10] from rfl, ba_append, ba_append, ba_append, ba_append]
      simp [ln, ba]
    have hll : (ln x).length = x.f0.size + 2 + x.f1.size + 2 := by
      simp only [ln, List.length_append, List.length_cons, List.length_nil, data_length]
      omega
    refine Ev.step (fun k => by rw [spec_Header.l0, if_pos (by omega), if_pos (by omega), hx, if_pos (by omega), e1, if_pos (by omega), e2, if_pos (by omega), e3, if_pos (by rw [ba_size]; omega), e4, hw]) ?_
    refine Ev.det' (ih (pre ++ [x]) (acc ++ ln x) (i + 1) (by rw [h]; simp) (by simp; omega) (by rw [List.length_append, hll]; simp; omega)) ?_
    rw [List.flatMap_cons]; simp
def top : List UInt8 := [78, 65, 84, 83, 47, 49, 46, 48, 13, 10]
theorem Header_ev (l : List S34) (hl : l.length ≤ 8) (hsz : ∀ x ∈ l, x.f0.size ≤ 40 ∧ x.f1.size ≤ 60) : Ev (fun k => spec_Header.f k l) (ba (top ++ (l.flatMap ln ++ [13, 10]))) :=
  Header_l0 l hl hsz l [] top 0 rfl rfl (by simp [top])
end Go.Proofs.Ytnkioieocjgekaa.PlHq
