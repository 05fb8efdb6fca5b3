/- What the walked functions of FnHeaderGet come to, as plain functions on lists. -/
import Derived.Test.YtnkioieocjgekaaPlBase
import Derived.Test.YtnkioieocjgekaaHqD
namespace Go.Proofs.Ytnkioieocjgekaa.PlHq
open Go.RowKit Go.Proofs.YtnkioieocjgekaaW.PrintWords Go.Proofs.YtnkioieocjgekaaW.PrintLast Go.Proofs.YtnkioieocjgekaaW.PrintMore Go.Proofs.Ytnkioieocjgekaa.Pl Go.Proofs.Ytnkioieocjgekaa.GFnHeaderRemovePrefix
set_option linter.unusedVariables false
set_option linter.unusedSimpArgs false

def nm (l : List UInt8) : List Int := l.map fun b => (b.toNat : Int)
theorem nm_len (l : List UInt8) : (nm l).length = l.length := by simp [nm]
theorem bytesOf_ba (l : List UInt8) : bytesOf (ba l) = nm l := rfl
/-- How often a key stands in a text. -/
def tm (key : List UInt8) : List UInt8 → Nat
  | [] => if key = [] then 1 else 0
  | b :: r => (if (b :: r).take key.length = key then 1 else 0) + tm key r
/-- Where first. -/
def zi (key : List UInt8) : List UInt8 → Nat → Int
  | [], i => if key = [] then (i : Int) else -1
  | b :: r, i => if (b :: r).take key.length = key then (i : Int) else zi key r (i + 1)
theorem tm_short (key : List UInt8) : ∀ l : List UInt8, l.length < key.length → tm key l = 0
  | [], h => by rw [tm, if_neg]; rintro rfl; simp at h
  | b :: r, h => by
    rw [tm, if_neg, tm_short key r (by simp at h; omega)]
    intro e
    have := congrArg List.length e
    rw [List.length_take] at this
    simp at this h
    omega
theorem zi_none (key : List UInt8) : ∀ (l : List UInt8) (i : Nat), tm key l = 0 → zi key l i = -1
  | [], i, h => by
    rw [tm] at h
    rw [zi]
    split at h
    · omega
    · rename_i hk; rw [if_neg hk]
  | b :: r, i, h => by
    rw [tm] at h
    split at h
    · omega
    · rename_i hk
      rw [zi, if_neg hk]
      exact zi_none key r (i + 1) (by omega)
theorem tm_pos (key : List UInt8) : ∀ (pre rest : List UInt8), rest.take key.length = key → 0 < tm key (pre ++ rest)
  | [], [], h => by
    simp at h
    subst h
    simp [tm]
  | [], b :: r, h => by
    rw [List.nil_append, tm, if_pos h]; omega
  | a :: p, rest, h => by
    rw [List.cons_append, tm]
    have := tm_pos key p rest h
    omega
theorem zi_one (key : List UInt8) : ∀ (pre rest : List UInt8) (i : Nat), rest.take key.length = key → tm key (pre ++ rest) = 1 → zi key (pre ++ rest) i = ((i + pre.length : Nat) : Int)
  | [], [], i, h, _ => by
    simp at h
    subst h
    simp [zi]
  | [], b :: r, i, h, _ => by
    rw [List.nil_append, zi, if_pos h]; rfl
  | a :: p, rest, i, h, ht => by
    rw [List.cons_append, tm] at ht
    have h2 := tm_pos key p rest h
    rw [List.cons_append, zi]
    split at ht
    · omega
    · rename_i hn
      rw [if_neg hn, zi_one key p rest (i + 1) h (by omega), List.length_cons]
      congr 1
      omega
theorem take_mid (pre l : List UInt8) (n : Nat) : ((pre ++ l).take (pre.length + n)).drop pre.length = l.take n := by
  rw [List.take_length_add_append]
  exact List.drop_left' rfl
theorem Zidx_ev (l key : List UInt8) (hs : l.length ≤ 1000000) (hk : key.length ≤ 1000000) : ∀ (rest pre : List UInt8) (i : Int), l = pre ++ rest → i = (pre.length : Int) →
    Ev (fun k => server_zzIndexBytes.l0 k (nm l) (nm key) i) (zi key rest pre.length) := by
  have hcmp : ∀ a b : List UInt8, (strOfNums (nm a)).toList = (strOfNums (nm b)).toList ↔ a = b := fun a b => by
    rw [nm, nm, strOfNums_bytes, strOfNums_bytes, ba_toList, ba_toList]
  have hsub : ∀ (pre rest : List UInt8) (n : Nat), ((nm (pre ++ rest)).take (pre.length + n)).drop pre.length = nm (rest.take n) := fun pre rest n => by
    rw [nm, ← List.map_take, ← List.map_drop, take_mid]; rfl
  intro rest
  induction rest with
  | nil =>
    intro pre i h hi
    have hz : l.length = pre.length := by rw [h]; simp
    have hw : wrap64 (i + ((nm key).length : Int)) = i + key.length := by rw [nm_len]; exact w64 (by omega) (by omega)
    by_cases hk0 : key = []
    · subst hk0
      refine Ev.step (f := fun _ => some i) (fun k => ?_) (Ev.det' (Ev.now _) (by simp [zi, hi]))
      have e1 : (i + (([] : List UInt8).length : Int)).toNat = pre.length + 0 := by simp; omega
      have e2 : i.toNat = pre.length := by omega
      rw [server_zzIndexBytes.l0, hw, if_pos (by rw [nm_len]; simp; omega), if_pos (by omega), if_pos (by simp), if_pos]
      rw [e1, e2, h, hsub]; rfl
    · refine Ev.step (fun k => by rw [server_zzIndexBytes.l0, hw, if_neg (by rw [nm_len]; have := List.length_pos_iff.2 hk0; omega)]) ?_
      exact Ev.det' (Ev.now _) (by simp [zi, hk0])
  | cons c rest ih =>
    intro pre i h hi
    have hz : l.length = pre.length + rest.length + 1 := by rw [h]; simp; omega
    have hw : wrap64 (i + ((nm key).length : Int)) = i + key.length := by rw [nm_len]; exact w64 (by omega) (by omega)
    have hw1 : wrap64 (i + 1) = i + 1 := w64 (by omega) (by omega)
    have e1 : (i + (key.length : Int)).toNat = pre.length + key.length := by omega
    have e2 : i.toNat = pre.length := by omega
    by_cases hlen : key.length ≤ rest.length + 1
    · by_cases hm : (c :: rest).take key.length = key
      · refine Ev.step (f := fun _ => some i) (fun k => ?_) (Ev.det' (Ev.now _) (by rw [zi, if_pos hm, hi]))
        rw [server_zzIndexBytes.l0, hw, if_pos (by rw [nm_len]; omega), if_pos (by omega), if_pos (by omega), if_pos]
        rw [e1, e2, h, hsub, hcmp]; exact hm
      · refine Ev.step (fun k => ?_) (Ev.det' (ih (pre ++ [c]) (i + 1) (by rw [h]; simp) (by simp; omega)) (by rw [zi, if_neg hm, List.length_append]; rfl))
        rw [server_zzIndexBytes.l0, hw, if_pos (by rw [nm_len]; omega), if_pos (by omega), if_pos (by omega), if_neg, hw1]
        rw [e1, e2, h, hsub, hcmp]; exact hm
    · refine Ev.step (fun k => by rw [server_zzIndexBytes.l0, hw, if_neg (by rw [nm_len]; omega)]) ?_
      refine Ev.det' (Ev.now _) ?_
      exact (zi_none key _ _ (tm_short key (c :: rest) (by simp; omega))).symm
end Go.Proofs.Ytnkioieocjgekaa.PlHq
