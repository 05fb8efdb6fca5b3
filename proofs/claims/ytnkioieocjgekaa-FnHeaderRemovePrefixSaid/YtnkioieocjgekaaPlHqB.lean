/- Where a key's line begins; what a line's value is. -/
import Derived.Test.YtnkioieocjgekaaPlHq
namespace Go.Proofs.Ytnkioieocjgekaa.PlHq
open Go.RowKit Go.Proofs.YtnkioieocjgekaaW.PrintWords Go.Proofs.YtnkioieocjgekaaW.PrintLast Go.Proofs.YtnkioieocjgekaaW.PrintMore Go.Proofs.Ytnkioieocjgekaa.Pl Go.Proofs.Ytnkioieocjgekaa.GFnHeaderRemovePrefix
set_option linter.unusedVariables false
set_option linter.unusedSimpArgs false

theorem zz_ev (T key : List UInt8) (hs : T.length ≤ 1000000) (hk : key.length ≤ 1000000) : Ev (fun k => server_zzIndexBytes.f k (nm T) (nm key)) (zi key T 0) := by
  have := Zidx_ev T key hs hk T [] 0 (by simp) (by simp)
  exact this
theorem nm_append (a b : List UInt8) : nm (a ++ b) = nm a ++ nm b := by simp [nm]
theorem zi_range (key : List UInt8) : ∀ (l : List UInt8) (i : Nat), zi key l i = -1 ∨ ((i : Int) ≤ zi key l i ∧ (zi key l i).toNat + key.length ≤ i + l.length)
  | [], i => by
    rw [zi]
    split
    · rename_i h; subst h; right; simp
    · exact .inl rfl
  | b :: r, i => by
    rw [zi]
    split
    · rename_i h
      right
      have h2 := congrArg List.length h
      rw [List.length_take] at h2
      refine ⟨Int.le_refl _, ?_⟩
      rw [Int.toNat_natCast]
      omega
    · rcases zi_range key r (i + 1) with h | ⟨h1, h2⟩
      · exact .inl h
      · right
        rw [List.length_cons]
        omega
/-- A value: no control characters, no blank ahead. -/
structure Fld (v : List UInt8) : Prop where
  all : ∀ b ∈ v, 32 ≤ b.toNat
  head : ∀ r, v ≠ 32 :: r
theorem skip_fld (v r : List UInt8) (h : Fld v) (hr : ∀ q, r ≠ 32 :: q) : Hg.skip (nm (v ++ r)) = 0 := by
  cases v with
  | nil =>
    cases r with
    | nil => rfl
    | cons b q =>
      have : ¬ ((b.toNat : Int) = 32) := fun e => hr q (by rw [(toNat_eq (n := 32) (by omega)).1 e]; rfl)
      show (if (b.toNat : Int) = 32 then _ else 0) = 0
      rw [if_neg this]
  | cons b q =>
    have : ¬ ((b.toNat : Int) = 32) := fun e => h.head q (by rw [(toNat_eq (n := 32) (by omega)).1 e]; rfl)
    show (if (b.toNat : Int) = 32 then _ else 0) = 0
    rw [if_neg this]
theorem toEnd_fld : ∀ (v r : List UInt8), (∀ b ∈ v, 32 ≤ b.toNat) → Hg.toEnd (nm (v ++ 13 :: 10 :: r)) = v.length
  | [], r, _ => by
    show (if _ then 0 else _) = 0
    rw [if_pos ⟨by decide, rfl⟩]
  | b :: q, r, h => by
    have hb := h b List.mem_cons_self
    have e : nm (b :: q ++ 13 :: 10 :: r) = (b.toNat : Int) :: nm (q ++ 13 :: 10 :: r) := rfl
    rw [e, Hg.toEnd, if_neg (by rintro ⟨h1, -⟩; omega), toEnd_fld q r (fun b hb => h b (List.mem_cons_of_mem _ hb))]
    rfl
theorem value_fld (a v r : List UInt8) (h : Fld v) : Hg.value (nm (a ++ 32 :: (v ++ 13 :: 10 :: r))) a.length = nm v := by
  have e1 : (nm (a ++ 32 :: (v ++ 13 :: 10 :: r))).drop a.length = (32 : Int) :: nm (v ++ 13 :: 10 :: r) := by
    rw [nm_append]; exact List.drop_left' (by simp [nm])
  have e2 : Hg.skip ((32 : Int) :: nm (v ++ 13 :: 10 :: r)) = 1 := by
    rw [Hg.skip, if_pos rfl, skip_fld v _ h (by simp)]
  have e3 : nm (a ++ 32 :: (v ++ 13 :: 10 :: r)) = nm (a ++ [32]) ++ (nm v ++ nm (13 :: 10 :: r)) := by simp [nm]
  have e4 : (nm (a ++ [32])).length = a.length + 1 := by simp [nm]
  have e5 : (nm (a ++ 32 :: (v ++ 13 :: 10 :: r))).drop (a.length + 1) = nm (v ++ 13 :: 10 :: r) := by
    rw [e3, ← e4, List.drop_left' rfl, nm_append]
  unfold Hg.value
  rw [e1, e2, e5, toEnd_fld v r h.all, e3, ← e4]
  have e6 : (nm (a ++ [32])).length + v.length = (nm (a ++ [32])).length + (nm v).length := by rw [nm_len v]
  rw [e6, List.take_length_add_append, List.take_left' rfl]
  exact List.drop_left' rfl
end Go.Proofs.Ytnkioieocjgekaa.PlHq
