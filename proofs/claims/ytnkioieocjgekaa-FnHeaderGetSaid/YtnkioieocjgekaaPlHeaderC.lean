/- Where a key's line begins. -/
import Derived.Test.YtnkioieocjgekaaPlHeaderB
namespace Go.Proofs.Ytnkioieocjgekaa.PlH
open Go.RowKit Go.Proofs.YtnkioieocjgekaaW.PrintWords Go.Proofs.YtnkioieocjgekaaW.PrintLast Go.Proofs.YtnkioieocjgekaaW.PrintMore Go.Proofs.Ytnkioieocjgekaa.Pl Go.Proofs.Ytnkioieocjgekaa.GFnHeaderGet
set_option linter.unusedVariables false
set_option linter.unusedSimpArgs false

theorem Key_at (p v key : List UInt8) (T : List UInt8) (hT : T = (p ++ [13, 10]) ++ (key ++ 58 :: v)) (hs : T.length ≤ 1000000) (hk : key.length ≤ 1000000) (hk0 : 0 < key.length) (ht : tm key T = 1) :
    Ev (fun k => server_getHeaderKeyIndex.f k (ba key) (nm T)) ((p.length + 2 : Nat) : Int) := by
  have hz := zz_ev T key hs hk
  have hl : T.length = p.length + 2 + key.length + 1 + v.length := by rw [hT]; simp; omega
  have hzi : zi key T 0 = ((p.length + 2 : Nat) : Int) := by
    have := zi_one key (p ++ [13, 10]) (key ++ 58 :: v) 0 (by rw [List.take_left' rfl]) (by rw [← hT]; exact ht)
    rw [← hT] at this
    rw [this]; simp
  rw [hzi] at hz
  have w1 : wrap64 (((p.length + 2 : Nat) : Int) + 0) = ((p.length + 2 : Nat) : Int) := by rw [w64 (by omega) (by omega)]; omega
  have w2 : wrap64 ((T.length : Int) - 1) = (T.length : Int) - 1 := w64 (by omega) (by omega)
  have w3 : wrap64 (((p.length + 2 : Nat) : Int) - 1) = ((p.length + 1 : Nat) : Int) := by rw [w64 (by omega) (by omega)]; omega
  have w4 : wrap64 (((p.length + 2 : Nat) : Int) - 2) = ((p.length : Nat) : Int) := by rw [w64 (by omega) (by omega)]; omega
  have w5 : wrap64 (((p.length + 2 : Nat) : Int) + (key.length : Int)) = ((p.length + 2 + key.length : Nat) : Int) := by rw [w64 (by omega) (by omega)]; omega
  have r1 : rd (nm T) ((p.length + 1 : Nat) : Int) = 10 := rd_mid (nm (p ++ [13])) 10 (nm (key ++ 58 :: v)) (by rw [hT]; simp [nm]) (by simp [nm])
  have r2 : rd (nm T) ((p.length : Nat) : Int) = 13 := rd_mid (nm p) 13 (nm ([10] ++ (key ++ 58 :: v))) (by rw [hT]; simp [nm]) (by simp [nm])
  have r3 : rd (nm T) ((p.length + 2 + key.length : Nat) : Int) = 58 := rd_mid (nm (p ++ [13, 10] ++ key)) 58 (nm v) (by rw [hT]; simp [nm]) (by simp [nm]; omega)
  obtain ⟨P, hP⟩ : ∃ P : Int, P = ((p.length + 2 : Nat) : Int) := ⟨_, rfl⟩
  rw [← hP] at w1 w3 w4 w5 hz ⊢
  have p1 : 2 ≤ P ∧ P + key.length + 1 ≤ T.length := by omega
  obtain ⟨Q1, hQ1⟩ : ∃ Q : Int, Q = ((p.length + 1 : Nat) : Int) := ⟨_, rfl⟩
  obtain ⟨Q2, hQ2⟩ : ∃ Q : Int, Q = (p.length : Int) := ⟨_, rfl⟩
  obtain ⟨Q3, hQ3⟩ : ∃ Q : Int, Q = ((p.length + 2 + key.length : Nat) : Int) := ⟨_, rfl⟩
  rw [← hQ1] at w3 r1
  rw [← hQ2] at w4 r2
  rw [← hQ3] at w5 r3
  have q1 : 0 ≤ Q1 ∧ Q1 < T.length := by omega
  have q2 : 0 ≤ Q2 ∧ Q2 < T.length := by omega
  have q3 : 0 ≤ Q3 ∧ Q3 < T.length := by omega
  clear hQ1 hQ2 hQ3 hP hzi hl hT ht
  refine Ev.congr (f := fun k => server_getHeaderKeyIndex.l0 k (nm T) (nm key) (key.length : Int) (T.length : Int) 0) (fun k => ?_) ?_
  · rw [server_getHeaderKeyIndex.f, if_neg (by rw [nm_len]; omega), server_stringToBytes.f, if_pos (by rw [ba_size]; omega), bytesOf_ba, nm_len, ba_size, Option.bind_some]
  · refine Ev.step (fun k => by
      rw [server_getHeaderKeyIndex.l0, if_pos (by omega), if_pos (by rw [nm_len]; omega), show ((0 : Int)).toNat = 0 from Int.toNat_zero, List.drop_zero]) ?_
    refine Ev.bind hz ?_
    refine Ev.congr (f := fun k => server_getHeaderKeyIndex.j1 k (nm T) (nm key) (key.length : Int) (T.length : Int) P false) (fun k => ?_) ?_
    · rw [if_neg (by omega), w1, w2, if_neg (by omega), w3, if_pos (by omega), if_pos (by rw [nm_len]; omega), r1, if_pos rfl, w4, if_pos (by omega), if_pos (by rw [nm_len]; omega), r2, show ((13 : Int) != 13) = false by decide]
    · refine Ev.step (f := fun _ => some P) (fun k => ?_) (Ev.now _)
      rw [server_getHeaderKeyIndex.j1, if_neg (by simp), w5, if_neg (by omega), if_pos (by omega), if_pos (by rw [nm_len]; omega), r3, if_pos rfl]

end Go.Proofs.Ytnkioieocjgekaa.PlH
