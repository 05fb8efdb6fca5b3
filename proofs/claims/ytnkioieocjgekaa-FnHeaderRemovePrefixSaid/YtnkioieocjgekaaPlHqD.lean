/- That the parts of FnHeaderGet come to an end, and what they say. -/
import Derived.Test.YtnkioieocjgekaaPlHqB
namespace Go.Proofs.Ytnkioieocjgekaa.PlHq
open Go.RowKit Go.Proofs.YtnkioieocjgekaaW.PrintWords Go.Proofs.YtnkioieocjgekaaW.PrintLast Go.Proofs.YtnkioieocjgekaaW.PrintMore Go.Proofs.Ytnkioieocjgekaa.Pl Go.Proofs.Ytnkioieocjgekaa.GFnHeaderRemovePrefix
set_option linter.unusedVariables false
set_option linter.unusedSimpArgs false

theorem Fits4 (a b : ByteArray) : ∃ r, laws_zzFits4.f a b = some r := by
  unfold laws_zzFits4.f
  split
  · exact ⟨_, rfl⟩
  · split <;> exact ⟨_, rfl⟩
theorem Fits_l0 (l : List S34) (hl : l.length ≤ 2147483647) : ∀ (n : Nat) (i : Int), 0 ≤ i → i + n = l.length → ∃ b, Ev (fun k => laws_zzFits3.l0 k l (l.length : Int) i) b := by
  intro n
  induction n with
  | zero => intro i h0 h; exact ⟨true, Ev.step (fun k => by rw [laws_zzFits3.l0, if_neg (by omega)]) (Ev.now _)⟩
  | succ n ih =>
    intro i h0 h
    obtain ⟨r, hr⟩ := Fits4 (rd_T34 l i).f0 (rd_T34 l i).f1
    have hw : wrap64 (i + 1) = i + 1 := w64 (by omega) (by omega)
    cases r with
    | false => exact ⟨false, Ev.step (fun k => by rw [laws_zzFits3.l0, if_pos (by omega), if_pos (by omega), if_pos (by omega), hr, Option.bind_some, if_neg (by simp)]) (Ev.now _)⟩
    | true =>
      obtain ⟨b, hb⟩ := ih (i + 1) (by omega) (by omega)
      exact ⟨b, Ev.step (fun k => by rw [laws_zzFits3.l0, if_pos (by omega), if_pos (by omega), if_pos (by omega), hr, Option.bind_some, if_pos rfl, hw]) hb⟩
theorem Fits_ev (l : List S34) : ∃ b, Ev (fun k => laws_zzFits3.f k l) b := by
  by_cases h : (l.length : Int) > 2147483647
  · exact ⟨false, Ev.congr (fun k => by rw [laws_zzFits3.f, if_pos h]) (Ev.now _)⟩
  · obtain ⟨b, hb⟩ := Fits_l0 l (by omega) l.length 0 (by omega) (by omega)
    exact ⟨b, Ev.congr (fun k => by rw [laws_zzFits3.f, if_neg h]) hb⟩
/-- A letter of a token. -/
def good (c : Int) : Prop := (97 ≤ c ∧ c ≤ 122) ∨ (65 ≤ c ∧ c ≤ 90) ∨ (48 ≤ c ∧ c ≤ 57) ∨ c = 45
instance (c : Int) : Decidable (good c) := by unfold good; infer_instance
theorem Token_step (s : ByteArray) (i : Int) (h0 : 0 ≤ i) (h1 : i < s.size) (k : Nat) : spec_Token.l0 (k + 1) s i = if good (bt s i) then spec_Token.l0 k s (wrap64 (i + 1)) else some false := by
  rw [spec_Token.l0, if_pos h1, if_pos h0]
  generalize bt s i = c
  by_cases hg : good c
  · rw [if_pos hg]
    unfold good at hg
    repeat' split
    all_goals first | rfl | omega
  · rw [if_neg hg]
    unfold good at hg
    repeat' split
    all_goals first | rfl | omega
theorem Token_ev (s : ByteArray) (hs : s.size ≤ 2147483647) : ∀ (n : Nat) (i : Int), 0 ≤ i → i + n = s.size → ∃ b, Ev (fun k => spec_Token.l0 k s i) b ∧ (b = true → (∀ j : Int, i ≤ j → j < s.size → good (bt s j)) ∧ 0 < s.size) := by
  intro n
  induction n with
  | zero =>
    intro i h0 h
    refine ⟨_, Ev.step (fun k => by rw [spec_Token.l0, if_neg (by omega)]) (Ev.now _), fun hb => ⟨fun j h1 h2 => by omega, ?_⟩⟩
    rcases Nat.eq_zero_or_pos s.size with h0 | h0
    · obtain rfl : s = ⟨#[]⟩ := ByteArray.ext (Array.eq_empty_of_size_eq_zero h0)
      exact absurd hb (by rw [ByteArray.toList_eq]; simp)
    · exact h0
  | succ n ih =>
    intro i h0 h
    have hw : wrap64 (i + 1) = i + 1 := w64 (by omega) (by omega)
    by_cases hg : good (bt s i)
    · obtain ⟨b, hb, hp⟩ := ih (i + 1) (by omega) (by omega)
      refine ⟨b, Ev.step (fun k => by rw [Token_step s i h0 (by omega), if_pos hg, hw]) hb, fun hb' => ⟨fun j h1 h2 => ?_, (hp hb').2⟩⟩
      by_cases hj : j = i
      · subst hj; exact hg
      · exact (hp hb').1 j (by omega) h2
    · exact ⟨false, Ev.step (fun k => by rw [Token_step s i h0 (by omega), if_neg hg]) (Ev.now _), fun h => by cases h⟩
/-- A text is a token. -/
structure Tok (l : List UInt8) : Prop where
  all : ∀ c ∈ l, good (c.toNat : Int)
  pos : 0 < l.length
theorem Token_ev2 (s : ByteArray) (hs : s.size ≤ 2147483647) : ∃ b, Ev (fun k => spec_Token.f k s) b ∧ (b = true → Tok s.data.toList) := by
  obtain ⟨b, hb, hp⟩ := Token_ev s hs s.size 0 (by omega) (by omega)
  refine ⟨b, hb, fun h => ⟨fun c hc => ?_, (hp h).2⟩⟩
  obtain ⟨i, hi, rfl⟩ := List.mem_iff_getElem.1 hc
  have h2 := (hp h).1 (i : Int) (by omega) (by have : s.data.toList.length = s.size := rfl; omega)
  have h3 := ba_bt s.data.toList (i : Int)
  rw [show ba s.data.toList = s from rfl, Int.toNat_natCast, List.getD_eq_getElem?_getD, List.getElem?_eq_getElem hi] at h3
  rw [h3] at h2
  exact h2
theorem Field_l0 (s : ByteArray) (hs : s.size ≤ 2147483647) : ∀ (rest pre : List UInt8) (i : Int), s = ba (pre ++ rest) → i = (pre.length : Int) → ∃ b, Ev (fun k => spec_Field.l0 k s i) b ∧ (b = true → (∀ c ∈ rest, 32 ≤ c.toNat) ∧ (pre = [] → ∀ r, rest ≠ 32 :: r)) := by
  intro rest
  induction rest with
  | nil =>
    intro pre i h hi
    have hz : s.size = pre.length := by rw [h, ba_size]; simp
    exact ⟨true, Ev.step (fun k => by rw [spec_Field.l0, if_neg (by omega)]) (Ev.now _), fun _ => ⟨fun c hc => (by cases hc), fun _ r hr => (by cases hr)⟩⟩
  | cons c rest ih =>
    intro pre i h hi
    have hz : s.size = pre.length + rest.length + 1 := by rw [h, ba_size]; simp; omega
    have hb : bt s i = (c.toNat : Int) := bt_mid pre c rest h hi
    have hw : wrap64 (i + 1) = i + 1 := w64 (by omega) (by omega)
    obtain ⟨b, he, hbt⟩ := ih (pre ++ [c]) (i + 1) (by rw [h]; simp) (by simp; omega)
    by_cases h1 : (c.toNat : Int) < 32
    · exact ⟨false, Ev.step (fun k => by rw [spec_Field.l0, if_pos (by omega), if_pos (by omega), hb, if_pos h1]) (Ev.now _), fun h => by cases h⟩
    by_cases h2 : (c.toNat : Int) > 126
    · exact ⟨false, Ev.step (fun k => by rw [spec_Field.l0, if_pos (by omega), if_pos (by omega), hb, if_neg h1, if_pos h2]) (Ev.now _), fun h => by cases h⟩
    by_cases h3 : (c.toNat : Int) = 32
    · by_cases h4 : i = 0
      · exact ⟨false, Ev.step (fun k => by rw [spec_Field.l0, if_pos (by omega), if_pos (by omega), hb, if_neg h1, if_neg h2, if_pos h3, if_pos h4]) (Ev.now _), fun h => by cases h⟩
      by_cases h5 : i + 1 = (s.size : Int)
      · exact ⟨false, Ev.step (fun k => by rw [spec_Field.l0, if_pos (by omega), if_pos (by omega), hb, if_neg h1, if_neg h2, if_pos h3, if_neg h4, hw, if_pos h5]) (Ev.now _), fun h => by cases h⟩
      refine ⟨b, Ev.step (fun k => by rw [spec_Field.l0, if_pos (by omega), if_pos (by omega), hb, if_neg h1, if_neg h2, if_pos h3, if_neg h4, hw, if_neg h5]) he, fun ht => ⟨fun x hx => ?_, fun hp => ?_⟩⟩
      · rcases List.mem_cons.1 hx with rfl | hx
        · omega
        · exact (hbt ht).1 x hx
      · subst hp; exact absurd hi h4
    · refine ⟨b, Ev.step (fun k => by rw [spec_Field.l0, if_pos (by omega), if_pos (by omega), hb, if_neg h1, if_neg h2, if_neg h3, hw]) he, fun ht => ⟨fun x hx => ?_, fun _ r e => ?_⟩⟩
      · rcases List.mem_cons.1 hx with rfl | hx
        · omega
        · exact (hbt ht).1 x hx
      · injection e with e _
        exact h3 (by rw [e]; rfl)
theorem Field_ev (v : List UInt8) (hs : v.length ≤ 2147483647) : ∃ b, Ev (fun k => spec_Field.f k (ba v)) b ∧ (b = true → Fld v) := by
  obtain ⟨b, h1, h2⟩ := Field_l0 (ba v) hs v [] 0 rfl rfl
  exact ⟨b, h1, fun h => ⟨(h2 h).1, (h2 h).2 rfl⟩⟩
theorem lower_ev (s : ByteArray) (hs : s.size ≤ 2147483647) : ∀ (n : Nat) (i : Int) (out : ByteArray), 0 ≤ i → i + n = s.size → (out.size : Int) ≤ i → ∃ r, Ev (fun k => laws_lower.l0 k s out i) r := by
  intro n
  induction n with
  | zero => intro i out h0 h ho; exact ⟨_, Ev.step (fun k => by rw [laws_lower.l0, if_neg (by omega)]) (Ev.now _)⟩
  | succ n ih =>
    intro i out h0 h ho
    have hw : wrap64 (i + 1) = i + 1 := w64 (by omega) (by omega)
    have h1 : ∀ z : Int, (strOfNums [z]).size = 1 := fun z => rfl
    obtain ⟨z, hz⟩ : ∃ z : Int, ∀ k, laws_lower.l0 (k + 1) s out i = laws_lower.l0 k s (out ++ strOfNums [z]) (i + 1) := by
      by_cases c1 : bt s i ≥ 65
      · by_cases c2 : bt s i ≤ 90
        · exact ⟨_, fun k => by rw [laws_lower.l0, if_pos (by omega), if_pos h0, if_pos c1, if_pos c2, Option.bind_some, h1, if_pos (by omega), hw]⟩
        · exact ⟨_, fun k => by rw [laws_lower.l0, if_pos (by omega), if_pos h0, if_pos c1, if_neg c2, Option.bind_some, h1, if_pos (by omega), hw]⟩
      · exact ⟨_, fun k => by rw [laws_lower.l0, if_pos (by omega), if_pos h0, if_neg c1, Option.bind_some, h1, if_pos (by omega), hw]⟩
    obtain ⟨r, hr⟩ := ih (i + 1) (out ++ strOfNums [z]) (by omega) (by omega) (by rw [ByteArray.size_append, h1]; omega)
    exact ⟨r, Ev.step hz hr⟩
end Go.Proofs.Ytnkioieocjgekaa.PlHq
