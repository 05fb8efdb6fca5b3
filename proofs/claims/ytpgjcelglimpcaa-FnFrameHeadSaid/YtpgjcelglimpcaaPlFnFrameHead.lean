/- What the printed functions of FnFrameHead come to, as plain functions on lists. -/
import Derived.Test.YtpgjcelglimpcaaPlBase
import Derived.Test.YtpgjcelglimpcaaGFnFrameHeadx3
namespace Go.Proofs.Ytpgjcelglimpcaa.PlFnFrameHead
open Go.RowKit Go.Proofs.YtpgjcelglimpcaaW.PrintWords Go.Proofs.YtpgjcelglimpcaaW.PrintLast Go.Proofs.YtpgjcelglimpcaaW.PrintMore Go.Proofs.Ytpgjcelglimpcaa.Pl Go.Proofs.Ytpgjcelglimpcaa.GFnFrameHead
set_option linter.unusedVariables false
set_option linter.unusedSimpArgs false

theorem u64' {x : Int} (h0 : 0 ≤ x) (h1 : x < 18446744073709551616) : IntKind.u64.wrap x = x := by rw [IntKind.wrap_u64]; omega
theorem or0 (x : Int) (h0 : 0 ≤ x) (h1 : x < 256) : Go.bits .or .u8 0 x = x := by
  obtain ⟨n, rfl⟩ : ∃ n : Nat, x = (n : Int) := ⟨x.toNat, by omega⟩
  unfold Go.bits
  show IntKind.u8.wrap (((BitVec.ofInt IntKind.u8.bits 0) ||| (BitVec.ofInt IntKind.u8.bits (n : Int))).toNat : Int) = _
  have e : ((BitVec.ofInt IntKind.u8.bits 0) ||| (BitVec.ofInt IntKind.u8.bits (n : Int))).toNat = n := by
    have z : BitVec.ofInt IntKind.u8.bits 0 = 0#(IntKind.u8.bits) := by decide
    rw [z, BitVec.zero_or, BitVec.toNat_ofInt]
    have : ((2 ^ IntKind.u8.bits : Nat) : Int) = 256 := by decide
    rw [this]; omega
  rw [e, IntKind.wrap_u8]; omega
theorem same_l0 (L : List Int) (hL : L.length ≤ 100000) : ∀ (rest pre : List Int) (i : Int), L = pre ++ rest → i = (pre.length : Int) → Ev (fun k => laws_sameBytes.l0 k L L i) true := by
  intro rest
  induction rest with
  | nil =>
    intro pre i h hi
    have hz : (L.length : Int) = pre.length := by rw [h]; simp
    refine Ev.step (fun k => by rw [laws_sameBytes.l0, if_neg (by omega)]) ?_
    exact Ev.now _
  | cons c rest ih =>
    intro pre i h hi
    have hz : (L.length : Int) = pre.length + rest.length + 1 := by rw [h]; simp; omega
    have hw : wrap64 (i + 1) = i + 1 := w64 (by omega) (by omega)
    refine Ev.step (fun k => by rw [laws_sameBytes.l0, if_pos (by omega), if_pos (by omega), if_pos (by omega), if_pos rfl, hw]) ?_
    exact ih (pre ++ [c]) (i + 1) (by rw [h]; simp) (by simp; omega)
theorem same_ev (L : List Int) (hL : L.length ≤ 100000) : Ev (fun k => laws_sameBytes.f k L L) true := by
  refine Ev.congr (fun k => by rw [laws_sameBytes.f, if_pos rfl]) ?_
  exact same_l0 L hL L [] 0 rfl rfl
/-- The first byte, by its parts. -/
def firstB (a b c : Bool) (k : Int) : Int := (if a then k else 0) + (if b then 128 else 0) + (if c then 64 else 0)
theorem headB_eq (a b c : Bool) (k : Int) (h0 : 0 ≤ k) (h1 : k ≤ 15) : headB a b c k = firstB a b c k := by
  have : k = 0 ∨ k = 1 ∨ k = 2 ∨ k = 3 ∨ k = 4 ∨ k = 5 ∨ k = 6 ∨ k = 7 ∨ k = 8 ∨ k = 9 ∨ k = 10 ∨ k = 11 ∨ k = 12 ∨ k = 13 ∨ k = 14 ∨ k = 15 := by omega
  rcases this with rfl | rfl | rfl | rfl | rfl | rfl | rfl | rfl | rfl | rfl | rfl | rfl | rfl | rfl | rfl | rfl <;> revert a b c <;> decide
def specL (x l : Int) : List Int :=
  if l ≤ 125 then [x, l] else if l < 65536 then [x, 126, l / 256, l % 256]
  else [x, 127, l / 72057594037927936, l / 281474976710656 % 256, l / 1099511627776 % 256, l / 4294967296 % 256, l / 16777216 % 256, l / 65536 % 256, l / 256 % 256, l % 256]
theorem headL_eq (a b c : Bool) (k l : Int) (h0 : 0 ≤ k) (h1 : k ≤ 15) (h2 : 0 ≤ l) : headL a b c k l = specL (firstB a b c k) l := by
  unfold headL specL
  rw [headB_eq a b c k h0 h1, or0 126 (by omega) (by omega), or0 127 (by omega) (by omega)]
  by_cases d : l ≤ 125
  · rw [if_pos d, if_pos d, or0 _ (by omega) (by omega), show l % 256 = l by omega]
  · rw [if_neg d, if_neg d]
theorem head_l0 (l : Int) (h2 : 0 ≤ l) (h3 : l ≤ 1099511627776) (x : Int) : Ev (fun k => spec_Head.l0 k l [x, 127] 7) [x, 127, l / 72057594037927936, l / 281474976710656 % 256, l / 1099511627776 % 256, l / 4294967296 % 256, l / 16777216 % 256, l / 65536 % 256, l / 256 % 256, l % 256] := by
  have k7 : IntKind.u64.wrap (8 * (IntKind.u64.wrap 7)) = 56 := by decide
  have s7 : shr .u64 l 56 = l / 72057594037927936 := by
    rw [shr, show (2 : Int) ^ min (56 : Int).toNat IntKind.u64.bits = 72057594037927936 from by decide]
  refine Ev.step (fun k => by rw [spec_Head.l0, if_pos (by omega), k7, if_pos (by omega), if_pos (by simp), s7, w64 (by omega) (by omega), show (7 : Int) - 1 = 6 from rfl]) ?_
  have k6 : IntKind.u64.wrap (8 * (IntKind.u64.wrap 6)) = 48 := by decide
  have s6 : shr .u64 l 48 = l / 281474976710656 := by
    rw [shr, show (2 : Int) ^ min (48 : Int).toNat IntKind.u64.bits = 281474976710656 from by decide]
  refine Ev.step (fun k => by rw [spec_Head.l0, if_pos (by omega), k6, if_pos (by omega), if_pos (by simp), s6, w64 (by omega) (by omega), show (6 : Int) - 1 = 5 from rfl]) ?_
  have k5 : IntKind.u64.wrap (8 * (IntKind.u64.wrap 5)) = 40 := by decide
  have s5 : shr .u64 l 40 = l / 1099511627776 := by
    rw [shr, show (2 : Int) ^ min (40 : Int).toNat IntKind.u64.bits = 1099511627776 from by decide]
  refine Ev.step (fun k => by rw [spec_Head.l0, if_pos (by omega), k5, if_pos (by omega), if_pos (by simp), s5, w64 (by omega) (by omega), show (5 : Int) - 1 = 4 from rfl]) ?_
  have k4 : IntKind.u64.wrap (8 * (IntKind.u64.wrap 4)) = 32 := by decide
  have s4 : shr .u64 l 32 = l / 4294967296 := by
    rw [shr, show (2 : Int) ^ min (32 : Int).toNat IntKind.u64.bits = 4294967296 from by decide]
  refine Ev.step (fun k => by rw [spec_Head.l0, if_pos (by omega), k4, if_pos (by omega), if_pos (by simp), s4, w64 (by omega) (by omega), show (4 : Int) - 1 = 3 from rfl]) ?_
  have k3 : IntKind.u64.wrap (8 * (IntKind.u64.wrap 3)) = 24 := by decide
  have s3 : shr .u64 l 24 = l / 16777216 := by
    rw [shr, show (2 : Int) ^ min (24 : Int).toNat IntKind.u64.bits = 16777216 from by decide]
  refine Ev.step (fun k => by rw [spec_Head.l0, if_pos (by omega), k3, if_pos (by omega), if_pos (by simp), s3, w64 (by omega) (by omega), show (3 : Int) - 1 = 2 from rfl]) ?_
  have k2 : IntKind.u64.wrap (8 * (IntKind.u64.wrap 2)) = 16 := by decide
  have s2 : shr .u64 l 16 = l / 65536 := by
    rw [shr, show (2 : Int) ^ min (16 : Int).toNat IntKind.u64.bits = 65536 from by decide]
  refine Ev.step (fun k => by rw [spec_Head.l0, if_pos (by omega), k2, if_pos (by omega), if_pos (by simp), s2, w64 (by omega) (by omega), show (2 : Int) - 1 = 1 from rfl]) ?_
  have k1 : IntKind.u64.wrap (8 * (IntKind.u64.wrap 1)) = 8 := by decide
  have s1 : shr .u64 l 8 = l / 256 := by
    rw [shr, show (2 : Int) ^ min (8 : Int).toNat IntKind.u64.bits = 256 from by decide]
  refine Ev.step (fun k => by rw [spec_Head.l0, if_pos (by omega), k1, if_pos (by omega), if_pos (by simp), s1, w64 (by omega) (by omega), show (1 : Int) - 1 = 0 from rfl]) ?_
  have k0 : IntKind.u64.wrap (8 * (IntKind.u64.wrap 0)) = 0 := by decide
  have s0 : shr .u64 l 0 = l / 1 := by
    rw [shr, show (2 : Int) ^ min (0 : Int).toNat IntKind.u64.bits = 1 from by decide]
  refine Ev.step (fun k => by rw [spec_Head.l0, if_pos (by omega), k0, if_pos (by omega), if_pos (by simp), s0, w64 (by omega) (by omega), show (0 : Int) - 1 = -1 from rfl]) ?_
  refine Ev.step (fun k => by rw [spec_Head.l0, if_neg (by omega)]) ?_
  refine Ev.det' (Ev.now _) ?_
  simp
  omega
theorem head_j1 (x l : Int) (h2 : 0 ≤ l) (h3 : l ≤ 1099511627776) : Ev (fun k => spec_Head.j1 k l x) (specL x l) := by
  refine Ev.step (fun k => by rw [spec_Head.j1]) ?_
  unfold specL
  by_cases d : l ≤ 125
  · refine Ev.pos d (Ev.det' (Ev.now _) ?_)
    rw [if_pos d, show l % 256 = l by omega]
  refine Ev.neg d ?_
  by_cases d2 : l < 65536
  · refine Ev.pos d2 (Ev.det' (Ev.now _) ?_)
    rw [if_neg d, if_pos d2, show l / 256 % 256 = l / 256 by omega]
  · rw [if_neg d, if_neg d2]
    exact Ev.neg d2 (head_l0 l h2 h3 x)
theorem spec_Head_ev (a b c : Bool) (k l : Int) (h0 : 0 ≤ k) (h1 : k ≤ 15) (h2 : 0 ≤ l) (h3 : l ≤ 1099511627776) (hc : c = true → a = true) : Ev (fun n => spec_Head.f n a b c (k % 256) (IntKind.u64.wrap l)) (specL (firstB a b c k) l) := by
  have hw : IntKind.u64.wrap l = l := u64' h2 (by omega)
  have ht : Int.tmod (k % 256) 16 = k := by rw [Int.tmod_eq_emod_of_nonneg (by omega)]; omega
  have J0 : ∀ x, 0 ≤ x → x < 128 → Ev (fun n => spec_Head.j0 n b l x) (specL (x + if b then 128 else 0) l) := by
    intro x hx0 hx1
    refine Ev.step (fun n => by rw [spec_Head.j0]) ?_
    cases b with
    | true =>
      refine Ev.pos rfl ?_
      rw [show (x + 128) % 256 = x + (if true = true then 128 else 0) by simp; omega]
      exact head_j1 _ l h2 h3
    | false =>
      refine Ev.neg (by simp) ?_
      have := head_j1 x l h2 h3
      simpa using this
  refine Ev.congr (fun n => by rw [spec_Head.f, hw, ht]) ?_
  cases a with
  | false =>
    have : c = false := by cases c with | false => rfl | true => exact absurd (hc rfl) (by simp)
    subst this
    refine Ev.neg (by simp) ?_
    have := J0 0 (by omega) (by omega)
    simpa [firstB] using this
  | true =>
    refine Ev.pos rfl ?_
    cases c with
    | true =>
      refine Ev.pos rfl ?_
      rw [show (k + 64) % 256 = k + 64 by omega]
      have := J0 (k + 64) (by omega) (by omega)
      refine Ev.det' this ?_
      unfold firstB
      congr 1
      cases b <;> simp <;> omega
    | false =>
      refine Ev.neg (by simp) ?_
      have := J0 k (by omega) (by omega)
      simpa [firstB] using this
theorem pure : laws_FnFrameHead.Pure := by
  intro a b c k l hk hl
  apply Ev.rounds
  have J1 : Ev (fun n => laws_FnFrameHead.j0 n a b c k l true) true := by
    refine Ev.step (fun n => by rw [laws_FnFrameHead.j0, if_pos rfl]) ?_
    exact Ev.now _
  refine Ev.congr (fun n => by rw [laws_FnFrameHead.f]) ?_
  by_cases c1 : k < 0
  · exact Ev.pos c1 J1
  refine Ev.neg c1 ?_
  by_cases c2 : k > 15
  · exact Ev.pos c2 J1
  refine Ev.neg c2 ?_
  by_cases c3 : l < 0
  · exact Ev.pos c3 J1
  refine Ev.neg c3 ?_
  by_cases c4 : l > 1099511627776
  · exact Ev.pos c4 J1
  refine Ev.neg c4 ?_
  have J2 : (c = true → a = true) → Ev (fun n => laws_FnFrameHead.j0 n a b c k l false) true := by
    intro hc
    refine Ev.step (fun n => by rw [laws_FnFrameHead.j0, if_neg (by simp), impl_FrameHead.f, server_FrameHeader.f, if_pos ⟨by omega, by omega, by omega, by omega⟩]) ?_
    rw [headL_eq a b c k l (by omega) (by omega) (by omega)]
    refine Ev.some_ ?_
    refine Ev.bind (spec_Head_ev a b c k l (by omega) (by omega) (by omega) (by omega) hc) ?_
    refine Ev.bind (same_ev _ ?_) (Ev.now _)
    unfold specL
    split
    · simp
    · split <;> simp
  cases c with
  | true =>
    refine Ev.pos rfl ?_
    cases a with
    | true => exact J2 (fun _ => rfl)
    | false => exact J1
  | false =>
    refine Ev.neg (by simp) ?_
    exact J2 (fun h => by cases h)

end Go.Proofs.Ytpgjcelglimpcaa.PlFnFrameHead
