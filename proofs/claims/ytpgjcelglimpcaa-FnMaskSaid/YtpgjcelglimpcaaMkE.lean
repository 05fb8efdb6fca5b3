/- Bytes under a mask, in place: unmask, of many bytes. -/
import Derived.Test.YtpgjcelglimpcaaMkD
namespace Go.Proofs.Ytpgjcelglimpcaa.Mk
open Go.Proofs.Ytpgjcelglimpcaa.Bs Go.RowKit Go.Proofs.YtpgjcelglimpcaaW.PrintWords Go.Proofs.YtpgjcelglimpcaaW.PrintLast Go.Proofs.YtpgjcelglimpcaaW.PrintMore
set_option linter.unusedVariables false
set_option linter.unusedSimpArgs false

theorem list8 {L : List Nat} (h : L.length = 8) : ∃ a b c d e f g k, L = [a, b, c, d, e, f, g, k] := by
  match L, h with
  | [a, b, c, d, e, f, g, k], _ => exact ⟨a, b, c, d, e, f, g, k, rfl⟩
theorem be8_lt {a b c d e f g h : Nat} (ha : a < 256) (hb : b < 256) (hc : c < 256) (hd : d < 256) (he : e < 256) (hf : f < 256) (hg : g < 256) (hh : h < 256) : be8 a b c d e f g h < 18446744073709551616 := by
  unfold be8; omega
theorem be8_bytes {a b c d e f g h : Nat} (ha : a < 256) (hb : b < 256) (hc : c < 256) (hd : d < 256) (he : e < 256) (hf : f < 256) (hg : g < 256) (hh : h < 256) :
    be8 a b c d e f g h / 2 ^ 56 % 256 = a ∧ be8 a b c d e f g h / 2 ^ 48 % 256 = b ∧ be8 a b c d e f g h / 2 ^ 40 % 256 = c ∧ be8 a b c d e f g h / 2 ^ 32 % 256 = d ∧ be8 a b c d e f g h / 2 ^ 24 % 256 = e ∧ be8 a b c d e f g h / 2 ^ 16 % 256 = f ∧ be8 a b c d e f g h / 2 ^ 8 % 256 = g ∧ be8 a b c d e f g h % 256 = h := by
  have e1 : (2 : Nat) ^ 56 = 72057594037927936 := by decide
  have e2 : (2 : Nat) ^ 48 = 281474976710656 := by decide
  have e3 : (2 : Nat) ^ 40 = 1099511627776 := by decide
  have e4 : (2 : Nat) ^ 32 = 4294967296 := by decide
  have e5 : (2 : Nat) ^ 24 = 16777216 := by decide
  have e6 : (2 : Nat) ^ 16 = 65536 := by decide
  have e7 : (2 : Nat) ^ 8 = 256 := by decide
  rw [e1, e2, e3, e4, e5, e6, e7]
  unfold be8
  refine ⟨?_, ?_, ?_, ?_, ?_, ?_, ?_, ?_⟩ <;> omega
/-- Eight bytes at once are eight bytes, one behind the other. -/
theorem mk_eight (key : List Nat) {bs : List Nat} {p i : Nat} {a b c d e f g h : Nat} (h0 : bs[i]? = some a) (h1 : bs[i + 1]? = some b) (h2 : bs[i + 2]? = some c) (h3 : bs[i + 3]? = some d) (h4 : bs[i + 4]? = some e) (h5 : bs[i + 5]? = some f) (h6 : bs[i + 6]? = some g) (h7 : bs[i + 7]? = some h) (hi : i % 4 = 0) :
    ((((((((mk key p (bs.take i) ++ bs.drop i).set i (a ^^^ key.getD (p % 4) 0)).set (i + 1) (b ^^^ key.getD ((p + 1) % 4) 0)).set (i + 2) (c ^^^ key.getD ((p + 2) % 4) 0)).set (i + 3) (d ^^^ key.getD ((p + 3) % 4) 0)).set (i + 4) (e ^^^ key.getD ((p + 4) % 4) 0)).set (i + 5) (f ^^^ key.getD ((p + 5) % 4) 0)).set (i + 6) (g ^^^ key.getD ((p + 6) % 4) 0)).set (i + 7) (h ^^^ key.getD ((p + 7) % 4) 0) = mk key p (bs.take (i + 8)) ++ bs.drop (i + 8) := by
  have m : ∀ j, (p + (i + j)) % 4 = (p + j) % 4 := fun j => by omega
  have m0 : (p + i) % 4 = p % 4 := by omega
  rw [← m0, ← m 1, ← m 2, ← m 3, ← m 4, ← m 5, ← m 6, ← m 7, mk_set key h0, mk_set key h1, mk_set key h2, mk_set key h3, mk_set key h4, mk_set key h5, mk_set key h6, mk_set key h7]
theorem zeros8 : (#[.int .u8 0, .int .u8 0, .int .u8 0, .int .u8 0, .int .u8 0, .int .u8 0, .int .u8 0, .int .u8 0] : Array Value) = (bC (List.replicate 8 0) ++ []).toArray := rfl
set_option maxHeartbeats 16000000 in
set_option maxRecDepth 100000 in
theorem unmask_big {w : World} {g rb c p : Nat} {bs key : List Nat} {rest : List Value} (hk : Key key) (hb : Byt bs) (hB : BufN w g 5 bs rest) (hR : Blk w rb 48 (rC (.int .u8 (p : Int)) key)) (hne : g ≠ rb) (hp : p ≤ 3) (hn : 16 ≤ bs.length) (hm : bs.length ≤ 1000000) (hc : bs.length ≤ c) :
    Calls Try.prog 44 #[.pointer (some ⟨rb, 0, none⟩), .slice (some ⟨g, 0, none⟩) bs.length c] w (UmPost w g rb 5 (mk key p bs) rest) := by
  have HKEY := Aside0.mk hk
  have HBY := Aside0.mk hb
  have HB0 := Aside0.mk hB
  have HR0 := Aside0.mk hR
  have HNE := Aside0.mk hne
  have HC := Aside0.mk hc
  have f5 : w.cell? ⟨rb, 5, none⟩ = some (.int .u8 (p : Int)) := hR.cell 5 rfl
  have p0 : (0 : Int) ≤ (p : Int) := by omega
  have p1 : (p : Int) ≤ 3 := by omega
  have n1 : (16 : Int) ≤ (bs.length : Int) := by omega
  have n2 : (bs.length : Int) ≤ 1000000 := by omega
  clear hk hb hB hR hne hc
  go_enter Try.func44, Try.ntmps44
  go_upto_region 9 with (fail)
  rw [zeros8]
  have HA0 := Aside0.mk (Blk.new w 59 (bC (List.replicate 8 0) ++ []))
  have HB1 : Aside0 (BufN (w.alloc (.cells (bC (List.replicate 8 0) ++ []).toArray 59)) g 5 bs rest) := ⟨Blk.alloc HB0.out _⟩
  have HR1 := Aside0.mk (HR0.out.alloc (.cells (bC (List.replicate 8 0) ++ []).toArray 59))
  have HF1 := Aside0.mk ((Fr.refl (fun k => k = g ∨ k = rb) w).alloc (.cells (bC (List.replicate 8 0) ++ []).toArray 59))
  have HAB : Aside0 (w.heap.size ≠ g ∧ w.heap.size ≠ rb) := ⟨by have := Blk.lt HB0.out; have := HR0.out.lt; omega⟩
  generalize w.alloc (.cells (bC (List.replicate 8 0) ++ []).toArray 59) = w1 at *
  obtain ⟨A, hA⟩ : ∃ A, A = w.heap.size := ⟨_, rfl⟩
  have HAW := Aside0.mk hA
  rw [← hA] at HA0 HAB ⊢
  clear hA f5 HB0 HR0
  go_wp2
  go_loopg [7] 8 (fun k v7 w' => ∃ j : Nat, j ≤ 8 ∧ v7 = .int .i64 j ∧ Aside0 (8 - j ≤ k ∧ BufN w' A 59 (mk key p ((List.replicate 8 0).take j) ++ (List.replicate 8 0).drop j) [] ∧ BufN w' g 5 bs rest ∧ Blk w' rb 48 (rC (.int .u8 (p : Int)) key) ∧ Fr (fun k => k = g ∨ k = rb) w w'))
  case atStart => exact ⟨0, by omega, rfl, ⟨by omega, HA0.out, HB1.out, HR1.out, HF1.out⟩⟩
  case round =>
    obtain ⟨j, hj, rfl, HU⟩ := hrel
    have HK := Aside0.mk HU.out.1
    have HA := Aside0.mk HU.out.2.1
    have HB := Aside0.mk HU.out.2.2.1
    have HR := Aside0.mk HU.out.2.2.2.1
    have HF := Aside0.mk HU.out.2.2.2.2
    clear HU HA0 HB1 HR1 HF1
    by_cases hlt : j < 8
    · obtain ⟨q, hq⟩ : ∃ q, q = (p + j) % 4 := ⟨_, rfl⟩
      have s0 : IntKind.i64.wrap ((p : Int) + (j : Int)) = (p : Int) + (j : Int) := by rw [IntKind.wrap_i64]; omega
      have e1 : bits .and .i64 ((p : Int) + (j : Int)) 3 = (q : Int) := by rw [hq, ← and3 (p + j) (by omega)]; rfl
      have q2 : (0 : Int) ≤ (q : Int) := by omega
      have q3 : (q : Int) < 4 := by omega
      obtain ⟨y, hy⟩ : ∃ y, key[q]? = some y := ⟨_, List.getElem?_eq_getElem (by have := HKEY.out.len; omega)⟩
      have f2 := HR.out.cell (6 + q) (rC_key HKEY.out _ hy)
      have hz : (List.replicate 8 0)[j]? = some 0 := by rw [List.getElem?_replicate, if_pos hlt]
      have f1 := HA.out.cell (mk_at key (p := p) hz)
      have z1 := Blk.free HA.out j
      have HS : Aside0 ((mk key p ((List.replicate 8 0).take j) ++ (List.replicate 8 0).drop j).set j y = mk key p ((List.replicate 8 0).take (j + 1)) ++ (List.replicate 8 0).drop (j + 1)) := ⟨by rw [← mk_set key hz, ← hq, List.getD_eq_getElem?_getD, hy, Nat.zero_xor]; rfl⟩
      have HL : Aside0 ((mk key p ((List.replicate 8 0).take j) ++ (List.replicate 8 0).drop j).length = 8) := ⟨by rw [List.length_append, mk_len, List.length_take, List.length_drop]; simp; omega⟩
      have i1 : (0 : Int) ≤ (j : Int) := by omega
      have i2 : (j : Int) < 8 := by omega
      clear hy hq hz hj
      go_upto_region 11 with (fail)
      have HA3 : Aside0 (BufN (wr.setCell ⟨A, j, none⟩ (.int .u8 (y : Int))) A 59 (mk key p ((List.replicate 8 0).take (j + 1)) ++ (List.replicate 8 0).drop (j + 1)) []) := ⟨by rw [← HS.out]; exact HA.out.set j y (by have := HL.out; omega)⟩
      have HB3 : Aside0 (BufN (wr.setCell ⟨A, j, none⟩ (.int .u8 (y : Int))) g 5 bs rest) := ⟨Blk.far HB.out (fun e => HAB.out.1 e.symm) _⟩
      have HR3 : Aside0 (Blk (wr.setCell ⟨A, j, none⟩ (.int .u8 (y : Int))) rb 48 (rC (.int .u8 (p : Int)) key)) := ⟨HR.out.far (fun e => HAB.out.2 e.symm) _⟩
      have HF3 : Aside0 (Fr (fun k => k = g ∨ k = rb) w (wr.setCell ⟨A, j, none⟩ (.int .u8 (y : Int)))) := ⟨HF.out.set (p := ⟨A, j, none⟩) (.inr (by have := HAW.out; show w.heap.size ≤ A; omega)) _⟩
      generalize wr.setCell ⟨A, j, none⟩ (.int .u8 (y : Int)) = w3 at *
      clear f1 f2 z1 e1 s0 HS HA HB HR HF
      go_wp2
      go_roundg (8 - (j + 1))
      case measure => have := HK.out; omega
      case rel => exact ⟨j + 1, by omega, by first | rfl | go_num, ⟨Nat.le_refl _, HA3.out, HB3.out, HR3.out, HF3.out⟩⟩
    · obtain rfl : j = 8 := by omega
      obtain ⟨k0, k1, k2, k3, k4, k5, k6, k7, hks⟩ := list8 (L := mk key p (List.replicate 8 0)) (by rw [mk_len]; rfl)
      have hA := HA.out
      rw [show (List.replicate 8 0 : List Nat).take 8 = List.replicate 8 0 from rfl, show (List.replicate 8 0 : List Nat).drop 8 = [] from rfl, List.append_nil, hks] at hA
      have hkb : ∀ x ∈ [k0, k1, k2, k3, k4, k5, k6, k7], x < 256 := by rw [← hks]; exact mk_byt HKEY.out.byt _ _ (fun x hx => by have := List.eq_of_mem_replicate hx; omega)
      have KB : Aside0 (k0 < 256 ∧ k1 < 256 ∧ k2 < 256 ∧ k3 < 256 ∧ k4 < 256 ∧ k5 < 256 ∧ k6 < 256 ∧ k7 < 256) := ⟨hkb k0 (by simp), hkb k1 (by simp), hkb k2 (by simp), hkb k3 (by simp), hkb k4 (by simp), hkb k5 (by simp), hkb k6 (by simp), hkb k7 (by simp)⟩
      have hks2 : ([key.getD (p % 4) 0, key.getD ((p + 1) % 4) 0, key.getD ((p + 2) % 4) 0, key.getD ((p + 3) % 4) 0, key.getD ((p + 4) % 4) 0, key.getD ((p + 5) % 4) 0, key.getD ((p + 6) % 4) 0, key.getD ((p + 7) % 4) 0] : List Nat) = [k0, k1, k2, k3, k4, k5, k6, k7] := by
        rw [← hks]
        show _ = [0 ^^^ _, 0 ^^^ _, 0 ^^^ _, 0 ^^^ _, 0 ^^^ _, 0 ^^^ _, 0 ^^^ _, 0 ^^^ _]
        simp only [Nat.zero_xor]
      have HKS := Aside0.mk hks2
      have HA8 := Aside0.mk hA
      clear hA HA hks hks2 hkb hlt hj HK
      go_upto_region 13 with (fail)
      refine region_tail 2 (by kernel_rfl) (by kernel_rfl) (fun wd hwd => ?_)
      have HA2 : Aside0 (BufN wd A 59 [k0, k1, k2, k3, k4, k5, k6, k7] []) := ⟨by rw [hwd.out]; exact Blk.drew HA8.out⟩
      have HB2 : Aside0 (BufN wd g 5 bs rest) := ⟨by rw [hwd.out]; exact Blk.drew HB.out⟩
      have HR2 : Aside0 (Blk wd rb 48 (rC (.int .u8 (p : Int)) key)) := ⟨by rw [hwd.out]; exact HR.out.drew⟩
      have HF2 : Aside0 (Fr (fun k => k = g ∨ k = rb) w wd) := ⟨by rw [hwd.out]; exact HF.out.drew⟩
      clear hwd HA8 HB HR HF
      simp only [List.take_succ_cons, List.take_zero, List.drop_succ_cons, List.drop_zero]
      repeat still_step
      refine wpStill_nil ?_
      go_wp2_with fail
      refine (get64_calls (o := 0) KB.out.1 KB.out.2.1 KB.out.2.2.1 KB.out.2.2.2.1 KB.out.2.2.2.2.1 KB.out.2.2.2.2.2.1 KB.out.2.2.2.2.2.2.1 KB.out.2.2.2.2.2.2.2 (by omega) (HA2.out.cell (j := 0) rfl) (HA2.out.cell (j := 1) rfl) (HA2.out.cell (j := 2) rfl) (HA2.out.cell (j := 3) rfl) (HA2.out.cell (j := 4) rfl) (HA2.out.cell (j := 5) rfl) (HA2.out.cell (j := 6) rfl) (HA2.out.cell (j := 7) rfl)).mono ?_
      rintro e w4 ⟨rfl, hf⟩
      have HB4 : Aside0 (BufN w4 g 5 bs rest) := ⟨Blk.fr HB2.out hf (fun h => h)⟩
      have HR4 : Aside0 (Blk w4 rb 48 (rC (.int .u8 (p : Int)) key)) := ⟨HR2.out.fr hf (fun h => h)⟩
      have HF4 : Aside0 (Fr (fun k => k = g ∨ k = rb) w w4) := ⟨HF2.out.trans hf (fun _ _ h => h.elim)⟩
      clear hf HA2 HB2 HR2 HF2
      obtain ⟨KM, hKM⟩ : ∃ KM, KM = be8 k0 k1 k2 k3 k4 k5 k6 k7 := ⟨_, rfl⟩
      have HKM := Aside0.mk hKM
      rw [← hKM]
      clear hKM
      obtain ⟨N, hN⟩ : ∃ N : Nat, N = bs.length / 8 * 8 := ⟨_, rfl⟩
      have HNN : Aside0 (N % 8 = 0 ∧ N ≤ bs.length ∧ bs.length < N + 8) := ⟨by omega⟩
      have e8 : (bs.length : Int) / 8 * 8 = (N : Int) := by omega
      clear hN
      go_upto_region 15 with (fail)
      clear e8
      have N0 : (0 : Int) ≤ (N : Int) := by omega
      have N1 : (N : Int) ≤ (bs.length : Int) := by have := HNN.out; omega
      go_wp2
      go_loopg [10] N (fun k v10 w' => ∃ i : Nat, i ≤ N ∧ v10 = .int .i64 i ∧ Aside0 (i % 8 = 0 ∧ N - i ≤ k ∧ BufN w' g 5 (mk key p (bs.take i) ++ bs.drop i) rest ∧ Blk w' rb 48 (rC (.int .u8 (p : Int)) key) ∧ Fr (fun k => k = g ∨ k = rb) w w'))
      case atStart => exact ⟨0, Nat.zero_le _, rfl, ⟨rfl, Nat.le_refl _, by simpa [mk] using HB4.out, HR4.out, HF4.out⟩⟩
      case round =>
        clear HB4 HR4 HF4
        obtain ⟨i, hi, rfl, HU⟩ := hrel
        have HI8 := Aside0.mk HU.out.1
        have HK := Aside0.mk HU.out.2.1
        have HB := Aside0.mk HU.out.2.2.1
        have HR := Aside0.mk HU.out.2.2.2.1
        have HF := Aside0.mk HU.out.2.2.2.2
        clear HU
        by_cases hlt : i < N
        · have hi8 : i + 8 ≤ bs.length := by have := HI8.out; have := HNN.out; omega
          obtain ⟨b0, h0⟩ : ∃ b, bs[i]? = some b := ⟨_, List.getElem?_eq_getElem (by omega)⟩
          obtain ⟨b1, h1⟩ : ∃ b, bs[i + 1]? = some b := ⟨_, List.getElem?_eq_getElem (by omega)⟩
          obtain ⟨b2, h2⟩ : ∃ b, bs[i + 2]? = some b := ⟨_, List.getElem?_eq_getElem (by omega)⟩
          obtain ⟨b3, h3⟩ : ∃ b, bs[i + 3]? = some b := ⟨_, List.getElem?_eq_getElem (by omega)⟩
          obtain ⟨b4, h4⟩ : ∃ b, bs[i + 4]? = some b := ⟨_, List.getElem?_eq_getElem (by omega)⟩
          obtain ⟨b5, h5⟩ : ∃ b, bs[i + 5]? = some b := ⟨_, List.getElem?_eq_getElem (by omega)⟩
          obtain ⟨b6, h6⟩ : ∃ b, bs[i + 6]? = some b := ⟨_, List.getElem?_eq_getElem (by omega)⟩
          obtain ⟨b7, h7⟩ : ∃ b, bs[i + 7]? = some b := ⟨_, List.getElem?_eq_getElem (by omega)⟩
          have lt : ∀ {j b : Nat}, bs[j]? = some b → b < 256 := fun h => HBY.out _ (List.mem_of_getElem? h)
          have BB : Aside0 (b0 < 256 ∧ b1 < 256 ∧ b2 < 256 ∧ b3 < 256 ∧ b4 < 256 ∧ b5 < 256 ∧ b6 < 256 ∧ b7 < 256) := ⟨lt h0, lt h1, lt h2, lt h3, lt h4, lt h5, lt h6, lt h7⟩
          have at_ : ∀ {j b : Nat}, bs[i + j]? = some b → (mk key p (bs.take i) ++ bs.drop i)[i + j]? = some b := fun {j b} h => by
            have hl : (mk key p (bs.take i)).length = i := by rw [mk_len, List.length_take]; omega
            rw [List.getElem?_append_right (by omega), hl, Nat.add_sub_cancel_left, List.getElem?_drop, h]
          have HCE : Aside0 ((mk key p (bs.take i) ++ bs.drop i)[i]? = some b0 ∧ (mk key p (bs.take i) ++ bs.drop i)[i + 1]? = some b1 ∧ (mk key p (bs.take i) ++ bs.drop i)[i + 2]? = some b2 ∧ (mk key p (bs.take i) ++ bs.drop i)[i + 3]? = some b3 ∧ (mk key p (bs.take i) ++ bs.drop i)[i + 4]? = some b4 ∧ (mk key p (bs.take i) ++ bs.drop i)[i + 5]? = some b5 ∧ (mk key p (bs.take i) ++ bs.drop i)[i + 6]? = some b6 ∧ (mk key p (bs.take i) ++ bs.drop i)[i + 7]? = some b7) :=
            ⟨at_ (j := 0) h0, at_ h1, at_ h2, at_ h3, at_ h4, at_ h5, at_ h6, at_ h7⟩
          have ME := Aside0.mk (mk_eight key (p := p) h0 h1 h2 h3 h4 h5 h6 h7 (by have := HI8.out; omega))
          have HL : Aside0 ((mk key p (bs.take i) ++ bs.drop i).length = bs.length) := ⟨by rw [List.length_append, mk_len, List.length_take, List.length_drop]; omega⟩
          have HI88 := Aside0.mk hi8
          have i1 : (0 : Int) ≤ (i : Int) := by omega
          have i2 : (i : Int) + 8 ≤ (bs.length : Int) := by omega
          have s0 : IntKind.i64.wrap ((i : Int) + 8) = (i : Int) + 8 := by rw [IntKind.wrap_i64]; omega
          have s1 : ((i : Int) + 8).toNat = i + 8 := by omega
          have i3 : (i : Int) + 8 ≤ (c : Int) := by have := HC.out; omega
          have i4 : c ≠ i := by have := HC.out; omega
          have i5 : i ≤ bs.length := by omega
          have i6 : (i : Int) ≤ (bs.length : Int) := by omega
          have i7 : (i : Int) ≤ (i : Int) + 8 := by omega
          have i8 : (0 : Int) ≤ (i : Int) + 8 := by omega
          clear h0 h1 h2 h3 h4 h5 h6 h7 lt at_ hi8
          go_upto_region 18 with (fail)
          refine region_tail 6 (by kernel_rfl) (by kernel_rfl) (fun wd hwd => ?_)
          have HB2 : Aside0 (BufN wd g 5 (mk key p (bs.take i) ++ bs.drop i) rest) := ⟨by rw [hwd.out]; exact Blk.drew HB.out⟩
          have HR2 : Aside0 (Blk wd rb 48 (rC (.int .u8 (p : Int)) key)) := ⟨by rw [hwd.out]; exact HR.out.drew⟩
          have HF2 : Aside0 (Fr (fun k => k = g ∨ k = rb) w wd) := ⟨by rw [hwd.out]; exact HF.out.drew⟩
          clear hwd HB HR HF
          simp only [List.take_succ_cons, List.take_zero, List.drop_succ_cons, List.drop_zero]
          repeat still_step
          refine wpStill_nil ?_
          go_wp2_with fail
          refine (get64_calls (o := i) BB.out.1 BB.out.2.1 BB.out.2.2.1 BB.out.2.2.2.1 BB.out.2.2.2.2.1 BB.out.2.2.2.2.2.1 BB.out.2.2.2.2.2.2.1 BB.out.2.2.2.2.2.2.2 (by omega) (HB2.out.cell HCE.out.1) (HB2.out.cell HCE.out.2.1) (HB2.out.cell HCE.out.2.2.1) (HB2.out.cell HCE.out.2.2.2.1) (HB2.out.cell HCE.out.2.2.2.2.1) (HB2.out.cell HCE.out.2.2.2.2.2.1) (HB2.out.cell HCE.out.2.2.2.2.2.2.1) (HB2.out.cell HCE.out.2.2.2.2.2.2.2)).mono ?_
          rintro e w5 ⟨rfl, hf⟩
          have HB5 : Aside0 (BufN w5 g 5 (mk key p (bs.take i) ++ bs.drop i) rest) := ⟨Blk.fr HB2.out hf (fun h => h)⟩
          have HR5 : Aside0 (Blk w5 rb 48 (rC (.int .u8 (p : Int)) key)) := ⟨HR2.out.fr hf (fun h => h)⟩
          have HF5 : Aside0 (Fr (fun k => k = g ∨ k = rb) w w5) := ⟨HF2.out.trans hf (fun _ _ h => h.elim)⟩
          clear hf HB2 HR2 HF2
          obtain ⟨BM, hBM⟩ : ∃ BM, BM = be8 b0 b1 b2 b3 b4 b5 b6 b7 := ⟨_, rfl⟩
          have HBM := Aside0.mk hBM
          rw [← hBM]
          clear hBM
          have HX64 : Aside0 (BM < 18446744073709551616 ∧ KM < 18446744073709551616) := ⟨by
            obtain ⟨a0, a1, a2, a3, a4, a5, a6, a7⟩ := BB.out
            obtain ⟨c0, c1, c2, c3, c4, c5, c6, c7⟩ := KB.out
            exact ⟨HBM.out ▸ be8_lt a0 a1 a2 a3 a4 a5 a6 a7, HKM.out ▸ be8_lt c0 c1 c2 c3 c4 c5 c6 c7⟩⟩
          obtain ⟨XM, hXM⟩ : ∃ XM, XM = BM ^^^ KM := ⟨_, rfl⟩
          have ex : bits .xor .u64 (BM : Int) (KM : Int) = (XM : Int) := by rw [hXM]; exact u64_xor HX64.out.1 HX64.out.2
          have HXL : Aside0 (XM < 18446744073709551616) := ⟨by rw [hXM]; exact Nat.xor_lt_two_pow (n := 64) HX64.out.1 HX64.out.2⟩
          have HXB : Aside0 (XM / 2 ^ 56 % 256 = b0 ^^^ k0 ∧ XM / 2 ^ 48 % 256 = b1 ^^^ k1 ∧ XM / 2 ^ 40 % 256 = b2 ^^^ k2 ∧ XM / 2 ^ 32 % 256 = b3 ^^^ k3 ∧ XM / 2 ^ 24 % 256 = b4 ^^^ k4 ∧ XM / 2 ^ 16 % 256 = b5 ^^^ k5 ∧ XM / 2 ^ 8 % 256 = b6 ^^^ k6 ∧ XM % 256 = b7 ^^^ k7) := ⟨by
            obtain ⟨a0, a1, a2, a3, a4, a5, a6, a7⟩ := BB.out
            obtain ⟨c0, c1, c2, c3, c4, c5, c6, c7⟩ := KB.out
            obtain ⟨r0, r1, r2, r3, r4, r5, r6, r7⟩ := be8_bytes a0 a1 a2 a3 a4 a5 a6 a7
            obtain ⟨t0, t1, t2, t3, t4, t5, t6, t7⟩ := be8_bytes c0 c1 c2 c3 c4 c5 c6 c7
            rw [← HBM.out] at r0 r1 r2 r3 r4 r5 r6 r7
            rw [← HKM.out] at t0 t1 t2 t3 t4 t5 t6 t7
            have hz := byte_xor BM KM 0
            rw [Nat.pow_zero, Nat.div_one, Nat.div_one, Nat.div_one] at hz
            rw [hXM, byte_xor, byte_xor, byte_xor, byte_xor, byte_xor, byte_xor, byte_xor, hz, r0, r1, r2, r3, r4, r5, r6, r7, t0, t1, t2, t3, t4, t5, t6, t7]
            exact ⟨rfl, rfl, rfl, rfl, rfl, rfl, rfl, rfl⟩⟩
          clear hXM s0 s1 i2 i3 i7 i8
          go_upto_region 20 with (fail)
          clear ex
          refine region_tail 5 (by kernel_rfl) (by kernel_rfl) (fun wd2 hwd => ?_)
          have HB6 : Aside0 (BufN wd2 g 5 (mk key p (bs.take i) ++ bs.drop i) rest) := ⟨by rw [hwd.out]; exact Blk.drew HB5.out⟩
          have HR6 : Aside0 (Blk wd2 rb 48 (rC (.int .u8 (p : Int)) key)) := ⟨by rw [hwd.out]; exact HR5.out.drew⟩
          have HF6 : Aside0 (Fr (fun k => k = g ∨ k = rb) w wd2) := ⟨by rw [hwd.out]; exact HF5.out.drew⟩
          clear hwd HB5 HR5 HF5
          simp only [List.take_succ_cons, List.take_zero, List.drop_succ_cons, List.drop_zero]
          repeat still_step
          refine wpStill_nil ?_
          go_wp2_with fail
          refine (put64_calls (o := i) HB6.out (by have := HL.out; have := HI88.out; omega) (by have := HI88.out; omega) HXL.out).mono ?_
          rintro e w7 ⟨rfl, hb, hf⟩
          have HB7 : Aside0 (BufN w7 g 5 (mk key p (bs.take (i + 8)) ++ bs.drop (i + 8)) rest) := ⟨by
            obtain ⟨x0, x1, x2, x3, x4, x5, x6, x7⟩ := HXB.out
            have hk := HKS.out
            simp only [List.cons.injEq, and_true] at hk
            obtain ⟨t0, t1, t2, t3, t4, t5, t6, t7⟩ := hk
            rw [x0, x1, x2, x3, x4, x5, x6, x7, ← t0, ← t1, ← t2, ← t3, ← t4, ← t5, ← t6, ← t7, ME.out] at hb
            exact hb⟩
          have HR7 : Aside0 (Blk w7 rb 48 (rC (.int .u8 (p : Int)) key)) := ⟨HR6.out.fr hf (fun e => HNE.out e.symm)⟩
          have HF7 : Aside0 (Fr (fun k => k = g ∨ k = rb) w w7) := ⟨HF6.out.trans hf (fun _ _ h => .inl h)⟩
          clear hb hf HB6 HR6 HF6 i4
          go_wp2
          go_roundg (N - (i + 8))
          case measure => have := HK.out; omega
          case rel => exact ⟨i + 8, by have := HI8.out; have := HNN.out; omega, by first | rfl | go_num, ⟨by have := HI8.out; omega, Nat.le_refl _, HB7.out, HR7.out, HF7.out⟩⟩
        · have he : i = N := by omega
          subst he
          by_cases hci : c = i
          · have hlen : bs.length = i := by have := HC.out; have := HNN.out; omega
            have hB := HB.out
            rw [← hlen, List.take_length, List.drop_length, List.append_nil] at hB
            have HBE := Aside0.mk hB
            subst hci
            clear hB HB hlt hi HK
            have z5 := HR.out.free 5
            have f5 : wr.cell? ⟨rb, 5, none⟩ = some (.int .u8 (p : Int)) := HR.out.cell 5 rfl
            have e9 : bits .and .i64 (p : Int) 3 = ((p % 4 : Nat) : Int) := and3 p (by omega)
            go_wp2
            go_loopg [4, 12] 0 (fun k v4 v12 w' => v4 = .int .i64 (p : Int) ∧ v12 = .int .i64 0 ∧ w' = wr)
            case atStart => exact ⟨rfl, rfl, rfl⟩
            case round =>
              obtain ⟨rfl, rfl, rfl⟩ := hrel
              go_wp2
              go_end0
              exact ⟨rfl, HBE.out.far HNE.out _, HF.out.set (p := ⟨rb, 5, none⟩) (.inl (.inr rfl)) _⟩
          · obtain ⟨M, hM⟩ : ∃ M, M = bs.length - i := ⟨_, rfl⟩
            have HMM : Aside0 (i + M = bs.length) := ⟨by have := HNN.out; omega⟩
            have m1 : (M : Int) ≤ 8 := by have := HNN.out; omega
            have i5 : i ≤ bs.length := by have := HNN.out; omega
            go_upto_region 22 with (fail)
            rw [← hM]
            clear hM hlt hi HK
            go_wp2
            go_loopg [4, 12] M (fun k v4 v12 w' => ∃ j P : Nat, j ≤ M ∧ P ≤ 100 ∧ v12 = .int .i64 j ∧ v4 = .int .i64 P ∧ Aside0 (P = p + j ∧ M - j ≤ k ∧ BufN w' g 5 (mk key p (bs.take (i + j)) ++ bs.drop (i + j)) rest ∧ Blk w' rb 48 (rC (.int .u8 (p : Int)) key) ∧ Fr (fun k => k = g ∨ k = rb) w w'))
            case atStart => exact ⟨0, p, Nat.zero_le _, by omega, rfl, rfl, ⟨rfl, Nat.le_refl _, HB.out, HR.out, HF.out⟩⟩
            case round =>
              clear HB HR HF
              obtain ⟨j, P, hj, hP, rfl, rfl, HU⟩ := hrel
              have HPP := Aside0.mk HU.out.1
              have HK := Aside0.mk HU.out.2.1
              have HB := Aside0.mk HU.out.2.2.1
              have HR := Aside0.mk HU.out.2.2.2.1
              have HF := Aside0.mk HU.out.2.2.2.2
              clear HU
              have q0 : (0 : Int) ≤ (P : Int) := by omega
              have q1 : (P : Int) ≤ 100 := by omega
              obtain ⟨q, hq⟩ : ∃ q, q = P % 4 := ⟨_, rfl⟩
              have e1 : bits .and .i64 (P : Int) 3 = (q : Int) := by rw [hq]; exact and3 P (by omega)
              have q2 : (0 : Int) ≤ (q : Int) := by omega
              have q3 : (q : Int) < 4 := by omega
              have HQ := Aside0.mk hq
              clear hq
              by_cases hlt : j < M
              · obtain ⟨b, hb⟩ : ∃ b, bs[i + j]? = some b := ⟨_, List.getElem?_eq_getElem (by have := HMM.out; omega)⟩
                obtain ⟨y, hy⟩ : ∃ y, key[q]? = some y := ⟨_, List.getElem?_eq_getElem (by have := HKEY.out.len; omega)⟩
                have f1 := HB.out.cell (mk_at key (p := p) hb)
                have f2 := HR.out.cell (6 + q) (rC_key HKEY.out _ hy)
                have z1 := Blk.free HB.out (i + j)
                obtain ⟨z, hz⟩ : ∃ z, z = b ^^^ y := ⟨_, rfl⟩
                have e3 : bits .xor .u8 (b : Int) (y : Int) = (z : Int) := by rw [hz]; exact u8_xor (HBY.out b (List.mem_of_getElem? hb)) (HKEY.out.byt y (List.mem_of_getElem? hy))
                have HS : Aside0 ((mk key p (bs.take (i + j)) ++ bs.drop (i + j)).set (i + j) z = mk key p (bs.take (i + (j + 1))) ++ bs.drop (i + (j + 1))) := ⟨by
                  have e : (p + (i + j)) % 4 = q := by have h1 := HPP.out; have h2 := HQ.out; have h3 := HNN.out; omega
                  have := mk_set key (p := p) hb
                  rw [e, List.getD_eq_getElem?_getD, hy] at this
                  rw [hz]
                  exact this⟩
                have HL : Aside0 ((mk key p (bs.take (i + j)) ++ bs.drop (i + j)).length = bs.length) := ⟨by have := HMM.out; rw [List.length_append, mk_len, List.length_take, List.length_drop]; omega⟩
                have i1 : (0 : Int) ≤ (j : Int) := by omega
                have i2 : (j : Int) < (M : Int) := by omega
                clear hb hy hz
                go_upto_region 25 with (fail)
                refine region_tail 12 (by kernel_rfl) (by kernel_rfl) (fun wd hwd => ?_)
                have HB2 : Aside0 (BufN wd g 5 (mk key p (bs.take (i + j)) ++ bs.drop (i + j)) rest) := ⟨by rw [hwd.out]; exact Blk.drew HB.out⟩
                have HR2 : Aside0 (Blk wd rb 48 (rC (.int .u8 (p : Int)) key)) := ⟨by rw [hwd.out]; exact HR.out.drew⟩
                have HF2 : Aside0 (Fr (fun k => k = g ∨ k = rb) w wd) := ⟨by rw [hwd.out]; exact HF.out.drew⟩
                replace f1 : wd.cell? ⟨g, i + j, none⟩ = some (.int .u8 (b : Int)) := by rw [hwd.out]; exact f1
                replace f2 : wd.cell? ⟨rb, 6 + q, none⟩ = some (.int .u8 (y : Int)) := by rw [hwd.out]; exact f2
                replace z1 : wd.frozen? ⟨g, i + j, none⟩ = false := by rw [hwd.out]; exact z1
                clear hwd HB HR HF
                simp only [List.take_succ_cons, List.take_zero, List.drop_succ_cons, List.drop_zero]
                repeat still_step
                refine wpStill_nil ?_
                go_upto_region 26 with (fail)
                have HB3 : Aside0 (BufN (wd.setCell ⟨g, i + j, none⟩ (.int .u8 (z : Int))) g 5 (mk key p (bs.take (i + (j + 1))) ++ bs.drop (i + (j + 1))) rest) := ⟨by rw [← HS.out]; exact HB2.out.set (i + j) z (by have := HL.out; have := HMM.out; omega)⟩
                have HR3 : Aside0 (Blk (wd.setCell ⟨g, i + j, none⟩ (.int .u8 (z : Int))) rb 48 (rC (.int .u8 (p : Int)) key)) := ⟨HR2.out.far (fun e => HNE.out e.symm) _⟩
                have HF3 : Aside0 (Fr (fun k => k = g ∨ k = rb) w (wd.setCell ⟨g, i + j, none⟩ (.int .u8 (z : Int)))) := ⟨HF2.out.set (p := ⟨g, i + j, none⟩) (.inl (.inl rfl)) _⟩
                generalize wd.setCell ⟨g, i + j, none⟩ (.int .u8 (z : Int)) = w3 at *
                clear f1 f2 z1 e1 e3 HS HB2 HR2 HF2
                go_wp2
                go_roundg (M - (j + 1))
                case measure => have := HK.out; omega
                case rel => exact ⟨j + 1, P + 1, by omega, by have := HPP.out; omega, by first | rfl | go_num, by first | rfl | go_num, ⟨by have := HPP.out; omega, Nat.le_refl _, HB3.out, HR3.out, HF3.out⟩⟩
              · have he : j = M := by omega
                have z5 := HR.out.free 5
                have f5 : wr.cell? ⟨rb, 5, none⟩ = some (.int .u8 (p : Int)) := HR.out.cell 5 rfl
                have hB := HB.out
                rw [he, HMM.out, List.take_length, List.drop_length, List.append_nil] at hB
                have HBE := Aside0.mk hB
                subst he
                clear hB HB
                go_wp2
                go_end0
                exact ⟨rfl, HBE.out.far HNE.out _, HF.out.set (p := ⟨rb, 5, none⟩) (.inl (.inr rfl)) _⟩
end Go.Proofs.Ytpgjcelglimpcaa.Mk
