/- Bytes under a mask, in place: unmask. -/
import Derived.Test.YtpgjcelglimpcaaMkC
namespace Go.Proofs.Ytpgjcelglimpcaa.Mk
open Go.Proofs.Ytpgjcelglimpcaa.Bs Go.RowKit Go.Proofs.YtpgjcelglimpcaaW.PrintWords Go.Proofs.YtpgjcelglimpcaaW.PrintLast Go.Proofs.YtpgjcelglimpcaaW.PrintMore
set_option linter.unusedVariables false
set_option linter.unusedSimpArgs false

/-- What the reader's own block holds. -/
def rC (m : Value) (key : List Nat) : List Value := [.int .u64 0, .bool false, .bool false, .bool false, .bool false, m] ++ bC key ++ [.slice none 0 0, .int .i64 0, .int .u64 0]
theorem rC_len {key : List Nat} (hk : Key key) (m : Value) : (rC m key).length = 13 := by simp [rC, bC_len, hk.len]
theorem rC_key {key : List Nat} (hk : Key key) (m : Value) {q y : Nat} (h : key[q]? = some y) : (rC m key)[6 + q]? = some (.int .u8 (y : Int)) := by
  have hq := (List.getElem?_eq_some_iff.1 h).1
  have h4 := hk.len
  unfold rC
  rw [List.append_assoc, List.getElem?_append_right (by simp), List.getElem?_append_left (by rw [bC_len]; simp; omega)]
  simp only [List.length_cons, List.length_nil, Nat.reduceAdd, Nat.add_sub_cancel_left]
  exact bC_get h
def UmPost (w : World) (g rb : Nat) (T : TypeId) (L : List Nat) (rest : List Value) (e : Ending) (w' : World) : Prop := e = .returned (.tuple #[]) ∧ BufN w' g T L rest ∧ Fr (fun k => k = g ∨ k = rb) w w'
set_option maxHeartbeats 8000000 in
set_option maxRecDepth 100000 in
theorem unmask_small {w : World} {g rb c p : Nat} {bs key : List Nat} {rest : List Value} (hk : Key key) (hb : Byt bs) (hB : BufN w g 5 bs rest) (hR : Blk w rb 48 (rC (.int .u8 (p : Int)) key)) (hne : g ≠ rb) (hp : p ≤ 3) (hn : bs.length < 16) :
    Calls Try.prog 44 #[.pointer (some ⟨rb, 0, none⟩), .slice (some ⟨g, 0, none⟩) bs.length c] w (UmPost w g rb 5 (mk key p bs) rest) := by
  have HKEY := Aside0.mk hk
  have HBY := Aside0.mk hb
  have HB0 := Aside0.mk hB
  have HR0 := Aside0.mk hR
  have HNE := Aside0.mk hne
  have f5 : w.cell? ⟨rb, 5, none⟩ = some (.int .u8 (p : Int)) := hR.cell 5 rfl
  have p0 : (0 : Int) ≤ (p : Int) := by omega
  have p1 : (p : Int) ≤ 3 := by omega
  have n1 : (bs.length : Int) < 16 := by omega
  clear hk hb hB hR hne
  go_enter Try.func44, Try.ntmps44
  go_wp2
  clear f5
  go_loopg [4, 5] bs.length (fun k v4 v5 w' => ∃ i P : Nat, i ≤ bs.length ∧ P ≤ 100 ∧ v5 = .int .i64 i ∧ v4 = .int .i64 P ∧ Aside0 (P = p + i ∧ bs.length - i ≤ k ∧ BufN w' g 5 (mk key p (bs.take i) ++ bs.drop i) rest ∧ Blk w' rb 48 (rC (.int .u8 (p : Int)) key) ∧ Fr (fun k => k = g ∨ k = rb) w w'))
  case atStart => exact ⟨0, p, Nat.zero_le _, by omega, rfl, rfl, ⟨rfl, Nat.le_refl _, by simpa [mk] using HB0.out, HR0.out, Fr.refl _ _⟩⟩
  case round =>
    clear HB0 HR0
    obtain ⟨i, P, hi, hP, rfl, rfl, HU⟩ := hrel
    have HPP := Aside0.mk HU.out.1
    have HK := Aside0.mk HU.out.2.1
    have HB := Aside0.mk HU.out.2.2.1
    have HR := Aside0.mk HU.out.2.2.2.1
    have HF := Aside0.mk HU.out.2.2.2.2
    clear HU
    have q0 : (0 : Int) ≤ (P : Int) := by omega
    have q1 : (P : Int) ≤ 100 := by omega
    obtain ⟨q, hq⟩ : ∃ q, q = P % 4 := ⟨_, rfl⟩
    have e1 : bits .and .i64 (P : Int) 3 = (q : Int) := by rw [hq]; exact and3 P (by omega)
    have q2 : (0 : Int) ≤ (q : Int) := by omega
    have q3 : (q : Int) < 4 := by omega
    have HQ := Aside0.mk hq
    clear hq
    by_cases hlt : i < bs.length
    · obtain ⟨b, hb⟩ : ∃ b, bs[i]? = some b := ⟨_, List.getElem?_eq_getElem hlt⟩
      obtain ⟨y, hy⟩ : ∃ y, key[q]? = some y := ⟨_, List.getElem?_eq_getElem (by have := HKEY.out.len; omega)⟩
      have f1 := HB.out.cell (mk_at key (p := p) hb)
      have f2 := HR.out.cell (6 + q) (rC_key HKEY.out _ hy)
      have z1 := Blk.free HB.out i
      obtain ⟨z, hz⟩ : ∃ z, z = b ^^^ y := ⟨_, rfl⟩
      have e3 : bits .xor .u8 (b : Int) (y : Int) = (z : Int) := by rw [hz]; exact u8_xor (HBY.out b (List.mem_of_getElem? hb)) (HKEY.out.byt y (List.mem_of_getElem? hy))
      have HS : Aside0 ((mk key p (bs.take i) ++ bs.drop i).set i z = mk key p (bs.take (i + 1)) ++ bs.drop (i + 1)) := ⟨by rw [← mk_set key hb, hz, ← HPP.out, ← HQ.out, List.getD_eq_getElem?_getD, hy]; rfl⟩
      have HL : Aside0 ((mk key p (bs.take i) ++ bs.drop i).length = bs.length) := ⟨by rw [List.length_append, mk_len, List.length_take, List.length_drop]; omega⟩
      have i1 : (0 : Int) ≤ (i : Int) := by omega
      have i2 : (i : Int) < (bs.length : Int) := by omega
      clear hb hy hz
      go_upto_region 5 with (fail)
      refine region_tail 12 (by kernel_rfl) (by kernel_rfl) (fun wd hwd => ?_)
      have HB2 : Aside0 (BufN wd g 5 (mk key p (bs.take i) ++ bs.drop i) rest) := ⟨by rw [hwd.out]; exact Blk.drew HB.out⟩
      have HR2 : Aside0 (Blk wd rb 48 (rC (.int .u8 (p : Int)) key)) := ⟨by rw [hwd.out]; exact HR.out.drew⟩
      have HF2 : Aside0 (Fr (fun k => k = g ∨ k = rb) w wd) := ⟨by rw [hwd.out]; exact HF.out.drew⟩
      replace f1 : wd.cell? ⟨g, i, none⟩ = some (.int .u8 (b : Int)) := by rw [hwd.out]; exact f1
      replace f2 : wd.cell? ⟨rb, 6 + q, none⟩ = some (.int .u8 (y : Int)) := by rw [hwd.out]; exact f2
      replace z1 : wd.frozen? ⟨g, i, none⟩ = false := by rw [hwd.out]; exact z1
      clear hwd HB HR HF
      simp only [List.take_succ_cons, List.take_zero, List.drop_succ_cons, List.drop_zero]
      repeat still_step
      refine wpStill_nil ?_
      go_upto_region 6 with (fail)
      have HB3 : Aside0 (BufN (wd.setCell ⟨g, i, none⟩ (.int .u8 (z : Int))) g 5 (mk key p (bs.take (i + 1)) ++ bs.drop (i + 1)) rest) := ⟨by rw [← HS.out]; exact HB2.out.set i z (by have := HL.out; omega)⟩
      have HR3 : Aside0 (Blk (wd.setCell ⟨g, i, none⟩ (.int .u8 (z : Int))) rb 48 (rC (.int .u8 (p : Int)) key)) := ⟨HR2.out.far (fun e => HNE.out e.symm) _⟩
      have HF3 : Aside0 (Fr (fun k => k = g ∨ k = rb) w (wd.setCell ⟨g, i, none⟩ (.int .u8 (z : Int)))) := ⟨HF2.out.set (p := ⟨g, i, none⟩) (.inl (.inl rfl)) _⟩
      generalize wd.setCell ⟨g, i, none⟩ (.int .u8 (z : Int)) = w3 at *
      clear f1 f2 z1 e1 e3 HS HB2 HR2 HF2
      go_wp2
      go_roundg (bs.length - (i + 1))
      case measure => have := HK.out; omega
      case rel => exact ⟨i + 1, P + 1, by omega, by have := HPP.out; omega, by first | rfl | go_num, by first | rfl | go_num, ⟨by have := HPP.out; omega, Nat.le_refl _, HB3.out, HR3.out, HF3.out⟩⟩
    · have he : i = bs.length := by omega
      have z5 := HR.out.free 5
      have f5 : wr.cell? ⟨rb, 5, none⟩ = some (.int .u8 (p : Int)) := HR.out.cell 5 rfl
      have hB := HB.out
      rw [he, List.take_length, List.drop_length, List.append_nil] at hB
      have HBE := Aside0.mk hB
      subst he
      clear hB HB
      go_wp2
      go_end0
      exact ⟨rfl, HBE.out.far HNE.out _, HF.out.set (p := ⟨rb, 5, none⟩) (.inl (.inr rfl)) _⟩
end Go.Proofs.Ytpgjcelglimpcaa.Mk
