/- Bytes under a mask: impl.copied, laws.sameBytes, spec.Masked. -/
import Derived.Test.YtpgjcelglimpcaaMkA
namespace Go.Proofs.Ytpgjcelglimpcaa.Mk
open Go.Proofs.Ytpgjcelglimpcaa.Bs Go.RowKit Go.Proofs.YtpgjcelglimpcaaW.PrintWords Go.Proofs.YtpgjcelglimpcaaW.PrintLast Go.Proofs.YtpgjcelglimpcaaW.PrintMore
set_option linter.unusedVariables false
set_option linter.unusedSimpArgs false

/-- A row of bytes, made since w. -/
def ByRow (w w' : World) (v : Value) (bs : List Nat) : Prop := RowG w w' 5 1 v bs.length (bC bs)
theorem ByRow.read {w w' : World} {v : Value} {bs : List Nat} (h : ByRow w w' v bs) : ∃ A c, v = .slice A bs.length c ∧ bs.length ≤ c ∧ BytR w' A bs := read_own (W := w') h.own (bC_one bs)
def RowPost (w : World) (bs : List Nat) (e : Ending) (w' : World) : Prop := ∃ v, e = .returned v ∧ ByRow w w' v bs
set_option maxHeartbeats 4000000 in
set_option maxRecDepth 100000 in
theorem copied_calls {w : World} {X : Option Addr} {c : Nat} {bs : List Nat} (hR : BytR w X bs) (hn : bs.length ≤ 1000000) :
    Calls Try.prog 34 #[.slice X bs.length c] w (RowPost w bs) := by
  obtain ⟨i0, hK⟩ := elem5
  have K5 := Aside0.mk hK
  have HR : Aside0 (∀ W, Fr (fun _ => False) w W → BytR W X bs) := ⟨fun W hf => hR.fr hf (fun _ _ h => h)⟩
  clear hR hK
  go_enter Try.func34, Try.ntmps34
  go_wp2_with (at_builtin; refine wpList_rowG K5.out rfl (.tmp 3) (.tmp 4) rfl (w2 := w) (n := 0) (xs := []) (m := bs.length) (ys := bC bs) rfl (row_g0 (Fr.refl _ _)) rfl (HR.out _) (by omega) (fun v1 w1 h1 _ _ => ?_))
  have H1 := Aside0.mk h1
  clear h1
  go_wp2
  go_ret
  refine ⟨_, rfl, ?_⟩
  have := H1.out
  rw [Nat.zero_add, List.nil_append] at this
  exact this
set_option maxHeartbeats 4000000 in
set_option maxRecDepth 100000 in
theorem same_calls {w : World} {X Y : Option Addr} {c d : Nat} {bs cs : List Nat} (hA : BytR w X bs) (hB : BytR w Y cs) (hn : bs.length ≤ maxLen) (hm : cs.length ≤ maxLen) :
    Calls Try.prog 20 #[.slice X bs.length c, .slice Y cs.length d] w fun e w' => e = .returned (.bool (decide (bs = cs))) ∧ Fr (fun _ => False) w w' := by
  have HA := Aside0.mk hA
  have HB := Aside0.mk hB
  clear hA hB
  unfold maxLen at hn hm
  by_cases hl : bs.length = cs.length
  · obtain ⟨R, hR⟩ : ∃ R, R = decide (bs = cs) := ⟨_, rfl⟩
    have HR : Aside0 (R = decide (bs.drop 0 = cs.drop 0)) := ⟨hR⟩
    rw [← hR]
    clear hR
    have HL := Aside0.mk hl
    rw [← hl]
    clear hm hl
    go_enter Try.func20, Try.ntmps20
    go_wp2
    go_loopg [5] bs.length (fun k v w' => ∃ i : Nat, i ≤ bs.length ∧ v = .int .i64 i ∧ Aside0 (Fr (fun _ => False) w w' ∧ bs.length - i ≤ k ∧ R = decide (bs.drop i = cs.drop i)))
    case atStart => exact ⟨0, Nat.zero_le _, rfl, ⟨Fr.refl _ _, Nat.le_refl _, HR.out⟩⟩
    case round =>
      obtain ⟨i, hi, rfl, HU⟩ := hrel
      have HF := Aside0.mk HU.out.1
      have HK := Aside0.mk HU.out.2.1
      have HRI := Aside0.mk HU.out.2.2
      clear HU HR
      by_cases hlt : i < bs.length
      · obtain ⟨x, hx⟩ : ∃ x, bs[i]? = some x := ⟨_, List.getElem?_eq_getElem hlt⟩
        obtain ⟨y, hy⟩ : ∃ y, cs[i]? = some y := ⟨_, List.getElem?_eq_getElem (by have := HL.out; omega)⟩
        have HX : Aside0 (bs.drop i = x :: bs.drop (i + 1)) := ⟨by rw [List.drop_eq_getElem_cons hlt, (List.getElem?_eq_some_iff.1 hx).2]⟩
        have HY : Aside0 (cs.drop i = y :: cs.drop (i + 1)) := ⟨by rw [List.drop_eq_getElem_cons (by have := HL.out; omega), (List.getElem?_eq_some_iff.1 hy).2]⟩
        obtain ⟨ad, rfl, k1⟩ := BytR.get (HA.out.fr HF.out (fun _ _ h => h)) hx
        obtain ⟨bd, rfl, k2⟩ := BytR.get (HB.out.fr HF.out (fun _ _ h => h)) hy
        have i1 : (0 : Int) ≤ (i : Int) := by omega
        have i2 : (i : Int) < (bs.length : Int) := by omega
        clear hx hy
        go_upto_region 6 with (fail)
        go_quiet (fail)
        have HF2 := Aside0.mk (HF.out.drewN nq)
        clear HF
        by_cases hc : x = y
        · subst hc
          have h2 : R = decide (bs.drop (i + 1) = cs.drop (i + 1)) := by
            rw [HRI.out, HX.out, HY.out]
            simp
          replace h2 := Aside0.mk h2
          clear HRI HX HY
          go_wp2
          go_roundg (bs.length - (i + 1))
          case measure => have := HK.out; omega
          case rel => exact ⟨i + 1, by omega, rfl, ⟨HF2.out, Nat.le_refl _, h2.out⟩⟩
        · have h2 : R = false := by
            rw [HRI.out, HX.out, HY.out, decide_eq_false_iff_not]
            intro e
            injection e with e1 _
            exact hc e1
          subst h2
          clear HRI HX HY
          have hcb : ((x : Int) != (y : Int)) = true := by simp; omega
          clear hc
          go_wp2
          go_ret
          exact ⟨rfl, HF2.out⟩
      · have he : i = bs.length := by omega
        have h2 := HRI.out
        rw [he, List.drop_length, HL.out, List.drop_length] at h2
        subst h2
        subst he
        clear HRI
        go_wp2
        go_ret
        exact ⟨rfl, HF.out⟩
  · have hR : decide (bs = cs) = false := by
      rw [decide_eq_false_iff_not]
      intro e
      exact hl (congrArg List.length e)
    rw [hR]
    have hne : ((bs.length : Int) != (cs.length : Int)) = true := by simp; omega
    clear hR
    go_enter Try.func20, Try.ntmps20
    go_wp2
    go_ret
    exact ⟨rfl, Fr.refl _ _⟩
/-- A key of four bytes. -/
structure Key (key : List Nat) : Prop where
  len : key.length = 4
  byt : Byt key
set_option maxHeartbeats 4000000 in
set_option maxRecDepth 100000 in
theorem masked_calls {w : World} {X : Option Addr} {c p : Nat} {bs key : List Nat} (hk : Key key) (hR : BytR w X bs) (hb : Byt bs) (hn : bs.length ≤ 1000000) (hp : p ≤ 3) :
    Calls Try.prog 21 #[.agg (bC key).toArray, .int .i64 (p : Int), .slice X bs.length c] w (RowPost w (mk key p bs)) := by
  obtain ⟨i0, hK⟩ := elem5
  have K5 := Aside0.mk hK
  have HKEY := Aside0.mk hk
  have HR := Aside0.mk hR
  have HBY := Aside0.mk hb
  have HF0 := Aside0.mk ((Fr.refl (fun _ => False) w).alloc (.cells (bC key).toArray 33))
  have HB0 := Aside0.mk (Blk.new w 33 (bC key))
  obtain ⟨KA, hKA⟩ : ∃ KA, KA = (bC key).toArray := ⟨_, rfl⟩
  rw [← hKA] at HF0 HB0 ⊢
  clear hk hR hb hK hKA
  go_enter Try.func21, Try.ntmps21
  go_upto_region 1 with (fail)
  generalize w.alloc (.cells KA 33) = w1 at *
  obtain ⟨B, hB⟩ : ∃ B, B = w.heap.size := ⟨_, rfl⟩
  rw [← hB] at HB0 ⊢
  clear hB
  go_wp2
  go_loopg [7, 8] bs.length (fun k v7 v8 w' => ∃ i : Nat, i ≤ bs.length ∧ v8 = .int .i64 i ∧ Aside0 (bs.length - i ≤ k ∧ ByRow w1 w' v7 (mk key p (bs.take i))))
  case atStart => exact ⟨0, Nat.zero_le _, rfl, ⟨Nat.le_refl _, ⟨⟨rfl, .inl ⟨rfl, rfl⟩⟩, Fr.refl _ _⟩⟩⟩
  case round =>
    obtain ⟨i, hi, rfl, HU⟩ := hrel
    have HK := Aside0.mk HU.out.1
    have HRW := Aside0.mk HU.out.2
    clear HU
    by_cases hlt : i < bs.length
    · obtain ⟨b, hb⟩ : ∃ b, bs[i]? = some b := ⟨_, List.getElem?_eq_getElem hlt⟩
      obtain ⟨ad, rfl, k1⟩ := BytR.get (HR.out.fr HF0.out (fun _ _ h => h)) hb
      obtain ⟨q, hq⟩ : ∃ q, q = (p + i) % 4 := ⟨_, rfl⟩
      have hq4 : q < 4 := by omega
      obtain ⟨y, hy⟩ : ∃ y, key[q]? = some y := ⟨_, List.getElem?_eq_getElem (by have := HKEY.out.len; omega)⟩
      have HK1 := Aside0.mk k1
      have HK2 := Aside0.mk (HB0.out.cell q (bC_get hy))
      clear k1
      have k1 := Same.cell HRW.out.fr HK1.out
      have k2 := Same.cell HRW.out.fr HK2.out
      have e1 : IntKind.i64.wrap ((p : Int) + (i : Int)) = (p : Int) + (i : Int) := by rw [IntKind.wrap_i64]; omega
      have e2 : ((p : Int) + (i : Int)).tmod 4 = (q : Int) := by rw [Int.tmod_eq_emod_of_nonneg (by omega)]; omega
      obtain ⟨z, hz⟩ : ∃ z, z = b ^^^ y := ⟨_, rfl⟩
      have e3 : bits .xor .u8 (b : Int) (y : Int) = (z : Int) := by rw [hz]; exact u8_xor (HBY.out b (List.mem_of_getElem? hb)) (HKEY.out.byt y (List.mem_of_getElem? hy))
      have HS : Aside0 (mk key p (bs.take (i + 1)) = mk key p (bs.take i) ++ [z]) := ⟨by rw [mk_snoc key bs p hb, ← hq, List.getD_eq_getElem?_getD, hy, hz]; rfl⟩
      have HL : Aside0 ((mk key p (bs.take i)).length = i) := ⟨by rw [mk_len, List.length_take]; omega⟩
      have i1 : (0 : Int) ≤ (i : Int) := by omega
      have i2 : (i : Int) < (bs.length : Int) := by omega
      have i3 : (0 : Int) ≤ (q : Int) := by omega
      have i4 : (q : Int) < 4 := by omega
      clear hb hy hq hz
      go_upto_region 5 with (fail)
      go_region_held3 (fun w' => w'.cell? (ad.add i) = some (.int .u8 (b : Int)) ∧ w'.cell? ⟨B, q, none⟩ = some (.int .u8 (y : Int)))
        (first | exact ⟨Same.cell HRW.out.fr.drew HK1.out, Same.cell HRW.out.fr.drew HK2.out⟩ | exact ⟨Same.cell (HRW.out.fr.alloc _).drew HK1.out, Same.cell (HRW.out.fr.alloc _).drew HK2.out⟩ | exact ⟨Same.cell hr1.fr HK1.out, Same.cell hr1.fr HK2.out⟩ | go_keep)
        (first
          | (refine step_rowG K5.out (by rfl) (.tmp 15) (.tmp 27) (by rfl) (w2 := w1) (m := 1) (ys := bC [z]) (by rfl) (HRW.out.alloc _).drew (by rfl) (fun _ => (read_newG rfl (bC_one [z])).drew) (by have := HL.out; omega) ?_; intro v' w2 hr1 hg1 ha1))
      have HR4 : Aside0 (ByRow w1 w2 v' (mk key p (bs.take (i + 1)))) := ⟨by
        rw [HS.out]
        unfold ByRow
        rw [List.length_append, bC_append]
        exact hr1⟩
      clear hr1 hg1 ha1 k1 k2 e1 e2 e3
      go_wp2
      go_roundg (bs.length - (i + 1))
      case measure => have := HK.out; omega
      case rel => exact ⟨i + 1, by omega, by first | rfl | go_num, ⟨Nat.le_refl _, HR4.out⟩⟩
    · have he : i = bs.length := by omega
      subst he
      have hr := HRW.out
      rw [List.take_length] at hr
      have HRR := Aside0.mk (RowG.low hr HF0.out)
      clear hr HRW
      go_wp2
      go_ret
      exact ⟨_, rfl, HRR.out⟩
end Go.Proofs.Ytpgjcelglimpcaa.Mk
