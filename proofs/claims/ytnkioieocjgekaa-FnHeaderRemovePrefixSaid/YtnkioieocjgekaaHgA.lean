/- server.sliceHeader, getHeader, impl.HeaderGet, by hand. -/
import Derived.Test.YtnkioieocjgekaaPlWalk
import Derived.Test.YtnkioieocjgekaaBs
import Derived.Test.YtnkioieocjgekaaProg
namespace Go.Proofs.Ytnkioieocjgekaa.Hg
open Go.RowKit Go.Proofs.YtnkioieocjgekaaW.PrintWords Go.Proofs.YtnkioieocjgekaaW.PrintLast Go.Proofs.YtnkioieocjgekaaW.PrintMore
set_option linter.unusedVariables false
set_option linter.unusedSimpArgs false

/-- How many blanks ahead. -/
def skip : List Int → Nat
  | [] => 0
  | b :: r => if b = 32 then skip r + 1 else 0
/-- How much ahead of the line's end. -/
def toEnd : List Int → Nat
  | [] => 0
  | b :: r => if b = 13 ∧ r.head? = some 10 then 0 else toEnd r + 1
theorem skip_le : ∀ l : List Int, skip l ≤ l.length
  | [] => Nat.le_refl _
  | b :: r => by rw [skip]; split <;> simp; exact skip_le r
theorem toEnd_le : ∀ l : List Int, toEnd l ≤ l.length
  | [] => Nat.le_refl _
  | b :: r => by rw [toEnd]; split <;> simp; exact toEnd_le r
theorem cell_of {w w' : World} {ad : Addr} {l : List Int} (hR : Kd.C (Kd.int .u8) w (some ad) l.length l) (hB : Below w.heap.size w w') {i : Nat} {x : Int} (hx : l[i]? = some x) : w'.cell? (ad.add i) = some (.int .u8 x) := by
  have hi := (List.getElem?_eq_some_iff.1 hx).1
  obtain ⟨ad', e, hc⟩ := Kd.at_int (Kd.C_below hR hB) (i : Int) (by omega) (by omega)
  injection e with e
  subst e
  rw [Int.toNat_natCast] at hc
  rw [hc]
  simp [rd, List.getD_eq_getElem?_getD, hx]
def SlPost (w : World) (ad : Addr) (l : List Int) (m : Nat) (ix : Int) (e : Ending) (w' : World) : Prop := Below w.heap.size w w' ∧ ((ix = -1 ∧ e = .returned (.slice none 0 0)) ∨
  (0 ≤ ix ∧ ∃ i j : Nat, ∃ X : Addr, i = ix.toNat + m + 1 + skip (l.drop (ix.toNat + m + 1)) ∧ j = i + toEnd (l.drop i) ∧ e = .returned (.slice (some X) (j - i) (j - i)) ∧ (i < j → X = ad.add i)))
set_option maxHeartbeats 8000000 in
set_option maxRecDepth 100000 in
theorem slice_calls {w : World} {ad : Addr} {c : Nat} {l : List Int} {key : ByteArray} {ix : Int} (hR : Kd.C (Kd.int .u8) w (some ad) l.length l) (hc : l.length ≤ c) (hl : l.length ≤ 1000000) (h0 : 0 < l.length) (hk : key.size ≤ 1000000) (hx : ix = -1 ∨ 0 ≤ ix ∧ ix + key.size + 1 ≤ l.length)
    (hK : Calls Try.prog 29 #[.string key, .slice (some ad) l.length c] w fun e w' => e = .returned (.int .i64 ix) ∧ Below w.heap.size w w') :
    Calls Try.prog 27 #[.string key, .slice (some ad) l.length c] w (SlPost w ad l key.size ix) := by
  have HR := Aside0.mk hR
  have HC := Aside0.mk hc
  have HL := Aside0.mk hl
  have HK := Aside0.mk hK
  have hne : ((l.length : Int) == 0) = false := beq_eq_false_iff_ne.mpr (by omega)
  have hne2 : (l.length == 0) = false := beq_eq_false_iff_ne.mpr (by omega)
  clear hR hc hl hK
  rcases hx with rfl | ⟨hx0, hx1⟩
  · go_enter Try.func27, Try.ntmps27
    go_wp2_with fail
    refine HK.out.mono ?_
    rintro e w1 ⟨rfl, hb⟩
    have HB := Aside0.mk hb
    clear hb
    go_wp2
    go_ret
    exact ⟨HB.out, .inl ⟨by first | rfl | trivial, rfl⟩⟩
  · obtain ⟨n, rfl⟩ : ∃ n : Nat, ix = (n : Int) := ⟨ix.toNat, by omega⟩
    have e1 : IntKind.i64.wrap ((n : Int) + IntKind.i64.wrap ((key.size : Int) + 1)) = ((n + key.size + 1 : Nat) : Int) := by have := HL.out; rw [IntKind.wrap_i64, IntKind.wrap_i64]; omega
    have e1' : wrap64 ((n : Int) + ((key.size : Int) + 1)) = ((n + key.size + 1 : Nat) : Int) := by have := HL.out; unfold wrap64; omega
    have hn1 : ((n : Int) == -1) = false := by simp
    go_enter Try.func27, Try.ntmps27
    go_wp2_with fail
    refine HK.out.mono ?_
    rintro e w1 ⟨rfl, hb⟩
    have HB1 := Aside0.mk hb
    clear hb
    go_wp2
    obtain ⟨z20, hz20⟩ : ∃ z, z = wrap64 ((n : Int) + ((key.size : Int) + 1)) := ⟨_, rfl⟩
    rw [← hz20] at e1' ⊢
    clear hz20 e1
    replace e1' := Aside0.mk e1'
    go_loopg [5] l.length (fun k v5 w' => ∃ i : Nat, v5 = .int .i64 i ∧ Aside0 (l.length - i ≤ k ∧ i ≤ l.length ∧ i + skip (l.drop i) = n + key.size + 1 + skip (l.drop (n + key.size + 1)) ∧ w' = w1))
    case atStart => exact ⟨n + key.size + 1, by rw [e1'.out], ⟨by omega, by omega, rfl, rfl⟩⟩
    case round =>
      obtain ⟨i, rfl, HU⟩ := hrel
      obtain ⟨hk1, hi, hsk, hw⟩ := HU.out
      subst hw
      have HSK := Aside0.mk hsk
      clear HU hsk
      have i1 : (0 : Int) ≤ (i : Int) := by omega
      by_cases hc : ∃ _ : i < l.length, l[i]? = some 32
      · obtain ⟨hlt, hx⟩ := hc
        have hcell := cell_of HR.out HB1.out hx
        have i2 : (i : Int) < (l.length : Int) := by omega
        have e2 : IntKind.i64.wrap ((i : Int) + 1) = ((i + 1 : Nat) : Int) := by rw [IntKind.wrap_i64]; have := HL.out; omega
        have HS2 : Aside0 ((i + 1) + skip (l.drop (i + 1)) = n + key.size + 1 + skip (l.drop (n + key.size + 1))) := ⟨by
          rw [← HSK.out, List.drop_eq_getElem_cons hlt, (List.getElem?_eq_some_iff.1 hx).2, skip, if_pos rfl]
          omega⟩
        clear HSK hx
        go_wp2
        go_roundg (l.length - (i + 1))
        case measure => omega
        case rel => exact ⟨i + 1, by first | rfl | go_num, ⟨Nat.le_refl _, by omega, HS2.out, rfl⟩⟩
      · have HS2 : Aside0 (i = n + key.size + 1 + skip (l.drop (n + key.size + 1))) := ⟨by
          rw [← HSK.out]
          by_cases hlt : i < l.length
          · rw [List.drop_eq_getElem_cons hlt, skip, if_neg]
            · rfl
            · intro e
              exact hc ⟨hlt, by rw [List.getElem?_eq_getElem hlt, e]⟩
          · rw [List.drop_eq_nil_of_le (by omega), skip]
            rfl⟩
        clear HSK
        by_cases hlt : i < l.length
        all_goals first
          | (obtain ⟨x, hx⟩ : ∃ x, l[i]? = some x := ⟨_, List.getElem?_eq_getElem hlt⟩
             have hx32 : (x == 32) = false := by
               simp
               rintro rfl
               exact hc ⟨hlt, hx⟩
             have hcell := cell_of HR.out HB1.out hx
             have i2 : (i : Int) < (l.length : Int) := by omega
             clear hx hc
             go_upto_region 11 with (fail)
             clear hcell hx32 i2 hlt)
          | (have i2 : ¬ (i : Int) < (l.length : Int) := by omega
             clear hc
             go_upto_region 11 with (fail)
             clear i2 hlt)
        all_goals
          have HI := Aside0.mk HS2.out
          obtain ⟨s, hs⟩ : ∃ s, s = i := ⟨_, rfl⟩
          have HS3 : Aside0 (s = n + key.size + 1 + skip (l.drop (n + key.size + 1))) := ⟨hs.trans HS2.out⟩
          clear HI HS2
          go_loopg [5] l.length (fun k v5 w' => ∃ j : Nat, v5 = .int .i64 j ∧ Aside0 (l.length - j ≤ k ∧ j ≤ l.length ∧ i ≤ j ∧ j + toEnd (l.drop j) = i + toEnd (l.drop i) ∧ Below w.heap.size w w'))
          case atStart => exact ⟨i, rfl, ⟨by omega, by omega, by omega, rfl, HB1.out⟩⟩
          case round =>
            obtain ⟨j, rfl, HU⟩ := hrel
            obtain ⟨hk2, hj, hij, hsk, hb2⟩ := HU.out
            have HSK := Aside0.mk hsk
            have HB2 := Aside0.mk hb2
            clear HU hsk hb2 hk1
            have j1 : (0 : Int) ≤ (j : Int) := by omega
            have j3 : (i : Int) ≤ (j : Int) := by omega
            have j4 : (j : Int) ≤ (c : Int) := by have := HC.out; omega
            by_cases hlt2 : j < l.length
            · obtain ⟨x, hx⟩ : ∃ x, l[j]? = some x := ⟨_, List.getElem?_eq_getElem hlt2⟩
              have hcell := cell_of HR.out HB2.out hx
              have j2 : (j : Int) < (l.length : Int) := by omega
              have e2 : IntKind.i64.wrap ((j : Int) + 1) = ((j + 1 : Nat) : Int) := by rw [IntKind.wrap_i64]; have := HL.out; omega
              have e3 : IntKind.i64.wrap ((l.length : Int) - 1) = (l.length : Int) - 1 := by rw [IntKind.wrap_i64]; have := HL.out; omega
              have HD : Aside0 (l.drop j = x :: l.drop (j + 1)) := ⟨by rw [List.drop_eq_getElem_cons hlt2, (List.getElem?_eq_some_iff.1 hx).2]⟩
              by_cases hx13 : x = 13
              · subst hx13
                by_cases hlast : j + 1 < l.length
                · obtain ⟨y, hy⟩ : ∃ y, l[j + 1]? = some y := ⟨_, List.getElem?_eq_getElem hlast⟩
                  have hcell2 := cell_of HR.out HB2.out hy
                  have hcell3 := hcell2
                  rw [show ad.add (j + 1) = ⟨ad.block, ad.off + (j + 1), none⟩ from by unfold Addr.add; rw [if_neg (by omega)]] at hcell3
                  have HH : Aside0 ((l.drop (j + 1)).head? = some y) := ⟨by rw [List.head?_drop]; exact hy⟩
                  have j5 : (j : Int) < (l.length : Int) - 1 := by omega
                  have j6 : (0 : Int) ≤ (j : Int) + 1 := by omega
                  have j7 : (j : Int) + 1 < (l.length : Int) := by omega
                  have j8 : ((j : Int) + 1).toNat = j + 1 := by omega
                  have j9 : ((j + 1 : Nat) : Int) < (l.length : Int) := by omega
                  by_cases hy10 : y = 10
                  · subst hy10
                    have HS4 : Aside0 (j = i + toEnd (l.drop i)) := ⟨by rw [← HSK.out, HD.out, toEnd, if_pos ⟨rfl, HH.out⟩]; rfl⟩
                    clear HSK hx hy
                    go_wp2
                    all_goals (go_ret; first | exact ⟨HB2.out, .inr ⟨hx0, i, j, _, (by rw [Int.toNat_natCast]; exact hs.symm.trans HS3.out), HS4.out, rfl, fun h => by first | rfl | omega⟩⟩ | exact ⟨HB2.out, .inr ⟨hx0, i, j, ad, (by rw [Int.toNat_natCast]; exact hs.symm.trans HS3.out), HS4.out, (by first | (rw [show j - i = 0 by omega]; rfl) | (simp only [Nat.sub_self]; rfl)), fun h => by omega⟩⟩ | exact ⟨HB2.out, .inr ⟨hx0, i, i, ad, (by rw [Int.toNat_natCast]; exact hs.symm.trans HS3.out), HS4.out, (by rw [Nat.sub_self]; rfl), fun h => by omega⟩⟩)
                  · have hyb : (y == 10) = false := beq_eq_false_iff_ne.mpr hy10
                    have HS4 : Aside0 (j + 1 + toEnd (l.drop (j + 1)) = i + toEnd (l.drop i)) := ⟨by
                      rw [← HSK.out, HD.out, toEnd, if_neg (by rintro ⟨-, h⟩; rw [HH.out] at h; exact hy10 (Option.some.inj h))]
                      omega⟩
                    clear hx hy
                    clear HSK
                    go_wp2
                    go_roundg (l.length - (j + 1))
                    case measure => omega
                    case rel => exact ⟨j + 1, by first | rfl | go_num, ⟨Nat.le_refl _, by omega, by omega, HS4.out, HB2.out⟩⟩
                · have HS4 : Aside0 (j + 1 + toEnd (l.drop (j + 1)) = i + toEnd (l.drop i)) := ⟨by
                    rw [← HSK.out, HD.out, toEnd, if_neg (by rintro ⟨-, h⟩; rw [List.drop_eq_nil_of_le (by omega)] at h; cases h)]
                    omega⟩
                  have j5 : ¬ (j : Int) < (l.length : Int) - 1 := by omega
                  clear hx
                  clear HSK
                  go_wp2
                  go_roundg (l.length - (j + 1))
                  case measure => omega
                  case rel => exact ⟨j + 1, by first | rfl | go_num, ⟨Nat.le_refl _, by omega, by omega, HS4.out, HB2.out⟩⟩
              · have hxb : (x == 13) = false := beq_eq_false_iff_ne.mpr hx13
                have HS4 : Aside0 (j + 1 + toEnd (l.drop (j + 1)) = i + toEnd (l.drop i)) := ⟨by
                  rw [← HSK.out, HD.out, toEnd, if_neg (by rintro ⟨h, -⟩; exact hx13 h)]
                  omega⟩
                clear hx
                clear HSK
                go_wp2
                go_roundg (l.length - (j + 1))
                case measure => omega
                case rel => exact ⟨j + 1, by first | rfl | go_num, ⟨Nat.le_refl _, by omega, by omega, HS4.out, HB2.out⟩⟩
            · have HS4 : Aside0 (j = i + toEnd (l.drop i)) := ⟨by rw [← HSK.out, List.drop_eq_nil_of_le (i := j) (by omega), toEnd]; rfl⟩
              have j2 : ¬ (j : Int) < (l.length : Int) := by omega
              clear HSK
              go_wp2
              all_goals (go_ret; first | exact ⟨HB2.out, .inr ⟨hx0, i, j, _, (by rw [Int.toNat_natCast]; exact hs.symm.trans HS3.out), HS4.out, rfl, fun h => by first | rfl | omega⟩⟩ | exact ⟨HB2.out, .inr ⟨hx0, i, j, ad, (by rw [Int.toNat_natCast]; exact hs.symm.trans HS3.out), HS4.out, (by first | (rw [show j - i = 0 by omega]; rfl) | (simp only [Nat.sub_self]; rfl)), fun h => by omega⟩⟩ | exact ⟨HB2.out, .inr ⟨hx0, i, i, ad, (by rw [Int.toNat_natCast]; exact hs.symm.trans HS3.out), HS4.out, (by rw [Nat.sub_self]; rfl), fun h => by omega⟩⟩)
end Go.Proofs.Ytnkioieocjgekaa.Hg
