/- laws.FnHeaderRemovePrefix, walked. -/
import Derived.Test.YtnkioieocjgekaaHqB
import Derived.Test.YtnkioieocjgekaaPlHqG
namespace Go.Proofs.Ytnkioieocjgekaa.Hq
open Go.Proofs.Ytnkioieocjgekaa.Hg Go.Proofs.Ytnkioieocjgekaa.PlHq Go.Proofs.Ytnkioieocjgekaa.Pl Go.RowKit Go.Proofs.YtnkioieocjgekaaW.PrintWords Go.Proofs.YtnkioieocjgekaaW.PrintLast Go.Proofs.YtnkioieocjgekaaW.PrintMore Go.Proofs.Ytnkioieocjgekaa.GFnHeaderRemovePrefix
set_option linter.unusedVariables false
set_option linter.unusedSimpArgs false

structure Fin (k : Nat) (l0 : List S34) (p : ByteArray) : Prop where
  key : ∀ x ∈ l0, x.f0.size ≤ 40
  low : ∀ s : ByteArray, s.size ≤ 40 → ∃ k r, laws_lower.f k s = some r
  pos : 0 < p.size
  few : 0 < l0.length ∧ l0.length ≤ 8
  fin : ∃ (T r : List UInt8) (wo : List S34), spec_Header.f k l0 = some (ba T) ∧ rmp p.data.toList k T 0 = some r ∧ spec_WithoutPrefix.f k l0 p = some wo ∧ laws_left.f k (nm r) wo = some true ∧ 0 < T.length ∧ T.length ≤ 100000
/-- What the plain law is to show. -/
def Plain (k : Nat) (l0 : List S34) (p : ByteArray) : Prop :=
  laws_zzFits3.f k l0 = some false ∨ (laws_zzFits3.f k l0 = some true ∧
    ((p.size : Int) > 2147483647 ∨ ((p.size : Int) ≤ 2147483647 ∧
      (laws_headed.f k l0 = some false ∨ (laws_headed.f k l0 = some true ∧
        (spec_Token.f k p = some false ∨ (spec_Token.f k p = some true ∧
          ((p.size : Int) > 40 ∨ ((p.size : Int) ≤ 40 ∧ ((l0.length : Int) = 0 ∨ Fin k l0 p))))))))))
def LawPost (w : World) (e : Ending) (w' : World) : Prop := e = .returned (.bool true) ∧ Below w.heap.size w w'
set_option maxHeartbeats 8000000 in
set_option maxRecDepth 100000 in
theorem law_calls (k : Nat) {w : World} {A0 : Option Addr} {c0 : Nat} {l0 : List S34} {p : ByteArray} (hR : Kd.C k34 w A0 l0.length l0) (hc : l0.length ≤ c0) (h : Plain k l0 p) :
    Calls Try.prog 4 #[.slice A0 l0.length c0, .string p] w (LawPost w) := by
  have HR : Aside0 (∀ W, Below w.heap.size w W → Kd.C k34 W A0 l0.length l0) := ⟨fun W hb => Kd.C_below hR hb⟩
  have HC := Aside0.mk hc
  clear hR hc
  have H1 : Aside0 (∀ b, laws_zzFits3.f k l0 = some b → Calls Try.prog 5 #[.slice A0 l0.length c0] w fun e w' => e = .returned (.bool b) ∧ Below w.heap.size w w') := ⟨fun b hb => laws_zzFits3.calls k A0 c0 l0 b w (HR.out w (Below.refl _ _)) HC.out hb⟩
  have H2 : Aside0 (∀ b, laws_headed.f k l0 = some b → ∀ W, Below w.heap.size w W → Calls Try.prog 6 #[.slice A0 l0.length c0] W fun e w' => e = .returned (.bool b) ∧ Below W.heap.size W w') := ⟨fun b h W hb => laws_headed.calls k A0 c0 l0 b W (HR.out W hb) HC.out h⟩
  rcases h with h | ⟨h1, h⟩
  · replace H1 := Aside0.mk (H1.out _ h)
    clear h H2
    go_enter Try.func4, Try.ntmps4
    go_wp2_with fail
    refine H1.out.mono ?_
    rintro e w1 ⟨rfl, hb⟩
    have HB1 := Aside0.mk hb
    clear hb
    go_wp2
    go_ret
    exact ⟨rfl, HB1.out⟩
  replace H1 := Aside0.mk (H1.out _ h1)
  clear h1
  rcases h with h | ⟨h2, h⟩
  · clear H2
    go_enter Try.func4, Try.ntmps4
    go_wp2_with fail
    refine H1.out.mono ?_
    rintro e w1 ⟨rfl, hb⟩
    have HB1 := Aside0.mk hb
    clear hb
    go_wp2
    go_ret
    exact ⟨rfl, HB1.out⟩
  have h2' : ¬ (2147483647 < (p.size : Int)) := by omega
  clear h2
  rcases h with h | ⟨h3, h⟩
  · replace H2 := Aside0.mk (H2.out _ h)
    clear h
    go_enter Try.func4, Try.ntmps4
    go_wp2_with fail
    refine H1.out.mono ?_
    rintro e w1 ⟨rfl, hb⟩
    have HB1 := Aside0.mk hb
    clear hb
    go_wp2_with fail
    refine (H2.out w1 HB1.out).mono ?_
    rintro e w2 ⟨rfl, hb⟩
    have HB2 := Aside0.mk (below_step HB1.out hb)
    clear hb
    go_wp2_with fail
    refine (awake_calls w2).mono ?_
    rintro e w3 ⟨rfl, hb⟩
    have HB3 := Aside0.mk (below_step HB2.out hb)
    clear hb
    go_wp2
    go_ret
    exact ⟨rfl, HB3.out⟩
  replace H2 := Aside0.mk (H2.out _ h3)
  clear h3
  have H3 : Aside0 (∀ b, spec_Token.f k p = some b → ∀ W, Calls Try.prog 12 #[.string p] W fun e w' => e = .returned (.bool b) ∧ Drawn0 W w') := ⟨fun b h W => spec_Token.calls k p b W h⟩
  rcases h with h | ⟨h4, h⟩
  · replace H3 := Aside0.mk (H3.out _ h)
    clear h
    go_enter Try.func4, Try.ntmps4
    go_wp2_with fail
    refine H1.out.mono ?_
    rintro e w1 ⟨rfl, hb⟩
    have HB1 := Aside0.mk hb
    clear hb
    go_wp2_with fail
    refine (H2.out w1 HB1.out).mono ?_
    rintro e w2 ⟨rfl, hb⟩
    have HB2 := Aside0.mk (below_step HB1.out hb)
    clear hb
    go_wp2_with fail
    refine (H3.out w2).mono ?_
    rintro e w3 ⟨rfl, ⟨n3, rfl⟩⟩
    have HB3 := Aside0.mk (pw_below_drewN HB2.out n3)
    generalize w2.drewN n3 = w3 at *
    go_wp2_with fail
    refine (awake_calls w3).mono ?_
    rintro e w4 ⟨rfl, hb⟩
    have HB4 := Aside0.mk (below_step HB3.out hb)
    clear hb
    go_wp2
    go_ret
    exact ⟨rfl, HB4.out⟩
  replace H3 := Aside0.mk (H3.out _ h4)
  clear h4
  by_cases hlong : (p.size : Int) > 40 ∨ (l0.length : Int) = 0
  · have t1 : ((40 : Int) < (p.size : Int)) ∨ ¬ ((40 : Int) < (p.size : Int)) ∧ ((l0.length : Int) == 0) = true ∧ (l0.length == 0) = true := by
      rcases hlong with h | h
      · exact .inl h
      · by_cases h40 : (40 : Int) < (p.size : Int)
        · exact .inl h40
        · exact .inr ⟨h40, beq_iff_eq.2 h, beq_iff_eq.2 (by omega)⟩
    clear h hlong
    rcases t1 with t1 | ⟨t1, t2, t3⟩
    all_goals
      go_enter Try.func4, Try.ntmps4
      go_wp2_with fail
      refine H1.out.mono ?_
      rintro e w1 ⟨rfl, hb⟩
      have HB1 := Aside0.mk hb
      clear hb
      go_wp2_with fail
      refine (H2.out w1 HB1.out).mono ?_
      rintro e w2 ⟨rfl, hb⟩
      have HB2 := Aside0.mk (below_step HB1.out hb)
      clear hb
      go_wp2_with fail
      refine (H3.out w2).mono ?_
      rintro e w3 ⟨rfl, ⟨n3, rfl⟩⟩
      have HB3 := Aside0.mk (pw_below_drewN HB2.out n3)
      generalize w2.drewN n3 = w3 at *
      go_wp2_with fail
      refine (awake_calls w3).mono ?_
      rintro e w4 ⟨rfl, hb⟩
      have HB4 := Aside0.mk (below_step HB3.out hb)
      clear hb
      go_wp2
      go_ret
      exact ⟨rfl, HB4.out⟩
  have hF : Fin k l0 p := by
    rcases h with h | ⟨-, h | h⟩
    · exact absurd (.inl h) hlong
    · exact absurd (.inr h) hlong
    · exact h
  have HF := Aside0.mk hF
  have t1 : ¬ ((40 : Int) < (p.size : Int)) := fun h => hlong (.inl h)
  have t2 : ((l0.length : Int) == 0) = false := beq_eq_false_iff_ne.mpr (fun h => hlong (.inr h))
  have t3 : (l0.length == 0) = false := beq_eq_false_iff_ne.mpr (fun h => hlong (.inr (by omega)))
  clear hF h hlong
  go_enter Try.func4, Try.ntmps4
  go_wp2_with fail
  refine H1.out.mono ?_
  rintro e w1 ⟨rfl, hb⟩
  have HB1 := Aside0.mk hb
  clear hb
  go_wp2_with fail
  refine (H2.out w1 HB1.out).mono ?_
  rintro e w2 ⟨rfl, hb⟩
  have HB2 := Aside0.mk (below_step HB1.out hb)
  clear hb
  go_wp2_with fail
  refine (H3.out w2).mono ?_
  rintro e w3 ⟨rfl, ⟨n3, rfl⟩⟩
  have HB3 := Aside0.mk (pw_below_drewN HB2.out n3)
  generalize w2.drewN n3 = w3 at *
  go_wp2
  clear H1 H2 H3
  go_loopg [5] l0.length (fun kq v5 w' => ∃ i : Nat, v5 = .int .i64 i ∧ Aside0 (l0.length - i ≤ kq ∧ i ≤ l0.length ∧ Below w.heap.size w w'))
  case atStart => exact ⟨0, rfl, ⟨by omega, by omega, HB3.out⟩⟩
  case round =>
    obtain ⟨i, rfl, HU⟩ := hrel
    have i1 : (0 : Int) ≤ (i : Int) := by omega
    have i3 : (i : Int) ≤ 8 := by have := HU.out.2.1; have := HF.out.few; omega
    by_cases hlt : i < l0.length
    · obtain ⟨ad, hA, c1, c2⟩ := at_T34 (HR.out wr HU.out.2.2) (i : Int) (by omega) (by omega)
      subst hA
      rw [Int.toNat_natCast] at c1
      have i2 : (i : Int) < (l0.length : Int) := by omega
      have hk40 : (rd_T34 l0 i).f0.size ≤ 40 := HF.out.key _ (rdT_mem (by omega) (by omega))
      generalize (rd_T34 l0 i).f0 = x at *
      have hp1 : (0 : Int) ≤ (p.size : Int) := by omega
      have hk41 : (x.size : Int) ≤ 40 := by omega
      by_cases hle : p.size ≤ x.size
      · have hle1 : (p.size : Int) ≤ (x.size : Int) := by omega
        obtain ⟨y, hy⟩ : ∃ y, y = x.extract 0 p.size := ⟨_, rfl⟩
        by_cases hyp : (x.extract 0 p.size).toList = p.toList
        · go_wp2
          go_roundg (l0.length - (i + 1))
          case measure => have := HU.out.1; omega
          case rel => exact ⟨i + 1, by first | rfl | go_num, ⟨Nat.le_refl _, by omega, HU.out.2.2⟩⟩
        · obtain ⟨k1, r1, hr1⟩ := HF.out.low (x.extract 0 p.size) (by rw [ByteArray.size_extract]; omega)
          obtain ⟨k2, r2, hr2⟩ := HF.out.low p (by omega)
          have L1 : Aside0 (Calls Try.prog 13 #[.string (x.extract 0 p.size)] wr fun e w' => e = .returned (.string r1) ∧ Below wr.heap.size wr w') := ⟨laws_lower.calls k1 _ r1 wr hr1⟩
          have L2 : Aside0 (∀ W, Calls Try.prog 13 #[.string p] W fun e w' => e = .returned (.string r2) ∧ Below W.heap.size W w') := ⟨fun W => laws_lower.calls k2 _ r2 W hr2⟩
          have hyb : (!(x.extract 0 p.size).toList == p.toList) = true := by simp [hyp]
          clear hy hr1 hr2
          go_wp2_with fail
          refine L1.out.mono ?_
          rintro e w4 ⟨rfl, hb⟩
          have HB4 := Aside0.mk (below_step HU.out.2.2 hb)
          clear hb
          go_wp2_with fail
          refine (L2.out w4).mono ?_
          rintro e w5 ⟨rfl, hb⟩
          have HB5 := Aside0.mk (below_step HB4.out hb)
          clear hb
          by_cases hrr : r1.toList = r2.toList
          · go_wp2_with fail
            refine (awake_calls w5).mono ?_
            rintro e w6 ⟨rfl, hb⟩
            have HB6 := Aside0.mk (below_step HB5.out hb)
            clear hb
            go_wp2
            go_ret
            exact ⟨rfl, HB6.out⟩
          · have hrb : (r1.toList == r2.toList) = false := by simp [hrr]
            go_wp2
            go_roundg (l0.length - (i + 1))
            case measure => have := HU.out.1; omega
            case rel => exact ⟨i + 1, by first | rfl | go_num, ⟨Nat.le_refl _, by omega, HB5.out⟩⟩
      · have hle1 : ¬ ((p.size : Int) ≤ (x.size : Int)) := by omega
        go_wp2
        go_roundg (l0.length - (i + 1))
        case measure => have := HU.out.1; omega
        case rel => exact ⟨i + 1, by first | rfl | go_num, ⟨Nat.le_refl _, by omega, HU.out.2.2⟩⟩
    · have i2 : ¬ (i : Int) < (l0.length : Int) := by omega
      obtain ⟨T, r, wo, g1, g2, g3, g4, g5, g6⟩ := HF.out.fin
      have H4 : Aside0 (∀ W, Below w.heap.size w W → Calls Try.prog 11 #[.slice A0 l0.length c0] W fun e w' => e = .returned (.string (ba T)) ∧ Drawn0 W w') := ⟨fun W hb => spec_Header.calls k A0 c0 l0 (ba T) W (HR.out W hb) HC.out g1⟩
      have H5 : Aside0 (∀ W, Below w.heap.size w W → Calls Try.prog 16 #[.slice A0 l0.length c0, .string p] W fun e w' => ∃ v0_ : Value, e = .returned v0_ ∧ Kd.R k34 34 w' W.heap.size (fun _ => True) v0_ wo ∧ Below W.heap.size W w') := ⟨fun W hb => spec_WithoutPrefix.calls k A0 c0 l0 p wo W (HR.out W hb) HC.out g3⟩
      have G2 := Aside0.mk g2
      have G4 := Aside0.mk g4
      have G5 := Aside0.mk (And.intro g5 g6)
      have GP : Aside0 (p.data.toList.length ≤ 1000 ∧ 0 < p.data.toList.length) := ⟨by have h1 := HF.out.pos; have h2 : p.data.toList.length = p.size := rfl; omega⟩
      have HBr := Aside0.mk HU.out.2.2
      clear g1 g2 g3 g4 g5 g6 HU
      go_wp2_with fail
      refine (H4.out wr HBr.out).mono ?_
      rintro e w4 ⟨rfl, ⟨n4, rfl⟩⟩
      have HB4 := Aside0.mk (pw_below_drewN HBr.out n4)
      generalize wr.drewN n4 = w4 at *
      obtain ⟨m, hm⟩ : ∃ m, m = T.length := ⟨_, rfl⟩
      obtain ⟨ad, c1, w5, hrun, hC1, hc1, hb1⟩ := conv_ba (w := w4) T hm (by have := G5.out; omega)
      have HB5 := Aside0.mk (below_step HB4.out hb1)
      have H6 := Aside0.mk (rp_calls (w := w5) (A0 := some ad) (c0 := c1) (p := p.data.toList) k G2.out hm (by have := G5.out; omega) (by have := G5.out; omega) GP.out.1 GP.out.2 hC1 hc1)
      clear hm hC1 hc1 hb1
      go_wp2_with fail
      refine H6.out.mono ?_
      rintro e w6 ⟨A, c, rfl, h1, h2, h3⟩
      have HB6 := Aside0.mk (below_step HB5.out h3)
      have HCL := Aside0.mk h2
      have HCC := Aside0.mk h1
      clear h1 h2 h3 hrun
      go_wp2_with fail
      refine (H5.out w6 HB6.out).mono ?_
      rintro e w7 ⟨v, rfl, hr, hb⟩
      obtain ⟨A2, c2, rfl, hc2, hCw⟩ := Kd.R_reads hr
      have HB7 := Aside0.mk (below_step HB6.out hb)
      have H8 : Aside0 (Calls Try.prog 14 #[.slice A r.length c, .slice A2 wo.length c2] w7 fun e w' => e = .returned (.bool true) ∧ Drawn0 w7 w') := ⟨by
        have h1 := HCL.out
        have h2 := HCC.out
        have e1 : r.length = (nm r).length := (nm_len r).symm
        rw [e1] at h2 ⊢
        have h1 : Kd.C (Kd.int .u8) w6 A (nm r).length (nm r) := by rw [← e1]; exact h1
        exact laws_left.calls k A c (nm r) A2 c2 wo true w7 (Kd.C_below h1 hb) h2 hCw hc2 G4.out⟩
      clear hr hb hc2 hCw
      go_wp2_with fail
      refine H8.out.mono ?_
      rintro e w8 ⟨rfl, ⟨n8, rfl⟩⟩
      have HB8 := Aside0.mk (pw_below_drewN HB7.out n8)
      generalize w7.drewN n8 = w8 at *
      go_wp2_with fail
      refine (awake_calls w8).mono ?_
      rintro e w9 ⟨rfl, hb⟩
      have HB9 := Aside0.mk (below_step HB8.out hb)
      clear hb
      go_wp2
      go_ret
      exact ⟨rfl, HB9.out⟩
end Go.Proofs.Ytnkioieocjgekaa.Hq
