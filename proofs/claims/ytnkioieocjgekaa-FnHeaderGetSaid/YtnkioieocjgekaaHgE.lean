/- laws.FnHeaderGet, walked. -/
import Derived.Test.YtnkioieocjgekaaHgD
namespace Go.Proofs.Ytnkioieocjgekaa.Hg
open Go.RowKit Go.Proofs.YtnkioieocjgekaaW.PrintWords Go.Proofs.YtnkioieocjgekaaW.PrintLast Go.Proofs.YtnkioieocjgekaaW.PrintMore Go.Proofs.Ytnkioieocjgekaa.GFnHeaderGet
set_option linter.unusedVariables false
set_option linter.unusedSimpArgs false

/-- What the plain law is to show. -/
def Plain (k : Nat) (l0 : List S34) (key : ByteArray) : Prop :=
  laws_zzFits3.f k l0 = some false ∨ (laws_zzFits3.f k l0 = some true ∧
    ((key.size : Int) > 2147483647 ∨ ((key.size : Int) ≤ 2147483647 ∧
      (laws_headed.f k l0 = some false ∨ (laws_headed.f k l0 = some true ∧
        (laws_knownKey.f k l0 key = some false ∨ (laws_knownKey.f k l0 key = some true ∧
          ∃ (want : ByteArray) (is : Bool) (T : ByteArray) (ix : Int), spec_Get.f k l0 key = some (want, is) ∧ spec_Header.f k l0 = some T ∧ server_getHeaderKeyIndex.f k key (bytesOf T) = some ix ∧ 0 < T.size ∧ T.size ≤ 1000000 ∧ key.size ≤ 1000000 ∧
            ((is = false ∧ ix = -1) ∨ (is = true ∧ 0 ≤ ix ∧ ix + key.size + 1 ≤ T.size ∧ strOfNums (value (bytesOf T) (ix.toNat + key.size + 1)) = want)))))))))
def LawPost (w : World) (e : Ending) (w' : World) : Prop := e = .returned (.bool true) ∧ Below w.heap.size w w'
set_option maxHeartbeats 8000000 in
set_option maxRecDepth 100000 in
theorem law_calls (k : Nat) {w : World} {A0 : Option Addr} {c0 : Nat} {l0 : List S34} {key : ByteArray} (hR : Kd.C k34 w A0 l0.length l0) (hc : l0.length ≤ c0) (h : Plain k l0 key) :
    Calls Try.prog 3 #[.slice A0 l0.length c0, .string key] w (LawPost w) := by
  have HR : Aside0 (∀ W, Below w.heap.size w W → Kd.C k34 W A0 l0.length l0) := ⟨fun W hb => Kd.C_below hR hb⟩
  have HC := Aside0.mk hc
  clear hR hc
  rcases h with h | ⟨h1, h⟩
  · have H1 := Aside0.mk (laws_zzFits3.calls k A0 c0 l0 false w (HR.out w (Below.refl _ _)) HC.out h)
    clear h
    go_enter Try.func3, Try.ntmps3
    go_wp2_with fail
    refine H1.out.mono ?_
    rintro e w1 ⟨rfl, hb⟩
    have HB1 := Aside0.mk hb
    clear hb
    go_wp2
    go_ret
    exact ⟨rfl, HB1.out⟩
  have H1 := Aside0.mk (laws_zzFits3.calls k A0 c0 l0 true w (HR.out w (Below.refl _ _)) HC.out h1)
  clear h1
  rcases h with h | ⟨h2, h⟩
  · go_enter Try.func3, Try.ntmps3
    go_wp2_with fail
    refine H1.out.mono ?_
    rintro e w1 ⟨rfl, hb⟩
    have HB1 := Aside0.mk hb
    clear hb
    go_wp2
    go_ret
    exact ⟨rfl, HB1.out⟩
  have h2' : ¬ (2147483647 < (key.size : Int)) := by omega
  clear h2
  rcases h with h | ⟨h3, h⟩
  · have H2 : Aside0 (∀ W, Below w.heap.size w W → Calls Try.prog 6 #[.slice A0 l0.length c0] W fun e w' => e = .returned (.bool false) ∧ Below W.heap.size W w') := ⟨fun W hb => laws_headed.calls k A0 c0 l0 false W (HR.out W hb) HC.out h⟩
    clear h
    go_enter Try.func3, Try.ntmps3
    go_wp2_with fail
    refine H1.out.mono ?_
    rintro e w1 ⟨rfl, hb⟩
    have HB1 := Aside0.mk hb
    clear hb
    go_wp2_with fail
    refine (H2.out w1 HB1.out).mono ?_
    rintro e w2 ⟨rfl, hb⟩
    have HB2 := Aside0.mk (below_step HB1.out hb)
    clear hb
    go_wp2_with fail
    refine (awake_calls w2).mono ?_
    rintro e w3 ⟨rfl, hb⟩
    have HB3 := Aside0.mk (below_step HB2.out hb)
    clear hb
    go_wp2
    go_ret
    exact ⟨rfl, HB3.out⟩
  have H2 : Aside0 (∀ W, Below w.heap.size w W → Calls Try.prog 6 #[.slice A0 l0.length c0] W fun e w' => e = .returned (.bool true) ∧ Below W.heap.size W w') := ⟨fun W hb => laws_headed.calls k A0 c0 l0 true W (HR.out W hb) HC.out h3⟩
  clear h3
  rcases h with h | ⟨h4, want, is, T, ix, g1, g2, g3, g4, g5, g6, g7⟩
  · have H3 : Aside0 (∀ W, Below w.heap.size w W → Calls Try.prog 7 #[.slice A0 l0.length c0, .string key] W fun e w' => e = .returned (.bool false) ∧ Below W.heap.size W w') := ⟨fun W hb => laws_knownKey.calls k A0 c0 l0 key false W (HR.out W hb) HC.out h⟩
    clear h
    go_enter Try.func3, Try.ntmps3
    go_wp2_with fail
    refine H1.out.mono ?_
    rintro e w1 ⟨rfl, hb⟩
    have HB1 := Aside0.mk hb
    clear hb
    go_wp2_with fail
    refine (H2.out w1 HB1.out).mono ?_
    rintro e w2 ⟨rfl, hb⟩
    have HB2 := Aside0.mk (below_step HB1.out hb)
    clear hb
    go_wp2_with fail
    refine (H3.out w2 HB2.out).mono ?_
    rintro e w3 ⟨rfl, hb⟩
    have HB3 := Aside0.mk (below_step HB2.out hb)
    clear hb
    go_wp2_with fail
    refine (awake_calls w3).mono ?_
    rintro e w4 ⟨rfl, hb⟩
    have HB4 := Aside0.mk (below_step HB3.out hb)
    clear hb
    go_wp2
    go_ret
    exact ⟨rfl, HB4.out⟩
  have H3 : Aside0 (∀ W, Below w.heap.size w W → Calls Try.prog 7 #[.slice A0 l0.length c0, .string key] W fun e w' => e = .returned (.bool true) ∧ Below W.heap.size W w') := ⟨fun W hb => laws_knownKey.calls k A0 c0 l0 key true W (HR.out W hb) HC.out h4⟩
  have H4 : Aside0 (∀ W, Below w.heap.size w W → Calls Try.prog 9 #[.slice A0 l0.length c0, .string key] W fun e w' => e = .returned (.tuple #[.string want, .bool is]) ∧ Drawn0 W w') := ⟨fun W hb => spec_Get.calls k A0 c0 l0 key want is W (HR.out W hb) HC.out g1⟩
  have H5 : Aside0 (∀ W, Below w.heap.size w W → Calls Try.prog 11 #[.slice A0 l0.length c0] W fun e w' => e = .returned (.string T) ∧ Drawn0 W w') := ⟨fun W hb => spec_Header.calls k A0 c0 l0 T W (HR.out W hb) HC.out g2⟩
  have G3 := Aside0.mk g3
  have G4 := Aside0.mk (And.intro g4 (And.intro g5 g6))
  have G7 := Aside0.mk g7
  clear h4 g1 g2 g3 g4 g5 g6 g7
  go_enter Try.func3, Try.ntmps3
  go_wp2_with fail
  refine H1.out.mono ?_
  rintro e w1 ⟨rfl, hb⟩
  have HB1 := Aside0.mk hb
  clear hb
  go_wp2_with fail
  refine (H2.out w1 HB1.out).mono ?_
  rintro e w2 ⟨rfl, hb⟩
  have HB2 := Aside0.mk (below_step HB1.out hb)
  clear hb
  go_wp2_with fail
  refine (H3.out w2 HB2.out).mono ?_
  rintro e w3 ⟨rfl, hb⟩
  have HB3 := Aside0.mk (below_step HB2.out hb)
  clear hb
  go_wp2_with fail
  refine (H4.out w3 HB3.out).mono ?_
  rintro e w4 ⟨rfl, ⟨n4, rfl⟩⟩
  have HB4 := Aside0.mk (pw_below_drewN HB3.out n4)
  generalize w3.drewN n4 = w4 at *
  go_wp2_with fail
  refine (H5.out w4 HB4.out).mono ?_
  rintro e w5 ⟨rfl, ⟨n5, rfl⟩⟩
  have HB5 := Aside0.mk (pw_below_drewN HB4.out n5)
  generalize w4.drewN n5 = w5 at *
  obtain ⟨L, hL⟩ : ∃ L, L = bytesOf T := ⟨_, rfl⟩
  obtain ⟨ad, c, w6, hrun, hC, hcc, hb⟩ := conv_L (w := w5) T L hL (by have := G4.out; omega)
  have hlen : L.length = T.size := by rw [hL]; exact bytesOf_length T
  rw [← hL] at G3 G7
  have HB6 := Aside0.mk (below_step HB5.out hb)
  have HG := Aside0.mk (headerGet_calls k G3.out hC hcc (by have := G4.out; omega) (by have := G4.out; omega) (by have := G4.out; omega) (by
    rcases G7.out with ⟨-, h⟩ | ⟨-, h, h', -⟩
    · exact .inl h
    · exact .inr ⟨h, by rw [hlen]; omega⟩))
  clear hL hC hcc hb hlen
  go_wp2_with fail
  refine HG.out.mono ?_
  rintro e w7 ⟨hb, ⟨hx, rfl⟩ | ⟨hx, Y, n, c1, rfl, hr⟩⟩
  · have HB7 := Aside0.mk (below_step HB6.out hb)
    have his : is = false := by
      rcases G7.out with ⟨h, -⟩ | ⟨-, h, -⟩
      · exact h
      · omega
    subst his
    clear hb hx hrun
    go_wp2_with fail
    refine (awake_calls w7).mono ?_
    rintro e w8 ⟨rfl, hb⟩
    have HB8 := Aside0.mk (below_step HB7.out hb)
    clear hb
    go_wp2
    go_ret
    exact ⟨rfl, HB8.out⟩
  · have HB7 := Aside0.mk (below_step HB6.out hb)
    have hs := row_string hr
    obtain ⟨his, hw⟩ : is = true ∧ strOfNums (value L (ix.toNat + key.size + 1)) = want := by
      rcases G7.out with ⟨-, h⟩ | ⟨h, -, -, h'⟩
      · omega
      · exact ⟨h, h'⟩
    subst his
    rw [hw] at hs
    clear hb hx hrun hr hw
    go_wp2_with fail
    refine (awake_calls w7).mono ?_
    rintro e w8 ⟨rfl, hb⟩
    have HB8 := Aside0.mk (below_step HB7.out hb)
    clear hb
    go_wp2
    go_ret
    exact ⟨rfl, HB8.out⟩
end Go.Proofs.Ytnkioieocjgekaa.Hg
