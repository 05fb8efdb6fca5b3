/- laws.FnHeadPub, walked. -/
import Derived.Test.YtnkioieocjgekaaDoorHdE
import Derived.Lib.SlBytesConst
namespace Go.Proofs.YtnkioieocjgekaaDoor.Hd
open Go.RowKit Go.Proofs.YtnkioieocjgekaaDoorW.PrintWords Go.Proofs.YtnkioieocjgekaaDoorW.PrintLast Go.Proofs.YtnkioieocjgekaaDoorW.PrintMore Go.Proofs.YtnkioieocjgekaaDoor.GFnHeadPub
set_option linter.unusedVariables false
set_option linter.unusedSimpArgs false

def iC (xs : List Int) : List Value := xs.map (Value.int .u8)
theorem iC_one (xs : List Int) : ∀ u ∈ iC xs, u.oneCell' = true := fun u hu => by
  obtain ⟨b, _, rfl⟩ := List.mem_map.1 hu
  rfl
theorem elem5 : ∃ i, Bs.ElemK Tryd.prog 22 5 i (.int .u8 0) 1 1 := Bs.elem_of (by kernel_rfl) GFnHeadPub.info5 (by kernel_rfl) (by omega) (by omega)
theorem read_C {w : World} {X : Option Addr} {l : List Int} {n : Nat} (hR : Kd.C (Kd.int .u8) w X n l) : Bs.ReadG w X n 1 (iC l) := by
  obtain rfl : l.length = n := hR.1
  refine ⟨by simp [iC], iC_one _, fun h0 => ?_⟩
  obtain ⟨ad, rfl, -⟩ := hR.2.2 (by simpa [iC] using h0)
  refine ⟨ad, rfl, fun k u hu => ?_⟩
  rw [iC, List.getElem?_map, Option.map_eq_some_iff] at hu
  obtain ⟨z, hz, rfl⟩ := hu
  exact cell_of hR (Below.refl _ _) hz
theorem row_Sl {w W : World} {v : Value} {n : Nat} {xs : List Int} (h : Bs.RowG w W 5 1 v n (iC xs)) : ∃ A c, v = .slice A n c ∧ n ≤ c ∧ Kd.C (Kd.int .u8) W A n xs := by
  obtain ⟨A, c, rfl, hnc, hr⟩ := Bs.read_own (W := W) h.own (iC_one xs)
  have hl : xs.length = n := by have := h.own.1; rw [iC, List.length_map] at this; omega
  refine ⟨A, c, rfl, hnc, hl, ?_, fun h0 => ?_⟩
  · rcases h.own.2 with ⟨e, h0⟩ | ⟨g, cap, cur, e, -, -, k1, k2, -⟩
    · omega
    · unfold maxLen at k2; omega
  · obtain ⟨ad, e, hc⟩ := hr.read (by rw [iC, List.length_map]; omega)
    refine ⟨ad, e, fun j p hj => ⟨[.int .u8 p], rfl, rfl, fun i u hu => ?_⟩⟩
    cases i with
    | succ i => simp at hu
    | zero =>
      simp only [List.getElem?_cons_zero, Option.some.injEq] at hu
      subst hu
      have := hc j (.int .u8 p) (by rw [iC, List.getElem?_map, hj]; rfl)
      have e1 : j * (Kd.int .u8).sz + 0 = j := Nat.mul_one j
      rw [e1]
      exact this
def aw : List Int := [97, 32, 51, 32, 49, 50]
theorem aw_out : out2 aw (hps (sp aw 0 none) aw (-1)) = ([97], [], 3, 12, 0) := by decide +kernel
theorem aw_C (W : World) : Kd.C (Kd.int .u8) (W.alloc (.cells (iC aw).toArray 5 (6, 7))) (some ⟨W.heap.size, 0, none⟩) 6 aw := by
  refine ⟨rfl, by omega, fun _ => ⟨_, rfl, fun j p hj => ⟨[.int .u8 p], rfl, rfl, fun i u hu => ?_⟩⟩⟩
  cases i with
  | succ i => simp at hu
  | zero =>
    simp only [List.getElem?_cons_zero, Option.some.injEq] at hu
    subst hu
    have e1 : j * (Kd.int .u8).sz + 0 = j := Nat.mul_one j
    rw [e1, Bs.add_at, World.cell?_alloc_mark, List.getElem?_toArray, iC, List.getElem?_map, hj]
    rfl
structure Main (k : Nat) (l : List Int) (a1 : Int) : Prop where
  lo : -1 ≤ a1
  hi : a1 ≤ 2147483647
  len : l.length ≤ 1000000
  fin : ∃ (s r : ByteArray) (h z : Int) (ok : Bool), spec_ReadHPub.f k (strOfNums l) = some (s, r, h, z, ok) ∧
    ((ok = false ∧ (out2 l (hps (sp l 0 none) l a1)).2.2.2.2 = 1) ∨ (ok = true ∧ ((0 ≤ a1 ∧ a1 < z ∧ (out2 l (hps (sp l 0 none) l a1)).2.2.2.2 = 2) ∨
      ((a1 < 0 ∨ z ≤ a1) ∧ (out2 l (hps (sp l 0 none) l a1)).2.2.2.2 = 0 ∧ strOfNums (out2 l (hps (sp l 0 none) l a1)).1 = s ∧ strOfNums (out2 l (hps (sp l 0 none) l a1)).2.1 = r ∧ (out2 l (hps (sp l 0 none) l a1)).2.2.1 = h ∧ (out2 l (hps (sp l 0 none) l a1)).2.2.2.1 = z))))
/-- What the plain law is to show. -/
def Plain (k : Nat) (l : List Int) (a1 : Int) : Prop :=
  (2147483647 : Int) < l.length ∨ ((l.length : Int) ≤ 2147483647 ∧ (laws_within.f k l = some false ∨ (laws_within.f k l = some true ∧ (a1 < -1 ∨ (-1 ≤ a1 ∧ (2147483647 < a1 ∨ Main k l a1))))))
def LawPost (w : World) (e : Ending) (w' : World) : Prop := e = .returned (.bool true) ∧ Below w.heap.size w w'
set_option maxHeartbeats 8000000 in
set_option maxRecDepth 100000 in
theorem law_calls (k : Nat) {w : World} {A0 : Option Addr} {n c0 : Nat} {l : List Int} {a1 : Int} {ga : Addr} {s0 : ByteArray} (hR : Kd.C (Kd.int .u8) w A0 n l) (hc : n ≤ c0) (hby : ∀ x ∈ l, 0 ≤ x ∧ x < 256) (hG : GlH w ga s0) (h : Plain k l a1) :
    Calls Tryd.prog 3 #[.slice A0 n c0, .int .i64 a1] w (LawPost w) := by
  obtain rfl : l.length = n := hR.1
  have HR : Aside0 (∀ W, Below w.heap.size w W → Kd.C (Kd.int .u8) W A0 l.length l) := ⟨fun W hb => Kd.C_below hR hb⟩
  have HC := Aside0.mk hc
  have HG : Aside0 (∀ W, Below w.heap.size w W → GlH W ga s0) := ⟨fun W hb => hG.below hb⟩
  have HBY := Aside0.mk hby
  clear hR hc hG hby
  rcases h with h | ⟨h1, h⟩
  · go_enter Tryd.func3, Tryd.ntmps3
    go_wp2
    go_ret
    exact ⟨rfl, Below.refl _ _⟩
  have h1' : ¬ (2147483647 : Int) < (l.length : Int) := by omega
  clear h1
  have H1 : Aside0 (∀ b, laws_within.f k l = some b → Calls Tryd.prog 7 #[.slice A0 l.length c0] w fun e w' => e = .returned (.bool b) ∧ Drawn0 w w') := ⟨fun b hb => laws_within.calls k A0 c0 l b w (HR.out w (Below.refl _ _)) HC.out hb⟩
  rcases h with h | ⟨h2, h⟩
  · replace H1 := Aside0.mk (H1.out _ h)
    clear h
    go_enter Tryd.func3, Tryd.ntmps3
    go_wp2_with fail
    refine H1.out.mono ?_
    rintro e w2 ⟨rfl, ⟨n2, rfl⟩⟩
    go_wp2
    go_ret
    exact ⟨rfl, pw_below_drewN (Below.refl _ _) n2⟩
  replace H1 := Aside0.mk (H1.out _ h2)
  clear h2
  by_cases hout : a1 < -1 ∨ 2147483647 < a1
  · have h3 : a1 < -1 ∨ (¬ a1 < -1 ∧ 2147483647 < a1) := by omega
    clear h hout
    rcases h3 with h3 | ⟨h3, h4⟩
    all_goals
      go_enter Tryd.func3, Tryd.ntmps3
      go_wp2_with fail
      refine H1.out.mono ?_
      rintro e w2 ⟨rfl, ⟨n2, rfl⟩⟩
      go_wp2
      go_ret
      exact ⟨rfl, pw_below_drewN (Below.refl _ _) n2⟩
  have hM : Main k l a1 := by
    rcases h with h | ⟨-, h | h⟩
    · exact absurd (.inl h) hout
    · exact absurd (.inr h) hout
    · exact h
  have a0 : ¬ a1 < -1 := fun h => hout (.inl h)
  have a2 : ¬ 2147483647 < a1 := fun h => hout (.inr h)
  clear h hout
  obtain ⟨s, r, h, z, ok, g1, g2⟩ := hM.fin
  have HM := Aside0.mk (And.intro hM.lo (And.intro hM.hi hM.len))
  have H2 : Aside0 (∀ W, Calls Tryd.prog 8 #[.string (strOfNums l)] W fun e w' => e = .returned (.tuple #[.agg #[.string s, .string r, .int .i64 h, .int .i64 z], .bool ok]) ∧ Below W.heap.size W w') := ⟨fun W => spec_ReadHPub.calls k (strOfNums l) s r h z ok W g1⟩
  have H3 : Aside0 (∀ W A c, Below w.heap.size w W → Kd.C (Kd.int .u8) W A l.length l → l.length ≤ c → Calls Tryd.prog 9 #[.slice A l.length c, .int .i64 a1] W (HeadPost W (out2 l (hps (sp l 0 none) l a1)))) := ⟨fun W A c hb hC hc => head_calls hC hc HM.out.2.2 HBY.out (HG.out W hb) HM.out.1 HM.out.2.1⟩
  obtain ⟨t, ht⟩ : ∃ t, t = out2 l (hps (sp l 0 none) l a1) := ⟨_, rfl⟩
  rw [← ht] at g2 H3
  have G2 := Aside0.mk g2
  clear g1 g2 hM ht
  obtain ⟨i0, hK⟩ := elem5
  have K5 := Aside0.mk hK
  clear hK
  go_enter Tryd.func3, Tryd.ntmps3
  go_wp2_with fail
  refine H1.out.mono ?_
  rintro e w2 ⟨rfl, ⟨n2, rfl⟩⟩
  have HB2 := Aside0.mk (pw_below_drewN (Below.refl w.heap.size w) n2)
  generalize w.drewN n2 = w2 at *
  have hcs := Kd.C_string (P := Tryd.prog) (w := w2) (A := A0) (c := c0) Tryd.underlying22 Tryd.underlying5 Tryd.underlying9 (HR.out w2 HB2.out)
  go_wp2_with fail
  refine (H2.out w2).mono ?_
  rintro e w3 ⟨rfl, hb⟩
  have HB3 := Aside0.mk (below_step HB2.out hb)
  clear hb hcs
  go_upto_region 6 with (fail)
  obtain ⟨gb, hgb⟩ : ∃ gb, gb = w3.heap.size := ⟨_, rfl⟩
  have HK4 : Aside0 (Bs.Blk (w3.alloc (.cells #[.string s, .string r, .int .i64 h, .int .i64 z] 25)) gb 25 [.string s, .string r, .int .i64 h, .int .i64 z]) := ⟨by rw [hgb]; exact Bs.Blk.new w3 25 _⟩
  have HB4 := Aside0.mk (below_alloc HB3.out (.cells #[.string s, .string r, .int .i64 h, .int .i64 z] 25))
  rw [← hgb]
  clear hgb
  generalize w3.alloc (.cells #[.string s, .string r, .int .i64 h, .int .i64 z] 25) = w4 at *
  have HRW := Aside0.mk (Bs.row_g0 (e := 5) (size := 1) (Bs.Fr.refl _ w4))
  have HRD : Aside0 (∀ W, Bs.Fr (fun _ => False) w4 W → Bs.ReadG W A0 l.length 1 (iC l)) := ⟨fun W hf => read_C (HR.out W (below_step HB4.out (Bs.below_of_fr hf)))⟩
  go_wp2_with (at_builtin; refine Bs.wpList_rowG K5.out rfl (.tmp 38) (.tmp 39) rfl (w2 := w4) (n := 0) (xs := []) (m := l.length) (ys := iC l) rfl HRW.out rfl (HRD.out _) (by have := HM.out; omega) (fun v1 w5 q1 q2 q3 => ?_))
  rw [Nat.zero_add, List.nil_append] at q1
  obtain ⟨A5, c5, rfl, hc5, hC5⟩ := row_Sl q1
  have HB5 := Aside0.mk (below_step HB4.out (Bs.below_of_fr q1.fr))
  have HK5 := Aside0.mk (HK4.out.fr q1.fr (fun h => h))
  have H6 := Aside0.mk (H3.out w5 A5 c5 HB5.out hC5 hc5)
  clear q1 q2 q3 hc5 hC5 HRW HRD HK4
  go_wp2_with fail
  refine H6.out.mono ?_
  rintro e w6 ⟨v0, v1, rfl, s0, s1, hb⟩
  have HB6 := Aside0.mk (below_step HB5.out hb)
  have HK6 := Aside0.mk (HK5.out.move (hb.block gb HK5.out.lt))
  have HS0 := Aside0.mk s0
  have HS1 := Aside0.mk s1
  clear s0 s1 hb H6 HK5
  have kc := Lib.run_convert_bytes_const (P := Tryd.prog) w6 22 5 (iC aw).toArray 6 6 Tryd.underlying22 Tryd.underlying5
  have HAW : Aside0 (Calls Tryd.prog 9 #[.slice (some ⟨w6.heap.size, 0, none⟩) 6 6, .int .i64 (-1)] (w6.alloc (.cells (iC aw).toArray 5 (6, 7))) (HeadPost (w6.alloc (.cells (iC aw).toArray 5 (6, 7))) ([97], [], 3, 12, 0))) := ⟨by
    have := head_calls (a1 := -1) (aw_C w6) (Nat.le_refl 6) (by omega) (by decide) (HG.out _ (below_alloc HB6.out _)) (by omega) (by omega)
    rw [aw_out] at this
    exact this⟩
  have HB7 := Aside0.mk (below_alloc HB6.out (.cells (iC aw).toArray 5 (6, 7)))
  have HK7 : Aside0 (Bs.Blk (w6.alloc (.cells (iC aw).toArray 5 (6, 7))) gb 25 [.string s, .string r, .int .i64 h, .int .i64 z]) := ⟨HK6.out.alloc _⟩
  have HT0 : Aside0 (Sl (w6.alloc (.cells (iC aw).toArray 5 (6, 7))) v0 t.1) := ⟨HS0.out.below (below_alloc (Below.refl _ _) _)⟩
  have HT1 : Aside0 (Sl (w6.alloc (.cells (iC aw).toArray 5 (6, 7))) v1 t.2.1) := ⟨HS1.out.below (below_alloc (Below.refl _ _) _)⟩
  have eaw : (iC aw).toArray = #[.int .u8 97, .int .u8 32, .int .u8 51, .int .u8 32, .int .u8 49, .int .u8 50] := rfl
  have eaz : (iC aw).toArray.size = 6 := rfl
  rw [eaz] at kc
  rw [eaw] at kc HAW HB7 HK7 HT0 HT1
  clear HS0 HS1 HK6 eaw eaz
  go_wp2_with fail
  refine HAW.out.mono ?_
  rintro e w8 ⟨u0, u1, rfl, -, -, hb⟩
  have HB8 := Aside0.mk (below_step HB7.out hb)
  have HK8 := Aside0.mk (HK7.out.move (hb.block gb HK7.out.lt))
  have HU0 := Aside0.mk (HT0.out.below hb)
  have HU1 := Aside0.mk (HT1.out.below hb)
  clear kc hb HAW HB7 HK7 HT0 HT1
  obtain ⟨t0, t1, th, tz, tk⟩ := t
  have c0 := HK8.out.cell 0 (v := .string s) rfl
  have c1 := HK8.out.cell 1 (v := .string r) rfl
  have c2 := HK8.out.cell 2 (v := .int .i64 h) rfl
  have c3 := HK8.out.cell 3 (v := .int .i64 z) rfl
  have hv0 := HU0.out.string
  have hv1 := HU1.out.string
  rcases G2.out with ⟨rfl, e1⟩ | ⟨rfl, ⟨e1, e2, e3⟩ | ⟨e1, e2, e3, e4, e5, e6⟩⟩
  · obtain rfl : tk = 1 := e1
    go_wp2
    go_ret
    exact ⟨rfl, HB8.out⟩
  · obtain rfl : tk = 2 := e3
    go_wp2
    go_ret
    exact ⟨rfl, HB8.out⟩
  · obtain rfl : tk = 0 := e2
    obtain rfl : strOfNums t0 = s := e3
    obtain rfl : strOfNums t1 = r := e4
    obtain rfl : th = h := e5
    obtain rfl : tz = z := e6
    rcases e1 with e1 | e1
    · have e7 : ¬ 0 ≤ a1 := by omega
      go_wp2
      go_ret
      exact ⟨by first | rfl | simp, HB8.out⟩
    · by_cases e8 : 0 ≤ a1
      · have e7 : ¬ a1 < tz := by omega
        go_wp2
        go_ret
        exact ⟨by first | rfl | simp, HB8.out⟩
      · go_wp2
        go_ret
        exact ⟨by first | rfl | simp, HB8.out⟩
end Go.Proofs.YtnkioieocjgekaaDoor.Hd
