/- impl.kinds, server.NewMapping, impl.mapping. -/
import Derived.Test.YtoopmpjgmgffoaaDoorTrG
namespace Go.Proofs.YtoopmpjgmgffoaaDoor.Tr
open Go.RowKit Go.Proofs.YtoopmpjgmgffoaaDoor.Pl Go.Proofs.YtoopmpjgmgffoaaDoor.Bs Go.Proofs.YtoopmpjgmgffoaaDoorW.PrintWords Go.Proofs.YtoopmpjgmgffoaaDoorW.PrintLast Go.Proofs.YtoopmpjgmgffoaaDoorW.PrintMore Go.Proofs.YtoopmpjgmgffoaaDoor.GFnTransformBack Go.Proofs.YtoopmpjgmgffoaaDoor.PlFnTransformBack
set_option linter.unusedVariables false
set_option linter.unusedSimpArgs false
theorem info21 : (Tryd.prog.info? 21).map (fun i => (i.zero, i.size, i.bytes)) = some (some (.int .i32 0), 1, 4) := by kernel_rfl
theorem ek66 : ∃ i, ElemK Tryd.prog 66 80 i (.int .i16 0) 1 2 := elem_of Tryd.underlying66 info80 (by decide) (by decide) (by decide)
theorem ek64 : ∃ i, ElemK Tryd.prog 64 21 i (.int .i32 0) 1 4 := elem_of Tryd.underlying64 info21 (by decide) (by decide) (by decide)
def kindP (x : Int) : Int := if x = 1 then 3 else if x = 2 then 2 else if x = 3 then 4 else if x = 4 then 5 else if x = 5 then 6 else if x = 6 then 7 else if x = 7 then 8 else if x = 8 then 9 else if x = 9 then 10 else 0
structure KindsPost (w : World) (l : List Int) (e : Ending) (w' : World) : Prop where
  out : ∃ A c, e = .returned (.slice A l.length c) ∧ l.length ≤ c ∧ Kd.C (Kd.int .i16) w' A l.length (l.map kindP)
  same : Same w w'
section
set_option maxHeartbeats 8000000
set_option maxRecDepth 100000
theorem kinds_calls {w : World} {A0 : Option Addr} {c0 : Nat} {l : List Int} (hC : Kd.C (Kd.int .i64) w A0 l.length l) (hl : l.length ≤ 1000) :
    Calls Tryd.prog 45 #[.slice A0 l.length c0] w (KindsPost w l) := by
  have HR : Aside0 (ReadG w A0 l.length 1 (l.map (.int .i64))) := ⟨rg_C _ _ hC⟩
  obtain ⟨i66, h66⟩ := ek66
  have HE := Aside0.mk h66
  have HL := Aside0.mk hl
  clear hC hl h66
  go_enter Tryd.func45, Tryd.ntmps45
  go_wp2_with fail
  go_loopg [3, 4] l.length (fun kq v3 v4 wr => ∃ i : Nat, v4 = .int .i64 (i : Int) ∧ Aside0 (kq + i = l.length ∧ i ≤ l.length) ∧ Aside0 (wr.ownsRow w.heap.size 80 1 v3 i (((l.take i).map kindP).map (Value.int .i16))) ∧ Aside0 (Same w wr))
  case atStart => exact ⟨0, rfl, ⟨by omega⟩, ⟨rfl, .inl ⟨rfl, rfl⟩⟩, ⟨Fr.refl _ _⟩⟩
  case round =>
    obtain ⟨i, rfl, HI, HO, HS⟩ := hrel
    have i0 : (0 : Int) ≤ (i : Int) := by omega
    by_cases hlt : i < l.length
    · have i1 : (i : Int) < (l.length : Int) := by omega
      have i2 : decide ((i : Int) < (l.length : Int)) = true := decide_eq_true i1
      have i5 : IntKind.i64.wrap ((i : Int) + 1) = ((i + 1 : Nat) : Int) := by rw [IntKind.wrap_i64]; have := HL.out; omega
      obtain ⟨x, hx⟩ : ∃ x, l[i]? = some x := ⟨_, List.getElem?_eq_getElem hlt⟩
      obtain ⟨aa, rfl, hra⟩ := (HR.out.fr HS.out (fun _ _ h => h)).read (by simp; omega)
      have ua := hra i (.int .i64 x) (by rw [List.getElem?_map, hx]; rfl)
      have HTK : Aside0 (((l.take (i + 1)).map kindP).map (Value.int .i16) = ((l.take i).map kindP).map (Value.int .i16) ++ [.int .i16 (kindP x)]) := ⟨by
        rw [List.take_add_one, hx, List.map_append, List.map_append]
        rfl⟩
      have HLT : Aside0 (i < l.length ∧ l.length ≤ 1000) := ⟨hlt, HL.out⟩
      have HSZ : Aside0 (w.heap.size ≤ wr.heap.size) := ⟨HS.out.size⟩
      clear hra hx hlt
      have key : x = 1 ∨ x = 2 ∨ x = 3 ∨ x = 4 ∨ x = 5 ∨ x = 6 ∨ x = 7 ∨ x = 8 ∨ x = 9 ∨ (x ≠ 1 ∧ x ≠ 2 ∧ x ≠ 3 ∧ x ≠ 4 ∧ x ≠ 5 ∧ x ≠ 6 ∧ x ≠ 7 ∧ x ≠ 8 ∧ x ≠ 9) := by omega
      rcases key with rfl | rfl | rfl | rfl | rfl | rfl | rfl | rfl | rfl | ⟨h1, h2, h3, h4, h5, h6, h7, h8, h9⟩
      · go_wp2_with (first | (at_builtin; refine wpList_ownG HE.out rfl _ _ rfl (v := u3) (n := i) (xs := ((l.take i).map kindP).map (Value.int .i16)) (ys := [.int .i16 3]) rfl (HO.out.alloc _) (by have := HSZ.out; simp; omega) rfl (read_newG (us := [.int .i16 3]) (by rfl) (by intro u hu; simp only [List.mem_cons, List.not_mem_nil, or_false] at hu; rcases hu with rfl; rfl)) (by have := HLT.out; omega) ?_; intro v' w9 ho hg hat; have HO9 := Aside0.mk (And.intro ho hg); clear ho hg hat) | fail)
        have HS9 : Aside0 (Same w w9) := ⟨(HS.out.alloc _).trans (Fr.grown HO9.out.2) (fun k hk e => by
          have := (own_base HO.out e).1
          omega)⟩
        go_roundg (l.length - (i + 1))
        case measure => have := HI.out; have := HLT.out; omega
        case rel => exact ⟨i + 1, rfl, ⟨by have := HLT.out; omega⟩, ⟨by rw [HTK.out]; exact HO9.out.1⟩, HS9⟩
      · go_wp2_with (first | (at_builtin; refine wpList_ownG HE.out rfl _ _ rfl (v := u3) (n := i) (xs := ((l.take i).map kindP).map (Value.int .i16)) (ys := [.int .i16 2]) rfl (HO.out.alloc _) (by have := HSZ.out; simp; omega) rfl (read_newG (us := [.int .i16 2]) (by rfl) (by intro u hu; simp only [List.mem_cons, List.not_mem_nil, or_false] at hu; rcases hu with rfl; rfl)) (by have := HLT.out; omega) ?_; intro v' w9 ho hg hat; have HO9 := Aside0.mk (And.intro ho hg); clear ho hg hat) | fail)
        have HS9 : Aside0 (Same w w9) := ⟨(HS.out.alloc _).trans (Fr.grown HO9.out.2) (fun k hk e => by
          have := (own_base HO.out e).1
          omega)⟩
        go_roundg (l.length - (i + 1))
        case measure => have := HI.out; have := HLT.out; omega
        case rel => exact ⟨i + 1, rfl, ⟨by have := HLT.out; omega⟩, ⟨by rw [HTK.out]; exact HO9.out.1⟩, HS9⟩
      · go_wp2_with (first | (at_builtin; refine wpList_ownG HE.out rfl _ _ rfl (v := u3) (n := i) (xs := ((l.take i).map kindP).map (Value.int .i16)) (ys := [.int .i16 4]) rfl (HO.out.alloc _) (by have := HSZ.out; simp; omega) rfl (read_newG (us := [.int .i16 4]) (by rfl) (by intro u hu; simp only [List.mem_cons, List.not_mem_nil, or_false] at hu; rcases hu with rfl; rfl)) (by have := HLT.out; omega) ?_; intro v' w9 ho hg hat; have HO9 := Aside0.mk (And.intro ho hg); clear ho hg hat) | fail)
        have HS9 : Aside0 (Same w w9) := ⟨(HS.out.alloc _).trans (Fr.grown HO9.out.2) (fun k hk e => by
          have := (own_base HO.out e).1
          omega)⟩
        go_roundg (l.length - (i + 1))
        case measure => have := HI.out; have := HLT.out; omega
        case rel => exact ⟨i + 1, rfl, ⟨by have := HLT.out; omega⟩, ⟨by rw [HTK.out]; exact HO9.out.1⟩, HS9⟩
      · go_wp2_with (first | (at_builtin; refine wpList_ownG HE.out rfl _ _ rfl (v := u3) (n := i) (xs := ((l.take i).map kindP).map (Value.int .i16)) (ys := [.int .i16 5]) rfl (HO.out.alloc _) (by have := HSZ.out; simp; omega) rfl (read_newG (us := [.int .i16 5]) (by rfl) (by intro u hu; simp only [List.mem_cons, List.not_mem_nil, or_false] at hu; rcases hu with rfl; rfl)) (by have := HLT.out; omega) ?_; intro v' w9 ho hg hat; have HO9 := Aside0.mk (And.intro ho hg); clear ho hg hat) | fail)
        have HS9 : Aside0 (Same w w9) := ⟨(HS.out.alloc _).trans (Fr.grown HO9.out.2) (fun k hk e => by
          have := (own_base HO.out e).1
          omega)⟩
        go_roundg (l.length - (i + 1))
        case measure => have := HI.out; have := HLT.out; omega
        case rel => exact ⟨i + 1, rfl, ⟨by have := HLT.out; omega⟩, ⟨by rw [HTK.out]; exact HO9.out.1⟩, HS9⟩
      · go_wp2_with (first | (at_builtin; refine wpList_ownG HE.out rfl _ _ rfl (v := u3) (n := i) (xs := ((l.take i).map kindP).map (Value.int .i16)) (ys := [.int .i16 6]) rfl (HO.out.alloc _) (by have := HSZ.out; simp; omega) rfl (read_newG (us := [.int .i16 6]) (by rfl) (by intro u hu; simp only [List.mem_cons, List.not_mem_nil, or_false] at hu; rcases hu with rfl; rfl)) (by have := HLT.out; omega) ?_; intro v' w9 ho hg hat; have HO9 := Aside0.mk (And.intro ho hg); clear ho hg hat) | fail)
        have HS9 : Aside0 (Same w w9) := ⟨(HS.out.alloc _).trans (Fr.grown HO9.out.2) (fun k hk e => by
          have := (own_base HO.out e).1
          omega)⟩
        go_roundg (l.length - (i + 1))
        case measure => have := HI.out; have := HLT.out; omega
        case rel => exact ⟨i + 1, rfl, ⟨by have := HLT.out; omega⟩, ⟨by rw [HTK.out]; exact HO9.out.1⟩, HS9⟩
      · go_wp2_with (first | (at_builtin; refine wpList_ownG HE.out rfl _ _ rfl (v := u3) (n := i) (xs := ((l.take i).map kindP).map (Value.int .i16)) (ys := [.int .i16 7]) rfl (HO.out.alloc _) (by have := HSZ.out; simp; omega) rfl (read_newG (us := [.int .i16 7]) (by rfl) (by intro u hu; simp only [List.mem_cons, List.not_mem_nil, or_false] at hu; rcases hu with rfl; rfl)) (by have := HLT.out; omega) ?_; intro v' w9 ho hg hat; have HO9 := Aside0.mk (And.intro ho hg); clear ho hg hat) | fail)
        have HS9 : Aside0 (Same w w9) := ⟨(HS.out.alloc _).trans (Fr.grown HO9.out.2) (fun k hk e => by
          have := (own_base HO.out e).1
          omega)⟩
        go_roundg (l.length - (i + 1))
        case measure => have := HI.out; have := HLT.out; omega
        case rel => exact ⟨i + 1, rfl, ⟨by have := HLT.out; omega⟩, ⟨by rw [HTK.out]; exact HO9.out.1⟩, HS9⟩
      · go_wp2_with (first | (at_builtin; refine wpList_ownG HE.out rfl _ _ rfl (v := u3) (n := i) (xs := ((l.take i).map kindP).map (Value.int .i16)) (ys := [.int .i16 8]) rfl (HO.out.alloc _) (by have := HSZ.out; simp; omega) rfl (read_newG (us := [.int .i16 8]) (by rfl) (by intro u hu; simp only [List.mem_cons, List.not_mem_nil, or_false] at hu; rcases hu with rfl; rfl)) (by have := HLT.out; omega) ?_; intro v' w9 ho hg hat; have HO9 := Aside0.mk (And.intro ho hg); clear ho hg hat) | fail)
        have HS9 : Aside0 (Same w w9) := ⟨(HS.out.alloc _).trans (Fr.grown HO9.out.2) (fun k hk e => by
          have := (own_base HO.out e).1
          omega)⟩
        go_roundg (l.length - (i + 1))
        case measure => have := HI.out; have := HLT.out; omega
        case rel => exact ⟨i + 1, rfl, ⟨by have := HLT.out; omega⟩, ⟨by rw [HTK.out]; exact HO9.out.1⟩, HS9⟩
      · go_wp2_with (first | (at_builtin; refine wpList_ownG HE.out rfl _ _ rfl (v := u3) (n := i) (xs := ((l.take i).map kindP).map (Value.int .i16)) (ys := [.int .i16 9]) rfl (HO.out.alloc _) (by have := HSZ.out; simp; omega) rfl (read_newG (us := [.int .i16 9]) (by rfl) (by intro u hu; simp only [List.mem_cons, List.not_mem_nil, or_false] at hu; rcases hu with rfl; rfl)) (by have := HLT.out; omega) ?_; intro v' w9 ho hg hat; have HO9 := Aside0.mk (And.intro ho hg); clear ho hg hat) | fail)
        have HS9 : Aside0 (Same w w9) := ⟨(HS.out.alloc _).trans (Fr.grown HO9.out.2) (fun k hk e => by
          have := (own_base HO.out e).1
          omega)⟩
        go_roundg (l.length - (i + 1))
        case measure => have := HI.out; have := HLT.out; omega
        case rel => exact ⟨i + 1, rfl, ⟨by have := HLT.out; omega⟩, ⟨by rw [HTK.out]; exact HO9.out.1⟩, HS9⟩
      · go_wp2_with (first | (at_builtin; refine wpList_ownG HE.out rfl _ _ rfl (v := u3) (n := i) (xs := ((l.take i).map kindP).map (Value.int .i16)) (ys := [.int .i16 10]) rfl (HO.out.alloc _) (by have := HSZ.out; simp; omega) rfl (read_newG (us := [.int .i16 10]) (by rfl) (by intro u hu; simp only [List.mem_cons, List.not_mem_nil, or_false] at hu; rcases hu with rfl; rfl)) (by have := HLT.out; omega) ?_; intro v' w9 ho hg hat; have HO9 := Aside0.mk (And.intro ho hg); clear ho hg hat) | fail)
        have HS9 : Aside0 (Same w w9) := ⟨(HS.out.alloc _).trans (Fr.grown HO9.out.2) (fun k hk e => by
          have := (own_base HO.out e).1
          omega)⟩
        go_roundg (l.length - (i + 1))
        case measure => have := HI.out; have := HLT.out; omega
        case rel => exact ⟨i + 1, rfl, ⟨by have := HLT.out; omega⟩, ⟨by rw [HTK.out]; exact HO9.out.1⟩, HS9⟩
      have e0 : kindP x = 0 := by
        unfold kindP
        rw [if_neg h1, if_neg h2, if_neg h3, if_neg h4, if_neg h5, if_neg h6, if_neg h7, if_neg h8, if_neg h9]
      have HE0 := Aside0.mk e0
      have y1 : (x == 1) = false := by simpa using h1
      have y2 : (x == 2) = false := by simpa using h2
      have y3 : (x == 3) = false := by simpa using h3
      have y4 : (x == 4) = false := by simpa using h4
      have y5 : (x == 5) = false := by simpa using h5
      have y6 : (x == 6) = false := by simpa using h6
      have y7 : (x == 7) = false := by simpa using h7
      have y8 : (x == 8) = false := by simpa using h8
      have y9 : (x == 9) = false := by simpa using h9
      clear e0 h1 h2 h3 h4 h5 h6 h7 h8 h9
      go_wp2_with (first | (at_builtin; refine wpList_ownG HE.out rfl _ _ rfl (v := u3) (n := i) (xs := ((l.take i).map kindP).map (Value.int .i16)) (ys := [.int .i16 0]) rfl (HO.out.alloc _) (by have := HSZ.out; simp; omega) rfl (read_newG (us := [.int .i16 0]) (by rfl) (by intro u hu; simp only [List.mem_cons, List.not_mem_nil, or_false] at hu; rcases hu with rfl; rfl)) (by have := HLT.out; omega) ?_; intro v' w9 ho hg hat; have HO9 := Aside0.mk (And.intro ho hg); clear ho hg hat) | fail)
      have HS9 : Aside0 (Same w w9) := ⟨(HS.out.alloc _).trans (Fr.grown HO9.out.2) (fun k hk e => by
        have := (own_base HO.out e).1
        omega)⟩
      go_roundg (l.length - (i + 1))
      case measure => have := HI.out; have := HLT.out; omega
      case rel => exact ⟨i + 1, rfl, ⟨by have := HLT.out; omega⟩, ⟨by rw [HTK.out, HE0.out]; exact HO9.out.1⟩, HS9⟩
    have hie : i = l.length := by have := HI.out; omega
    subst hie
    have i2 : decide ((l.length : Int) < (l.length : Int)) = false := decide_eq_false (by omega)
    rw [List.take_length] at HO
    obtain ⟨A, c, hv, hc, hK⟩ := row_C (.int .i16) (fun _ => rfl) HO.out (by simp) (by have := HL.out; simp; omega)
    have HP : Aside0 (KindsPost w l (.returned u3) wr) := ⟨⟨A, c, by rw [hv]; simp, by simpa using hc, by rw [List.length_map] at hK; exact hK⟩, HS.out⟩
    clear hlt hv hc hK
    go_wp2_with fail
    go_ret
    exact HP.out
theorem newm_calls {w : World} {a b : ByteArray} {A2 A3 A4 A5 A6 A7 : Option Addr} {n2 n3 n4 n5 n6 n7 c2 c3 c4 c5 c6 c7 : Nat} :
    Calls Tryd.prog 44 #[.string a, .string b, .slice A2 n2 c2, .slice A3 n3 c3, .slice A4 n4 c4, .slice A5 n5 c5, .slice A6 n6 c6, .slice A7 n7 c7] w fun e w' =>
      e = .returned (.pointer (some ⟨w.heap.size, 0, none⟩)) ∧ w' = w.alloc (.cells #[.string a, .string b, .slice A3 n3 c3, .slice A2 n2 c2, .slice A4 n4 c4, .slice A5 n5 c5, .slice A6 n6 c6, .slice A7 n7 c7] 69) := by
  go_enter Tryd.func44, Tryd.ntmps44
  go_wp2_with fail
  go_ret
  exact ⟨rfl, rfl⟩
def planP (P : PlanL) : PlanL := { P with ks := P.ks.map kindP }
structure MapPost (w : World) (P : PlanL) (e : Ending) (w' : World) : Prop where
  out : ∃ m, e = .returned (.pointer (some ⟨m, 0, none⟩)) ∧ MapAt w' m (planP P)
  same : Same w w'
theorem mapping_calls {w : World} {v : Value} {P : PlanL} (hV : PlanV w v P) (hk : P.ks.length ≤ 1000) (hn : P.ns.length ≤ 1000) (hns : ∀ x ∈ P.ns, 0 ≤ x ∧ x ≤ 99) :
    Calls Tryd.prog 26 #[v] w (MapPost w P) := by
  obtain ⟨A2, c2, A3, c3, A4, c4, A5, c5, A6, c6, A7, c7, rfl, h2, h3, h4, h5, h6, h7⟩ := hV.out
  have HR : Aside0 (ReadG w A6 P.ns.length 1 (P.ns.map (.int .i64))) := ⟨rg_C _ _ h6.2⟩
  have HV := Aside0.mk (And.intro h2.2 (And.intro h3.2 (And.intro h4.2 (And.intro h5.2 h7.2))))
  obtain ⟨i64, h64⟩ := ek64
  have HE := Aside0.mk h64
  have HL := Aside0.mk (And.intro hk (And.intro hn hns))
  clear hV hk hn hns h64 h2 h3 h4 h5 h6 h7
  go_enter Tryd.func26, Tryd.ntmps26
  go_upto_block 0 with (fail)
  have HB0 : Aside0 (Blk (w.alloc (.cells #[.string P.src, .string P.dest, .slice A2 P.st.length c2, .slice A3 P.dt.length c3, .slice A4 P.ks.length c4, .slice A5 P.ps.length c5, .slice A6 P.ns.length c6, .slice A7 P.ts.length c7] 34)) w.heap.size 34 [.string P.src, .string P.dest, .slice A2 P.st.length c2, .slice A3 P.dt.length c3, .slice A4 P.ks.length c4, .slice A5 P.ps.length c5, .slice A6 P.ns.length c6, .slice A7 P.ts.length c7]) := ⟨Blk.new _ _ _⟩
  have HS0 : Aside0 (Same w (w.alloc (.cells #[.string P.src, .string P.dest, .slice A2 P.st.length c2, .slice A3 P.dt.length c3, .slice A4 P.ks.length c4, .slice A5 P.ps.length c5, .slice A6 P.ns.length c6, .slice A7 P.ts.length c7] 34))) := ⟨(Fr.refl _ w).alloc _⟩
  generalize w.alloc (.cells #[.string P.src, .string P.dest, .slice A2 P.st.length c2, .slice A3 P.dt.length c3, .slice A4 P.ks.length c4, .slice A5 P.ps.length c5, .slice A6 P.ns.length c6, .slice A7 P.ts.length c7] 34) = w1 at HB0 HS0 ⊢
  obtain ⟨b, hbb⟩ : ∃ b, w.heap.size = b := ⟨_, rfl⟩
  rw [hbb] at HB0 ⊢
  have HBB := Aside0.mk hbb
  clear hbb
  go_cut [3] from 5 to 20 (fun v3 wc => Aside0 (wc.ownsRow w1.heap.size 21 1 v3 P.ns.length (P.ns.map (Value.int .i32))) ∧ Aside0 (Same w1 wc))
  case first =>
    go_wp2_with fail
    go_loopg [3, 4] P.ns.length (fun kq v3 v4 wr => ∃ i : Nat, v4 = .int .i64 (i : Int) ∧ Aside0 (kq + i = P.ns.length ∧ i ≤ P.ns.length) ∧ Aside0 (wr.ownsRow w1.heap.size 21 1 v3 i ((P.ns.take i).map (Value.int .i32))) ∧ Aside0 (Same w1 wr))
    case atStart => exact ⟨0, rfl, ⟨by omega⟩, ⟨rfl, .inl ⟨rfl, rfl⟩⟩, ⟨Fr.refl _ _⟩⟩
    case round =>
      obtain ⟨i, rfl, HI, HO, HS⟩ := hrel
      have b6 := (HB0.out.fr HS.out (fun h => h)).cell 6 rfl
      have i0 : (0 : Int) ≤ (i : Int) := by omega
      by_cases hlt : i < P.ns.length
      · have i1 : (i : Int) < (P.ns.length : Int) := by omega
        have i2 : decide ((i : Int) < (P.ns.length : Int)) = true := decide_eq_true i1
        have i5 : IntKind.i64.wrap ((i : Int) + 1) = ((i + 1 : Nat) : Int) := by rw [IntKind.wrap_i64]; have := HL.out; omega
        obtain ⟨x, hx⟩ : ∃ x, P.ns[i]? = some x := ⟨_, List.getElem?_eq_getElem hlt⟩
        obtain ⟨aa, rfl, hra⟩ := (HR.out.fr (HS0.out.trans HS.out (fun _ _ h => h)) (fun _ _ h => h)).read (by simp; omega)
        have ua := hra i (.int .i64 x) (by rw [List.getElem?_map, hx]; rfl)
        have x1 : IntKind.i32.wrap x = x := by have := HL.out.2.2 x (List.mem_of_getElem? hx); rw [IntKind.wrap_i32]; omega
        have HTK : Aside0 ((P.ns.take (i + 1)).map (Value.int .i32) = (P.ns.take i).map (Value.int .i32) ++ [.int .i32 x]) := ⟨by
          rw [List.take_add_one, hx, List.map_append]
          rfl⟩
        have HLT : Aside0 (i < P.ns.length ∧ P.ns.length ≤ 1000) := ⟨hlt, HL.out.2.1⟩
        have HSZ : Aside0 (w1.heap.size ≤ wr.heap.size) := ⟨HS.out.size⟩
        clear hra hx hlt
        go_wp2_with (first | (at_builtin; refine wpList_ownG HE.out rfl _ _ rfl (v := u3) (n := i) (xs := (P.ns.take i).map (Value.int .i32)) (ys := [.int .i32 x]) rfl (HO.out.alloc _) (by have := HSZ.out; simp; omega) rfl (read_newG (us := [.int .i32 x]) (by rfl) (by intro u hu; simp only [List.mem_cons, List.not_mem_nil, or_false] at hu; rcases hu with rfl; rfl)) (by have := HLT.out; omega) ?_; intro v' w9 ho hg hat; have HO9 := Aside0.mk (And.intro ho hg); clear ho hg hat) | fail)
        have HS9 : Aside0 (Same w1 w9) := ⟨(HS.out.alloc _).trans (Fr.grown HO9.out.2) (fun k hk e => by
          have := (own_base HO.out e).1
          omega)⟩
        go_roundg (P.ns.length - (i + 1))
        case measure => have := HI.out; have := HLT.out; omega
        case rel => exact ⟨i + 1, rfl, ⟨by have := HLT.out; omega⟩, ⟨by rw [HTK.out]; exact HO9.out.1⟩, HS9⟩
      have hie : i = P.ns.length := by have := HI.out; omega
      subst hie
      have i2 : decide ((P.ns.length : Int) < (P.ns.length : Int)) = false := decide_eq_false (by omega)
      rw [List.take_length] at HO
      clear hlt
      go_wp2_with fail
      go_meet
      case rel => exact ⟨HO, HS⟩
  case rest =>
    obtain ⟨HO, HS⟩ := hcut
    obtain ⟨A, c, rfl, hc, hK⟩ := row_C (.int .i32) (fun _ => rfl) HO.out (by simp) (by have := HL.out; simp; omega)
    have HK := Aside0.mk hK
    have HB := HB0.out.fr HS.out (fun h => h)
    have HBA := Aside0.mk HB
    have b0 := HB.cell 0 rfl
    have b1 := HB.cell 1 rfl
    have b2 := HB.cell 2 rfl
    have b3 := HB.cell 3 rfl
    have b4 := HB.cell 4 rfl
    have b5 := HB.cell 5 rfl
    have b7 := HB.cell 7 rfl
    have HKS : Aside0 (∀ B : World, Same wc B → Same wc B ∧ B.cell? ⟨b, 0, none⟩ = some (.string P.src) ∧ B.cell? ⟨b, 1, none⟩ = some (.string P.dest) ∧ B.cell? ⟨b, 2, none⟩ = some (.slice A2 P.st.length c2) ∧ B.cell? ⟨b, 3, none⟩ = some (.slice A3 P.dt.length c3) ∧ B.cell? ⟨b, 4, none⟩ = some (.slice A4 P.ks.length c4) ∧ B.cell? ⟨b, 5, none⟩ = some (.slice A5 P.ps.length c5) ∧ B.cell? ⟨b, 7, none⟩ = some (.slice A7 P.ts.length c7)) :=
      ⟨fun B hb => ⟨hb, hb.cell b0, hb.cell b1, hb.cell b2, hb.cell b3, hb.cell b4, hb.cell b5, hb.cell b7⟩⟩
    have HKC : Aside0 (Kd.C (Kd.int .i64) wc.drew A4 P.ks.length P.ks) := ⟨Kd.C_below HV.out.2.2.1 (below_of_fr ((HS0.out.trans HS.out (fun _ _ h => h)).drew))⟩
    clear hc hK HB
    go_upto_region 6 with (fail)
    go_region_held3 (fun B => Same wc B ∧ B.cell? ⟨b, 0, none⟩ = some (.string P.src) ∧ B.cell? ⟨b, 1, none⟩ = some (.string P.dest) ∧ B.cell? ⟨b, 2, none⟩ = some (.slice A2 P.st.length c2) ∧ B.cell? ⟨b, 3, none⟩ = some (.slice A3 P.dt.length c3) ∧ B.cell? ⟨b, 4, none⟩ = some (.slice A4 P.ks.length c4) ∧ B.cell? ⟨b, 5, none⟩ = some (.slice A5 P.ps.length c5) ∧ B.cell? ⟨b, 7, none⟩ = some (.slice A7 P.ts.length c7))
      (first | exact HKS.out _ (Fr.refl _ _).drew | exact HKS.out _ hsk | exact HKS.out _ (hsk.alloc _) | exact HKS.out _ (hsk.alloc _).drew)
      (first
        | (go_at_call 45; refine (kinds_calls HKC.out HL.out.1).mono ?_; rintro e w4 ⟨⟨Ak, ck, rfl, hck, hCk⟩, hsk0⟩; have hsk : Same wc w4 := (Fr.refl _ _).drew.trans hsk0 (fun _ _ h => h))
        | (go_at_call 44; refine newm_calls.mono ?_; rintro e w5 ⟨rfl, rfl⟩))
    have HX : Aside0 (MapPost w P (.returned (.pointer (some ⟨w4.heap.size, 0, none⟩))) (w4.alloc (.cells #[.string P.src, .string P.dest, .slice A3 P.dt.length c3, .slice A2 P.st.length c2, .slice Ak P.ks.length ck, .slice A5 P.ps.length c5, .slice A P.ns.length c, .slice A7 P.ts.length c7] 69))) := by
      have hS := ((HS0.out.trans HS.out (fun _ _ h => h)).trans hsk (fun _ _ h => h)).alloc (.cells #[.string P.src, .string P.dest, .slice A3 P.dt.length c3, .slice A2 P.st.length c2, .slice Ak P.ks.length ck, .slice A5 P.ps.length c5, .slice A P.ns.length c, .slice A7 P.ts.length c7] 69)
      have hS4 := (Fr.refl (fun _ => False) w4).alloc (.cells #[.string P.src, .string P.dest, .slice A3 P.dt.length c3, .slice A2 P.st.length c2, .slice Ak P.ks.length ck, .slice A5 P.ps.length c5, .slice A P.ns.length c, .slice A7 P.ts.length c7] 69)
      have hSc := hsk.trans hS4 (fun _ _ h => h)
      obtain ⟨v2, v3, v4, v5, v7⟩ := HV.out
      have hb := below_of_fr hS
      refine ⟨⟨⟨w4.heap.size, rfl, ⟨A3, c3, A2, c2, Ak, ck, A5, c5, A, c, A7, c7, ?_, Kd.C_below v3 hb, Kd.C_below v2 hb, ?_, Kd.C_below v5 hb, Kd.C_below HK.out (below_of_fr hSc), Kd.C_below v7 hb⟩⟩, hS⟩⟩
      · have := Blk.new w4 69 [.string P.src, .string P.dest, .slice A3 P.dt.length c3, .slice A2 P.st.length c2, .slice Ak P.ks.length ck, .slice A5 P.ps.length c5, .slice A P.ns.length c, .slice A7 P.ts.length c7]
        simpa [planP] using this
      have := Kd.C_below hCk (below_of_fr hS4)
      simpa [planP] using this
    clear HK HBA b0 b1 b2 b3 b4 b5 b7 HKS HKC hck hCk hsk0
    go_wp2_with fail
    go_ret
    exact HX.out
end
end Go.Proofs.YtoopmpjgmgffoaaDoor.Tr
