/- Trees of subjects: the small functions: stringToBytes, newLeaf, match, setSuffix, setPrefix, the new nodes. Trees of subjects: the new nodes of ten, sixteen, forty-eight; the common prefix's length. (Printed by gen_tec.py.) -/
import Derived.Test.YtjhmpcbpbdkddaaGreatTeB
namespace Go.Proofs.YtjhmpcbpbdkddaaGreat.Te
open Go.RowKit Go.Proofs.YtjhmpcbpbdkddaaGreat.Bs Go.Proofs.YtjhmpcbpbdkddaaGreatW.PrintWords Go.Proofs.YtjhmpcbpbdkddaaGreatW.PrintLast Go.Proofs.YtjhmpcbpbdkddaaGreatW.PrintMore
set_option linter.unusedVariables false
set_option linter.unusedSimpArgs false
theorem strOf (s : BL) : strOfNums (by8 s) = str s := by
  unfold strOfNums str by8
  congr 2
  rw [List.map_map]
  conv => rhs; rw [← List.map_id s]
  apply List.map_congr_left
  intro c _
  simp
theorem CB.string {w : World} {A : Option Addr} {n c : Nat} {s : BL} (h : CB w A n s) : (convert 60 9 (.slice A n c)).run Tryz.prog w = .ok (.string (str s)) w := by
  have := Kd.C_string (c := c) Tryz.underlying60 Tryz.underlying5 Tryz.underlying9 h.c
  rw [strOf] at this
  exact this
theorem CB.drewN {w : World} {A : Option Addr} {n : Nat} {s : BL} (h : CB w A n s) (k : Nat) : CB (w.drewN k) A n s := h.same ((Fr.refl _ w).drewN k)
theorem conv_b {w : World} (s : BL) (hs : s.length ≤ 1000) : ∃ A c w1, (convert 9 60 (.string (str s))).run Tryz.prog w = .ok (.slice A s.length c) w1 ∧ s.length ≤ c ∧ CB w1 A s.length s ∧ Same w w1 := by
  obtain ⟨A, c, w1, h1, h2, h3, -, h5⟩ := Wk.conv_bytes (P := Tryz.prog) (u := .string) (w := w) (w0 := w) (N := w.heap.size) Tryz.underlying9 Tryz.underlying60 Tryz.underlying5 (str s) (by rw [str_size]; omega) (Nat.le_refl _) (Below.refl _ _)
  rw [str_size] at h1 h2 h3
  exact ⟨A, c, w1, h1, h3, ⟨rfl, hs, h2⟩, fr_of_below h5⟩
theorem str_toList (s : BL) : (str s).toList = s := by
  rw [ByteArray.toList_eq]
  rfl
theorem str_eq (s t : BL) : ((str s).toList == (str t).toList) = decide (s = t) := by
  rw [str_toList, str_toList]
  rw [Bool.eq_iff_iff]
  simp
structure BytesPost (w : World) (s : BL) (e : Ending) (w' : World) : Prop where
  out : ∃ A c, e = .returned (.slice A s.length c) ∧ s.length ≤ c ∧ CB w' A s.length s
  same : Same w w'
set_option maxRecDepth 100000
theorem toB_calls {w : World} (s : BL) (hs : s.length ≤ 1000) : Calls Tryz.prog 73 #[.string (str s)] w (BytesPost w s) := by
  obtain ⟨A, c, w1, hrun, h3, h4, h5⟩ := conv_b (w := w) s hs
  have H := Aside0.mk (And.intro h3 (And.intro h4 h5))
  clear h3 h4 h5
  go_enter Tryz.func73, Tryz.ntmps73
  go_wp2
  go_ret
  exact ⟨⟨A, c, rfl, H.out.1, H.out.2.1⟩, H.out.2.2⟩
structure LeafPost (w : World) (v : Int) (s : BL) (e : Ending) (w' : World) : Prop where
  ret : e = .returned (pa w.heap.size)
  leaf : LeafAt w' w.heap.size v s
  same : Same w w'
  size : w'.heap.size = w.heap.size + 1
theorem newLeaf_calls {w : World} {A : Option Addr} {n c : Nat} {s : BL} (h : CB w A n s) (v : Int) : Calls Tryz.prog 70 #[.slice A n c, .int .i64 v] w (LeafPost w v s) := by
  have hrun := h.string (c := c)
  clear h
  go_enter Tryz.func70, Tryz.ntmps70
  go_wp2
  go_ret
  exact ⟨rfl, Blk.new w 89 [.int .i64 v, .string (str s)], (Fr.refl _ w).alloc _, by simp⟩
theorem match_calls {w : World} {b : Nat} {v : Int} {t : BL} (hL : LeafAt w b v t) {A : Option Addr} {n c : Nat} {s : BL} (h : CB w A n s) : Calls Tryz.prog 71 #[pa b, .slice A n c] w fun e w' => e = .returned (.bool (decide (s = t))) ∧ Same w w' := by
  have hrun : ∀ k, (convert 60 9 (.slice A n c)).run Tryz.prog (w.drewN k) = .ok (.string (str s)) (w.drewN k) := fun k => (h.drewN k).string
  have c1 := hL.cell 1 rfl
  have he : ((str s).toList == (str t).toList) = decide (s = t) := str_eq s t
  clear h hL
  unfold pa
  go_enter Tryz.func71, Tryz.ntmps71
  go_wp2_with fail
  go_quiet (fail)
  go_wp2_with fail
  go_ret
  exact ⟨rfl, (Fr.refl _ w).drewN nq⟩
theorem setSuffix_calls {w : World} {b : Nat} {v : Int} {t : BL} (hL : LeafAt w b v t) {A : Option Addr} {n c : Nat} {s : BL} (h : CB w A n s) : Calls Tryz.prog 75 #[pa b, .slice A n c] w fun e w' => e = .returned (.tuple #[]) ∧ w' = w.setCell ⟨b, 1, none⟩ (.string (str s)) := by
  have hrun := h.string (c := c)
  have c1 := hL.cell 1 rfl
  have z1 := hL.free 1
  clear h hL
  unfold pa
  go_enter Tryz.func75, Tryz.ntmps75
  go_wp2
  refine bodyPost_end (results_none rfl _ _ _) rfl ?_
  exact ⟨rfl, rfl⟩
theorem setPrefix_calls {w : World} {b o : Nat} {u : Value} (c1 : w.cell? ⟨b, o, none⟩ = some u) (z1 : w.frozen? ⟨b, o, none⟩ = false) {A : Option Addr} {n c : Nat} {s : BL} (h : CB w A n s) : Calls Tryz.prog 81 #[.pointer (some ⟨b, o, none⟩), .slice A n c] w fun e w' => e = .returned (.tuple #[]) ∧ w' = w.setCell ⟨b, o, none⟩ (.string (str s)) := by
  have hrun := h.string (c := c)
  clear h
  go_enter Tryz.func81, Tryz.ntmps81
  go_wp2
  refine bodyPost_end (results_none rfl _ _ _) rfl ?_
  exact ⟨rfl, rfl⟩
/-- A node of its own without kids. -/
structure NodePost (w : World) (k : K) (p : BL) (e : Ending) (w' : World) : Prop where
  ret : e = .returned (pa w.heap.size)
  nd : NodeAt w' w.heap.size k p []
  same : Same w w'
  size : w'.heap.size = w.heap.size + 1
theorem newNode4_calls {w : World} {A : Option Addr} {n c : Nat} {s : BL} (h : CB w A n s) : Calls Tryz.prog 74 #[.slice A n c] w (NodePost w .k4 s) := by
  have HC := Aside0.mk h
  clear h
  go_enter Tryz.func74, Tryz.ntmps74
  go_wp2_with fail
  generalize hw : w.alloc _ = w1
  have HN : Aside0 (NodeAt w1 w.heap.size .k4 [] []) := ⟨by rw [← hw]; exact ⟨Blk.new w _ (kidsV .k4 [] ++ (.string (str []) :: .int .u16 ((0 : Nat) : Int) :: K.k4.keys [])), by decide +kernel, by decide +kernel⟩⟩
  have HS : Aside0 (Same w w1 ∧ w1.heap.size = w.heap.size + 1) := ⟨by rw [← hw]; exact ⟨(Fr.refl _ w).alloc _, by simp⟩⟩
  clear hw
  refine (setPrefix_calls (o := 4) HN.out.cp (HN.out.free _) (HC.out.same HS.out.1)).mono ?_
  rintro e w2 ⟨rfl, rfl⟩
  go_wp2_with fail
  go_ret
  exact ⟨rfl, HN.out.sp s, HS.out.1.trans ((Fr.refl (fun k => k = w.heap.size) w1).set (.inl rfl) _) (fun k hk e => by omega), by rw [setCell_size]; exact HS.out.2⟩
end Go.Proofs.YtjhmpcbpbdkddaaGreat.Te
namespace Go.Proofs.YtjhmpcbpbdkddaaGreat.Te
open Go.RowKit Go.Proofs.YtjhmpcbpbdkddaaGreat.Bs Go.Proofs.YtjhmpcbpbdkddaaGreatW.PrintWords Go.Proofs.YtjhmpcbpbdkddaaGreatW.PrintLast Go.Proofs.YtjhmpcbpbdkddaaGreatW.PrintMore
set_option linter.unusedVariables false
set_option linter.unusedSimpArgs false
set_option maxRecDepth 100000
theorem newNode10_calls {w : World} {A : Option Addr} {n c : Nat} {s : BL} (h : CB w A n s) : Calls Tryz.prog 149 #[.slice A n c] w (NodePost w .k10 s) := by
  have HC := Aside0.mk h
  clear h
  go_enter Tryz.func149, Tryz.ntmps149
  go_wp2_with fail
  generalize hw : w.alloc _ = w1
  have HN : Aside0 (NodeAt w1 w.heap.size .k10 [] []) := ⟨by rw [← hw]; exact ⟨Blk.new w _ (kidsV .k10 [] ++ (.string (str []) :: .int .u16 ((0 : Nat) : Int) :: K.k10.keys [])), by decide +kernel, by decide +kernel⟩⟩
  have HS : Aside0 (Same w w1 ∧ w1.heap.size = w.heap.size + 1) := ⟨by rw [← hw]; exact ⟨(Fr.refl _ w).alloc _, by simp⟩⟩
  clear hw
  refine (setPrefix_calls (o := 10) HN.out.cp (HN.out.free _) (HC.out.same HS.out.1)).mono ?_
  rintro e w2 ⟨rfl, rfl⟩
  go_wp2_with fail
  go_ret
  exact ⟨rfl, HN.out.sp s, HS.out.1.trans ((Fr.refl (fun k => k = w.heap.size) w1).set (.inl rfl) _) (fun k hk e => by omega), by rw [setCell_size]; exact HS.out.2⟩
theorem newNode16_calls {w : World} {A : Option Addr} {n c : Nat} {s : BL} (h : CB w A n s) : Calls Tryz.prog 159 #[.slice A n c] w (NodePost w .k16 s) := by
  have HC := Aside0.mk h
  clear h
  go_enter Tryz.func159, Tryz.ntmps159
  go_wp2_with fail
  generalize hw : w.alloc _ = w1
  have HN : Aside0 (NodeAt w1 w.heap.size .k16 [] []) := ⟨by rw [← hw]; exact ⟨Blk.new w _ (kidsV .k16 [] ++ (.string (str []) :: .int .u16 ((0 : Nat) : Int) :: K.k16.keys [])), by decide +kernel, by decide +kernel⟩⟩
  have HS : Aside0 (Same w w1 ∧ w1.heap.size = w.heap.size + 1) := ⟨by rw [← hw]; exact ⟨(Fr.refl _ w).alloc _, by simp⟩⟩
  clear hw
  refine (setPrefix_calls (o := 16) HN.out.cp (HN.out.free _) (HC.out.same HS.out.1)).mono ?_
  rintro e w2 ⟨rfl, rfl⟩
  go_wp2_with fail
  go_ret
  exact ⟨rfl, HN.out.sp s, HS.out.1.trans ((Fr.refl (fun k => k = w.heap.size) w1).set (.inl rfl) _) (fun k hk e => by omega), by rw [setCell_size]; exact HS.out.2⟩
theorem newNode48_calls {w : World} {A : Option Addr} {n c : Nat} {s : BL} (h : CB w A n s) : Calls Tryz.prog 168 #[.slice A n c] w (NodePost w .k48 s) := by
  have HC := Aside0.mk h
  clear h
  go_enter Tryz.func168, Tryz.ntmps168
  go_wp2_with fail
  generalize hw : w.alloc _ = w1
  have HN : Aside0 (NodeAt w1 w.heap.size .k48 [] []) := ⟨by rw [← hw]; exact ⟨Blk.new w _ (kidsV .k48 [] ++ (.string (str []) :: .int .u16 ((0 : Nat) : Int) :: K.k48.keys [])), by decide +kernel, by decide +kernel⟩⟩
  have HS : Aside0 (Same w w1 ∧ w1.heap.size = w.heap.size + 1) := ⟨by rw [← hw]; exact ⟨(Fr.refl _ w).alloc _, by simp⟩⟩
  clear hw
  refine (setPrefix_calls (o := 48) HN.out.cp (HN.out.free _) (HC.out.same HS.out.1)).mono ?_
  rintro e w2 ⟨rfl, rfl⟩
  go_wp2_with fail
  go_ret
  exact ⟨rfl, HN.out.sp s, HS.out.1.trans ((Fr.refl (fun k => k = w.heap.size) w1).set (.inl rfl) _) (fun k hk e => by omega), by rw [setCell_size]; exact HS.out.2⟩
/-- How many first bytes two texts have in common. -/
def cpl : BL → BL → Nat
  | a :: s, b :: t => if a = b then cpl s t + 1 else 0
  | _, _ => 0
theorem cpl_le : ∀ (s t : BL), cpl s t ≤ s.length ∧ cpl s t ≤ t.length
  | [], t => by simp [cpl]
  | a :: s, [] => by simp [cpl]
  | a :: s, b :: t => by
    rw [cpl]
    have := cpl_le s t
    split
    · simp; exact this
    · simp
theorem cpl_take : ∀ (s t : BL), s.take (cpl s t) = t.take (cpl s t)
  | [], t => by simp [cpl]
  | a :: s, [] => by simp [cpl]
  | a :: s, b :: t => by
    rw [cpl]
    split
    · rename_i h
      subst h
      simp [cpl_take s t]
    · simp
theorem cpl_drop : ∀ (s t : BL) (x y : UInt8) (s' t' : BL), s.drop (cpl s t) = x :: s' → t.drop (cpl s t) = y :: t' → x ≠ y
  | [], t, x, y, s', t', h, _ => by simp [cpl] at h
  | a :: s, [], x, y, s', t', _, h => by simp [cpl] at h
  | a :: s, b :: t, x, y, s', t', h1, h2 => by
    rw [cpl] at h1 h2
    split at h1
    · rename_i h
      rw [if_pos h] at h2
      exact cpl_drop s t x y s' t' (by simpa using h1) (by simpa using h2)
    · rename_i h
      rw [if_neg h] at h2
      simp only [List.drop_zero, List.cons.injEq] at h1 h2
      rw [← h1.1, ← h2.1]
      exact h
theorem cpl_step : ∀ (s t : BL) (i : Nat), s.take i = t.take i → i ≤ s.length → i ≤ t.length → cpl s t = i + cpl (s.drop i) (t.drop i)
  | s, t, 0, _, _, _ => by simp
  | [], t, i + 1, _, h, _ => by simp at h
  | a :: s, [], i + 1, _, _, h => by simp at h
  | a :: s, b :: t, i + 1, h, h1, h2 => by
    simp only [List.take_succ_cons, List.cons.injEq] at h
    simp only [List.length_cons] at h1 h2
    rw [cpl, if_pos h.1, cpl_step s t i h.2 (by omega) (by omega)]
    simp
    omega
theorem drop_at {s : BL} {i : Nat} {x : UInt8} (h : s[i]? = some x) : s.drop i = x :: s.drop (i + 1) := by
  obtain ⟨hi, rfl⟩ := List.getElem?_eq_some_iff.1 h
  exact List.drop_eq_getElem_cons hi
set_option maxHeartbeats 4000000 in
theorem cpl_calls {w : World} {A1 A2 : Option Addr} {n1 n2 c1 c2 : Nat} {s t : BL} (h1 : CB w A1 n1 s) (h2 : CB w A2 n2 t) : Calls Tryz.prog 72 #[.slice A1 n1 c1, .slice A2 n2 c2] w fun e w' => e = .returned (.int .i64 (cpl s t : Int)) ∧ Same w w' := by
  have H1 := Aside0.mk h1
  have H2 := Aside0.mk h2
  clear h1 h2
  have HS := Aside0.mk (Fr.refl (fun _ => False) w)
  by_cases h12 : n2 < n1
  · have hlt12 : (n2 : Int) < (n1 : Int) := by omega
    have HM : Aside0 (n2 ≤ n1 ∧ n2 ≤ n2) := ⟨by omega⟩
    go_enter Tryz.func72, Tryz.ntmps72
    go_wp2_with fail
    go_loopg [6] n2 (fun kq v6 wr => ∃ (i : Nat), v6 = .int .i64 (i : Int) ∧ Aside0 (kq + i = n2 ∧ s.take i = t.take i) ∧ Aside0 (Same w wr))
    case atStart => exact ⟨0, rfl, ⟨by omega, by simp⟩, HS⟩
    case round =>
      clear HS
      obtain ⟨i, rfl, HI, HS⟩ := hrel
      have i0 : (0 : Int) ≤ (i : Int) := by omega
      have HL : Aside0 (i ≤ s.length ∧ i ≤ t.length ∧ s.length = n1 ∧ t.length = n2 ∧ n2 ≤ 1000) := ⟨by have := HI.out.1; have := HM.out; have := H1.out.len; have := H2.out.len; have := H1.out.small; have := H2.out.small; omega⟩
      by_cases hlt : i < n2
      · have i1 : (i : Int) < (n2 : Int) := by omega
        have j1 : (i : Int) < (n1 : Int) := by have := HM.out; omega
        have j2 : (i : Int) < (n2 : Int) := by have := HM.out; omega
        obtain ⟨x, hx⟩ : ∃ x, s[i]? = some x := ⟨_, List.getElem?_eq_getElem (by have := HL.out; omega)⟩
        obtain ⟨y, hy⟩ : ∃ y, t[i]? = some y := ⟨_, List.getElem?_eq_getElem (by have := HL.out; omega)⟩
        obtain ⟨ad1, rfl, d1⟩ := (H1.out.same HS.out).at hx
        obtain ⟨ad2, rfl, d2⟩ := (H2.out.same HS.out).at hy
        unfold bv at d1 d2
        have HXY := Aside0.mk (And.intro hx hy)
        clear hx hy
        have i5 : IntKind.i64.wrap ((i : Int) + 1) = ((i + 1 : Nat) : Int) := by rw [IntKind.wrap_i64]; have := HL.out; omega
        have d3 : (((x.toNat : Int) != (y.toNat : Int)) = decide (x ≠ y)) := by
          by_cases h : x = y
          · subst h; simp
          · have : (x.toNat : Int) ≠ (y.toNat : Int) := fun e => h (UInt8.toNat_inj.1 (by omega))
            simp [h, this]
        by_cases hxy : x = y
        · have HE := Aside0.mk hxy
          have d4 : decide (x ≠ y) = false := by simp [hxy]
          rw [d4] at d3
          clear hxy d4
          go_wp2_with fail
          go_quiet (fail)
          go_wp2_with fail
          go_roundg (n2 - (i + 1))
          case measure => have := HI.out.1; omega
          case rel =>
            refine ⟨i + 1, by first | rfl | go_num, ⟨by omega, ?_⟩, ⟨HS.out.trans ((Fr.refl _ _).drewN nq) (fun _ _ h => h)⟩⟩
            rw [List.take_add_one, List.take_add_one, HI.out.2, HXY.out.1, HXY.out.2, HE.out]
        · have HE := Aside0.mk hxy
          have d4 : decide (x ≠ y) = true := by simp [hxy]
          rw [d4] at d3
          clear hxy d4
          go_wp2_with fail
          go_quiet (fail)
          go_wp2_with fail
          go_ret
          refine ⟨?_, HS.out.trans ((Fr.refl _ _).drewN nq) (fun _ _ h => h)⟩
          rw [cpl_step s t i HI.out.2 (by have := HL.out; omega) (by have := HL.out; omega), drop_at HXY.out.1, drop_at HXY.out.2, cpl, if_neg HE.out]
          rfl
      · have i1 : ¬ ((i : Int) < (n2 : Int)) := by omega
        go_wp2
        go_ret
        refine ⟨?_, HS.out⟩
        have h1 := HL.out
        have h2 := HI.out.1
        have h3 := HM.out
        have : s.drop i = [] ∨ t.drop i = [] := by
          rcases Nat.lt_or_ge i n1 with h | h
          · exact .inr (List.drop_eq_nil_of_le (by omega))
          · exact .inl (List.drop_eq_nil_of_le (by omega))
        rw [cpl_step s t i HI.out.2 h1.1 h1.2.1]
        rcases this with h | h
        · rw [h]; simp [cpl]
        · rw [h]; cases s.drop i <;> simp [cpl]
  · have hlt12 : ¬ ((n2 : Int) < (n1 : Int)) := by omega
    have HM : Aside0 (n1 ≤ n1 ∧ n1 ≤ n2) := ⟨by omega⟩
    go_enter Tryz.func72, Tryz.ntmps72
    go_wp2_with fail
    go_loopg [6] n1 (fun kq v6 wr => ∃ (i : Nat), v6 = .int .i64 (i : Int) ∧ Aside0 (kq + i = n1 ∧ s.take i = t.take i) ∧ Aside0 (Same w wr))
    case atStart => exact ⟨0, rfl, ⟨by omega, by simp⟩, HS⟩
    case round =>
      clear HS
      obtain ⟨i, rfl, HI, HS⟩ := hrel
      have i0 : (0 : Int) ≤ (i : Int) := by omega
      have HL : Aside0 (i ≤ s.length ∧ i ≤ t.length ∧ s.length = n1 ∧ t.length = n2 ∧ n1 ≤ 1000) := ⟨by have := HI.out.1; have := HM.out; have := H1.out.len; have := H2.out.len; have := H1.out.small; have := H2.out.small; omega⟩
      by_cases hlt : i < n1
      · have i1 : (i : Int) < (n1 : Int) := by omega
        have j1 : (i : Int) < (n1 : Int) := by have := HM.out; omega
        have j2 : (i : Int) < (n2 : Int) := by have := HM.out; omega
        obtain ⟨x, hx⟩ : ∃ x, s[i]? = some x := ⟨_, List.getElem?_eq_getElem (by have := HL.out; omega)⟩
        obtain ⟨y, hy⟩ : ∃ y, t[i]? = some y := ⟨_, List.getElem?_eq_getElem (by have := HL.out; omega)⟩
        obtain ⟨ad1, rfl, d1⟩ := (H1.out.same HS.out).at hx
        obtain ⟨ad2, rfl, d2⟩ := (H2.out.same HS.out).at hy
        unfold bv at d1 d2
        have HXY := Aside0.mk (And.intro hx hy)
        clear hx hy
        have i5 : IntKind.i64.wrap ((i : Int) + 1) = ((i + 1 : Nat) : Int) := by rw [IntKind.wrap_i64]; have := HL.out; omega
        have d3 : (((x.toNat : Int) != (y.toNat : Int)) = decide (x ≠ y)) := by
          by_cases h : x = y
          · subst h; simp
          · have : (x.toNat : Int) ≠ (y.toNat : Int) := fun e => h (UInt8.toNat_inj.1 (by omega))
            simp [h, this]
        by_cases hxy : x = y
        · have HE := Aside0.mk hxy
          have d4 : decide (x ≠ y) = false := by simp [hxy]
          rw [d4] at d3
          clear hxy d4
          go_wp2_with fail
          go_quiet (fail)
          go_wp2_with fail
          go_roundg (n1 - (i + 1))
          case measure => have := HI.out.1; omega
          case rel =>
            refine ⟨i + 1, by first | rfl | go_num, ⟨by omega, ?_⟩, ⟨HS.out.trans ((Fr.refl _ _).drewN nq) (fun _ _ h => h)⟩⟩
            rw [List.take_add_one, List.take_add_one, HI.out.2, HXY.out.1, HXY.out.2, HE.out]
        · have HE := Aside0.mk hxy
          have d4 : decide (x ≠ y) = true := by simp [hxy]
          rw [d4] at d3
          clear hxy d4
          go_wp2_with fail
          go_quiet (fail)
          go_wp2_with fail
          go_ret
          refine ⟨?_, HS.out.trans ((Fr.refl _ _).drewN nq) (fun _ _ h => h)⟩
          rw [cpl_step s t i HI.out.2 (by have := HL.out; omega) (by have := HL.out; omega), drop_at HXY.out.1, drop_at HXY.out.2, cpl, if_neg HE.out]
          rfl
      · have i1 : ¬ ((i : Int) < (n1 : Int)) := by omega
        go_wp2
        go_ret
        refine ⟨?_, HS.out⟩
        have h1 := HL.out
        have h2 := HI.out.1
        have h3 := HM.out
        have : s.drop i = [] ∨ t.drop i = [] := by
          rcases Nat.lt_or_ge i n1 with h | h
          · exact .inr (List.drop_eq_nil_of_le (by omega))
          · exact .inl (List.drop_eq_nil_of_le (by omega))
        rw [cpl_step s t i HI.out.2 h1.1 h1.2.1]
        rcases this with h | h
        · rw [h]; simp [cpl]
        · rw [h]; cases s.drop i <;> simp [cpl]
end Go.Proofs.YtjhmpcbpbdkddaaGreat.Te
