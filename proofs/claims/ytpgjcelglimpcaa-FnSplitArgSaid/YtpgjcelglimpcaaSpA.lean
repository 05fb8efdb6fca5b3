/- server.splitArg, by hand. -/
import Derived.Test.YtpgjcelglimpcaaPlWalk
import Derived.Test.YtpgjcelglimpcaaBs
import Derived.Test.YtpgjcelglimpcaaProg
import Derived.Test.YtpgjcelglimpcaaWMore
namespace Go.Proofs.Ytpgjcelglimpcaa.Sp
open Go.RowKit Go.Proofs.YtpgjcelglimpcaaW.PrintWords Go.Proofs.YtpgjcelglimpcaaW.PrintLast Go.Proofs.YtpgjcelglimpcaaW.PrintMore
set_option linter.unusedVariables false
set_option linter.unusedSimpArgs false

/-- White space. -/
def blank (b : Int) : Bool := b == 32 || b == 9 || b == 13 || b == 10
/-- The words' places: from a place on, with the place where a word has begun. -/
def sp : List Int → Nat → Option Nat → List (Nat × Nat)
  | [], _, none => []
  | [], i, some s => [(s, i)]
  | b :: r, i, none => if blank b = true then sp r (i + 1) none else sp r (i + 1) (some i)
  | b :: r, i, some s => if blank b = true then (s, i) :: sp r (i + 1) none else sp r (i + 1) (some s)
def stI : Option Nat → Int
  | none => -1
  | some s => (s : Int)
/-- A word, as a slice of the whole. -/
def wv (ad : Addr) (c : Nat) (p : Nat × Nat) : Value := .slice (some (ad.add p.1)) (p.2 - p.1) (c - p.1)
theorem info24 : (Try.prog.info? 24).map (fun i => (i.zero, i.size, i.bytes)) = some (some (.slice none 0 0), 1, 24) := by kernel_rfl
theorem cell_of {w w' : World} {ad : Addr} {l : List Int} (hR : Kd.C (Kd.int .u8) w (some ad) l.length l) (hB : Below w.heap.size w w') {i : Nat} {x : Int} (hx : l[i]? = some x) : w'.cell? (ad.add i) = some (.int .u8 x) := by
  have hi := (List.getElem?_eq_some_iff.1 hx).1
  obtain ⟨ad', e, hc⟩ := Kd.at_int (Kd.C_below hR hB) (i : Int) (by omega) (by omega)
  injection e with e
  subst e
  rw [Int.toNat_natCast] at hc
  rw [hc]
  simp [rd, List.getD_eq_getElem?_getD, hx]
set_option maxHeartbeats 8000000 in
set_option maxRecDepth 100000 in
theorem split_calls {w : World} {X : Option Addr} {ad : Addr} {c : Nat} {l : List Int} (hX : 0 < l.length → X = some ad) (hR : Kd.C (Kd.int .u8) w X l.length l) (hc : l.length ≤ c) (hl : l.length ≤ 1000000) :
    Calls Try.prog 43 #[.slice X l.length c] w fun e w' => ∃ v, e = .returned v ∧ Wk.AR w' w.heap.size v ((sp l 0 none).map (wv ad c)) ∧ Below w.heap.size w w' := by
  have HX := Aside0.mk hX
  have HR := Aside0.mk hR
  have HC := Aside0.mk hc
  have HL := Aside0.mk hl
  clear hX hR hc hl
  go_enter Try.func43, Try.ntmps43
  go_upto_region 1 with (fail)
  refine wp_region_lit ?_
  refine Wk.arrL_ (Array.replicate 4 (.slice none 0 0)) (T := 58) (N1 := 8) (N2 := 3) rfl rfl rfl rfl rfl rfl (fun _ _ => by kernel_rfl) (fun _ _ => by kernel_rfl) rfl (by kernel_rfl) (by simp [Value.oneCell']) rfl rfl ?_
  intro w2 cur hB hblk hcur hsz
  simp only [Act.put, List.setIfInBounds_toArray, List.set_cons_zero, List.set_cons_succ]
  generalize Value.agg (Array.replicate 4 (.slice none 0 0)) = v8
  have HO := Aside0.mk (Wk.AR.made (base := w.heap.size) (n := 4) hblk (Nat.le_refl _) (by rw [← Array.length_toList, hcur]; simp) (by simp only [maxLen]; omega))
  have hshape : w2.shape? w.heap.size = some (58, 4) := Wk.shape_of hblk (by rw [← Array.length_toList, hcur]; simp)
  have HB := Aside0.mk hB
  have HR2 := Aside0.mk (Kd.C_below HR.out hB)
  clear hB hcur hsz hblk
  go_wp2_with fail
  clear hshape
  go_wp2
  go_loopg [4, 5, 12] l.length (fun k v4 v5 v12 w' => ∃ (i : Nat) (o : Option Nat) (ps : List (Nat × Nat)), i ≤ l.length ∧ v5 = .int .i64 (stI o) ∧ v12 = .int .i64 i ∧ Aside0 (l.length - i ≤ k ∧ ps ++ sp (l.drop i) i o = sp l 0 none ∧ ps.length ≤ i ∧ (∀ s, o = some s → s < i) ∧ Wk.AR w' w.heap.size v4 (ps.map (wv ad c)) ∧ Below w.heap.size w w'))
  case atStart => exact ⟨0, none, [], Nat.zero_le _, rfl, rfl, ⟨Nat.le_refl _, rfl, Nat.le_refl _, (fun s h => by cases h), HO.out, HB.out⟩⟩
  case round =>
    obtain ⟨i, o, ps, hi, rfl, rfl, HU⟩ := hrel
    clear HO HB HR2
    by_cases hlt : i < l.length
    · obtain rfl : X = some ad := HX.out (by omega)
      obtain ⟨x, hx⟩ : ∃ x, l[i]? = some x := ⟨_, List.getElem?_eq_getElem hlt⟩
      have HD : Aside0 (l.drop i = x :: l.drop (i + 1)) := ⟨by rw [List.drop_eq_getElem_cons hlt, (List.getElem?_eq_some_iff.1 hx).2]⟩
      have hcell := cell_of HR.out HU.out.2.2.2.2.2 hx
      have i1 : (0 : Int) ≤ (i : Int) := by omega
      have i2 : (i : Int) < (l.length : Int) := by omega
      have e1 : IntKind.i64.wrap ((i : Int) + 1) = ((i + 1 : Nat) : Int) := by rw [IntKind.wrap_i64]; have := HL.out; omega
      have HK := Aside0.mk HU.out.1
      have HE := Aside0.mk HU.out.2.1
      have HPL : Aside0 (ps.length ≤ 1000000 ∧ ps.length ≤ i) := ⟨by have := HU.out.2.2.1; have := HL.out; omega, HU.out.2.2.1⟩
      have HS := Aside0.mk HU.out.2.2.2.1
      have HO := Aside0.mk HU.out.2.2.2.2.1
      have HB := Aside0.mk HU.out.2.2.2.2.2
      clear HU hx
      by_cases hb : blank x = true
      · have h4 : x = 32 ∨ x = 9 ∨ x = 13 ∨ x = 10 := by
          simp only [blank, Bool.or_eq_true, beq_iff_eq, or_assoc] at hb
          exact hb
        cases o with
        | none =>
          have HE2 : Aside0 (ps ++ sp (l.drop (i + 1)) (i + 1) none = sp l 0 none) := ⟨by have := HE.out; rw [HD.out, sp, if_pos hb] at this; exact this⟩
          clear HE HD hb
          simp only [stI]
          rcases h4 with rfl | rfl | rfl | rfl
          all_goals
            go_wp2
            go_roundg (l.length - (i + 1))
            case measure => have := HK.out; omega
            case rel => exact ⟨i + 1, none, ps, by omega, rfl, by first | rfl | go_num, ⟨Nat.le_refl _, HE2.out, by have := HPL.out.2; omega, (fun s h => by cases h), HO.out, HB.out⟩⟩
        | some s =>
          have hs : s < i := HS.out s rfl
          have HE2 : Aside0 ((ps ++ [(s, i)]) ++ sp (l.drop (i + 1)) (i + 1) none = sp l 0 none) := ⟨by have := HE.out; rw [HD.out, sp, if_pos hb] at this; rw [List.append_assoc]; exact this⟩
          clear HE HD hb
          simp only [stI]
          have s1 : (0 : Int) ≤ (s : Int) := by omega
          have s2 : (s : Int) ≤ (i : Int) := by omega
          have s3 : (i : Int) ≤ (c : Int) := by have := HC.out; omega
          have s4 : ¬ c = s := by have := HC.out; omega
          have s5 : (i : Int) - (s : Int) = ((i - s : Nat) : Int) := by omega
          rcases h4 with rfl | rfl | rfl | rfl
          all_goals
            go_wp2_with (first | ((with_reducible refine gate_builtin (b := .append) (xs := #[.tmp 28, .tmp 33]) rfl ?_); at_builtin; refine Wk.AR.append (N := w.heap.size) (w0 := w) rfl (.tmp 28) (.tmp 33) 29 24 (.slice none 0 0) 24 rfl Try.underlying29 info24 rfl rfl (HO.out.alloc _) (Nat.le_refl _) ?cW (below_alloc HB.out _) _ _ (wv ad c (s, i)) rfl ?cU rfl ?cL ?c6 ?_; (case cW => have := HB.out.size; simp; omega); (case cU => exact (Bs.cell_at (cur := [_]) (heap_alloc_new _ _)).trans rfl); (case cL => have := HPL.out; rw [List.length_map]; omega); (case c6 => have := HPL.out; rw [List.length_map]; simp only [maxLen]; omega); intro v126 w11 q1 q2 q3 q4 q5; have HO2 := Aside0.mk q1; have HB2 := Aside0.mk q2; clear q1 q2 q3 q4 q5 HO HB))
            go_roundg (l.length - (i + 1))
            case measure => have := HK.out; omega
            case rel => exact ⟨i + 1, none, ps ++ [(s, i)], by omega, rfl, by first | rfl | go_num, ⟨Nat.le_refl _, HE2.out, by have := HPL.out.2; rw [List.length_append]; simp; omega, (fun s h => by cases h), by have := HO2.out; rw [List.map_append]; exact this, HB2.out⟩⟩
      · have n1 : (x == 32) = false := by simp only [blank, Bool.or_eq_true] at hb; simpa using fun h => hb (.inl (.inl (.inl (by simp [h]))))
        have n2 : (x == 9) = false := by simp only [blank, Bool.or_eq_true] at hb; simpa using fun h => hb (.inl (.inl (.inr (by simp [h]))))
        have n3 : (x == 13) = false := by simp only [blank, Bool.or_eq_true] at hb; simpa using fun h => hb (.inl (.inr (by simp [h])))
        have n4 : (x == 10) = false := by simp only [blank, Bool.or_eq_true] at hb; simpa using fun h => hb (.inr (by simp [h]))
        cases o with
        | none =>
          have HE2 : Aside0 (ps ++ sp (l.drop (i + 1)) (i + 1) (some i) = sp l 0 none) := ⟨by have := HE.out; rw [HD.out, sp, if_neg hb] at this; exact this⟩
          clear HE HD hb
          simp only [stI]
          go_wp2
          go_roundg (l.length - (i + 1))
          case measure => have := HK.out; omega
          case rel => exact ⟨i + 1, some i, ps, by omega, rfl, by first | rfl | go_num, ⟨Nat.le_refl _, HE2.out, by have := HPL.out.2; omega, (fun s h => by cases h; omega), HO.out, HB.out⟩⟩
        | some s =>
          have hs : s < i := HS.out s rfl
          have HE2 : Aside0 (ps ++ sp (l.drop (i + 1)) (i + 1) (some s) = sp l 0 none) := ⟨by have := HE.out; rw [HD.out, sp, if_neg hb] at this; exact this⟩
          clear HE HD hb
          simp only [stI]
          have s1 : ¬ (s : Int) < 0 := by omega
          go_wp2
          go_roundg (l.length - (i + 1))
          case measure => have := HK.out; omega
          case rel => exact ⟨i + 1, some s, ps, by omega, rfl, by first | rfl | go_num, ⟨Nat.le_refl _, HE2.out, by have := HPL.out.2; omega, (fun s h => by cases h; omega), HO.out, HB.out⟩⟩
    · obtain rfl : i = l.length := by omega
      have HE := Aside0.mk HU.out.2.1
      have HPL : Aside0 (ps.length ≤ 1000000 ∧ ps.length ≤ l.length) := ⟨by have := HU.out.2.2.1; have := HL.out; omega, HU.out.2.2.1⟩
      have HS := Aside0.mk HU.out.2.2.2.1
      have HO := Aside0.mk HU.out.2.2.2.2.1
      have HB := Aside0.mk HU.out.2.2.2.2.2
      clear HU
      cases o with
      | none =>
        have HE2 : Aside0 (sp l 0 none = ps) := ⟨by have := HE.out; rw [List.drop_length, sp, List.append_nil] at this; exact this.symm⟩
        clear HE
        simp only [stI]
        go_wp2
        go_ret
        exact ⟨_, rfl, by rw [HE2.out]; exact HO.out, HB.out⟩
      | some s =>
        have hs : s < l.length := HS.out s rfl
        obtain rfl : X = some ad := HX.out (by omega)
        have HE2 : Aside0 (sp l 0 none = ps ++ [(s, l.length)]) := ⟨by have := HE.out; rw [List.drop_length, sp] at this; exact this.symm⟩
        clear HE
        simp only [stI]
        have s1 : (0 : Int) ≤ (s : Int) := by omega
        have s2 : (s : Int) ≤ (l.length : Int) := by omega
        have s3 : (l.length : Int) ≤ (c : Int) := by have := HC.out; omega
        have s4 : ¬ c = s := by have := HC.out; omega
        go_wp2_with (first | ((with_reducible refine gate_builtin (b := .append) (xs := #[.tmp 38, .tmp 42]) rfl ?_); at_builtin; refine Wk.AR.append (N := w.heap.size) (w0 := w) rfl (.tmp 38) (.tmp 42) 29 24 (.slice none 0 0) 24 rfl Try.underlying29 info24 rfl rfl (HO.out.alloc _) (Nat.le_refl _) ?cW (below_alloc HB.out _) _ _ (wv ad c (s, l.length)) rfl ?cU rfl ?cL ?c6 ?_; (case cW => have := HB.out.size; simp; omega); (case cU => exact (Bs.cell_at (cur := [_]) (heap_alloc_new _ _)).trans rfl); (case cL => have := HPL.out; rw [List.length_map]; omega); (case c6 => have := HPL.out; rw [List.length_map]; simp only [maxLen]; omega); intro v126 w11 q1 q2 q3 q4 q5; have HO2 := Aside0.mk q1; have HB2 := Aside0.mk q2; clear q1 q2 q3 q4 q5 HO HB))
        go_ret
        exact ⟨_, rfl, by rw [HE2.out, List.map_append]; exact HO2.out, HB2.out⟩
end Go.Proofs.Ytpgjcelglimpcaa.Sp
