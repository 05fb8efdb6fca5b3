/- processHeaderPub, by hand (the text of its walk is printed by gen_hdc.py). -/
import Derived.Test.YtnkioieocjgekaaDoorHdB
import Derived.Laws.LoneSync
namespace Go.Proofs.YtnkioieocjgekaaDoor.Hd
open Go.RowKit Go.Proofs.YtnkioieocjgekaaDoorW.PrintWords Go.Proofs.YtnkioieocjgekaaDoorW.PrintLast Go.Proofs.YtnkioieocjgekaaDoorW.PrintMore
set_option linter.unusedVariables false
set_option linter.unusedSimpArgs false

/-- A word, as a slice of the whole. -/
def wv (ad : Addr) (c : Nat) (p : Nat × Nat) : Value := .slice (some (ad.add p.1)) (p.2 - p.1) (c - p.1)
def stI : Option Nat → Int
  | none => -1
  | some s => (s : Int)
theorem info22 : (Tryd.prog.info? 22).map (fun i => (i.zero, i.size, i.bytes)) = some (some (.slice none 0 0), 1, 24) := by kernel_rfl
theorem new_calls (s : ByteArray) (w : World) : Calls Tryd.prog 33 #[.string s] w fun e w' => e = .returned (.iface 73 (.pointer (some ⟨w.heap.size, 0, none⟩))) ∧ w' = w.alloc (.cells #[.string s] 75) := by
  go_enter Tryd.func33, Tryd.ntmps33
  go_wp2
  go_ret
  exact ⟨rfl, rfl⟩
theorem cut_C {w : World} {X : Option Addr} {ad : Addr} {c n : Nat} {l : List Int} (hX : 0 < n → X = some ad) (hR : Kd.C (Kd.int .u8) w X n l) (hc : n ≤ c) {p : Nat × Nat} (hp : p.1 < p.2) (hp2 : p.2 ≤ n) : Kd.C (Kd.int .u8) w (some (ad.add p.1)) (p.2 - p.1) (cut l p) := by
  obtain rfl : l.length = n := hR.1
  obtain rfl := hX (by omega)
  have := Kd.C_mid (k := Kd.int .u8) (lo := p.1) (hi := p.2) hR (by omega) hp2 hc
  rw [if_neg (by omega)] at this
  have e1 : p.1 * (Kd.int .u8).sz = p.1 := Nat.mul_one _
  have hln : ((l.take p.2).drop p.1).length = p.2 - p.1 := by rw [List.length_drop, List.length_take]; omega
  rw [e1, hln] at this
  exact this
theorem cut_bytes {l : List Int} {p : Nat × Nat} (h : ∀ x ∈ l, 0 ≤ x ∧ x < 256) : ∀ x ∈ cut l p, 0 ≤ x ∧ x < 256 := fun x hx => h x (List.mem_of_mem_take (List.mem_of_mem_drop hx))
theorem psz_wv {w : World} {X : Option Addr} {ad : Addr} {c n : Nat} {l : List Int} (hX : 0 < n → X = some ad) (hR : Kd.C (Kd.int .u8) w X n l) (hc : n ≤ c) (hl : n ≤ 1000000) (hby : ∀ x ∈ l, 0 ≤ x ∧ x < 256) {p : Nat × Nat} (hp : p.1 < p.2 ∧ p.2 ≤ n) :
    Calls Tryd.prog 32 #[.slice (some (ad.add p.1)) (p.2 - p.1) (c - p.1)] w fun e w' => e = .returned (.int .i64 (psz (cut l p))) ∧ w = w' := psz_calls (cut_C hX hR hc hp.1 hp.2) (by omega) (by omega) (cut_bytes hby)
/-- The client's block and the words' row. -/
structure St (w1 w : World) (b g : Nat) (cs row : List Value) : Prop where
  blk : Bs.Blk w b 61 cs
  row : ∀ j, j < row.length → w.cell? ⟨g, j, none⟩ = row[j]?
  bel : Below w1.heap.size w1 w
  lo : w1.heap.size ≤ b
  ne : b ≠ g
theorem St.set {w1 w : World} {b g : Nat} {cs row : List Value} (h : St w1 w b g cs row) (o : Nat) (ho : o < cs.length) (u : Value) : St w1 (w.setCell ⟨b, o, none⟩ u) b g (cs.set o u) row :=
  ⟨h.blk.set o ho u, fun j hj => (World.cell?_of_block (Below.heap_setCell w _ u g (fun e => h.ne e.symm))).trans (h.row j hj), h.bel.setCell (p := ⟨b, o, none⟩) h.lo u, h.lo, h.ne⟩
theorem St.drew {w1 w : World} {b g : Nat} {cs row : List Value} (h : St w1 w b g cs row) : St w1 w.drew b g cs row := ⟨h.blk.drew, h.row, h.bel.drew, h.lo, h.ne⟩
theorem St.drewN {w1 w : World} {b g : Nat} {cs row : List Value} (h : St w1 w b g cs row) (m : Nat) : St w1 (w.drewN m) b g cs row := ⟨h.blk.drewN m, h.row, pw_below_drewN h.bel m, h.lo, h.ne⟩
theorem St.at {w1 w : World} {b g : Nat} {cs row : List Value} (h : St w1 w b g cs row) (j : Nat) {v : Value} (hv : row[j]? = some v) : w.cell? ⟨g, j, none⟩ = some v := (h.row j (List.getElem?_eq_some_iff.1 hv).1).trans hv
/-- What the error is. -/
def ErrK (w1 w : World) (k : Int) (err : Value) : Prop :=
  (k = 0 → err = .nilIface) ∧ (k = 1 → ∃ g s, err = .iface 73 (.pointer (some ⟨g, 0, none⟩)) ∧ w1.heap.size ≤ g ∧ w.heap[g]? = some (.cells #[.string s] 75 (0, 0))) ∧ (k = 2 → w1.cell? ⟨0, 0, none⟩ = some err)
/-- What it comes to: the words, the numbers. -/
def hps (ws : List (Nat × Nat)) (l : List Int) (most : Int) : Option (Nat × Nat) × Option (Nat × Nat) × Int × Int × Int :=
  match ws with
  | [p, q, r] => (some p, none, psz (cut l q), psz (cut l r), kindOf (psz (cut l q)) (psz (cut l r)) most)
  | [p, q, r, s] => (some p, some q, psz (cut l r), psz (cut l s), kindOf (psz (cut l r)) (psz (cut l s)) most)
  | _ => (none, none, 0, 0, 1)
def ov (ad : Addr) (c : Nat) : Option (Nat × Nat) → Value
  | none => .slice none 0 0
  | some p => wv ad c p
def HpPost (w1 : World) (b : Nat) (ad : Addr) (c : Nat) (t : Option (Nat × Nat) × Option (Nat × Nat) × Int × Int × Int) (e : Ending) (w' : World) : Prop :=
  ∃ (err : Value) (cs : List Value), e = .returned err ∧ ErrK w1 w' t.2.2.2.2 err ∧ Bs.Blk w' b 61 cs ∧ cs[4]? = some (ov ad c t.1) ∧ cs[5]? = some (ov ad c t.2.1) ∧ cs[9]? = some (.int .i64 t.2.2.1) ∧ cs[8]? = some (.int .i64 t.2.2.2.1) ∧ Below w1.heap.size w1 w'
def cs0 (most : Int) : List Value := [.int .i64 0, .int .i32 most, .bool true, .slice none 0 0, .slice none 0 0, .slice none 0 0, .slice none 0 0, .slice none 0 0, .int .i64 0, .int .i64 0]
theorem load_ (w : World) (a : Addr) (x : Int) (hc : w.cell? a = some (.int .i32 x)) : (callFunc 34 #[.pointer (some a)]).run Tryd.prog w = .ok (.value (.int .i32 x)) w :=
  run_call_load (fn := Tryd.f34) Tryd.func34 (by kernel_rfl) (by kernel_rfl) (by kernel_rfl) .i32 (by kernel_rfl) hc
set_option maxHeartbeats 16000000 in
set_option maxRecDepth 100000 in
theorem hp_calls {w1 w : World} {b : Nat} {X : Option Addr} {ad ga : Addr} {n c : Nat} {l : List Int} {most : Int} {v1 : Value} (hX : 0 < n → X = some ad) (hR : Kd.C (Kd.int .u8) w1 X n l) (hc : n ≤ c) (hl : n ≤ 1000000) (hby : ∀ x ∈ l, 0 ≤ x ∧ x < 256)
    (hw : Below w1.heap.size w1 w) (hb : w1.heap.size ≤ b) (hbk : Bs.Blk w b 61 (cs0 most)) (hG : w1.cell? ⟨0, 0, none⟩ = some (.iface 73 (.pointer (some ga)))) (hm : -2147483648 ≤ most ∧ most ≤ 2147483647) :
    Calls Tryd.prog 27 #[.pointer (some ⟨b, 0, none⟩), .slice X n c, .slice none 0 0] w (HpPost w1 b ad c (hps (sp l 0 none) l most)) := by
  have HX := Aside0.mk hX
  have HR : Aside0 (∀ W, Below w1.heap.size w1 W → Kd.C (Kd.int .u8) W X n l) := ⟨fun W h => Kd.C_below hR h⟩
  have HC := Aside0.mk hc
  have HL := Aside0.mk hl
  have HBY := Aside0.mk hby
  have HW := Aside0.mk hw
  have HLO := Aside0.mk hb
  have HBK := Aside0.mk hbk
  have HG : Aside0 (∀ W, Below w1.heap.size w1 W → W.cell? ⟨0, 0, none⟩ = some (.iface 73 (.pointer (some ga)))) := ⟨fun W h => (h.cell (World.block_lt_of_cell? w1 _ hG)).trans hG⟩
  have HG0 := Aside0.mk hG
  have HM := Aside0.mk hm
  have HN : Aside0 (l.length = n) := ⟨hR.1⟩
  have hc2 := hbk.cell 2 (v := .bool true) rfl
  clear hX hR hc hl hby hw hb hbk hG hm
  go_enter Tryd.func27, Tryd.ntmps27
  go_upto_region 3 with (fail)
  clear hc2
  refine wp_region_lit ?_
  refine Wk.arrL_ (Array.replicate 4 (.slice none 0 0)) (T := 65) (N1 := 19) (N2 := 7) rfl rfl rfl rfl rfl rfl (fun _ _ => by kernel_rfl) (fun _ _ => by kernel_rfl) rfl (by kernel_rfl) (by simp [Value.oneCell']) rfl rfl ?_
  intro w2 cur hB hblk hcur hsz
  simp only [Act.put, List.setIfInBounds_toArray, List.set_cons_zero, List.set_cons_succ]
  generalize Value.agg (Array.replicate 4 (.slice none 0 0)) = v8
  have HO := Aside0.mk (Wk.AR.made (base := w.heap.size) (n := 4) hblk (Nat.le_refl _) (by rw [← Array.length_toList, hcur]; simp) (by simp only [maxLen]; omega))
  have hshape : w2.shape? w.heap.size = some (65, 4) := Wk.shape_of hblk (by rw [← Array.length_toList, hcur]; simp)
  have HB := Aside0.mk hB
  clear hB hcur hsz hblk
  go_wp2_with fail
  clear hshape
  go_wp2
  go_loopg [8, 9, 23] n (fun k v8 v9 v23 w' => ∃ (i : Nat) (o : Option Nat) (ps : List (Nat × Nat)), i ≤ n ∧ v9 = .int .i64 (stI o) ∧ v23 = .int .i64 i ∧ Aside0 (n - i ≤ k ∧ ps ++ sp (l.drop i) i o = sp l 0 none ∧ ps.length ≤ i ∧ (∀ s, o = some s → s < i) ∧ Wk.AR w' w.heap.size v8 (ps.map (wv ad c)) ∧ Below w.heap.size w w'))
  case atStart => exact ⟨0, none, [], Nat.zero_le _, rfl, rfl, ⟨Nat.le_refl _, rfl, Nat.le_refl _, (fun s h => by cases h), HO.out, HB.out⟩⟩
  case round =>
    obtain ⟨i, o, ps, hi, rfl, rfl, HU⟩ := hrel
    clear HO HB
    have HK := Aside0.mk HU.out.1
    have HE := Aside0.mk HU.out.2.1
    have HPL : Aside0 (ps.length ≤ 1000000 ∧ ps.length ≤ i) := ⟨by have := HU.out.2.2.1; have := HL.out; omega, HU.out.2.2.1⟩
    have HS := Aside0.mk HU.out.2.2.2.1
    have HO := Aside0.mk HU.out.2.2.2.2.1
    have HB := Aside0.mk HU.out.2.2.2.2.2
    clear HU
    by_cases hlt : i < n
    · obtain rfl : X = some ad := HX.out (by omega)
      obtain ⟨x, hx⟩ : ∃ x, l[i]? = some x := ⟨_, List.getElem?_eq_getElem (by have := HN.out; omega)⟩
      have HD : Aside0 (l.drop i = x :: l.drop (i + 1)) := ⟨by rw [List.drop_eq_getElem_cons (by have := HN.out; omega), (List.getElem?_eq_some_iff.1 hx).2]⟩
      have hcell := cell_of (HR.out _ (HW.out.trans (HB.out.mono HW.out.size))) (Below.refl _ _) hx
      have i1 : (0 : Int) ≤ (i : Int) := by omega
      have i2 : (i : Int) < (n : Int) := by omega
      have e1 : IntKind.i64.wrap ((i : Int) + 1) = ((i + 1 : Nat) : Int) := by rw [IntKind.wrap_i64]; have := HL.out; omega
      clear hx
      by_cases hb : blank x = true
      · have h4 : x = 32 ∨ x = 9 := by
          simp only [blank, Bool.or_eq_true, beq_iff_eq] at hb
          exact hb
        cases o with
        | none =>
          have HE2 : Aside0 (ps ++ sp (l.drop (i + 1)) (i + 1) none = sp l 0 none) := ⟨by have := HE.out; rw [HD.out, sp, if_pos hb] at this; exact this⟩
          clear HE HD hb
          simp only [stI]
          rcases h4 with rfl | rfl
          all_goals
            go_wp2
            go_roundg (n - (i + 1))
            case measure => have := HK.out; omega
            case rel => exact ⟨i + 1, none, ps, by omega, rfl, by first | rfl | go_num, ⟨Nat.le_refl _, HE2.out, by have := HPL.out.2; omega, (fun s h => by cases h), HO.out, HB.out⟩⟩
        | some s =>
          have hs : s < i := HS.out s rfl
          have HE2 : Aside0 ((ps ++ [(s, i)]) ++ sp (l.drop (i + 1)) (i + 1) none = sp l 0 none) := ⟨by have := HE.out; rw [HD.out, sp, if_pos hb] at this; rw [List.append_assoc]; exact this⟩
          clear HE HD hb
          simp only [stI]
          have s1 : (0 : Int) ≤ (s : Int) := by omega
          have s2 : (s : Int) ≤ (i : Int) := by omega
          have s3 : (i : Int) ≤ (c : Int) := by have := HC.out; omega
          have s4 : ¬ c = s := by have := HC.out; omega
          have s5 : (i : Int) - (s : Int) = ((i - s : Nat) : Int) := by omega
          rcases h4 with rfl | rfl
          all_goals
            go_wp2_with (first | ((with_reducible refine gate_builtin (b := .append) (xs := #[.tmp 37, .tmp 42]) rfl ?_); at_builtin; refine Wk.AR.append (N := w.heap.size) (w0 := w) rfl (.tmp 37) (.tmp 42) 66 22 (.slice none 0 0) 24 rfl Tryd.underlying66 info22 rfl rfl (HO.out.alloc _) (Nat.le_refl _) ?cW (below_alloc HB.out _) _ _ (wv ad c (s, i)) rfl ?cU rfl ?cL ?c6 ?_; (case cW => have := HB.out.size; simp; omega); (case cU => exact (Bs.cell_at (cur := [_]) (heap_alloc_new _ _)).trans rfl); (case cL => have := HPL.out; rw [List.length_map]; omega); (case c6 => have := HPL.out; rw [List.length_map]; simp only [maxLen]; omega); intro v126 w11 q1 q2 q3 q4 q5; have HO2 := Aside0.mk q1; have HB2 := Aside0.mk q2; clear q1 q2 q3 q4 q5 HO HB))
            go_roundg (n - (i + 1))
            case measure => have := HK.out; omega
            case rel => exact ⟨i + 1, none, ps ++ [(s, i)], by omega, rfl, by first | rfl | go_num, ⟨Nat.le_refl _, HE2.out, by have := HPL.out.2; rw [List.length_append]; simp; omega, (fun s h => by cases h), by have := HO2.out; rw [List.map_append]; exact this, HB2.out⟩⟩
      · have n1 : (x == 32) = false := by simp only [blank, Bool.or_eq_true] at hb; simpa using fun h => hb (.inl (by simp [h]))
        have n2 : (x == 9) = false := by simp only [blank, Bool.or_eq_true] at hb; simpa using fun h => hb (.inr (by simp [h]))
        cases o with
        | none =>
          have HE2 : Aside0 (ps ++ sp (l.drop (i + 1)) (i + 1) (some i) = sp l 0 none) := ⟨by have := HE.out; rw [HD.out, sp, if_neg hb] at this; exact this⟩
          clear HE HD hb
          simp only [stI]
          go_wp2
          go_roundg (n - (i + 1))
          case measure => have := HK.out; omega
          case rel => exact ⟨i + 1, some i, ps, by omega, rfl, by first | rfl | go_num, ⟨Nat.le_refl _, HE2.out, by have := HPL.out.2; omega, (fun s h => by cases h; omega), HO.out, HB.out⟩⟩
        | some s =>
          have hs : s < i := HS.out s rfl
          have HE2 : Aside0 (ps ++ sp (l.drop (i + 1)) (i + 1) (some s) = sp l 0 none) := ⟨by have := HE.out; rw [HD.out, sp, if_neg hb] at this; exact this⟩
          clear HE HD hb
          simp only [stI]
          have s1 : ¬ (s : Int) < 0 := by omega
          go_wp2
          go_roundg (n - (i + 1))
          case measure => have := HK.out; omega
          case rel => exact ⟨i + 1, some s, ps, by omega, rfl, by first | rfl | go_num, ⟨Nat.le_refl _, HE2.out, by have := HPL.out.2; omega, (fun s h => by cases h; omega), HO.out, HB.out⟩⟩
    · obtain rfl : i = n := by omega
      have i2 : ¬ (i : Int) < (i : Int) := by omega
      have hdr : l.drop i = [] := List.drop_eq_nil_of_le (by have := HN.out; omega)
      have HDR := Aside0.mk hdr
      clear hdr
      go_upto_if 46 with (fail)
      go_cut [8] (fun v8 wc => Aside0 (Wk.AR wc w.heap.size v8 ((sp l 0 none).map (wv ad c)) ∧ Below w.heap.size w wc))
      case first =>
        cases o with
        | none =>
          have HE2 : Aside0 (sp l 0 none = ps) := ⟨by have := HE.out; rw [HDR.out, sp, List.append_nil] at this; exact this.symm⟩
          clear HE
          simp only [stI]
          go_wp2
          go_meet
          case rel => exact ⟨by rw [HE2.out]; exact HO.out, HB.out⟩
        | some s =>
          have hs : s < i := HS.out s rfl
          obtain rfl : X = some ad := HX.out (by omega)
          have HE2 : Aside0 (sp l 0 none = ps ++ [(s, i)]) := ⟨by have := HE.out; rw [HDR.out, sp] at this; exact this.symm⟩
          clear HE
          simp only [stI]
          have s1 : (0 : Int) ≤ (s : Int) := by omega
          have s2 : (s : Int) ≤ (i : Int) := by omega
          have s3 : (i : Int) ≤ (c : Int) := by have := HC.out; omega
          have s4 : ¬ c = s := by have := HC.out; omega
          go_wp2_with (first | ((with_reducible refine gate_builtin (b := .append) (xs := #[.tmp 47, .tmp 51]) rfl ?_); at_builtin; refine Wk.AR.append (N := w.heap.size) (w0 := w) rfl (.tmp 47) (.tmp 51) 66 22 (.slice none 0 0) 24 rfl Tryd.underlying66 info22 rfl rfl (HO.out.alloc _) (Nat.le_refl _) ?cW (below_alloc HB.out _) _ _ (wv ad c (s, i)) rfl ?cU rfl ?cL ?c6 ?_; (case cW => have := HB.out.size; simp; omega); (case cU => exact (Bs.cell_at (cur := [_]) (heap_alloc_new _ _)).trans rfl); (case cL => have := HPL.out; rw [List.length_map]; omega); (case c6 => have := HPL.out; rw [List.length_map]; simp only [maxLen]; omega); intro v126 w11 q1 q2 q3 q4 q5; have HO2 := Aside0.mk q1; have HB2 := Aside0.mk q2; clear q1 q2 q3 q4 q5 HO HB))
          go_meet
          case rel => exact ⟨by rw [HE2.out, List.map_append]; exact HO2.out, HB2.out⟩
      case rest =>
        have HO2 := Aside0.mk hcut.out.1
        have HB2 := Aside0.mk hcut.out.2
        clear hcut HO HB HE HK HS
        obtain ⟨g, cap, rfl, h1, h2, h3, h4⟩ := HO2.out.cell
        have hwl := HB2.out.size
        have hws := fun p hp => sp_bound l 0 none (fun s h => by cases h) p hp
        have HS0 : Aside0 (St w1 wc b g (cs0 most) ((sp l 0 none).map (wv ad c))) := ⟨⟨HBK.out.move (HB2.out.block b HBK.out.lt), h4, HW.out.trans (HB2.out.mono HW.out.size), HLO.out, by have := HBK.out.lt; omega⟩⟩
        have HP : Aside0 (∀ p ∈ sp l 0 none, p.1 < p.2 ∧ p.2 ≤ i) := ⟨fun p hp => by have := hws p hp; have := HN.out; omega⟩
        clear HO2 HB2 HBK h1 h2 h3 h4 hws hwl
        generalize hwz : sp l 0 none = ws at *
        clear hwz
        generalize wc = W0 at *
        rw [List.length_map] at *
        by_cases hw3 : ws.length = 3
        · obtain ⟨p, q, r, rfl⟩ : ∃ p q r, ws = [p, q, r] := by
            match ws, hw3 with
            | [p, q, r], _ => exact ⟨p, q, r, rfl⟩
          clear hw3
          simp only [List.length_cons, List.length_nil, Nat.zero_add, Nat.reduceAdd]
          have hz := HS0.out.blk.free 3
          have hc := HS0.out.blk.cell 3 (v := .slice none 0 0) rfl
          go_upto_region 21 with (fail)
          have HS1 := Aside0.mk (HS0.out.set 3 (by simp [cs0]) (.slice X i c))
          clear hz hc HS0
          generalize W0.setCell ⟨b, 3, none⟩ (.slice X i c) = W1 at *
          have hz := HS1.out.blk.free 4
          have hc := HS1.out.blk.cell 4 (v := .slice none 0 0) rfl
          have hl0 := HS1.out.at 0 (v := .slice (some (ad.add p.1)) (p.2 - p.1) (c - p.1)) rfl
          go_upto_region 25 with (fail)
          have HS2 := Aside0.mk (HS1.out.set 4 (by simp [cs0]) (.slice (some (ad.add p.1)) (p.2 - p.1) (c - p.1)))
          clear hz hc HS1 hl0
          generalize W1.setCell ⟨b, 4, none⟩ (.slice (some (ad.add p.1)) (p.2 - p.1) (c - p.1)) = W2 at *
          have hz := HS2.out.blk.free 5
          have hc := HS2.out.blk.cell 5 (v := .slice none 0 0) rfl
          go_upto_region 26 with (fail)
          have HS3 := Aside0.mk (HS2.out.set 5 (by simp [cs0]) (.slice none 0 0))
          clear hz hc HS2
          generalize W2.setCell ⟨b, 5, none⟩ (.slice none 0 0) = W3 at *
          have hz := HS3.out.blk.free 9
          have hc := HS3.out.blk.cell 9 (v := .int .i64 0) rfl
          have hl0 := HS3.out.at 1 (v := .slice (some (ad.add q.1)) (q.2 - q.1) (c - q.1)) rfl
          go_wp2_with fail
          refine (psz_wv HX.out (HR.out _ HS3.out.bel) HC.out HL.out HBY.out (HP.out q (by simp))).mono ?_
          rintro e w' ⟨rfl, hw⟩
          subst hw
          go_upto_region 27 with (fail)
          have HS4 := Aside0.mk (HS3.out.set 9 (by simp [cs0]) (.int .i64 (psz (cut l q))))
          clear hz hc HS3 hl0
          generalize W3.setCell ⟨b, 9, none⟩ (.int .i64 (psz (cut l q))) = W4 at *
          have hz := HS4.out.blk.free 8
          have hc := HS4.out.blk.cell 8 (v := .int .i64 0) rfl
          have hl0 := HS4.out.at 2 (v := .slice (some (ad.add r.1)) (r.2 - r.1) (c - r.1)) rfl
          go_wp2_with fail
          refine (psz_wv HX.out (HR.out _ HS4.out.bel) HC.out HL.out HBY.out (HP.out r (by simp))).mono ?_
          rintro e w' ⟨rfl, hw⟩
          subst hw
          go_upto_region 28 with (fail)
          have HS5 := Aside0.mk (HS4.out.set 8 (by simp [cs0]) (.int .i64 (psz (cut l r))))
          clear hz hc HS4 hl0
          generalize W4.setCell ⟨b, 8, none⟩ (.int .i64 (psz (cut l r))) = W5 at *
          have hz := HS5.out.blk.free 7
          have hc := HS5.out.blk.cell 7 (v := .slice none 0 0) rfl
          have hl0 := HS5.out.at 1 (v := .slice (some (ad.add q.1)) (q.2 - q.1) (c - q.1)) rfl
          go_upto_region 29 with (fail)
          have HS6 := Aside0.mk (HS5.out.set 7 (by simp [cs0]) (.slice (some (ad.add q.1)) (q.2 - q.1) (c - q.1)))
          clear hz hc HS5 hl0
          generalize W5.setCell ⟨b, 7, none⟩ (.slice (some (ad.add q.1)) (q.2 - q.1) (c - q.1)) = W6 at *
          have hz := HS6.out.blk.free 6
          have hc := HS6.out.blk.cell 6 (v := .slice none 0 0) rfl
          have hl0 := HS6.out.at 2 (v := .slice (some (ad.add r.1)) (r.2 - r.1) (c - r.1)) rfl
          go_upto_region 37 with (fail)
          have HS7 := Aside0.mk (HS6.out.set 6 (by simp [cs0]) (.slice (some (ad.add r.1)) (r.2 - r.1) (c - r.1)))
          clear hz hc HS6 hl0
          generalize W6.setCell ⟨b, 6, none⟩ (.slice (some (ad.add r.1)) (r.2 - r.1) (c - r.1)) = W7 at *
          have hh := HS7.out.blk.cell 9 (v := .int .i64 (psz (cut l q))) rfl
          have hzz := HS7.out.blk.cell 8 (v := .int .i64 (psz (cut l r))) rfl
          have hmm := HS7.out.blk.cell 1 (v := .int .i32 most) rfl
          have hld := load_ W7 ⟨b, 1, none⟩ most hmm
          have hgl := HG.out _ HS7.out.bel
          generalize HH : (psz (cut l q)) = h at *
          generalize HZ : (psz (cut l r)) = z at *
          replace HH := Aside0.mk HH
          replace HZ := Aside0.mk HZ
          by_cases t1 : h < 0
          · go_wp2_with fail
            refine (new_calls _ _).mono ?_
            rintro e w' ⟨rfl, hw⟩
            subst hw
            go_wp2
            go_ret
            refine ⟨_, _, rfl, ⟨fun hk => ?_, fun hk => ?_, fun hk => ?_⟩, HS7.out.blk.alloc _, rfl, rfl, (by simp only [hps, HH.out]; rfl), (by simp only [hps, HZ.out]; rfl), HS7.out.bel.alloc HS7.out.bel.size _⟩
            · exfalso; simp only [hps, HH.out, HZ.out] at hk; unfold kindOf at hk; (repeat' split at hk) <;> omega
            · exact ⟨_, _, rfl, HS7.out.bel.size, heap_alloc_new _ _⟩
            · exfalso; simp only [hps, HH.out, HZ.out] at hk; unfold kindOf at hk; (repeat' split at hk) <;> omega
          by_cases t2 : z < 0
          · go_wp2_with fail
            refine (new_calls _ _).mono ?_
            rintro e w' ⟨rfl, hw⟩
            subst hw
            go_wp2
            go_ret
            refine ⟨_, _, rfl, ⟨fun hk => ?_, fun hk => ?_, fun hk => ?_⟩, HS7.out.blk.alloc _, rfl, rfl, (by simp only [hps, HH.out]; rfl), (by simp only [hps, HZ.out]; rfl), HS7.out.bel.alloc HS7.out.bel.size _⟩
            · exfalso; simp only [hps, HH.out, HZ.out] at hk; unfold kindOf at hk; (repeat' split at hk) <;> omega
            · exact ⟨_, _, rfl, HS7.out.bel.size, heap_alloc_new _ _⟩
            · exfalso; simp only [hps, HH.out, HZ.out] at hk; unfold kindOf at hk; (repeat' split at hk) <;> omega
          go_upto_region 41 with (fail)
          by_cases t3 : z < h
          · have t3d : decide (z < h) = true := decide_eq_true t3
            go_quiet (fail)
            have HS8 := Aside0.mk (HS7.out.drewN nq)
            clear HS7 hh hzz hmm hld hgl
            generalize W7.drewN nq = W8 at *
            go_wp2_with fail
            refine (new_calls _ _).mono ?_
            rintro e w' ⟨rfl, hw⟩
            subst hw
            go_wp2
            go_ret
            refine ⟨_, _, rfl, ⟨fun hk => ?_, fun hk => ?_, fun hk => ?_⟩, HS8.out.blk.alloc _, rfl, rfl, (by simp only [hps, HH.out]; rfl), (by simp only [hps, HZ.out]; rfl), HS8.out.bel.alloc HS8.out.bel.size _⟩
            · exfalso; simp only [hps, HH.out, HZ.out] at hk; unfold kindOf at hk; (repeat' split at hk) <;> omega
            · exact ⟨_, _, rfl, HS8.out.bel.size, heap_alloc_new _ _⟩
            · exfalso; simp only [hps, HH.out, HZ.out] at hk; unfold kindOf at hk; (repeat' split at hk) <;> omega
          have t3d : decide (z < h) = false := decide_eq_false t3
          go_quiet (fail)
          have HS8 := Aside0.mk (HS7.out.drewN nq)
          clear HS7 hh hzz hmm hld hgl
          generalize W7.drewN nq = W8 at *
          have hh := HS8.out.blk.cell 9 (v := .int .i64 h) rfl
          have hzz := HS8.out.blk.cell 8 (v := .int .i64 z) rfl
          have hmm := HS8.out.blk.cell 1 (v := .int .i32 most) rfl
          have hld := load_ W8 ⟨b, 1, none⟩ most hmm
          have hgl := HG.out _ HS8.out.bel
          have m0 : -2147483648 ≤ most := HM.out.1
          have m1 : most ≤ 2147483647 := HM.out.2
          by_cases t4 : most = -1
          · have t4d : (most != -1) = false := by simp [t4]
            have HT4 := Aside0.mk t4
            clear t4
            go_wp2
            go_ret
            refine ⟨_, _, rfl, ⟨fun hk => ?_, fun hk => ?_, fun hk => ?_⟩, HS8.out.blk, rfl, rfl, (by simp only [hps, HH.out]; rfl), (by simp only [hps, HZ.out]; rfl), HS8.out.bel⟩
            · rfl
            · exfalso; have t4 := HT4.out; simp only [hps, HH.out, HZ.out] at hk; unfold kindOf at hk; (repeat' split at hk) <;> omega
            · exfalso; have t4 := HT4.out; simp only [hps, HH.out, HZ.out] at hk; unfold kindOf at hk; (repeat' split at hk) <;> omega
          have t4d : (most != -1) = true := by simpa using t4
          by_cases t5 : most < z
          · go_wp2
            go_ret
            refine ⟨_, _, rfl, ⟨fun hk => ?_, fun hk => ?_, fun hk => ?_⟩, HS8.out.blk, rfl, rfl, (by simp only [hps, HH.out]; rfl), (by simp only [hps, HZ.out]; rfl), HS8.out.bel⟩
            · exfalso; simp only [hps, HH.out, HZ.out] at hk; unfold kindOf at hk; (repeat' split at hk) <;> omega
            · exfalso; simp only [hps, HH.out, HZ.out] at hk; unfold kindOf at hk; (repeat' split at hk) <;> omega
            · exact HG0.out
          go_wp2
          go_ret
          refine ⟨_, _, rfl, ⟨fun hk => ?_, fun hk => ?_, fun hk => ?_⟩, HS8.out.blk, rfl, rfl, (by simp only [hps, HH.out]; rfl), (by simp only [hps, HZ.out]; rfl), HS8.out.bel⟩
          · rfl
          · exfalso; simp only [hps, HH.out, HZ.out] at hk; unfold kindOf at hk; (repeat' split at hk) <;> omega
          · exfalso; simp only [hps, HH.out, HZ.out] at hk; unfold kindOf at hk; (repeat' split at hk) <;> omega
        by_cases hw4 : ws.length = 4
        · obtain ⟨p, q, r, s, rfl⟩ : ∃ p q r s, ws = [p, q, r, s] := by
            match ws, hw4 with
            | [p, q, r, s], _ => exact ⟨p, q, r, s, rfl⟩
          clear hw3 hw4
          simp only [List.length_cons, List.length_nil, Nat.zero_add, Nat.reduceAdd]
          have hz := HS0.out.blk.free 3
          have hc := HS0.out.blk.cell 3 (v := .slice none 0 0) rfl
          go_upto_region 21 with (fail)
          have HS1 := Aside0.mk (HS0.out.set 3 (by simp [cs0]) (.slice X i c))
          clear hz hc HS0
          generalize W0.setCell ⟨b, 3, none⟩ (.slice X i c) = W1 at *
          have hz := HS1.out.blk.free 4
          have hc := HS1.out.blk.cell 4 (v := .slice none 0 0) rfl
          have hl0 := HS1.out.at 0 (v := .slice (some (ad.add p.1)) (p.2 - p.1) (c - p.1)) rfl
          go_upto_region 32 with (fail)
          have HS2 := Aside0.mk (HS1.out.set 4 (by simp [cs0]) (.slice (some (ad.add p.1)) (p.2 - p.1) (c - p.1)))
          clear hz hc HS1 hl0
          generalize W1.setCell ⟨b, 4, none⟩ (.slice (some (ad.add p.1)) (p.2 - p.1) (c - p.1)) = W2 at *
          have hz := HS2.out.blk.free 5
          have hc := HS2.out.blk.cell 5 (v := .slice none 0 0) rfl
          have hl0 := HS2.out.at 1 (v := .slice (some (ad.add q.1)) (q.2 - q.1) (c - q.1)) rfl
          go_upto_region 33 with (fail)
          have HS3 := Aside0.mk (HS2.out.set 5 (by simp [cs0]) (.slice (some (ad.add q.1)) (q.2 - q.1) (c - q.1)))
          clear hz hc HS2 hl0
          generalize W2.setCell ⟨b, 5, none⟩ (.slice (some (ad.add q.1)) (q.2 - q.1) (c - q.1)) = W3 at *
          have hz := HS3.out.blk.free 9
          have hc := HS3.out.blk.cell 9 (v := .int .i64 0) rfl
          have hl0 := HS3.out.at 2 (v := .slice (some (ad.add r.1)) (r.2 - r.1) (c - r.1)) rfl
          go_wp2_with fail
          refine (psz_wv HX.out (HR.out _ HS3.out.bel) HC.out HL.out HBY.out (HP.out r (by simp))).mono ?_
          rintro e w' ⟨rfl, hw⟩
          subst hw
          go_upto_region 34 with (fail)
          have HS4 := Aside0.mk (HS3.out.set 9 (by simp [cs0]) (.int .i64 (psz (cut l r))))
          clear hz hc HS3 hl0
          generalize W3.setCell ⟨b, 9, none⟩ (.int .i64 (psz (cut l r))) = W4 at *
          have hz := HS4.out.blk.free 8
          have hc := HS4.out.blk.cell 8 (v := .int .i64 0) rfl
          have hl0 := HS4.out.at 3 (v := .slice (some (ad.add s.1)) (s.2 - s.1) (c - s.1)) rfl
          go_wp2_with fail
          refine (psz_wv HX.out (HR.out _ HS4.out.bel) HC.out HL.out HBY.out (HP.out s (by simp))).mono ?_
          rintro e w' ⟨rfl, hw⟩
          subst hw
          go_upto_region 35 with (fail)
          have HS5 := Aside0.mk (HS4.out.set 8 (by simp [cs0]) (.int .i64 (psz (cut l s))))
          clear hz hc HS4 hl0
          generalize W4.setCell ⟨b, 8, none⟩ (.int .i64 (psz (cut l s))) = W5 at *
          have hz := HS5.out.blk.free 7
          have hc := HS5.out.blk.cell 7 (v := .slice none 0 0) rfl
          have hl0 := HS5.out.at 2 (v := .slice (some (ad.add r.1)) (r.2 - r.1) (c - r.1)) rfl
          go_upto_region 36 with (fail)
          have HS6 := Aside0.mk (HS5.out.set 7 (by simp [cs0]) (.slice (some (ad.add r.1)) (r.2 - r.1) (c - r.1)))
          clear hz hc HS5 hl0
          generalize W5.setCell ⟨b, 7, none⟩ (.slice (some (ad.add r.1)) (r.2 - r.1) (c - r.1)) = W6 at *
          have hz := HS6.out.blk.free 6
          have hc := HS6.out.blk.cell 6 (v := .slice none 0 0) rfl
          have hl0 := HS6.out.at 3 (v := .slice (some (ad.add s.1)) (s.2 - s.1) (c - s.1)) rfl
          go_upto_region 37 with (fail)
          have HS7 := Aside0.mk (HS6.out.set 6 (by simp [cs0]) (.slice (some (ad.add s.1)) (s.2 - s.1) (c - s.1)))
          clear hz hc HS6 hl0
          generalize W6.setCell ⟨b, 6, none⟩ (.slice (some (ad.add s.1)) (s.2 - s.1) (c - s.1)) = W7 at *
          have hh := HS7.out.blk.cell 9 (v := .int .i64 (psz (cut l r))) rfl
          have hzz := HS7.out.blk.cell 8 (v := .int .i64 (psz (cut l s))) rfl
          have hmm := HS7.out.blk.cell 1 (v := .int .i32 most) rfl
          have hld := load_ W7 ⟨b, 1, none⟩ most hmm
          have hgl := HG.out _ HS7.out.bel
          generalize HH : (psz (cut l r)) = h at *
          generalize HZ : (psz (cut l s)) = z at *
          replace HH := Aside0.mk HH
          replace HZ := Aside0.mk HZ
          by_cases t1 : h < 0
          · go_wp2_with fail
            refine (new_calls _ _).mono ?_
            rintro e w' ⟨rfl, hw⟩
            subst hw
            go_wp2
            go_ret
            refine ⟨_, _, rfl, ⟨fun hk => ?_, fun hk => ?_, fun hk => ?_⟩, HS7.out.blk.alloc _, rfl, rfl, (by simp only [hps, HH.out]; rfl), (by simp only [hps, HZ.out]; rfl), HS7.out.bel.alloc HS7.out.bel.size _⟩
            · exfalso; simp only [hps, HH.out, HZ.out] at hk; unfold kindOf at hk; (repeat' split at hk) <;> omega
            · exact ⟨_, _, rfl, HS7.out.bel.size, heap_alloc_new _ _⟩
            · exfalso; simp only [hps, HH.out, HZ.out] at hk; unfold kindOf at hk; (repeat' split at hk) <;> omega
          by_cases t2 : z < 0
          · go_wp2_with fail
            refine (new_calls _ _).mono ?_
            rintro e w' ⟨rfl, hw⟩
            subst hw
            go_wp2
            go_ret
            refine ⟨_, _, rfl, ⟨fun hk => ?_, fun hk => ?_, fun hk => ?_⟩, HS7.out.blk.alloc _, rfl, rfl, (by simp only [hps, HH.out]; rfl), (by simp only [hps, HZ.out]; rfl), HS7.out.bel.alloc HS7.out.bel.size _⟩
            · exfalso; simp only [hps, HH.out, HZ.out] at hk; unfold kindOf at hk; (repeat' split at hk) <;> omega
            · exact ⟨_, _, rfl, HS7.out.bel.size, heap_alloc_new _ _⟩
            · exfalso; simp only [hps, HH.out, HZ.out] at hk; unfold kindOf at hk; (repeat' split at hk) <;> omega
          go_upto_region 41 with (fail)
          by_cases t3 : z < h
          · have t3d : decide (z < h) = true := decide_eq_true t3
            go_quiet (fail)
            have HS8 := Aside0.mk (HS7.out.drewN nq)
            clear HS7 hh hzz hmm hld hgl
            generalize W7.drewN nq = W8 at *
            go_wp2_with fail
            refine (new_calls _ _).mono ?_
            rintro e w' ⟨rfl, hw⟩
            subst hw
            go_wp2
            go_ret
            refine ⟨_, _, rfl, ⟨fun hk => ?_, fun hk => ?_, fun hk => ?_⟩, HS8.out.blk.alloc _, rfl, rfl, (by simp only [hps, HH.out]; rfl), (by simp only [hps, HZ.out]; rfl), HS8.out.bel.alloc HS8.out.bel.size _⟩
            · exfalso; simp only [hps, HH.out, HZ.out] at hk; unfold kindOf at hk; (repeat' split at hk) <;> omega
            · exact ⟨_, _, rfl, HS8.out.bel.size, heap_alloc_new _ _⟩
            · exfalso; simp only [hps, HH.out, HZ.out] at hk; unfold kindOf at hk; (repeat' split at hk) <;> omega
          have t3d : decide (z < h) = false := decide_eq_false t3
          go_quiet (fail)
          have HS8 := Aside0.mk (HS7.out.drewN nq)
          clear HS7 hh hzz hmm hld hgl
          generalize W7.drewN nq = W8 at *
          have hh := HS8.out.blk.cell 9 (v := .int .i64 h) rfl
          have hzz := HS8.out.blk.cell 8 (v := .int .i64 z) rfl
          have hmm := HS8.out.blk.cell 1 (v := .int .i32 most) rfl
          have hld := load_ W8 ⟨b, 1, none⟩ most hmm
          have hgl := HG.out _ HS8.out.bel
          have m0 : -2147483648 ≤ most := HM.out.1
          have m1 : most ≤ 2147483647 := HM.out.2
          by_cases t4 : most = -1
          · have t4d : (most != -1) = false := by simp [t4]
            have HT4 := Aside0.mk t4
            clear t4
            go_wp2
            go_ret
            refine ⟨_, _, rfl, ⟨fun hk => ?_, fun hk => ?_, fun hk => ?_⟩, HS8.out.blk, rfl, rfl, (by simp only [hps, HH.out]; rfl), (by simp only [hps, HZ.out]; rfl), HS8.out.bel⟩
            · rfl
            · exfalso; have t4 := HT4.out; simp only [hps, HH.out, HZ.out] at hk; unfold kindOf at hk; (repeat' split at hk) <;> omega
            · exfalso; have t4 := HT4.out; simp only [hps, HH.out, HZ.out] at hk; unfold kindOf at hk; (repeat' split at hk) <;> omega
          have t4d : (most != -1) = true := by simpa using t4
          by_cases t5 : most < z
          · go_wp2
            go_ret
            refine ⟨_, _, rfl, ⟨fun hk => ?_, fun hk => ?_, fun hk => ?_⟩, HS8.out.blk, rfl, rfl, (by simp only [hps, HH.out]; rfl), (by simp only [hps, HZ.out]; rfl), HS8.out.bel⟩
            · exfalso; simp only [hps, HH.out, HZ.out] at hk; unfold kindOf at hk; (repeat' split at hk) <;> omega
            · exfalso; simp only [hps, HH.out, HZ.out] at hk; unfold kindOf at hk; (repeat' split at hk) <;> omega
            · exact HG0.out
          go_wp2
          go_ret
          refine ⟨_, _, rfl, ⟨fun hk => ?_, fun hk => ?_, fun hk => ?_⟩, HS8.out.blk, rfl, rfl, (by simp only [hps, HH.out]; rfl), (by simp only [hps, HZ.out]; rfl), HS8.out.bel⟩
          · rfl
          · exfalso; simp only [hps, HH.out, HZ.out] at hk; unfold kindOf at hk; (repeat' split at hk) <;> omega
          · exfalso; simp only [hps, HH.out, HZ.out] at hk; unfold kindOf at hk; (repeat' split at hk) <;> omega
        have HWS : Aside0 (hps ws l most = (none, none, 0, 0, 1)) := ⟨by
          unfold hps
          split
          · exact absurd rfl hw3
          · exact absurd rfl hw4
          · rfl⟩
        have e3 : ((ws.length : Int) == 3) = false := beq_eq_false_iff_ne.2 (by omega)
        have e4 : ((ws.length : Int) == 4) = false := beq_eq_false_iff_ne.2 (by omega)
        have f3 : (ws.length == 3) = false := beq_eq_false_iff_ne.2 hw3
        have f4 : (ws.length == 4) = false := beq_eq_false_iff_ne.2 hw4
        clear hw3 hw4
        have hz := HS0.out.blk.free 3
        have hc := HS0.out.blk.cell 3 (v := .slice none 0 0) rfl
        go_upto_region 21 with (fail)
        have HS1 := Aside0.mk (HS0.out.set 3 (by simp [cs0]) (.slice X i c))
        clear hz hc HS0
        generalize W0.setCell ⟨b, 3, none⟩ (.slice X i c) = W1 at *
        go_wp2_with fail
        refine (new_calls _ _).mono ?_
        rintro e w' ⟨rfl, hw⟩
        subst hw
        go_wp2
        go_ret
        rw [HWS.out]
        refine ⟨_, _, rfl, ⟨fun hk => ?_, fun hk => ?_, fun hk => ?_⟩, HS1.out.blk.alloc _, rfl, rfl, rfl, rfl, HS1.out.bel.alloc HS1.out.bel.size _⟩
        · exact absurd hk (by decide)
        · exact ⟨_, _, rfl, HS1.out.bel.size, heap_alloc_new _ _⟩
        · exact absurd hk (by decide)
end Go.Proofs.YtnkioieocjgekaaDoor.Hd
