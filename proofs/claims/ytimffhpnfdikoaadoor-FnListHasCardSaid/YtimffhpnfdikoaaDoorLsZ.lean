/- A subject is taken apart on the spot; hasInterest, HasInterest, NumInterest. -/
import Derived.Test.YtimffhpnfdikoaaDoorLsY
namespace Go.Proofs.YtimffhpnfdikoaaDoor.Ls
open Go.RowKit Go.Maps Go.Proofs.YtimffhpnfdikoaaDoor.Pl Go.Proofs.YtimffhpnfdikoaaDoor.Bs Go.Proofs.YtimffhpnfdikoaaDoorW.PrintWords Go.Proofs.YtimffhpnfdikoaaDoorW.PrintLast Go.Proofs.YtimffhpnfdikoaaDoorW.PrintMore Go.Proofs.YtimffhpnfdikoaaDoor.GFnListKinds Go.Proofs.YtimffhpnfdikoaaDoor.PlFnListKinds
set_option linter.unusedVariables false
set_option linter.unusedSimpArgs false
/-- A subject on its way apart: 'out' are behind, the next token begins at a, n bytes are read. -/
def TkS (s : ByteArray) (a n : Nat) (out : Path) : Prop := ∃ pre p rest : List UInt8, s = ba (pre ++ p ++ rest) ∧ a = pre.length ∧ n = pre.length + p.length ∧ tk s = out ++ (toksA p rest).map ba
theorem TkS.start (s : ByteArray) : TkS s 0 0 [] := ⟨[], [], s.data.toList, rfl, rfl, rfl, rfl⟩
theorem TkS.le {s : ByteArray} {a n : Nat} {out : Path} (h : TkS s a n out) : a ≤ n ∧ n ≤ s.size := by
  obtain ⟨pre, p, rest, h1, h2, h3, h4⟩ := h
  have : s.size = pre.length + p.length + rest.length := by rw [h1, ba_size]; simp; omega
  omega
theorem TkS.outl {s : ByteArray} {a n : Nat} {out : Path} (h : TkS s a n out) : out.length + 1 ≤ (tk s).length := by
  obtain ⟨pre, p, rest, h1, h2, h3, h4⟩ := h
  rw [h4, List.length_append, List.length_map, toksA_len]
  omega
theorem TkS.dot {s : ByteArray} {a n : Nat} {out : Path} (h : TkS s a n out) (hn : n < s.size) (hb : bt s (n : Int) = 46) (he : ∀ t ∈ tk s, t.size ≠ 0) : a < n ∧ TkS s (n + 1) (n + 1) (out ++ [s.extract a n]) := by
  obtain ⟨pre, p, rest, h1, h2, h3, h4⟩ := h
  cases rest with
  | nil => rw [h1, ba_size] at hn; simp at hn; omega
  | cons c rest =>
    have hc : bt s (n : Int) = (c.toNat : Int) := bt_mid (pre ++ p) c rest h1 (by simp; omega)
    rw [hc] at hb
    have hc6 : c = 46 := (toNat_eq (n := 46) (by omega)).1 hb
    subst hc6
    have hx : s.extract a n = ba p := by
      have := ext_mid (s := s) (a := (a : Int)) (b := (n : Int)) pre p (46 :: rest) h1 (by omega) (by omega)
      simpa using this
    rw [toksA_dot] at h4
    have hp : p ≠ [] := fun e => he (ba p) (by rw [h4]; simp) (by rw [e]; rfl)
    have hl : 0 < p.length := List.length_pos_iff.2 hp
    refine ⟨by omega, pre ++ p ++ [46], [], rest, by rw [h1]; simp, by simp; omega, by simp; omega, ?_⟩
    rw [h4, hx]
    simp
theorem TkS.other {s : ByteArray} {a n : Nat} {out : Path} (h : TkS s a n out) (hn : n < s.size) (hb : bt s (n : Int) ≠ 46) : TkS s a (n + 1) out := by
  obtain ⟨pre, p, rest, h1, h2, h3, h4⟩ := h
  cases rest with
  | nil => rw [h1, ba_size] at hn; simp at hn; omega
  | cons c rest =>
    have hc : bt s (n : Int) = (c.toNat : Int) := bt_mid (pre ++ p) c rest h1 (by simp; omega)
    have hc6 : c ≠ 46 := fun e => hb (by rw [hc, e]; rfl)
    refine ⟨pre, p ++ [c], rest, by rw [h1]; simp, h2, by simp; omega, ?_⟩
    rw [h4, toksA_other _ hc6]
theorem TkS.done {s : ByteArray} {a : Nat} {out : Path} (h : TkS s a s.size out) (he : ∀ t ∈ tk s, t.size ≠ 0) : a < s.size ∧ tk s = out ++ [s.extract a s.size] := by
  obtain ⟨pre, p, rest, h1, h2, h3, h4⟩ := h
  have hz : s.size = pre.length + p.length + rest.length := by rw [h1, ba_size]; simp; omega
  have hr : rest = [] := List.length_eq_zero_iff.1 (by omega)
  subst hr
  have hx : s.extract a s.size = ba p := by
    have := ext_end (s := s) (a := (a : Int)) pre p (by rw [h1, List.append_nil]) (by omega)
    simpa using this
  have h5 : tk s = out ++ [ba p] := h4
  have hp : p ≠ [] := fun e => he (ba p) (by rw [h5]; simp) (by rw [e]; rfl)
  have hl : 0 < p.length := List.length_pos_iff.2 hp
  exact ⟨by omega, by rw [h5, hx]⟩
abbrev S9 : TypeId → Prop := fun T => T = 106 ∨ T = 9
theorem info9b : (Tryd.prog.info? 9).map (fun i => (i.zero, i.size, i.bytes)) = some (some (.string .empty), 1, 16) := by kernel_rfl
theorem ek9 : ∃ i, ElemK Tryd.prog 51 9 i (.string .empty) 1 16 := elem_of Tryd.underlying51 info9b (by decide) (by decide) (by decide)
theorem lits_z106 : (Array.replicate 32 (Value.string .empty)).size = 32 := by simp
/-- What a question for interest answers. -/
structure HasPost (w : World) (B K : Nat) (sub : Path → Int → Option ByteArray) (s : ByteArray) (np : Option Nat) (e : Ending) (w' : World) : Prop where
  out : ∃ b : Bool, e = .returned (.bool b) ∧ (b = true ↔ HitP sub [] (tk s)) ∧ ∃ c : Nat, NpA w' np (c : Int) ∧ (b = false → c = 0) ∧ (b = true → 0 < c) ∧ c ≤ K + 1
  fr : Fr (fun k => B ≤ k) w w'
/-- A literal subject's tokens. -/
structure Lits (s : ByteArray) : Prop where
  size : s.size ≤ 900
  all : ∀ t ∈ tk s, t ≠ star ∧ t ≠ full ∧ t.size ≠ 0
section
set_option maxHeartbeats 16000000
set_option maxRecDepth 100000
theorem has_calls {w : World} {B L K : Nat} {sub : Path → Int → Option ByteArray} {ex : Prop} {cnt : Int} {s : ByteArray} {np : Option Nat} (h : Li w B L K sub ex cnt) (hex : ex) (hok : ∀ q v t, sub q v = some t → okF false q = true) (hs : Lits s) (hnp : NpA w np 0) (hnB : ∀ k, np = some k → B ≤ k) (hK : K < 1000000) :
    Calls Tryd.prog 55 #[.pointer (some ⟨L, 0, none⟩), .string s, .bool true, ptrA np] w (HasPost w B K sub s np) := by
  obtain ⟨nd, lv, hX⟩ := h
  obtain ⟨i9, hE9⟩ := ek9
  have HE := Aside0.mk hE9
  have HFN : Aside0 (Fine nd sub) := ⟨⟨hX.out, hX.live hex, hok⟩⟩
  have HX := Aside0.mk hX
  obtain ⟨xr, hxr, hh⟩ := hX.head
  have HR := Aside0.mk hxr
  have HH := Aside0.mk hh
  have HS := Aside0.mk hs
  have HNP := Aside0.mk hnp
  have HNB := Aside0.mk hnB
  have HK := Aside0.mk hK
  have hz : s.size ≤ 900 := hs.size
  rw [ptrA_eq]
  clear hX hE9 hxr hh hs hnp hnB hK hok hex
  go_enter_defers Tryd.func55, Tryd.ntmps55
  go_upto_region 1 with (fail)
  refine wp_region_lit ?_
  refine Wk.arrL_ (Array.replicate 32 (.string .empty)) (T := 106) (N1 := 13) (N2 := 9) rfl rfl rfl rfl rfl rfl (fun _ _ => by kernel_rfl) (fun _ _ => by kernel_rfl) rfl (by kernel_rfl) (by simp [Value.oneCell']) rfl rfl ?_
  intro w2 cur hB2 hblk hcur hsz
  simp only [Act.put, List.setIfInBounds_toArray, List.set_cons_zero, List.set_cons_succ]
  generalize Value.agg (Array.replicate 32 (.string .empty)) = v13
  have hsh : w2.shape? w.heap.size = some (106, 32) := Wk.shape_of hblk (by rw [← Array.length_toList, hcur]; simp)
  have HA0 : Aside0 (AG S9 w2 w.heap.size 1 (.slice (some ⟨w.heap.size, 0, none⟩) 0 32) 0 [] ∧ Same w w2) := ⟨AG.made hblk (.inl rfl) (Nat.le_refl _) (by rw [← Array.length_toList, hcur]; simp) (by decide), fr_of_below hB2⟩
  clear hB2 hblk hcur hsz
  obtain ⟨P0, hP0⟩ : ∃ P0, P0 = w.heap.size := ⟨_, rfl⟩
  rw [← hP0] at HA0 hsh ⊢
  have HP0 := Aside0.mk hP0
  clear hP0
  go_wp2_with fail
  go_loopg [10, 11, 12] s.size (fun kq v10 v11 v12 wr => ∃ (a n : Nat) (out : Path), v11 = .int .i64 (a : Int) ∧ v12 = .int .i64 (n : Int) ∧ Aside0 (kq + n = s.size) ∧ Aside0 (TkS s a n out) ∧ Aside0 (AG S9 wr P0 1 v10 out.length (out.map Value.string)) ∧ Aside0 (Same w wr))
  case atStart => exact ⟨0, 0, [], rfl, rfl, ⟨by omega⟩, ⟨TkS.start s⟩, ⟨HA0.out.1⟩, ⟨HA0.out.2⟩⟩
  case round =>
    obtain ⟨a, n, out, rfl, rfl, HI, HT, HA, HW⟩ := hrel
    have HLE := Aside0.mk HT.out.le
    have HOL : Aside0 (out.length ≤ 2000) := ⟨by have := HT.out.outl; have := tk_len s; omega⟩
    have HPW : Aside0 (P0 ≤ wr.heap.size) := ⟨by rw [HP0.out]; exact HW.out.size⟩
    obtain ⟨g, cap, cur, T', hvv, -, -, hgb, -, -⟩ := HA.out.block
    obtain ⟨v10, hv10⟩ : ∃ v10, u10 = v10 := ⟨_, rfl⟩
    rw [hv10] at HA hvv
    rw [hv10]
    subst hvv
    have HGB := Aside0.mk hgb
    clear hv10 u10 hgb
    by_cases hlt : n < s.size
    · have n0 : (0 : Int) ≤ (n : Int) := by omega
      have n1 : (n : Int) < (s.size : Int) := by omega
      have n2 : decide ((n : Int) < (s.size : Int)) = true := decide_eq_true n1
      have n3 : IntKind.i64.wrap ((n : Int) + 1) = (n : Int) + 1 := by rw [IntKind.wrap_i64]; omega
      have hx : ((s[n]'hlt).toNat : Int) = bt s (n : Int) := bt_at s (n : Int) hlt
      have HLT := Aside0.mk hlt
      replace n0 := eq_true n0
      replace n1 := eq_true n1
      by_cases h46 : bt s (n : Int) = 46
      · have e46 : (((s[n]'hlt).toNat : Int) == 46) = true := by rw [hx, h46]; rfl
        obtain ⟨h1, h2⟩ := HT.out.dot hlt h46 (fun t ht => (HS.out.all t ht).2.2)
        have HT2 := Aside0.mk h2
        have w1 : IntKind.i64.wrap ((n : Int) - (a : Int)) = (n : Int) - (a : Int) := by rw [IntKind.wrap_i64]; omega
        have w3 : (((n : Int) - (a : Int)) == 0) = false := by rw [beq_eq_false_iff_ne]; omega
        have a0 : (0 : Int) ≤ (a : Int) := by omega
        have a1 : (a : Int) ≤ (n : Int) := by omega
        have a2 : (n : Int) ≤ (s.size : Int) := by omega
        have HRN : Aside0 (ReadG (wr.alloc (.cells #[.string (s.extract a n)] 9)) (some ⟨wr.heap.size, 0, none⟩) 1 1 [.string (s.extract a n)]) := ⟨read_newG (us := [.string (s.extract a n)]) (by rfl) (by intro u hu; simp only [List.mem_cons, List.not_mem_nil, or_false] at hu; rcases hu with rfl; rfl)⟩
        have w2 : wrap64 ((n : Int) - (a : Int)) = (n : Int) - (a : Int) := Pl.w64 (by omega) (by omega)
        clear h46 h1 h2 hx
        go_upto_region 10 with (fail)
        go_upto_region 11 with (first | (at_builtin; refine AG.append HE.out rfl (.tmp 29) (.tmp 34) rfl (.inr rfl) (v := .slice (some ⟨g, 0, none⟩) out.length cap) rfl (HA.out.alloc _) (by have := HPW.out; simp; omega) rfl HRN.out (by decide) (by have := HOL.out; omega) ?_; intro v' w5 hp5; have HP5 := Aside0.mk hp5; clear hp5) | fail)
        have HW5 : Aside0 (Same w w5) := ⟨(HW.out.alloc _).trans HP5.out.fr (fun k hk e => by
          have : g = k := by simpa [Value.ownBlock] using e
          have := HGB.out
          have := HP0.out
          omega)⟩
        go_wp2_with fail
        go_roundg (s.size - (n + 1))
        case measure => have := HI.out; have := HLT.out; omega
        case rel => exact ⟨n + 1, n + 1, out ++ [s.extract a n], rfl, rfl, ⟨by have := HLT.out; omega⟩, HT2, ⟨by have := HP5.out.row; simpa using this⟩, HW5⟩
      · have e46 : (((s[n]'hlt).toNat : Int) == 46) = false := by rw [beq_eq_false_iff_ne, hx]; exact h46
        have HT2 := Aside0.mk (HT.out.other hlt h46)
        clear h46 hx
        go_wp2_with fail
        go_roundg (s.size - (n + 1))
        case measure => have := HI.out; have := HLT.out; omega
        case rel => exact ⟨a, n + 1, out, rfl, rfl, ⟨by have := HLT.out; omega⟩, HT2, HA, HW⟩
    · have hie : n = s.size := by have := HI.out; omega
      subst hie
      have n2 : decide ((s.size : Int) < (s.size : Int)) = false := decide_eq_false (by omega)
      obtain ⟨h1, h2⟩ := HT.out.done (fun t ht => (HS.out.all t ht).2.2)
      have HTK := Aside0.mk h2
      have a3 : decide ((a : Int) ≥ (s.size : Int)) = false := decide_eq_false (by omega)
      have a0 : (0 : Int) ≤ (a : Int) := by omega
      have a1 : (a : Int) ≤ (s.size : Int) := by omega
      have HRN : Aside0 (ReadG (wr.alloc (.cells #[.string (s.extract a s.size)] 9)) (some ⟨wr.heap.size, 0, none⟩) 1 1 [.string (s.extract a s.size)]) := ⟨read_newG (us := [.string (s.extract a s.size)]) (by rfl) (by intro u hu; simp only [List.mem_cons, List.not_mem_nil, or_false] at hu; rcases hu with rfl; rfl)⟩
      have a4 : ¬ s.size ≤ a := by omega
      clear h1 h2 hlt
      go_upto_region 14 with (fail)
      go_upto_region 15 with (first | (at_builtin; refine AG.append HE.out rfl (.tmp 42) (.tmp 46) rfl (.inr rfl) (v := .slice (some ⟨g, 0, none⟩) out.length cap) rfl (HA.out.alloc _) (by have := HPW.out; simp; omega) rfl HRN.out (by decide) (by have := HOL.out; omega) ?_; intro v' w5 hp5; have HP5 := Aside0.mk hp5; clear hp5) | fail)
      obtain ⟨g5, cap5, cur5, T5, rfl, hn5, hm5, hgb5, -, -⟩ := HP5.out.row.block
      have hrow : AG S9 w5 P0 1 (.slice (some ⟨g5, 0, none⟩) (tk s).length cap5) (tk s).length ((tk s).map Value.string) := by
        have := HP5.out.row
        rw [HTK.out, List.map_append, List.length_append]
        exact this
      have HROW := Aside0.mk hrow
      have HCAP : Aside0 ((tk s).length ≤ cap5) := ⟨by rw [HTK.out, List.length_append]; exact hn5⟩
      have HLN : Aside0 ((tk s).length = out.length + 1) := ⟨by rw [HTK.out, List.length_append]; rfl⟩
      have HG5 := Aside0.mk hgb5
      have HW5 : Aside0 (Same w w5) := ⟨(HW.out.alloc _).trans HP5.out.fr (fun k hk e => by
        have : g = k := by simpa [Value.ownBlock] using e
        have := HGB.out
        have := HP0.out
        omega)⟩
      have HH5 : Aside0 (Blk w5 L 81 (hdr 0 0 (.pointer (some ⟨xr.1, 0, none⟩)) cnt)) := ⟨HH.out.fr HW5.out (fun h => h)⟩
      rw [← HLN.out]
      clear hrow hn5 hm5 hgb5 a0 a1 a3 a4 n2
      go_wp2_with fail
      refine (rlock_L HH5.out).mono ?_
      rintro e w6 ⟨rfl, hb6, hf6⟩
      have HB6 := Aside0.mk hb6
      have HF6 := Aside0.mk hf6
      have c6 := hb6.cell 6 rfl
      have HX6 : Aside0 (Lx w6 B L K sub (fun _ => False) ex 0 1 cnt nd lv) := ⟨(HX.out.fr HW5.out (fun _ _ h => h)).turn (fun x hx => by rw [HR.out] at hx; injection hx with hx; subst hx; exact hb6) hf6⟩
      have HN6 : Aside0 (NpA w6 np 0) := ⟨fun k hk => by
        have h5 := (HNP.out k hk).fr HW5.out (fun h => h)
        exact h5.fr hf6 (blk_ne h5 HH5.out (by decide))⟩
      have HGN : Aside0 (np ≠ some g5) := ⟨fun e => by
        have hb := (HNP.out g5 e).blk
        have := (Array.getElem?_eq_some_iff.1 hb).1
        have := HG5.out
        have := HP0.out
        omega⟩
      have HANY := any_calls (tk s).length (w := w6) (p := []) (np := np) (g := g5) (o := 0) (c := cap5) rfl HX6.out.tri HFN.out (fun j t ht => by
        rw [Nat.zero_add]
        have hj := (List.getElem?_eq_some_iff.1 ht).1
        have hr := HROW.out.fr hf6 (fun k hk e => by
          have hgk : g5 = k := by simpa [Value.ownBlock] using hk
          subst hgk
          obtain ⟨g', cap', cur', T', e', q1, q2, q3, q4, q5⟩ := HROW.out.block
          injection e' with e1 _ _
          injection e1 with e1
          injection e1 with e1 _
          subst e1
          rw [e] at q5
          have := q5.symm.trans HH5.out.blk
          injection this with this
          injection this with _ this _
          subst this
          rcases q4 with q4 | q4 <;> exact absurd q4 (by decide))
        rw [hr.cell (by rw [List.length_map]; exact hj)]
        exact strs_get ht) HCAP.out (by have := tk_len s; omega) HGN.out (fun t ht => ⟨(HS.out.all t ht).1, (HS.out.all t ht).2.1, by have := tk_short s t ht; omega⟩) HN6.out HK.out
      rw [HR.out, ptrA_eq np] at HANY
      have HAN := Aside0.mk HANY
      clear hb6 hf6 HANY
      go_wp2_with fail
      refine HAN.out.mono ?_
      rintro e w7 ⟨⟨b, rfl, hb, c', hn', hb0, hb1, hle⟩, hf⟩
      have HB7 : Aside0 (Blk w7 L 81 (hdr 0 1 (.pointer (some ⟨xr.1, 0, none⟩)) cnt)) := ⟨HB6.out.fr hf (fun e => blk_ne HB6.out (HN6.out L e) (by decide) rfl)⟩
      have H7 := Aside0.mk (And.intro hb (And.intro hn' (And.intro hb0 (And.intro hb1 (And.intro hle hf)))))
      clear hb hn' hb0 hb1 hle hf HAN c6
      go_wp2_with fail
      refine leaves_cons (f := 52) (args := #[.pointer (some ⟨L, 0, none⟩)]) (by simp) (by simp [go_sem]) ?_
      refine (runlock_D HB7.out .returning).mono ?_
      rintro e u' w8 ⟨rfl, rfl, hb8, hf8⟩
      refine ⟨_, results_tmp rfl _ _ _, ?_⟩
      refine ⟨⟨b, rfl, ⟨fun e => (H7.out.1.1 e).2, fun e => H7.out.1.2 ⟨tk_ne s, e⟩⟩, c', fun k hk => ?_, H7.out.2.2.1, H7.out.2.2.2.1, H7.out.2.2.2.2.1⟩, ?_⟩
      · have := H7.out.2.1 k hk
        exact this.fr hf8 (blk_ne this HB7.out (by decide))
      · have hLB : B ≤ L := HX6.out.base
        exact (((HW5.out.mono (G := fun k => B ≤ k) (fun _ h => h.elim)).trans HF6.out (fun k _ e => by subst e; exact hLB)).trans H7.out.2.2.2.2.2 (fun k _ e => HNB.out k e)).trans hf8 (fun k _ e => by subst e; exact hLB)
/-- HasInterest. -/
theorem hasInterest_calls {w : World} {B L K : Nat} {sub : Path → Int → Option ByteArray} {ex : Prop} {cnt : Int} {s : ByteArray} (h : Li w B L K sub ex cnt) (hex : ex) (hok : ∀ q v t, sub q v = some t → okF false q = true) (hs : Lits s) (hK : K < 1000000) :
    Calls Tryd.prog 40 #[.pointer (some ⟨L, 0, none⟩), .string s] w (HasPost w B K sub s none) := by
  have HC := Aside0.mk (has_calls (np := none) h hex hok hs (fun b hb => by cases hb) (fun k hk => by cases hk) hK)
  clear h hex hok hs hK
  go_enter Tryd.func40, Tryd.ntmps40
  go_wp2_with fail
  refine HC.out.mono ?_
  rintro e w1 ⟨⟨b, rfl, hb⟩, hf⟩
  have HP : Aside0 (HasPost w B K sub s none (.returned (.bool b)) w1) := ⟨⟨b, rfl, hb⟩, hf⟩
  clear hb hf
  go_wp2_with fail
  go_ret
  exact HP.out
structure NumPost2 (w : World) (B K : Nat) (sub : Path → Int → Option ByteArray) (s : ByteArray) (e : Ending) (w' : World) : Prop where
  out : ∃ c : Nat, e = .returned (.int .i64 (c : Int)) ∧ (0 < c ↔ HitP sub [] (tk s)) ∧ c ≤ K + 1
  fr : Fr (fun k => B ≤ k) w w'
theorem num_calls {w : World} {B L K : Nat} {sub : Path → Int → Option ByteArray} {ex : Prop} {cnt : Int} {s : ByteArray} (h : Li w B L K sub ex cnt) (hex : ex) (hok : ∀ q v t, sub q v = some t → okF false q = true) (hs : Lits s) (hK : K < 1000000) :
    Calls Tryd.prog 41 #[.pointer (some ⟨L, 0, none⟩), .string s] w (NumPost2 w B K sub s) := by
  have hsz : B ≤ w.heap.size := by
    obtain ⟨nd, lv, hX⟩ := h
    exact hX.size
  have HC := Aside0.mk (has_calls (w := w.alloc (.cells #[.int .i64 0] 3)) (np := some w.heap.size) (Li.fr h ((Fr.refl (fun _ => False) w).alloc _) (fun _ _ h => h)) hex hok hs (fun b hb => by injection hb with hb; subst hb; exact Blk.new w 3 [.int .i64 0]) (fun k hk => by injection hk with hk; omega) hK)
  have HZ := Aside0.mk hsz
  clear h hex hok hs hK hsz
  go_enter Tryd.func41, Tryd.ntmps41
  go_wp2_with fail
  refine HC.out.mono ?_
  rintro e w1 ⟨⟨b, rfl, hb, c, hn, h0, h1, hle⟩, hf⟩
  have hc := (hn w.heap.size rfl).cell 0 rfl
  have HP : Aside0 (NumPost2 w B K sub s (.returned (.int .i64 (c : Int))) w1) := ⟨⟨c, rfl, ⟨fun e => hb.1 (by cases b with | true => rfl | false => have := h0 rfl; omega), fun e => h1 (hb.2 e)⟩, hle⟩, ((Fr.refl (fun k => B ≤ k) w).alloc _).trans hf (fun _ _ h => h)⟩
  clear hb hn h0 h1 hle hf HC
  go_wp2_with fail
  refine bodyPost_ret (v := .int .i64 (c : Int)) ?_ rfl HP.out
  have hr : Tryd.f41.results = #[.cell 4 3] := rfl
  simp only [results, hr]
  go_simp
end
end Go.Proofs.YtimffhpnfdikoaaDoor.Ls
