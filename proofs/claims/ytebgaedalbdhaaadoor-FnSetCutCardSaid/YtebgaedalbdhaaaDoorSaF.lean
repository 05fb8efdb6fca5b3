/- The law FnSetEqual. -/
import Derived.Test.YtebgaedalbdhaaaDoorSaE
namespace Go.Proofs.YtebgaedalbdhaaaDoor.Av
open Go.RowKit Go.Proofs.YtebgaedalbdhaaaDoorW.PrintWords Go.Proofs.YtebgaedalbdhaaaDoorW.PrintLast Go.Proofs.YtebgaedalbdhaaaDoorW.PrintMore
set_option linter.unusedVariables false
set_option linter.unusedSimpArgs false

/-- The last of a row satisfies p; of none it is said as well. -/
def lastIn (p : Int → Bool) (d : List Int) : Bool := match d.getLast? with | none => true | some x => p x
theorem lastIn_snoc (p : Int → Bool) (d : List Int) (x : Int) : lastIn p (d ++ [x]) = p x := by
  unfold lastIn
  rw [List.getLast?_append]
  rfl
theorem run_lastIn (p : Int → Bool) : ∀ (l d : List Int), lastIn p (run (fun _ x => p x) d l).1 = if l = [] then lastIn p d else l.all p
  | [], d => by rw [run, if_pos rfl]
  | x :: xs, d => by
    have e : ¬ (x :: xs = []) := by simp
    rw [run, if_neg e]
    cases hx : p x with
    | true =>
      rw [if_pos rfl, run_lastIn p xs (d ++ [x])]
      split
      · rename_i h
        subst h
        rw [lastIn_snoc, hx, List.all_cons, hx]
        rfl
      · rw [List.all_cons, hx, Bool.true_and]
    | false =>
      rw [if_neg (by decide)]
      show lastIn p (d ++ [x]) = _
      rw [lastIn_snoc, hx, List.all_cons, hx, Bool.false_and]
theorem sub_len : ∀ {M L : List Int}, L.Pairwise (· < ·) → M.Pairwise (· < ·) → (∀ x ∈ L, x ∈ M) → L.length ≤ M.length
  | [], L, _, _, h => by
    cases L with
    | nil => exact Nat.le_refl _
    | cons a L => exact absurd (h a List.mem_cons_self) (by simp)
  | b :: bs, L, hL, hM, h => by
    have hbs := (List.pairwise_cons.1 hM).2
    by_cases hb : b ∈ L
    · have h1 := delS_len hL hb
      have h2 := sub_len (sorted_delS (q := b) hL) hbs (fun x hx => by
        obtain ⟨h3, h4⟩ := mem_delS.1 hx
        rcases List.mem_cons.1 (h x h3) with h5 | h5
        · exact absurd h5 h4
        · exact h5)
      simp only [List.length_cons]
      omega
    · have h2 := sub_len hL hbs (fun x hx => by
        rcases List.mem_cons.1 (h x hx) with h5 | h5
        · subst h5; exact absurd hx hb
        · exact h5)
      simp only [List.length_cons]
      omega
theorem all_same {L M : List Int} (hL : L.Pairwise (· < ·)) (hM : M.Pairwise (· < ·)) (hl : L.length = M.length) : L.all (fun x => decide (x ∈ M)) = decide (L = M) := by
  by_cases he : L = M
  · rw [decide_eq_true he, List.all_eq_true]
    intro x hx
    rw [decide_eq_true_eq, ← he]
    exact hx
  · rw [decide_eq_false he]
    cases ha : L.all (fun x => decide (x ∈ M)) with
    | false => rfl
    | true =>
      exfalso
      have hs : ∀ x ∈ L, x ∈ M := fun x hx => by simpa using List.all_eq_true.1 ha x hx
      refine he (sorted_ext hL hM (fun q => ⟨hs q, fun hq => ?_⟩))
      by_cases hqL : q ∈ L
      · exact hqL
      · have h1 := delS_len hM hq
        have h2 := sub_len hL (sorted_delS (q := q) hM) (fun x hx => mem_delS.2 ⟨hs x hx, fun e => hqL (e ▸ hx)⟩)
        omega
theorem mem_plays {x : Int} : ∀ {es : List Deed} {L : List Int}, x ∈ plays L es → x ∈ L ∨ ∃ a ∈ es, x = a.2
  | [], L, h => .inl h
  | a :: es, L, h => by
    rcases mem_plays (es := es) (L := stepL L a) h with h | ⟨b, hb, e⟩
    · unfold stepL at h
      split at h
      · rcases mem_insS.1 h with h | h
        · exact .inr ⟨a, List.mem_cons_self, h⟩
        · exact .inl h
      · exact .inl (mem_delS.1 h).1
    · exact .inr ⟨b, List.mem_cons_of_mem _ hb, e⟩
/-- A set that is read: its numbers, sorted; no tree where there are none. -/
structure SetR (w : World) (g : Nat) (L : List Int) (t : T) (sz nd : Int) : Prop where
  is : SetIs w g t sz nd
  nums : t.nums = L
  ord : OrdF t.flat
  sz : sz = L.length
  tight : L = [] → t = .nil
theorem SetR.fr {F : Nat → Prop} {w w1 : World} {g : Nat} {L : List Int} {t : T} {sz nd : Int} (h : SetR w g L t sz nd) (hf : Fr F w w1) (hn : ∀ k, k = g ∨ k ∈ t.ids → ¬ F k) : SetR w1 g L t sz nd := ⟨h.is.fr hf hn, h.nums, h.ord, h.sz, h.tight⟩
theorem SetR.none {w : World} {g : Nat} {L : List Int} {t : T} {sz nd : Int} (h : SetR w g L t sz nd) : t.ptr.isNone = decide (L = []) := by
  cases t with
  | nil => rw [decide_eq_true (show L = [] from h.nums.symm)]; rfl
  | node b x s l r =>
    rw [decide_eq_false (fun e => by have := h.tight e; cases this)]
    rfl
theorem SetR.sorted {w : World} {g : Nat} {L : List Int} {t : T} {sz nd : Int} (h : SetR w g L t sz nd) : L.Pairwise (· < ·) := h.nums ▸ sorted_nums h.is.wf h.ord
theorem SetR.has {w : World} {g : Nat} {L : List Int} {t : T} {sz nd : Int} (h : SetR w g L t sz nd) (q : Int) : t.has q = decide (q ∈ L) := by
  have : t.has q = true ↔ q ∈ L := by rw [has_iff q h.ord, ← mem_nums h.is.wf, h.nums]
  cases hc : t.has q
  · symm
    rw [decide_eq_false_iff_not]
    intro hq
    rw [this.2 hq] at hc
    cases hc
  · symm
    rw [decide_eq_true_eq]
    exact this.1 hc
theorem SetNew.setR {w w1 : World} {g : Nat} {L : List Int} {m : Nat} {t : T} {sz nd : Int} (h : SetNew w w1 g none L m t sz nd) : SetR w1 g L t sz nd := ⟨h.is, h.rep.nums, h.rep.ord, h.rep.sz, h.tight⟩
/-- The variable of the closure. -/
structure EqI (w0 W : World) (E : Nat) (b : Bool) : Prop where
  blk : W.heap[E]? = some (.cells #[.bool b] 4 (0, 0))
  fr : Fr (fun k => k = E) w0 W
set_option maxHeartbeats 4000000 in
set_option maxRecDepth 100000 in
theorem equal1_calls {w0 W : World} {B E g : Nat} {L : List Int} {t : T} {sz nd : Int} {b : Bool} (x : Int) (hx0 : 0 ≤ x) (hx1 : x + 2048 < 18446744073709551616) (hB : w0.heap[B]? = some (.cells #[.pointer (some ⟨g, 0, none⟩)] 57 (0, 0))) (hBE : B ≠ E) (hS : SetR w0 g L t sz nd) (hE : ∀ k, k = g ∨ k ∈ t.ids → k ≠ E) (h : EqI w0 W E b) :
    Calls Tryd.prog 50 (#[.int .u64 x] ++ #[.pointer (some ⟨B, 0, none⟩), .pointer (some ⟨E, 0, none⟩)]) W fun e w' => e = .returned (.bool (decide (x ∈ L))) ∧ EqI w0 w' E (decide (x ∈ L)) := by
  have HS := Aside0.mk (hS.fr h.fr hE)
  have H := Aside0.mk h
  have f0 : W.cell? ⟨B, 0, none⟩ = some (.pointer (some ⟨g, 0, none⟩)) := cell_at ((h.fr.block B (Array.getElem?_eq_some_iff.1 hB).1 hBE).trans hB)
  have f1 : W.cell? ⟨E, 0, none⟩ = some (.bool b) := cell_at h.blk
  have z1 : W.frozen? ⟨E, 0, none⟩ = false := blk_frozen (show W.heap[E]? = some (.cells [Value.bool b].toArray 4 (0, 0)) from h.blk) _
  obtain ⟨r, hr⟩ : ∃ r, r = decide (x ∈ L) := ⟨_, rfl⟩
  have HR := Aside0.mk hr
  rw [← hr]
  clear hS hB hBE hE h hr
  show Calls Tryd.prog 50 #[.int .u64 x, .pointer (some ⟨B, 0, none⟩), .pointer (some ⟨E, 0, none⟩)] W _
  go_enter Tryd.func50, Tryd.ntmps50
  go_wp2_with fail
  refine (sexists x hx0 hx1 HS.out.is).mono ?_
  rintro e w' ⟨rfl, hw⟩
  subst w'
  rw [HS.out.has, ← HR.out]
  go_upto_region 2 with (fail)
  have H2 : Aside0 (EqI w0 (W.setCell ⟨E, 0, none⟩ (.bool r)) E r) := Aside0.mk ⟨by rw [store_at H.out.blk (by simp)]; rfl, H.out.fr.set (p := ⟨E, 0, none⟩) (.inl rfl) _⟩
  have f2 : (W.setCell ⟨E, 0, none⟩ (.bool r)).cell? ⟨E, 0, none⟩ = some (.bool r) := cell_at H2.out.blk
  generalize W.setCell ⟨E, 0, none⟩ (.bool r) = w2 at *
  clear f0 f1 z1
  go_wp2
  go_ret
  exact ⟨rfl, H2.out⟩
set_option maxHeartbeats 4000000 in
set_option maxRecDepth 100000 in
theorem equal_calls {w : World} {g h : Nat} {L M : List Int} {t u : T} {sz nd sz2 nd2 : Int} (hS : SetR w g L t sz nd) (hU : SetR w h M u sz2 nd2) (hb : ∀ x ∈ L, 0 ≤ x ∧ x + 2048 < 18446744073709551616) (hT : TabAt w) :
    Calls Tryd.prog 35 #[.pointer (some ⟨g, 0, none⟩), .pointer (some ⟨h, 0, none⟩)] w fun e w' => e = .returned (.bool (decide (L = M))) ∧ Fr (fun _ => False) w w' := by
  have HS := Aside0.mk hS
  have HU := Aside0.mk hU
  have HBD := Aside0.mk hb
  have HT := Aside0.mk hT
  obtain ⟨R, hR⟩ : ∃ R, R = decide (L = M) := ⟨_, rfl⟩
  have HR := Aside0.mk hR
  rw [← hR]
  clear hS hU hb hT hR
  go_enter Tryd.func35, Tryd.ntmps35
  go_upto_region 1 with (fail)
  obtain ⟨w1, hw1⟩ : ∃ w1, w1 = w.alloc (.cells #[.pointer (some ⟨h, 0, none⟩)] 57) := ⟨_, rfl⟩
  have HF1 : Aside0 (Fr (fun _ => False) w w1) := ⟨hw1 ▸ (Fr.refl _ w).alloc _⟩
  have HB1 : Aside0 (w1.heap[w.heap.size]? = some (.cells #[.pointer (some ⟨h, 0, none⟩)] 57 (0, 0))) := ⟨hw1 ▸ heap_alloc_new w _⟩
  have HSZ : Aside0 (w1.heap.size = w.heap.size + 1) := ⟨by rw [hw1]; simp⟩
  have HS1 := Aside0.mk (HS.out.fr HF1.out (fun _ _ h => h))
  have HU1 := Aside0.mk (HU.out.fr HF1.out (fun _ _ h => h))
  rw [← hw1]
  clear hw1
  have f0 : w1.cell? ⟨w.heap.size, 0, none⟩ = some (.pointer (some ⟨h, 0, none⟩)) := cell_at HB1.out
  obtain ⟨B, hB⟩ : ∃ B, B = w.heap.size := ⟨_, rfl⟩
  have HBW := Aside0.mk hB
  rw [← hB] at f0 HB1 ⊢
  clear hB
  by_cases hL : L = []
  · have e1 : t.ptr.isNone = true := HS.out.none.trans (decide_eq_true hL)
    have e3 : u.ptr.isNone = R := by rw [HU.out.none, HR.out]; subst hL; congr 1; exact propext ⟨fun e => e.symm, fun e => e.symm⟩
    go_wp2_with fail
    refine (sisEmpty HS1.out.is).mono ?_
    rintro e w' ⟨rfl, hw⟩
    subst w'
    rw [e1]
    go_wp2_with fail
    refine (sisEmpty HS1.out.is).mono ?_
    rintro e w' ⟨rfl, hw⟩
    subst w'
    rw [e1]
    go_wp2_with fail
    refine (sisEmpty HU1.out.is).mono ?_
    rintro e w' ⟨rfl, hw⟩
    subst w'
    rw [e3]
    go_wp2
    go_ret
    exact ⟨rfl, HF1.out⟩
  · have e1 : t.ptr.isNone = false := HS.out.none.trans (decide_eq_false hL)
    by_cases hM : M = []
    · have e2 : u.ptr.isNone = true := HU.out.none.trans (decide_eq_true hM)
      have e3 : R = false := HR.out.trans (decide_eq_false (fun e => hL (e.trans hM)))
      subst e3
      go_wp2_with fail
      refine (sisEmpty HS1.out.is).mono ?_
      rintro e w' ⟨rfl, hw⟩
      subst w'
      rw [e1]
      go_wp2_with fail
      refine (sisEmpty HU1.out.is).mono ?_
      rintro e w' ⟨rfl, hw⟩
      subst w'
      rw [e2]
      go_wp2_with fail
      refine (sisEmpty HS1.out.is).mono ?_
      rintro e w' ⟨rfl, hw⟩
      subst w'
      rw [e1]
      go_wp2
      go_ret
      exact ⟨rfl, HF1.out⟩
    · have e2 : u.ptr.isNone = false := HU.out.none.trans (decide_eq_false hM)
      have HL0 := Aside0.mk hL
      clear hL hM
      go_wp2_with fail
      refine (sisEmpty HS1.out.is).mono ?_
      rintro e w' ⟨rfl, hw⟩
      subst w'
      rw [e1]
      go_wp2_with fail
      refine (sisEmpty HU1.out.is).mono ?_
      rintro e w' ⟨rfl, hw⟩
      subst w'
      rw [e2]
      go_upto_region 3 with (fail)
      refine Rg.region_text (by kernel_rfl) (by kernel_rfl) (fun wd hwd K hK => ?_)
      have HF2 : Aside0 (Fr (fun _ => False) w1 wd) := ⟨by rw [hwd.out]; exact (Fr.refl _ _).drew⟩
      have HS2 := Aside0.mk (HS1.out.fr HF2.out (fun _ _ h => h))
      have HU2 := Aside0.mk (HU1.out.fr HF2.out (fun _ _ h => h))
      have HB2 : Aside0 (wd.heap[B]? = some (.cells #[.pointer (some ⟨h, 0, none⟩)] 57 (0, 0))) := ⟨(HF2.out.block B (by have := HSZ.out; have := HBW.out; omega) (fun h => h)).trans HB1.out⟩
      clear hwd f0
      have f0 : wd.cell? ⟨B, 0, none⟩ = some (.pointer (some ⟨h, 0, none⟩)) := cell_at HB2.out
      have f1 := HS2.out.is.set.c1
      have f2 := HU2.out.is.set.c1
      rw [HS.out.sz] at f1
      rw [HU.out.sz] at f2
      by_cases hl : L.length = M.length
      · have hne : ((L.length : Int) != (M.length : Int)) = false := by simp [hl]
        have HLL := Aside0.mk hl
        clear hl
        go_upto_region 5 with (with_reducible refine Rg.only_nil ?_)
        clear f0 f1 f2 hne
        go_upto_region 6 with (fail)
        obtain ⟨w0, hw0⟩ : ∃ w0, w0 = wd.alloc (.cells #[.bool true] 4) := ⟨_, rfl⟩
        have HF3 : Aside0 (Fr (fun _ => False) wd w0) := ⟨hw0 ▸ (Fr.refl _ wd).alloc _⟩
        have HE3 : Aside0 (w0.heap[wd.heap.size]? = some (.cells #[.bool true] 4 (0, 0))) := ⟨hw0 ▸ heap_alloc_new wd _⟩
        have HZ3 : Aside0 (w0.heap.size = wd.heap.size + 1) := ⟨by rw [hw0]; simp⟩
        rw [← hw0]
        clear hw0
        have HS3 := Aside0.mk (HS2.out.fr HF3.out (fun _ _ h => h))
        have HU3 := Aside0.mk (HU2.out.fr HF3.out (fun _ _ h => h))
        have HBl : Aside0 (B < wd.heap.size) := ⟨(Array.getElem?_eq_some_iff.1 HB2.out).1⟩
        have HB3 : Aside0 (w0.heap[B]? = some (.cells #[.pointer (some ⟨h, 0, none⟩)] 57 (0, 0))) := ⟨(HF3.out.block B HBl.out (fun h => h)).trans HB2.out⟩
        have HTW : Aside0 (TabAt w0) := ⟨((HT.out.fr HF1.out (fun h => h)).fr HF2.out (fun h => h)).fr HF3.out (fun h => h)⟩
        have HFA : Aside0 (Fr (fun _ => False) w w0) := ⟨(HF1.out.trans HF2.out (fun _ _ h => h)).trans HF3.out (fun _ _ h => h)⟩
        have HWS : Aside0 (w.heap.size ≤ wd.heap.size) := ⟨by have := HF2.out.size; have := HSZ.out; omega⟩
        obtain ⟨E, hE⟩ : ∃ E, E = wd.heap.size := ⟨_, rfl⟩
        have HEW := Aside0.mk hE
        rw [← hE] at HE3 ⊢
        clear hE
        have HDR : Aside0 (∀ done W, (∃ b, EqI w0 W E b ∧ b = lastIn (fun x => decide (x ∈ M)) done) → TabAt W ∧ SetIs W g t sz nd) := ⟨fun done W ⟨b, hI, _⟩ => by
          refine ⟨HTW.out.fr hI.fr (fun e => ?_), HS3.out.is.fr hI.fr (fun k hk e => ?_)⟩
          · have := HT.out.lt; have := HWS.out; have := HEW.out; omega
          · have := HS2.out.is.lt k hk; have := HEW.out; omega⟩
        go_wp2_with fail
        refine (range_calls 50 _ (fun vs W => rfl) (fun _ x => decide (x ∈ M)) (fun done W => ∃ b, EqI w0 W E b ∧ b = lastIn (fun x => decide (x ∈ M)) done) (t := t) (sz := sz) (nd := nd) (fun done x W hr hI => ?_) HDR.out ⟨true, ⟨HE3.out, Fr.refl _ _⟩, rfl⟩).mono ?_
        · obtain ⟨b, hI, -⟩ := hI
          obtain ⟨r, hr⟩ := hr
          have hx : x ∈ L := by rw [← HS.out.nums, hr]; simp
          obtain ⟨h1, h2⟩ := HBD.out x hx
          refine (equal1_calls (b := b) x h1 h2 HB3.out (by have := HBl.out; have := HEW.out; omega) HU3.out (fun k hk => by have := HU2.out.is.lt k hk; have := HEW.out; omega) hI).mono ?_
          rintro e w' ⟨rfl, hI2⟩
          exact ⟨rfl, _, hI2, (lastIn_snoc (fun x => decide (x ∈ M)) done x).symm⟩
        rintro e w4 ⟨rfl, b, hI, hb⟩
        rw [HS.out.nums, run_lastIn (fun x => decide (x ∈ M)) L [], if_neg HL0.out, all_same HS.out.sorted HU.out.sorted HLL.out, ← HR.out] at hb
        subst hb
        have HFZ : Aside0 (Fr (fun _ => False) w w4) := ⟨HFA.out.trans hI.fr (fun k hk e => by have := HWS.out; have := HEW.out; omega)⟩
        have f9 : w4.cell? ⟨E, 0, none⟩ = some (.bool b) := cell_at hI.blk
        clear hI HDR
        go_wp2
        go_ret
        exact ⟨rfl, HFZ.out⟩
      · have hne : ((L.length : Int) != (M.length : Int)) = true := by simp; omega
        have e3 : R = false := HR.out.trans (decide_eq_false (fun e => hl (congrArg List.length e)))
        subst e3
        clear hl
        go_wp2_with (with_reducible refine Rg.only_nil ?_)
        go_ret
        exact ⟨rfl, HF1.out.trans HF2.out (fun _ _ h => h)⟩
theorem deeds_bound {acts : List Deed} (h : ∀ a ∈ acts, okDeed none a) : ∀ x ∈ plays [] acts, 0 ≤ x ∧ x + 2048 < 18446744073709551616 := fun x hx => by
  rcases mem_plays hx with h' | ⟨a, ha, rfl⟩
  · cases h'
  · obtain ⟨_, h1, h2, _⟩ := h a ha
    exact ⟨h1, h2⟩
set_option maxHeartbeats 4000000 in
set_option maxRecDepth 100000 in
theorem setEqual_calls {w : World} {A B : Option Addr} {acts more : List Deed} {c d : Nat} (hA : ActsR w A acts) (hB : ActsR w B more) (hoka : ∀ a ∈ acts, okDeed none a) (hokb : ∀ a ∈ more, okDeed none a) (hn : acts.length ≤ 1000) (hm : more.length ≤ 1000) (hT : TabAt w) :
    Calls Tryd.prog 20 #[.slice A acts.length c, .slice B more.length d] w fun e w' => e = .returned (.bool (decide (plays [] acts = plays [] more))) ∧ Fr (fun _ => False) w w' := by
  have HA := Aside0.mk hA
  have HB := Aside0.mk hB
  have HOKA := Aside0.mk hoka
  have HOKB := Aside0.mk hokb
  have HT := Aside0.mk hT
  obtain ⟨R, hR⟩ : ∃ R, R = decide (plays [] acts = plays [] more) := ⟨_, rfl⟩
  have HR := Aside0.mk hR
  rw [← hR]
  clear hA hB hoka hokb hT hR
  go_enter Tryd.func20, Tryd.ntmps20
  go_wp2_with fail
  refine (made_calls HA.out HOKA.out hn).mono ?_
  rintro e w1 ⟨g, t, sz, nd, rfl, h⟩
  have H := Aside0.mk h
  clear h
  go_wp2_with fail
  refine (made_calls (HB.out.fr H.out.fr (fun _ _ h => h)) HOKB.out hm).mono ?_
  rintro e w2 ⟨g2, t2, sz2, nd2, rfl, h⟩
  have H2 := Aside0.mk h
  have HF := Aside0.mk (H.out.fr.trans h.fr (fun _ _ h => h))
  have HS := Aside0.mk (H.out.setR.fr h.fr (fun _ _ h => h))
  clear h
  go_wp2_with fail
  refine (equal_calls HS.out H2.out.setR (deeds_bound HOKA.out) (HT.out.fr HF.out (fun h => h))).mono ?_
  rintro e w3 ⟨rfl, hf⟩
  have HF2 := Aside0.mk (HF.out.trans hf (fun _ _ h => h))
  clear hf
  rw [← HR.out]
  go_wp2
  go_ret
  exact ⟨rfl, HF2.out⟩
set_option maxHeartbeats 4000000 in
set_option maxRecDepth 100000 in
theorem equal_law {w : World} {A B : Option Addr} {acts more : List Deed} {c d : Nat} (hA : ActsR w A acts) (hp : ∀ a ∈ acts, 0 ≤ a.2) (hn : acts.length ≤ maxLen) (hB : ActsR w B more) (hp2 : ∀ a ∈ more, 0 ≤ a.2) (hm : more.length ≤ maxLen) (hT : TabAt w) :
    Calls Tryd.prog 6 #[.slice A acts.length c, .slice B more.length d] w fun e w' => e = .returned (.bool true) ∧ Fr (fun _ => False) w w' := by
  have HA := Aside0.mk hA
  have HP := Aside0.mk hp
  have HN := Aside0.mk hn
  have HB := Aside0.mk hB
  have HP2 := Aside0.mk hp2
  have HM := Aside0.mk hm
  have HT := Aside0.mk hT
  clear hA hp hn hB hp2 hm hT
  by_cases hbig : 2147483647 < (acts.length : Int)
  · go_enter Tryd.func6, Tryd.ntmps6
    go_wp2
    go_ret
    exact ⟨rfl, Fr.refl _ _⟩
  · by_cases hbig2 : 2147483647 < (more.length : Int)
    · go_enter Tryd.func6, Tryd.ntmps6
      go_wp2
      go_ret
      exact ⟨rfl, Fr.refl _ _⟩
    · go_enter Tryd.func6, Tryd.ntmps6
      go_wp2_with fail
      refine (acts_calls HA.out HN.out).mono ?_
      rintro e w' ⟨rfl, hw⟩
      subst w'
      cases hok : actsOk acts with
      | false =>
        clear hok
        go_wp2_with fail
        refine (awake_calls HT.out).mono ?_
        rintro e w' ⟨rfl, hf⟩
        have HF := Aside0.mk hf
        clear hf
        go_wp2
        go_ret
        exact ⟨rfl, HF.out⟩
      | true =>
        have HOK := Aside0.mk (actsOk_deed hok HP.out)
        have hlen := ok_len hok
        clear hok
        go_wp2_with fail
        refine (acts_calls HB.out HM.out).mono ?_
        rintro e w' ⟨rfl, hw⟩
        subst w'
        cases hok2 : actsOk more with
        | false =>
          clear hok2
          go_wp2_with fail
          refine (awake_calls HT.out).mono ?_
          rintro e w' ⟨rfl, hf⟩
          have HF := Aside0.mk hf
          clear hf
          go_wp2
          go_ret
          exact ⟨rfl, HF.out⟩
        | true =>
          have HOK2 := Aside0.mk (actsOk_deed hok2 HP2.out)
          have hlen2 := ok_len hok2
          clear hok2
          go_wp2_with fail
          refine (spec_read HA.out HOK.out (by omega)).mono ?_
          rintro e w1 ⟨C, c', v5, rfl, hr, hf⟩
          have HR := Aside0.mk hr
          have HF1 := Aside0.mk hf
          clear hr hf
          dsimp only
          have HMX := Aside0.mk (plays_max hlen)
          have HMY := Aside0.mk (plays_max hlen2)
          obtain ⟨L, hL⟩ : ∃ L, L = plays [] acts := ⟨_, rfl⟩
          have HL := Aside0.mk hL
          rw [← hL] at HMX HR ⊢
          clear hL
          go_wp2_with fail
          refine (spec_read (HB.out.fr HF1.out (fun _ _ h => h)) HOK2.out (by omega)).mono ?_
          rintro e w2 ⟨D, d', v6, rfl, hr, hf⟩
          have HR2 := Aside0.mk hr
          have HF2 := Aside0.mk (HF1.out.trans hf (fun _ _ h => h))
          have HR1 := Aside0.mk (HR.out.fr hf (fun _ _ h => h))
          clear hr hf HR
          dsimp only
          obtain ⟨M, hM⟩ : ∃ M, M = plays [] more := ⟨_, rfl⟩
          have HMM := Aside0.mk hM
          rw [← hM] at HMY HR2 ⊢
          clear hM
          go_wp2_with fail
          refine (setEqual_calls (HA.out.fr HF2.out (fun _ _ h => h)) (HB.out.fr HF2.out (fun _ _ h => h)) HOK.out HOK2.out (by omega) (by omega) (HT.out.fr HF2.out (fun h => h))).mono ?_
          rintro e w3 ⟨rfl, hf⟩
          have HF3 := Aside0.mk (HF2.out.trans hf (fun _ _ h => h))
          have HR3 := Aside0.mk (HR1.out.fr hf (fun _ _ h => h))
          have HR4 := Aside0.mk (HR2.out.fr hf (fun _ _ h => h))
          clear hf HR1 HR2
          rw [← HL.out, ← HMM.out]
          go_wp2_with fail
          refine (same_calls HR3.out HR4.out HMX.out HMY.out).mono ?_
          rintro e w4 ⟨rfl, hf⟩
          have HF4 := Aside0.mk (HF3.out.trans hf (fun _ _ h => h))
          clear hf
          generalize decide (L = M) = b
          go_wp2_with fail
          refine (awake_calls (HT.out.fr HF4.out (fun h => h))).mono ?_
          rintro e w' ⟨rfl, hf⟩
          have HF := Aside0.mk (HF4.out.trans hf (fun _ _ h => h))
          clear hf
          go_wp2
          go_ret
          exact ⟨rfl, HF.out⟩
end Go.Proofs.YtebgaedalbdhaaaDoor.Av
