/- The set's own functions: Exists, Empty, IsEmpty. -/
import Derived.Test.YtebgaedalbdhaaaDoorAvU
import Derived.Test.YtebgaedalbdhaaaDoorRg
namespace Go.Proofs.YtebgaedalbdhaaaDoor.Av
open Go.RowKit Go.Proofs.YtebgaedalbdhaaaDoorW.PrintWords Go.Proofs.YtebgaedalbdhaaaDoorW.PrintLast Go.Proofs.YtebgaedalbdhaaaDoorW.PrintMore
set_option linter.unusedVariables false
set_option linter.unusedSimpArgs false

set_option maxHeartbeats 1000000 in
set_option maxRecDepth 100000 in
theorem sexists (q : Int) (hq0 : 0 ≤ q) (hq1 : q + 2048 < 18446744073709551616) {w : World} {g : Nat} {t : T} {sz nd : Int} (h : SetIs w g t sz nd) :
    Calls Tryd.prog 31 #[.pointer (some ⟨g, 0, none⟩), .int .u64 q] w fun e w' => e = .returned (.bool (t.has q)) ∧ w = w' := by
  have f0 := h.set.c0
  have HL := Aside0.mk h.lies
  have HW := Aside0.mk h.wf
  clear h
  obtain ⟨r, hr⟩ : ∃ r, r = t.has q := ⟨_, rfl⟩
  have HR := Aside0.mk hr
  rw [← hr]
  clear hr
  go_enter Tryd.func31, Tryd.ntmps31
  go_wp2
  clear f0
  go_loopg [5] t.flat.length (fun k n w' => ∃ u : T, n = .pointer (ptrA u.ptr) ∧ w' = w ∧ Aside0 (Lies w u ∧ u.wf ∧ r = u.has q ∧ u.flat.length ≤ k))
  case atStart => exact ⟨t, rfl, rfl, ⟨HL.out, HW.out, HR.out, Nat.le_refl _⟩⟩
  case round =>
    obtain ⟨u, rfl, rfl, HU⟩ := hrel
    clear HL HW HR
    cases u with
    | nil =>
      have hr : r = false := HU.out.2.2.1
      subst hr
      clear HU
      rw [show ptrA T.nil.ptr = none from rfl]
      go_wp2
      go_ret
      exact ⟨rfl, rfl⟩
    | node b x s lt rt =>
      have N0 := Aside0.mk HU.out.1.1
      have LL := Aside0.mk HU.out.1.2.1
      have LR := Aside0.mk HU.out.1.2.2
      have WF := Aside0.mk (T.wf_node.1 HU.out.2.1)
      have HH := HU.out.2.2.1
      have HK := HU.out.2.2.2
      rw [flat_len_node] at HK
      rw [T.has] at HH
      replace HH := Aside0.mk HH
      replace HK := Aside0.mk HK
      have hx0 : 0 ≤ x := WF.out.2.1.1
      have hx1 : x + 2048 < 18446744073709551616 := WF.out.2.1.2.1
      have f0 := N0.out.c0
      have f33 := N0.out.cl
      have f34 := N0.out.cr
      clear HU
      rw [show ptrA (T.node b x s lt rt).ptr = some ⟨b, 0, none⟩ from rfl]
      by_cases c1 : q < x
      · have hh := HH.out
        rw [if_pos c1] at hh
        have HH2 := Aside0.mk hh
        clear hh HH
        go_wp2
        go_roundg lt.flat.length
        case measure => have := HK.out; omega
        case rel => exact ⟨lt, rfl, rfl, ⟨LL.out, WF.out.1, HH2.out, Nat.le_refl _⟩⟩
      · have c1n : x ≤ q := by omega
        by_cases c2 : x + 2048 ≤ q
        · have hh := HH.out
          rw [if_neg c1, if_pos c2] at hh
          have HH2 := Aside0.mk hh
          clear hh HH c1
          go_wp2
          go_roundg rt.flat.length
          case measure => have := HK.out; omega
          case rel => exact ⟨rt, rfl, rfl, ⟨LR.out, WF.out.2.2, HH2.out, Nat.le_refl _⟩⟩
        · have hh := HH.out
          rw [if_neg c1, if_neg c2] at hh
          have HH2 := Aside0.mk hh
          have c2n : q < x + 2048 := by omega
          clear hh HH c1 c2
          go_wp2_with fail
          refine (exists_calls N0.out hx0 c1n c2n (by omega)).mono ?_
          rintro e w' ⟨rfl, rfl⟩
          rw [← HH2.out]
          go_wp2
          go_ret
          exact ⟨rfl, rfl⟩
set_option maxRecDepth 100000 in
theorem sisEmpty {w : World} {g : Nat} {t : T} {sz nd : Int} (h : SetIs w g t sz nd) :
    Calls Tryd.prog 49 #[.pointer (some ⟨g, 0, none⟩)] w fun e w' => e = .returned (.bool t.ptr.isNone) ∧ w = w' := by
  have f0 := h.set.c0
  clear h
  cases t with
  | nil =>
    simp only [T.ptr, ptrA] at f0
    go_enter Tryd.func49, Tryd.ntmps49
    go_wp2
    go_ret
    exact ⟨rfl, rfl⟩
  | node b x s l r =>
    simp only [T.ptr, ptrA] at f0
    go_enter Tryd.func49, Tryd.ntmps49
    go_wp2
    go_ret
    exact ⟨rfl, rfl⟩
set_option maxRecDepth 100000 in
theorem sempty {w : World} {g : Nat} {root : Option Nat} {sz nd : Int} {ch : Bool} (h : SetAt w g root sz nd ch) :
    Calls Tryd.prog 33 #[.pointer (some ⟨g, 0, none⟩)] w fun e w' => e = .returned (.tuple #[]) ∧ (SetAt w' g none 0 0 ch ∧ Fr (fun k => k = g) w w' ∧ w'.heap.size = w.heap.size) := by
  have f0 := h.c0
  have f1 := h.c1
  have f2 := h.c2
  have z0 := h.free 0
  have z1 := h.free 1
  have z2 := h.free 2
  have H := Aside0.mk h
  clear h
  go_enter Tryd.func33, Tryd.ntmps33
  go_wp2
  go_end0
  exact ⟨rfl, ((H.out.set0 none).set1 0).set2 0, (((Fr.refl (fun k => k = g) w).set (p := ⟨g, 0, none⟩) (.inl rfl) _).set (p := ⟨g, 1, none⟩) (.inl rfl) _).set (p := ⟨g, 2, none⟩) (.inl rfl) _, by rw [setCell_size, setCell_size, setCell_size]⟩
structure PutPut (w w' : World) (g : Nat) (t t' : T) (sz nd : Int) : Prop where
  is : SetIs w' g t' sz nd
  fr : Fr (fun k => k = g ∨ k ∈ t.ids) w w'
def PutPost (q : Int) (g : Nat) (t : T) (sz nd : Int) (w : World) (e : Ending) (w' : World) : Prop :=
  ∃ id, w.heap.size ≤ id ∧ e = .returned (.tuple #[]) ∧ PutPut w w' g t (t.put1 id q) (sz + if t.has q then 0 else 1) (nd + if t.cov q then 0 else 1)
/-- The tree on the way down: what is changed below is changed in all. -/
def Down (w : World) (q : Int) (t u : T) : Prop :=
  Lies w u ∧ u.wf ∧ u.ids.Nodup ∧ t.has q = u.has q ∧ t.cov q = u.cov q ∧ (∀ k ∈ u.ids, k ∈ t.ids) ∧
    ∀ w1, (∀ k ∈ t.ids, k ∉ u.ids → w1.heap[k]? = w.heap[k]?) → Lies w1 (u.putB q) → Lies w1 (t.putB q)
theorem Down.refl {w : World} {q : Int} {t : T} (h1 : Lies w t) (h2 : t.wf) (h3 : t.ids.Nodup) : Down w q t t := ⟨h1, h2, h3, rfl, rfl, fun _ h => h, fun _ _ h => h⟩
theorem Down.left {w : World} {q : Int} {t l r : T} {b : Nat} {x : Int} {s : List Int} (h : Down w q t (.node b x s l r)) (c : q < x) : Down w q t l := by
  obtain ⟨h1, h2, h3, h4, h5, h6, h7⟩ := h
  obtain ⟨d1, d2, d3, d4, d5⟩ := nodup_node h3
  refine ⟨h1.2.1, (T.wf_node.1 h2).1, d1, by rw [h4, T.has, if_pos c], by rw [h5, T.cov, if_pos c], fun k hk => h6 k (by rw [T.ids_node]; exact List.mem_append_left _ hk), fun w1 hs hL => h7 w1 (fun k hk hn => hs k hk (fun h => hn (by rw [T.ids_node]; exact List.mem_append_left _ h))) ?_⟩
  rw [T.putB, if_pos c]
  refine ⟨?_, hL, h1.2.2.move (fun k hk => hs k (h6 k (by rw [T.ids_node]; exact List.mem_append_right _ (List.mem_cons_of_mem _ hk))) (fun h => d5 k h hk))⟩
  rw [T.putB_ptr, T.ht, T.putB_ht, ← T.ht.eq_2 b x s l r]
  exact h1.1.move (hs b (h6 b (by simp [T.ids_node])) d3)
theorem Down.right {w : World} {q : Int} {t l r : T} {b : Nat} {x : Int} {s : List Int} (h : Down w q t (.node b x s l r)) (c1 : ¬ q < x) (c : x + 2048 ≤ q) : Down w q t r := by
  obtain ⟨h1, h2, h3, h4, h5, h6, h7⟩ := h
  obtain ⟨d1, d2, d3, d4, d5⟩ := nodup_node h3
  refine ⟨h1.2.2, (T.wf_node.1 h2).2.2, d2, by rw [h4, T.has, if_neg c1, if_pos c], by rw [h5, T.cov, if_neg c1, if_pos c], fun k hk => h6 k (by rw [T.ids_node]; exact List.mem_append_right _ (List.mem_cons_of_mem _ hk)), fun w1 hs hL => h7 w1 (fun k hk hn => hs k hk (fun h => hn (by rw [T.ids_node]; exact List.mem_append_right _ (List.mem_cons_of_mem _ h)))) ?_⟩
  rw [T.putB, if_neg c1, if_pos c]
  refine ⟨?_, h1.2.1.move (fun k hk => hs k (h6 k (by rw [T.ids_node]; exact List.mem_append_left _ hk)) (fun h => d5 k hk h)), hL⟩
  rw [T.putB_ptr, T.ht, T.putB_ht, ← T.ht.eq_2 b x s l r]
  exact h1.1.move (hs b (h6 b (by simp [T.ids_node])) d4)
set_option maxHeartbeats 4000000 in
set_option maxRecDepth 100000 in
theorem sinsert (q : Int) (hq0 : 0 ≤ q) (hq1 : q + 2048 < 18446744073709551616) {w : World} {g : Nat} {t : T} {sz nd : Int} (h : SetIs w g t sz nd) (hz : t.flat.length ≤ 900000) (hn0 : 0 ≤ nd) (hn1 : nd ≤ 1000000) (hs0 : 0 ≤ sz) (hs1 : sz ≤ 1000000000) :
    Calls Tryd.prog 46 #[.pointer (some ⟨g, 0, none⟩), .int .u64 q] w (PutPost q g t sz nd w) := by
  have H := Aside0.mk h
  have HZ := Aside0.mk hz
  have f0 := h.set.c0
  clear h hz
  go_enter Tryd.func46, Tryd.ntmps46
  go_upto_block 0 with (fail)
  clear f0
  go_wp2
  go_loopg [4] t.flat.length (fun k n w' => ∃ u : T, n = .pointer (ptrA u.ptr) ∧ w' = w ∧ Aside0 (Down w q t u ∧ u.flat.length ≤ k))
  case atStart => exact ⟨t, rfl, rfl, ⟨Down.refl H.out.lies H.out.wf H.out.nodup, Nat.le_refl _⟩⟩
  case round =>
    obtain ⟨u, rfl, rfl, HU⟩ := hrel
    cases u with
    | nil =>
      have hh := Aside0.mk (show t.has q = false from HU.out.1.2.2.2.1)
      have hc := Aside0.mk (show t.cov q = false from HU.out.1.2.2.2.2.1)
      clear HU
      rw [show ptrA T.nil.ptr = none from rfl]
      go_upto_region 10 with (fail)
      refine Rg.region_text (by kernel_rfl) (by kernel_rfl) (fun wd hwd K hK => ?_)
      have H1 : Aside0 (SetIs wd g t sz nd) := ⟨by rw [hwd.out]; exact H.out.move (fun _ _ => rfl)⟩
      have FR1 : Aside0 (Fr (fun k => k = g ∨ k ∈ t.ids) wr wd) := ⟨by rw [hwd.out]; exact (Fr.refl _ _).drew⟩
      have HS : Aside0 (wd.heap.size = wr.heap.size) := ⟨by rw [hwd.out]; rfl⟩
      clear hwd
      have f0 := H1.out.set.c0
      go_wp2_with fail
      refine (ins_tree q g t.ptr sz hq0 hq1 t wd nd false H1.out.lies H1.out.nodup H1.out.wf HZ.out H1.out.out H1.out.set hn0 hn1).mono ?_
      rintro e w2 ⟨id, i1, rfl, P2⟩
      rw [hh.out, hc.out] at P2
      replace P2 := Aside0.mk P2
      rw [HS.out] at i1
      clear f0
      have f0 := P2.out.set.c0
      have z0 := P2.out.set.free 0
      have INM := Aside0.mk (fun k (h : k ∈ (t.ins id q).ids) => T.ins_mem h)
      have IND := Aside0.mk (T.ins_nodup (q := q) H.out.nodup (id := id) (fun h => by have := H.out.lies.lt _ h; omega))
      have IWF := Aside0.mk (T.ins_wf (id := id) hq0 hq1 H.out.wf)
      have GLT := Aside0.mk H.out.set.lt
      have PUT1 : Aside0 (t.put1 id q = t.ins id q) := ⟨by rw [T.put1, hc.out, if_neg (by decide)]⟩
      obtain ⟨t2, ht2⟩ : ∃ t2, t2 = t.ins id q := ⟨_, rfl⟩
      rw [← ht2] at P2 INM IND IWF PUT1 ⊢
      clear ht2
      go_upto_region 11 with (with_reducible refine Rg.only_nil ?_)
      have S3 := Aside0.mk (P2.out.set.set0 t2.ptr)
      have GN : Aside0 (g ∉ t2.ids) := ⟨fun h => (INM.out g h).elim H.out.out (fun h => by have := GLT.out; omega)⟩
      have L3 := Aside0.mk (P2.out.lies.far (p := ⟨g, 0, none⟩) GN.out (.pointer (ptrA t2.ptr)))
      have FR3 := Aside0.mk ((FR1.out.trans P2.out.fr (fun _ _ h => h)).set (p := ⟨g, 0, none⟩) (.inl (.inl rfl)) (.pointer (ptrA t2.ptr)))
      generalize w2.setCell ⟨g, 0, none⟩ (.pointer (ptrA t2.ptr)) = w3 at *
      clear f0 z0 P2 H1 FR1
      have f1 := S3.out.c1
      have z1 := S3.out.free 1
      have f3 := S3.out.c3
      have z3 := S3.out.free 3
      simp only [Bool.not_false, Bool.or_true] at f3
      go_wp2
      go_end0
      refine ⟨id, i1, rfl, ⟨⟨?_, ?_, ?_, ?_, ?_⟩, ?_⟩⟩
      · rw [PUT1.out, hh.out, hc.out]
        exact ((S3.out.set3 false).set1 (sz + 1))
      · rw [PUT1.out]
        exact (L3.out.far (p := ⟨g, 3, none⟩) GN.out _).far (p := ⟨g, 1, none⟩) GN.out _
      · rw [PUT1.out]; exact IND.out
      · rw [PUT1.out]; exact GN.out
      · rw [PUT1.out]; exact IWF.out
      · exact (FR3.out.set (p := ⟨g, 3, none⟩) (.inl (.inl rfl)) _).set (p := ⟨g, 1, none⟩) (.inl (.inl rfl)) _
    | node b x s lt rt =>
      have DN := Aside0.mk HU.out.1
      have HK := HU.out.2
      rw [flat_len_node] at HK
      replace HK := Aside0.mk HK
      clear HU
      have N0 := Aside0.mk DN.out.1.1
      have hx0 : 0 ≤ x := (T.wf_node.1 DN.out.2.1).2.1.1
      have hx1 : x + 2048 < 18446744073709551616 := (T.wf_node.1 DN.out.2.1).2.1.2.1
      have f0 := N0.out.c0
      have f33 := N0.out.cl
      have f34 := N0.out.cr
      rw [show ptrA (T.node b x s lt rt).ptr = some ⟨b, 0, none⟩ from rfl]
      by_cases c1 : q < x
      · have DL := Aside0.mk (DN.out.left c1)
        go_wp2
        go_roundg lt.flat.length
        case measure => have := HK.out; omega
        case rel => exact ⟨lt, rfl, rfl, ⟨DL.out, Nat.le_refl _⟩⟩
      · have c1n : x ≤ q := by omega
        by_cases c2 : x + 2048 ≤ q
        · have DR := Aside0.mk (DN.out.right c1 c2)
          clear c1
          go_wp2
          go_roundg rt.flat.length
          case measure => have := HK.out; omega
          case rel => exact ⟨rt, rfl, rfl, ⟨DR.out, Nat.le_refl _⟩⟩
        · have c2n : q < x + 2048 := by omega
          have BG : Aside0 (b ≠ g) := ⟨fun h => H.out.out (h ▸ DN.out.2.2.2.2.2.1 b (by simp [T.ids_node]))⟩
          have HH := Aside0.mk (show t.has q = bget s (q - x).toNat by rw [DN.out.2.2.2.1, T.has, if_neg c1, if_neg c2])
          have HC := Aside0.mk (show t.cov q = true by rw [DN.out.2.2.2.2.1, T.cov, if_neg c1, if_neg c2])
          have HP := Aside0.mk (show (T.node b x s lt rt).putB q = T.node b x (bput s (q - x).toNat) lt rt by rw [T.putB, if_neg c1, if_neg c2])
          have PUT1 : Aside0 (t.put1 wr.heap.size q = t.putB q) := ⟨by rw [T.put1, HC.out, if_pos rfl]⟩
          clear c1 c2
          go_wp2_with fail
          refine (set_put N0.out H.out.set BG.out hx0 c1n c2n (by omega)).mono ?_
          rintro e w1 ⟨rfl, P⟩
          replace P := Aside0.mk P
          have LP : Aside0 (Lies w1 (t.putB q)) := ⟨DN.out.2.2.2.2.2.2 w1 (fun k hk hn => P.out.fr.block k (H.out.lies.lt k hk) (by
            rintro (rfl | rfl)
            · exact hn (by simp [T.ids_node])
            · exact H.out.out hk)) (by
            rw [HP.out]
            obtain ⟨d1, d2, d3, d4, d5⟩ := nodup_node DN.out.2.2.1
            have sub := DN.out.2.2.2.2.2.1
            refine ⟨P.out.node, DN.out.1.2.1.fr P.out.fr (fun k hk h => ?_), DN.out.1.2.2.fr P.out.fr (fun k hk h => ?_)⟩
            · rcases h with rfl | rfl
              · exact d3 hk
              · exact H.out.out (sub k (by rw [T.ids_node]; exact List.mem_append_left _ hk))
            · rcases h with rfl | rfl
              · exact d4 hk
              · exact H.out.out (sub k (by rw [T.ids_node]; exact List.mem_append_right _ (List.mem_cons_of_mem _ hk))))⟩
          have FRP : Aside0 (Fr (fun k => k = g ∨ k ∈ t.ids) wr w1) := ⟨P.out.fr.mono (fun k hk => hk.elim (fun h => .inr (h ▸ DN.out.2.2.2.2.2.1 b (by simp [T.ids_node]))) .inl)⟩
          have SP := Aside0.mk P.out.set
          have GN : Aside0 (g ∉ (t.putB q).ids) := ⟨by rw [T.putB_ids]; exact H.out.out⟩
          have ND2 : Aside0 (t.putB q).ids.Nodup := ⟨by rw [T.putB_ids]; exact H.out.nodup⟩
          have WF2 := Aside0.mk (T.putB_wf q H.out.wf)
          have PT : Aside0 ((t.putB q).ptr = t.ptr) := ⟨T.putB_ptr q t⟩
          clear f0 f33 f34 P N0 DN HP hx0 hx1 c1n c2n HK
          have f1 := SP.out.c1
          have z1 := SP.out.free 1
          have f3 := SP.out.c3
          have z3 := SP.out.free 3
          cases hb : bget s (q - x).toNat with
          | true =>
            rw [hb] at f3 SP HH
            simp only [Bool.not_true, Bool.or_false] at f3
            clear hb
            go_wp2
            refine bodyPost_ret (results_none rfl _ _ _) rfl ?_
            refine ⟨wr.heap.size, Nat.le_refl _, rfl, ⟨⟨?_, ?_, ?_, ?_, ?_⟩, FRP.out⟩⟩
            · rw [PUT1.out, HH.out, HC.out, PT.out, if_pos rfl, Int.add_zero, Int.add_zero]
              exact SP.out
            · rw [PUT1.out]; exact LP.out
            · rw [PUT1.out]; exact ND2.out
            · rw [PUT1.out]; exact GN.out
            · rw [PUT1.out]; exact WF2.out
          | false =>
            rw [hb] at f3 SP HH
            simp only [Bool.not_false, Bool.or_true] at f3
            clear hb
            go_wp2
            refine bodyPost_ret (results_none rfl _ _ _) rfl ?_
            refine ⟨wr.heap.size, Nat.le_refl _, rfl, ⟨⟨?_, ?_, ?_, ?_, ?_⟩, ?_⟩⟩
            · rw [PUT1.out, HH.out, HC.out, PT.out, if_pos rfl, if_neg (by decide), Int.add_zero]
              exact ((SP.out.set3 false).set1 (sz + 1))
            · rw [PUT1.out]
              exact (LP.out.far (p := ⟨g, 3, none⟩) GN.out _).far (p := ⟨g, 1, none⟩) GN.out _
            · rw [PUT1.out]; exact ND2.out
            · rw [PUT1.out]; exact GN.out
            · rw [PUT1.out]; exact WF2.out
            · exact (FRP.out.set (p := ⟨g, 3, none⟩) (.inl (.inl rfl)) _).set (p := ⟨g, 1, none⟩) (.inl (.inl rfl)) _
end Go.Proofs.YtebgaedalbdhaaaDoor.Av
