/- A number taken out of a tree: the walk down. -/
import Derived.Test.YtebgaedalbdhaaaDoorAvD
namespace Go.Proofs.YtebgaedalbdhaaaDoor.Av
open Go.RowKit Go.Proofs.YtebgaedalbdhaaaDoorW.PrintWords Go.Proofs.YtebgaedalbdhaaaDoorW.PrintLast Go.Proofs.YtebgaedalbdhaaaDoorW.PrintMore
set_option linter.unusedVariables false
set_option linter.unusedSimpArgs false

set_option maxHeartbeats 8000000 in
set_option maxRecDepth 100000 in
theorem del_tree (q : Int) (g : Nat) (root : Option Nat) (sz : Int) (hq0 : 0 ≤ q) (hq1 : q + 2048 < 18446744073709551616) : ∀ (t : T) (w : World) (nd : Int) (ch : Bool), Lies w t → t.ids.Nodup → t.wf → t.flat.length ≤ 900000 → g ∉ t.ids → SetAt w g root sz nd ch → -1000000 ≤ nd → nd ≤ 1000000 →
    Calls Tryd.prog 63 #[.pointer (ptrA t.ptr), .int .u64 q, .pointer (some ⟨g, 3, none⟩), .pointer (some ⟨g, 2, none⟩)] w (DelPost q g t root sz nd ch w) := by
  intro t
  induction t with
  | nil =>
    intro w nd ch _ _ _ _ _ hS _ _
    have S0 := Aside0.mk hS
    clear hS
    show Calls Tryd.prog 63 #[.pointer none, .int .u64 q, .pointer (some ⟨g, 3, none⟩), .pointer (some ⟨g, 2, none⟩)] w _
    go_enter Tryd.func63, Tryd.ntmps63
    go_wp2
    go_ret
    refine .mk rfl ⟨trivial, ?_, Fr.refl _ _⟩
    have e1 : (ch || T.nil.has q) = ch := by simp [T.has]
    have e2 : nd - (if T.nil.gone q = true then 1 else 0) = nd := by simp [T.gone]
    rw [e1, e2]
    exact S0.out
  | node b x s l r ihl ihr =>
    intro w nd ch hL hD hW hZ hg hS hn0 hn1
    by_cases hown : x ≤ q ∧ q < x + 2048
    · exact del_own q g root sz hq0 hq1 b x s l r w nd ch hL hD (T.wf_node.1 hW).2.1.1 (T.wf_node.1 hW).2.1.2.1 hZ hg hS hn0 hn1 hown.1 hown.2
    have GI := Aside0.mk hg
    obtain ⟨hN0, hL0, hR0⟩ := hL
    obtain ⟨hWl, hNW, hWr⟩ := T.wf_node.1 hW
    have N0 := Aside0.mk hN0
    have LL0 := Aside0.mk hL0
    have LR0 := Aside0.mk hR0
    have HD := Aside0.mk hD
    have S0 := Aside0.mk hS
    have WL := Aside0.mk hWl
    have WR := Aside0.mk hWr
    have IHL := Aside0.mk ihl
    have IHR := Aside0.mk ihr
    have HZ := Aside0.mk hZ
    rw [flat_len_node] at HZ
    have f0 := hN0.c0
    have f33 := hN0.cl
    have f34 := hN0.cr
    have z33 := hN0.free 33
    have z34 := hN0.free 34
    have f2 := hS.c2
    have hx0 : 0 ≤ x := hNW.1
    have hx1 : x + 2048 < 18446744073709551616 := hNW.2.1
    have gm : g ≠ b ∧ g ∉ l.ids ∧ g ∉ r.ids := by
      rw [T.ids_node] at hg
      refine ⟨fun h => hg (by rw [h]; simp), fun h => hg (List.mem_append_left _ h), fun h => hg (List.mem_append_right _ (List.mem_cons_of_mem _ h))⟩
    obtain ⟨hgb, gl, gr⟩ := gm
    have hbg := Ne.symm hgb
    have GL := Aside0.mk gl
    have GR := Aside0.mk gr
    clear hN0 hL0 hR0 hD hW hWl hWr hNW ihl ihr hZ hg hS gl gr
    obtain ⟨dl, dr, bl, br, dd⟩ := nodup_node HD.out
    have DL0 := Aside0.mk dl
    have DR0 := Aside0.mk dr
    have BL0 := Aside0.mk bl
    have BR0 := Aside0.mk br
    have DD0 := Aside0.mk dd
    clear dl dr bl br dd
    show Calls Tryd.prog 63 #[.pointer (some ⟨b, 0, none⟩), .int .u64 q, .pointer (some ⟨g, 3, none⟩), .pointer (some ⟨g, 2, none⟩)] w _
    by_cases c1 : q < x
    · clear hown
      have EH := Aside0.mk (show (T.node b x s l r).has q = l.has q by rw [T.has, if_pos c1])
      have EG := Aside0.mk (show (T.node b x s l r).gone q = l.gone q by rw [T.gone, if_pos c1])
      have ED := Aside0.mk (show (T.node b x s l r).del q = if l.gone q then (T.node b x s (l.del q) r).bal else (T.node b x s (l.del q) r) by rw [T.del, if_pos c1])
      have HT0 := Aside0.mk (T.del_ht q l)
      go_enter Tryd.func63, Tryd.ntmps63
      go_wp2_with fail
      refine (IHL.out w nd ch LL0.out DL0.out WL.out (by have := HZ.out; omega) GL.out S0.out hn0 hn1).mono ?_
      rintro e w2 ⟨rfl, P2⟩
      replace P2 := Aside0.mk P2
      have N2 := Aside0.mk (N0.out.fr P2.out.fr (fun h => h.elim hbg BL0.out))
      have LO2 := Aside0.mk (LR0.out.fr P2.out.fr (fun k hk h => h.elim (fun h => GR.out (h ▸ hk)) (fun h => DD0.out k h hk)))
      have IDM := Aside0.mk (fun k (h : k ∈ (l.del q).ids) => T.del_mem h)
      have IDD := Aside0.mk (List.Nodup.sublist (T.del_sub q l) DL0.out)
      have ILN := Aside0.mk (T.del_len q l)
      clear f0 f33 f34 z33 z34 f2
      have f33 := N2.out.cl
      have z33 := N2.out.free 33
      obtain ⟨L, hL⟩ : ∃ L, L = l.del q := ⟨_, rfl⟩
      rw [← hL] at P2 IDM IDD ILN ED HT0 ⊢
      clear hL c1
      go_upto_region 17 with (fail)
      have N1 := Aside0.mk (N2.out.setL L.ptr)
      have BX1 : Aside0 (b ∉ L.ids) := ⟨fun h => BL0.out (IDM.out b h)⟩
      have LL := Aside0.mk (P2.out.lies.far (p := ⟨b, 33, none⟩) BX1.out (.pointer (ptrA L.ptr)))
      have LR := Aside0.mk (LO2.out.far (p := ⟨b, 33, none⟩) BR0.out (.pointer (ptrA L.ptr)))
      have S1 := Aside0.mk (P2.out.set.far (p := ⟨b, 33, none⟩) hgb (.pointer (ptrA L.ptr)))
      have FR1 := Aside0.mk ((P2.out.fr.mono (G := fun k => k = g ∨ k ∈ (T.node b x s l r).ids) (fun k hk => hk.imp_right (fun h => by rw [T.ids_node]; exact List.mem_append_left _ h))).set (p := ⟨b, 33, none⟩) (.inl (.inr (by simp [T.ids_node]))) (.pointer (ptrA L.ptr)))
      have ND : Aside0 (T.node b x s L r).ids.Nodup := ⟨by
                rw [T.ids_node, List.nodup_append, List.nodup_cons]
                refine ⟨IDD.out, ⟨BR0.out, DR0.out⟩, fun a ha c hc e => ?_⟩
                subst e
                rcases List.mem_cons.1 hc with rfl | hc
                · exact BX1.out ha
                · exact DD0.out a (IDM.out a ha) hc⟩
      have SZ : Aside0 ((T.node b x s L r).flat.length ≤ 1000000) := ⟨by rw [flat_len_node]; have := HZ.out; have := ILN.out; omega⟩
      have MEM : Aside0 (∀ k, k ∈ (T.node b x s L r).ids → k ∈ (T.node b x s l r).ids) := ⟨fun k h => by
                rw [T.ids_node] at h ⊢
                rcases List.mem_append.1 h with h | h
                · exact List.mem_append_left _ (IDM.out k h)
                · exact List.mem_append_right _ h⟩
      generalize w2.setCell ⟨b, 33, none⟩ (.pointer (ptrA L.ptr)) = w1 at *
      clear f33 z33
      cases hgone : l.gone q with
      | true =>
        rw [hgone, if_pos rfl] at ED S1
        rw [hgone] at EG
        have FIN : Aside0 (∀ w', TreePut w1 w' (T.node b x s L r) (T.node b x s L r).bal → ∀ e, e = .returned (.pointer (ptrA (T.node b x s L r).bal.ptr)) → DelPost q g (T.node b x s l r) root sz nd ch w e w') := ⟨fun w' P e he => by
          refine .mk (by rw [ED.out]; exact he) ⟨by rw [ED.out]; exact P.lies, ?_, FR1.out.trans P.fr (fun k _ h => .inr (MEM.out k h))⟩
          rw [EG.out, EH.out, if_pos rfl]
          exact S1.out.fr P.fr (fun h => GI.out (MEM.out g h))⟩
        have f2 := S1.out.c2
        have d1 : (nd - 1 == nd) = false := by simp; omega
        clear N0 N2 LL0 LR0 LO2 P2 IHL IHR S0 S1 EH EG ED HT0 hq0 hq1 hx0 hx1 hgb hbg hgone
        obtain ⟨dl, dr, bl, br, dd⟩ := nodup_node ND.out
        have SZ2 := Aside0.mk SZ.out
        rw [flat_len_node] at SZ2
        have DL := Aside0.mk dl
        have DR := Aside0.mk dr
        have BL := Aside0.mk bl
        have BR := Aside0.mk br
        have DD := Aside0.mk dd
        clear dl dr bl br dd
        have fh := N1.out.ch
        have zh := N1.out.free 35
        have HB := Aside0.mk (ht_bound (t := (T.node b x s L r)) SZ.out)
        have hm1 : -1 ≤ (T.node b x s L r).ht - 1 ∧ (T.node b x s L r).ht - 1 ≤ 1000000 := by have := HB.out; omega
        obtain ⟨hm1, hm2⟩ := hm1
        go_wp2_with fail
        refine (maxH_calls N1.out LL.out.hat LR.out.hat).mono ?_
        rintro e w' ⟨rfl, rfl⟩
        have hmx : (if r.ht < L.ht then L.ht else r.ht) = (T.node b x s L r).ht - 1 := by rw [T.ht]; omega
        rw [hmx]
        have hmy : (T.node b x s L r).ht - 1 + 1 = (T.node b x s L r).ht := by omega
        have HY := Aside0.mk hmy
        clear hmx hmy
        obtain ⟨H, hH⟩ : ∃ H, H = (T.node b x s L r).ht - 1 := ⟨_, rfl⟩
        rw [← hH] at hm1 hm2 HY ⊢
        clear hH
        go_wp2_with fail
        have N2 := Aside0.mk (N1.out.setH (H + 1))
        have LL2 := Aside0.mk (LL.out.far (p := ⟨b, 35, none⟩) BL.out (.int .i64 (H + 1)))
        have LR2 := Aside0.mk (LR.out.far (p := ⟨b, 35, none⟩) BR.out (.int .i64 (H + 1)))
        have FR2 := Aside0.mk ((Fr.refl (fun k => k ∈ (T.node b x s L r).ids) w1).set (p := ⟨b, 35, none⟩) (.inl (show b ∈ (T.node b x s L r).ids by simp [T.ids_node])) (.int .i64 (H + 1)))
        have SS2 := Aside0.mk (setCell_size w1 ⟨b, 35, none⟩ (.int .i64 (H + 1)))
        generalize w1.setCell ⟨b, 35, none⟩ (.int .i64 (H + 1)) = w2 at *
        rw [HY.out] at N2
        clear fh zh N1 LL LR hm1 hm2 HY
        refine (balF_calls N2.out LL2.out.hat LR2.out.hat (ht_bound (by have := SZ2.out; omega)) (ht_bound (by have := SZ2.out; omega))).mono ?_
        rintro e w' ⟨rfl, rfl⟩
        have f33 := N2.out.cl
        have f34 := N2.out.cr
        have z33 := N2.out.free 33
        have z34 := N2.out.free 34
        by_cases c1 : 1 < L.ht - r.ht
        · have c1' := Aside0.mk c1
          cases L with
          | nil =>
            exfalso
            have := r.ht_nonneg
            simp [T.ht] at c1
            omega
          | node c x' s' l' r' =>
            by_cases c2 : (T.node c x' s' l' r').bf < 0
            · have C2 := Aside0.mk c2
              obtain ⟨c3, x3, s3, l3, r3, rfl⟩ := bf_neg c2
              have RT : (T.node b x s (T.node c x' s' l' (T.node c3 x3 s3 l3 r3)) r).bal = (T.node b x s (T.node c x' s' l' (T.node c3 x3 s3 l3 r3)).rotL r).rotR := by rw [T.bal, if_pos c1, if_pos c2]
              replace RT := Aside0.mk RT
              simp only [T.ptr, ptrA] at f33
              go_wp2_with fail
              refine (balF_tree LL2.out (by have := SZ2.out; omega)).mono ?_
              rintro e w' ⟨rfl, rfl⟩
              go_wp2_with fail
              refine (rotL_tree LL2.out.1 LL2.out.2.2 LL2.out.2.1 DL.out (by have := SZ2.out; omega)).mono ?_
              rintro e w3 ⟨rfl, P3⟩
              have P3 := Aside0.mk P3
              have N3 := Aside0.mk (N2.out.fr P3.out.fr BL.out)
              have LR3 := Aside0.mk (LR2.out.fr P3.out.fr (fun k hk hk2 => DD.out k hk2 hk))
              clear f33 f34 z33 z34 c1 c2
              have f33 := N3.out.cl
              have z33 := N3.out.free 33
              go_wp2_with fail
              have N4 := Aside0.mk (N3.out.setL (some c3))
              have LL4 := Aside0.mk (P3.out.lies.far (p := ⟨b, 33, none⟩) (by rw [T.rotL_ids]; exact BL.out) (.pointer (some ⟨c3, 0, none⟩)))
              have LR4 := Aside0.mk (LR3.out.far (p := ⟨b, 33, none⟩) BR.out (.pointer (some ⟨c3, 0, none⟩)))
              have FR4 := Aside0.mk ((FR2.out.trans (P3.out.fr.mono (G := fun k => k ∈ (T.node b x s (T.node c x' s' l' (T.node c3 x3 s3 l3 r3)) r).ids) (fun k hk => by rw [T.ids_node]; exact List.mem_append_left _ hk)) (fun _ _ h => h)).set (p := ⟨b, 33, none⟩) (.inl (by simp [T.ids_node])) (.pointer (some ⟨c3, 0, none⟩)))
              have SS4 := Aside0.mk ((setCell_size w3 ⟨b, 33, none⟩ (.pointer (some ⟨c3, 0, none⟩))).trans (P3.out.size.trans SS2.out))
              simp only [ptrA] at N4
              generalize w3.setCell ⟨b, 33, none⟩ (.pointer (some ⟨c3, 0, none⟩)) = w4 at *
              clear f33 z33 N3 LR3 P3 N2 LL2 LR2 FR2
              refine (rotR_tree (r := r) N4.out LL4.out LR4.out (by rw [T.ids_node]; have h := ND.out; rw [T.ids_node] at h; have e := T.rotL_ids (T.node c x' s' l' (T.node c3 x3 s3 l3 r3)); rw [T.rotL] at e; rw [e]; exact h) (by have h := SZ.out; rw [T.flat_node] at h ⊢; have e := T.rotL_flat (T.node c x' s' l' (T.node c3 x3 s3 l3 r3)); rw [T.rotL] at e; rw [e]; exact h)).mono ?_
              rintro e w5 ⟨rfl, P5⟩
              have P5 := Aside0.mk P5
              go_wp2
              have PUT : TreePut w1 w5 (T.node b x s (T.node c x' s' l' (T.node c3 x3 s3 l3 r3)) r) (T.node b x s (T.node c x' s' l' (T.node c3 x3 s3 l3 r3)) r).bal := by
                rw [RT.out]
                refine ⟨P5.out.lies, FR4.out.trans P5.out.fr (fun k _ hk => ?_), P5.out.size.trans SS4.out⟩
                rw [T.ids_node] at hk ⊢
                have e := T.rotL_ids (T.node c x' s' l' (T.node c3 x3 s3 l3 r3))
                rw [T.rotL] at e
                rw [e] at hk
                exact hk
              have PTR : (T.node b x s (T.node c x' s' l' (T.node c3 x3 s3 l3 r3)) r).bal.ptr = some c3 := by rw [RT.out]; rfl
              go_ret
              exact FIN.out _ PUT _ (by rw [PTR]; rfl)
            · have RT : (T.node b x s (T.node c x' s' l' r') r).bal = (T.node b x s (T.node c x' s' l' r') r).rotR := by rw [T.bal, if_pos c1, if_neg c2]
              replace RT := Aside0.mk RT
              have c2 : 0 ≤ (T.node c x' s' l' r').bf := by omega
              simp only [T.ptr, ptrA] at f33
              go_wp2_with fail
              refine (balF_tree LL2.out (by have := SZ2.out; omega)).mono ?_
              rintro e w' ⟨rfl, rfl⟩
              go_wp2_with fail
              refine (rotR_tree N2.out LL2.out LR2.out ND.out SZ.out).mono ?_
              rintro e w5 ⟨rfl, P5⟩
              have P5 := Aside0.mk P5
              clear f33 f34 z33 z34 c1 c2
              go_wp2
              have PUT : TreePut w1 w5 (T.node b x s (T.node c x' s' l' r') r) (T.node b x s (T.node c x' s' l' r') r).bal := by
                rw [RT.out]
                exact ⟨P5.out.lies, FR2.out.trans P5.out.fr (fun _ _ h => h), P5.out.size.trans SS2.out⟩
              have PTR : (T.node b x s (T.node c x' s' l' r') r).bal.ptr = some c := by rw [RT.out]; rfl
              go_ret
              exact FIN.out _ PUT _ (by rw [PTR]; rfl)
        · have c1n : L.ht - r.ht ≤ 1 := by omega
          by_cases c2 : L.ht - r.ht < -1
          · have c2' := Aside0.mk c2
            cases r with
            | nil =>
              exfalso
              have := L.ht_nonneg
              simp [T.ht] at c2
              omega
            | node c x' s' l' r' =>
              by_cases c3 : 0 < (T.node c x' s' l' r').bf
              · have C3 := Aside0.mk c3
                obtain ⟨c4, x3, s3, l3, r3, rfl⟩ := bf_pos c3
                have RT : (T.node b x s L (T.node c x' s' (T.node c4 x3 s3 l3 r3) r')).bal = (T.node b x s L (T.node c x' s' (T.node c4 x3 s3 l3 r3) r').rotR).rotL := by rw [T.bal, if_neg c1, if_pos c2, if_pos c3]
                replace RT := Aside0.mk RT
                simp only [T.ptr, ptrA] at f34
                clear c1
                go_wp2_with fail
                refine (balF_tree LR2.out (by have := SZ2.out; omega)).mono ?_
                rintro e w' ⟨rfl, rfl⟩
                go_wp2_with fail
                refine (rotR_tree LR2.out.1 LR2.out.2.1 LR2.out.2.2 DR.out (by have := SZ2.out; omega)).mono ?_
                rintro e w3 ⟨rfl, P3⟩
                have P3 := Aside0.mk P3
                have N3 := Aside0.mk (N2.out.fr P3.out.fr BR.out)
                have LL3 := Aside0.mk (LL2.out.fr P3.out.fr (fun k hk hk2 => DD.out k hk hk2))
                clear f33 f34 z33 z34 c2 c3 c1n
                have f34 := N3.out.cr
                have z34 := N3.out.free 34
                go_wp2_with fail
                have N4 := Aside0.mk (N3.out.setR (some c4))
                have LR4 := Aside0.mk (P3.out.lies.far (p := ⟨b, 34, none⟩) (by rw [T.rotR_ids]; exact BR.out) (.pointer (some ⟨c4, 0, none⟩)))
                have LL4 := Aside0.mk (LL3.out.far (p := ⟨b, 34, none⟩) BL.out (.pointer (some ⟨c4, 0, none⟩)))
                have FR4 := Aside0.mk ((FR2.out.trans (P3.out.fr.mono (G := fun k => k ∈ (T.node b x s L (T.node c x' s' (T.node c4 x3 s3 l3 r3) r')).ids) (fun k hk => by rw [T.ids_node]; exact List.mem_append_right _ (List.mem_cons_of_mem _ hk))) (fun _ _ h => h)).set (p := ⟨b, 34, none⟩) (.inl (by simp [T.ids_node])) (.pointer (some ⟨c4, 0, none⟩)))
                have SS4 := Aside0.mk ((setCell_size w3 ⟨b, 34, none⟩ (.pointer (some ⟨c4, 0, none⟩))).trans (P3.out.size.trans SS2.out))
                simp only [ptrA] at N4
                generalize w3.setCell ⟨b, 34, none⟩ (.pointer (some ⟨c4, 0, none⟩)) = w4 at *
                clear f34 z34 N3 LL3 P3 N2 LL2 LR2 FR2
                refine (rotL_tree (l := L) N4.out LR4.out LL4.out (by rw [T.ids_node]; have h := ND.out; rw [T.ids_node] at h; have e := T.rotR_ids (T.node c x' s' (T.node c4 x3 s3 l3 r3) r'); rw [T.rotR] at e; rw [e]; exact h) (by have h := SZ.out; rw [T.flat_node] at h ⊢; have e := T.rotR_flat (T.node c x' s' (T.node c4 x3 s3 l3 r3) r'); rw [T.rotR] at e; rw [e]; exact h)).mono ?_
                rintro e w5 ⟨rfl, P5⟩
                have P5 := Aside0.mk P5
                go_wp2
                have PUT : TreePut w1 w5 (T.node b x s L (T.node c x' s' (T.node c4 x3 s3 l3 r3) r')) (T.node b x s L (T.node c x' s' (T.node c4 x3 s3 l3 r3) r')).bal := by
                  rw [RT.out]
                  refine ⟨P5.out.lies, FR4.out.trans P5.out.fr (fun k _ hk => ?_), P5.out.size.trans SS4.out⟩
                  rw [T.ids_node] at hk ⊢
                  have e := T.rotR_ids (T.node c x' s' (T.node c4 x3 s3 l3 r3) r')
                  rw [T.rotR] at e
                  rw [e] at hk
                  exact hk
                have PTR : (T.node b x s L (T.node c x' s' (T.node c4 x3 s3 l3 r3) r')).bal.ptr = some c4 := by rw [RT.out]; rfl
                go_ret
                exact FIN.out _ PUT _ (by rw [PTR]; rfl)
              · have RT : (T.node b x s L (T.node c x' s' l' r')).bal = (T.node b x s L (T.node c x' s' l' r')).rotL := by rw [T.bal, if_neg c1, if_pos c2, if_neg c3]
                replace RT := Aside0.mk RT
                have c3 : (T.node c x' s' l' r').bf ≤ 0 := by omega
                simp only [T.ptr, ptrA] at f34
                clear c1
                go_wp2_with fail
                refine (balF_tree LR2.out (by have := SZ2.out; omega)).mono ?_
                rintro e w' ⟨rfl, rfl⟩
                go_wp2_with fail
                refine (rotL_tree N2.out LR2.out LL2.out ND.out SZ.out).mono ?_
                rintro e w5 ⟨rfl, P5⟩
                have P5 := Aside0.mk P5
                clear f33 f34 z33 z34 c2 c3 c1n
                go_wp2
                have PUT : TreePut w1 w5 (T.node b x s L (T.node c x' s' l' r')) (T.node b x s L (T.node c x' s' l' r')).bal := by
                  rw [RT.out]
                  exact ⟨P5.out.lies, FR2.out.trans P5.out.fr (fun _ _ h => h), P5.out.size.trans SS2.out⟩
                have PTR : (T.node b x s L (T.node c x' s' l' r')).bal.ptr = some c := by rw [RT.out]; rfl
                go_ret
                exact FIN.out _ PUT _ (by rw [PTR]; rfl)
          · have RT : (T.node b x s L r).bal = (T.node b x s L r) := by rw [T.bal, if_neg c1, if_neg c2]
            replace RT := Aside0.mk RT
            have c2n : -1 ≤ L.ht - r.ht := by omega
            clear c1 c2 f33 f34 z33 z34
            go_wp2
            have PUT : TreePut w1 w2 (T.node b x s L r) (T.node b x s L r).bal := by
              rw [RT.out]
              exact ⟨⟨N2.out, LL2.out, LR2.out⟩, FR2.out, SS2.out⟩
            have PTR : (T.node b x s L r).bal.ptr = some b := by rw [RT.out]; rfl
            go_ret
            exact FIN.out _ PUT _ (by rw [PTR]; rfl)
      | false =>
        rw [hgone, if_neg (by decide), Int.sub_zero] at S1
        rw [hgone, if_neg (by decide)] at ED
        rw [hgone] at EG
        have f2 := S1.out.c2
        have HT1 := Aside0.mk (HT0.out hgone)
        clear hgone
        go_wp2
        go_ret
        refine .mk (by rw [ED.out]; rfl) ⟨?_, ?_, FR1.out⟩
        · rw [ED.out]
          have e1 : (T.node b x s L r).ht = (T.node b x s l r).ht := by rw [T.ht, T.ht, HT1.out]
          refine ⟨?_, LL.out, LR.out⟩
          rw [e1]
          exact N1.out
        · rw [EG.out, EH.out, if_neg (by decide), Int.sub_zero]
          exact S1.out
    · have c2 : x + 2048 ≤ q := by omega
      clear hown
      have EH := Aside0.mk (show (T.node b x s l r).has q = r.has q by rw [T.has, if_neg c1, if_pos c2])
      have EG := Aside0.mk (show (T.node b x s l r).gone q = r.gone q by rw [T.gone, if_neg c1, if_pos c2])
      have ED := Aside0.mk (show (T.node b x s l r).del q = if r.gone q then (T.node b x s l (r.del q)).bal else (T.node b x s l (r.del q)) by rw [T.del, if_neg c1, if_pos c2])
      have HT0 := Aside0.mk (T.del_ht q r)
      have c1p : x ≤ q := by omega
      clear c1
      go_enter Tryd.func63, Tryd.ntmps63
      go_wp2_with fail
      refine (IHR.out w nd ch LR0.out DR0.out WR.out (by have := HZ.out; omega) GR.out S0.out hn0 hn1).mono ?_
      rintro e w2 ⟨rfl, P2⟩
      replace P2 := Aside0.mk P2
      have N2 := Aside0.mk (N0.out.fr P2.out.fr (fun h => h.elim hbg BR0.out))
      have LO2 := Aside0.mk (LL0.out.fr P2.out.fr (fun k hk h => h.elim (fun h => GL.out (h ▸ hk)) (fun h => DD0.out k hk h)))
      have IDM := Aside0.mk (fun k (h : k ∈ (r.del q).ids) => T.del_mem h)
      have IDD := Aside0.mk (List.Nodup.sublist (T.del_sub q r) DR0.out)
      have ILN := Aside0.mk (T.del_len q r)
      clear f0 f33 f34 z33 z34 f2
      have f34 := N2.out.cr
      have z34 := N2.out.free 34
      obtain ⟨R, hR⟩ : ∃ R, R = r.del q := ⟨_, rfl⟩
      rw [← hR] at P2 IDM IDD ILN ED HT0 ⊢
      clear hR c2 c1p
      go_upto_region 17 with (fail)
      have N1 := Aside0.mk (N2.out.setR R.ptr)
      have BX1 : Aside0 (b ∉ R.ids) := ⟨fun h => BR0.out (IDM.out b h)⟩
      have LL := Aside0.mk (LO2.out.far (p := ⟨b, 34, none⟩) BL0.out (.pointer (ptrA R.ptr)))
      have LR := Aside0.mk (P2.out.lies.far (p := ⟨b, 34, none⟩) BX1.out (.pointer (ptrA R.ptr)))
      have S1 := Aside0.mk (P2.out.set.far (p := ⟨b, 34, none⟩) hgb (.pointer (ptrA R.ptr)))
      have FR1 := Aside0.mk ((P2.out.fr.mono (G := fun k => k = g ∨ k ∈ (T.node b x s l r).ids) (fun k hk => hk.imp_right (fun h => by rw [T.ids_node]; exact List.mem_append_right _ (List.mem_cons_of_mem _ h)))).set (p := ⟨b, 34, none⟩) (.inl (.inr (by simp [T.ids_node]))) (.pointer (ptrA R.ptr)))
      have ND : Aside0 (T.node b x s l R).ids.Nodup := ⟨by
                rw [T.ids_node, List.nodup_append, List.nodup_cons]
                refine ⟨DL0.out, ⟨BX1.out, IDD.out⟩, fun a ha c hc e => ?_⟩
                subst e
                rcases List.mem_cons.1 hc with rfl | hc
                · exact BL0.out ha
                · exact DD0.out a ha (IDM.out a hc)⟩
      have SZ : Aside0 ((T.node b x s l R).flat.length ≤ 1000000) := ⟨by rw [flat_len_node]; have := HZ.out; have := ILN.out; omega⟩
      have MEM : Aside0 (∀ k, k ∈ (T.node b x s l R).ids → k ∈ (T.node b x s l r).ids) := ⟨fun k h => by
                rw [T.ids_node] at h ⊢
                rcases List.mem_append.1 h with h | h
                · exact List.mem_append_left _ h
                · rcases List.mem_cons.1 h with h | h
                  · exact List.mem_append_right _ (h ▸ List.mem_cons_self)
                  · exact List.mem_append_right _ (List.mem_cons_of_mem _ (IDM.out k h))⟩
      generalize w2.setCell ⟨b, 34, none⟩ (.pointer (ptrA R.ptr)) = w1 at *
      clear f34 z34
      cases hgone : r.gone q with
      | true =>
        rw [hgone, if_pos rfl] at ED S1
        rw [hgone] at EG
        have FIN : Aside0 (∀ w', TreePut w1 w' (T.node b x s l R) (T.node b x s l R).bal → ∀ e, e = .returned (.pointer (ptrA (T.node b x s l R).bal.ptr)) → DelPost q g (T.node b x s l r) root sz nd ch w e w') := ⟨fun w' P e he => by
          refine .mk (by rw [ED.out]; exact he) ⟨by rw [ED.out]; exact P.lies, ?_, FR1.out.trans P.fr (fun k _ h => .inr (MEM.out k h))⟩
          rw [EG.out, EH.out, if_pos rfl]
          exact S1.out.fr P.fr (fun h => GI.out (MEM.out g h))⟩
        have f2 := S1.out.c2
        have d1 : (nd - 1 == nd) = false := by simp; omega
        clear N0 N2 LL0 LR0 LO2 P2 IHL IHR S0 S1 EH EG ED HT0 hq0 hq1 hx0 hx1 hgb hbg hgone
        obtain ⟨dl, dr, bl, br, dd⟩ := nodup_node ND.out
        have SZ2 := Aside0.mk SZ.out
        rw [flat_len_node] at SZ2
        have DL := Aside0.mk dl
        have DR := Aside0.mk dr
        have BL := Aside0.mk bl
        have BR := Aside0.mk br
        have DD := Aside0.mk dd
        clear dl dr bl br dd
        have fh := N1.out.ch
        have zh := N1.out.free 35
        have HB := Aside0.mk (ht_bound (t := (T.node b x s l R)) SZ.out)
        have hm1 : -1 ≤ (T.node b x s l R).ht - 1 ∧ (T.node b x s l R).ht - 1 ≤ 1000000 := by have := HB.out; omega
        obtain ⟨hm1, hm2⟩ := hm1
        go_wp2_with fail
        refine (maxH_calls N1.out LL.out.hat LR.out.hat).mono ?_
        rintro e w' ⟨rfl, rfl⟩
        have hmx : (if R.ht < l.ht then l.ht else R.ht) = (T.node b x s l R).ht - 1 := by rw [T.ht]; omega
        rw [hmx]
        have hmy : (T.node b x s l R).ht - 1 + 1 = (T.node b x s l R).ht := by omega
        have HY := Aside0.mk hmy
        clear hmx hmy
        obtain ⟨H, hH⟩ : ∃ H, H = (T.node b x s l R).ht - 1 := ⟨_, rfl⟩
        rw [← hH] at hm1 hm2 HY ⊢
        clear hH
        go_wp2_with fail
        have N2 := Aside0.mk (N1.out.setH (H + 1))
        have LL2 := Aside0.mk (LL.out.far (p := ⟨b, 35, none⟩) BL.out (.int .i64 (H + 1)))
        have LR2 := Aside0.mk (LR.out.far (p := ⟨b, 35, none⟩) BR.out (.int .i64 (H + 1)))
        have FR2 := Aside0.mk ((Fr.refl (fun k => k ∈ (T.node b x s l R).ids) w1).set (p := ⟨b, 35, none⟩) (.inl (show b ∈ (T.node b x s l R).ids by simp [T.ids_node])) (.int .i64 (H + 1)))
        have SS2 := Aside0.mk (setCell_size w1 ⟨b, 35, none⟩ (.int .i64 (H + 1)))
        generalize w1.setCell ⟨b, 35, none⟩ (.int .i64 (H + 1)) = w2 at *
        rw [HY.out] at N2
        clear fh zh N1 LL LR hm1 hm2 HY
        refine (balF_calls N2.out LL2.out.hat LR2.out.hat (ht_bound (by have := SZ2.out; omega)) (ht_bound (by have := SZ2.out; omega))).mono ?_
        rintro e w' ⟨rfl, rfl⟩
        have f33 := N2.out.cl
        have f34 := N2.out.cr
        have z33 := N2.out.free 33
        have z34 := N2.out.free 34
        by_cases c1 : 1 < l.ht - R.ht
        · have c1' := Aside0.mk c1
          cases l with
          | nil =>
            exfalso
            have := R.ht_nonneg
            simp [T.ht] at c1
            omega
          | node c x' s' l' r' =>
            by_cases c2 : (T.node c x' s' l' r').bf < 0
            · have C2 := Aside0.mk c2
              obtain ⟨c3, x3, s3, l3, r3, rfl⟩ := bf_neg c2
              have RT : (T.node b x s (T.node c x' s' l' (T.node c3 x3 s3 l3 r3)) R).bal = (T.node b x s (T.node c x' s' l' (T.node c3 x3 s3 l3 r3)).rotL R).rotR := by rw [T.bal, if_pos c1, if_pos c2]
              replace RT := Aside0.mk RT
              simp only [T.ptr, ptrA] at f33
              go_wp2_with fail
              refine (balF_tree LL2.out (by have := SZ2.out; omega)).mono ?_
              rintro e w' ⟨rfl, rfl⟩
              go_wp2_with fail
              refine (rotL_tree LL2.out.1 LL2.out.2.2 LL2.out.2.1 DL.out (by have := SZ2.out; omega)).mono ?_
              rintro e w3 ⟨rfl, P3⟩
              have P3 := Aside0.mk P3
              have N3 := Aside0.mk (N2.out.fr P3.out.fr BL.out)
              have LR3 := Aside0.mk (LR2.out.fr P3.out.fr (fun k hk hk2 => DD.out k hk2 hk))
              clear f33 f34 z33 z34 c1 c2
              have f33 := N3.out.cl
              have z33 := N3.out.free 33
              go_wp2_with fail
              have N4 := Aside0.mk (N3.out.setL (some c3))
              have LL4 := Aside0.mk (P3.out.lies.far (p := ⟨b, 33, none⟩) (by rw [T.rotL_ids]; exact BL.out) (.pointer (some ⟨c3, 0, none⟩)))
              have LR4 := Aside0.mk (LR3.out.far (p := ⟨b, 33, none⟩) BR.out (.pointer (some ⟨c3, 0, none⟩)))
              have FR4 := Aside0.mk ((FR2.out.trans (P3.out.fr.mono (G := fun k => k ∈ (T.node b x s (T.node c x' s' l' (T.node c3 x3 s3 l3 r3)) R).ids) (fun k hk => by rw [T.ids_node]; exact List.mem_append_left _ hk)) (fun _ _ h => h)).set (p := ⟨b, 33, none⟩) (.inl (by simp [T.ids_node])) (.pointer (some ⟨c3, 0, none⟩)))
              have SS4 := Aside0.mk ((setCell_size w3 ⟨b, 33, none⟩ (.pointer (some ⟨c3, 0, none⟩))).trans (P3.out.size.trans SS2.out))
              simp only [ptrA] at N4
              generalize w3.setCell ⟨b, 33, none⟩ (.pointer (some ⟨c3, 0, none⟩)) = w4 at *
              clear f33 z33 N3 LR3 P3 N2 LL2 LR2 FR2
              refine (rotR_tree (r := R) N4.out LL4.out LR4.out (by rw [T.ids_node]; have h := ND.out; rw [T.ids_node] at h; have e := T.rotL_ids (T.node c x' s' l' (T.node c3 x3 s3 l3 r3)); rw [T.rotL] at e; rw [e]; exact h) (by have h := SZ.out; rw [T.flat_node] at h ⊢; have e := T.rotL_flat (T.node c x' s' l' (T.node c3 x3 s3 l3 r3)); rw [T.rotL] at e; rw [e]; exact h)).mono ?_
              rintro e w5 ⟨rfl, P5⟩
              have P5 := Aside0.mk P5
              go_wp2
              have PUT : TreePut w1 w5 (T.node b x s (T.node c x' s' l' (T.node c3 x3 s3 l3 r3)) R) (T.node b x s (T.node c x' s' l' (T.node c3 x3 s3 l3 r3)) R).bal := by
                rw [RT.out]
                refine ⟨P5.out.lies, FR4.out.trans P5.out.fr (fun k _ hk => ?_), P5.out.size.trans SS4.out⟩
                rw [T.ids_node] at hk ⊢
                have e := T.rotL_ids (T.node c x' s' l' (T.node c3 x3 s3 l3 r3))
                rw [T.rotL] at e
                rw [e] at hk
                exact hk
              have PTR : (T.node b x s (T.node c x' s' l' (T.node c3 x3 s3 l3 r3)) R).bal.ptr = some c3 := by rw [RT.out]; rfl
              go_ret
              exact FIN.out _ PUT _ (by rw [PTR]; rfl)
            · have RT : (T.node b x s (T.node c x' s' l' r') R).bal = (T.node b x s (T.node c x' s' l' r') R).rotR := by rw [T.bal, if_pos c1, if_neg c2]
              replace RT := Aside0.mk RT
              have c2 : 0 ≤ (T.node c x' s' l' r').bf := by omega
              simp only [T.ptr, ptrA] at f33
              go_wp2_with fail
              refine (balF_tree LL2.out (by have := SZ2.out; omega)).mono ?_
              rintro e w' ⟨rfl, rfl⟩
              go_wp2_with fail
              refine (rotR_tree N2.out LL2.out LR2.out ND.out SZ.out).mono ?_
              rintro e w5 ⟨rfl, P5⟩
              have P5 := Aside0.mk P5
              clear f33 f34 z33 z34 c1 c2
              go_wp2
              have PUT : TreePut w1 w5 (T.node b x s (T.node c x' s' l' r') R) (T.node b x s (T.node c x' s' l' r') R).bal := by
                rw [RT.out]
                exact ⟨P5.out.lies, FR2.out.trans P5.out.fr (fun _ _ h => h), P5.out.size.trans SS2.out⟩
              have PTR : (T.node b x s (T.node c x' s' l' r') R).bal.ptr = some c := by rw [RT.out]; rfl
              go_ret
              exact FIN.out _ PUT _ (by rw [PTR]; rfl)
        · have c1n : l.ht - R.ht ≤ 1 := by omega
          by_cases c2 : l.ht - R.ht < -1
          · have c2' := Aside0.mk c2
            cases R with
            | nil =>
              exfalso
              have := l.ht_nonneg
              simp [T.ht] at c2
              omega
            | node c x' s' l' r' =>
              by_cases c3 : 0 < (T.node c x' s' l' r').bf
              · have C3 := Aside0.mk c3
                obtain ⟨c4, x3, s3, l3, r3, rfl⟩ := bf_pos c3
                have RT : (T.node b x s l (T.node c x' s' (T.node c4 x3 s3 l3 r3) r')).bal = (T.node b x s l (T.node c x' s' (T.node c4 x3 s3 l3 r3) r').rotR).rotL := by rw [T.bal, if_neg c1, if_pos c2, if_pos c3]
                replace RT := Aside0.mk RT
                simp only [T.ptr, ptrA] at f34
                clear c1
                go_wp2_with fail
                refine (balF_tree LR2.out (by have := SZ2.out; omega)).mono ?_
                rintro e w' ⟨rfl, rfl⟩
                go_wp2_with fail
                refine (rotR_tree LR2.out.1 LR2.out.2.1 LR2.out.2.2 DR.out (by have := SZ2.out; omega)).mono ?_
                rintro e w3 ⟨rfl, P3⟩
                have P3 := Aside0.mk P3
                have N3 := Aside0.mk (N2.out.fr P3.out.fr BR.out)
                have LL3 := Aside0.mk (LL2.out.fr P3.out.fr (fun k hk hk2 => DD.out k hk hk2))
                clear f33 f34 z33 z34 c2 c3 c1n
                have f34 := N3.out.cr
                have z34 := N3.out.free 34
                go_wp2_with fail
                have N4 := Aside0.mk (N3.out.setR (some c4))
                have LR4 := Aside0.mk (P3.out.lies.far (p := ⟨b, 34, none⟩) (by rw [T.rotR_ids]; exact BR.out) (.pointer (some ⟨c4, 0, none⟩)))
                have LL4 := Aside0.mk (LL3.out.far (p := ⟨b, 34, none⟩) BL.out (.pointer (some ⟨c4, 0, none⟩)))
                have FR4 := Aside0.mk ((FR2.out.trans (P3.out.fr.mono (G := fun k => k ∈ (T.node b x s l (T.node c x' s' (T.node c4 x3 s3 l3 r3) r')).ids) (fun k hk => by rw [T.ids_node]; exact List.mem_append_right _ (List.mem_cons_of_mem _ hk))) (fun _ _ h => h)).set (p := ⟨b, 34, none⟩) (.inl (by simp [T.ids_node])) (.pointer (some ⟨c4, 0, none⟩)))
                have SS4 := Aside0.mk ((setCell_size w3 ⟨b, 34, none⟩ (.pointer (some ⟨c4, 0, none⟩))).trans (P3.out.size.trans SS2.out))
                simp only [ptrA] at N4
                generalize w3.setCell ⟨b, 34, none⟩ (.pointer (some ⟨c4, 0, none⟩)) = w4 at *
                clear f34 z34 N3 LL3 P3 N2 LL2 LR2 FR2
                refine (rotL_tree (l := l) N4.out LR4.out LL4.out (by rw [T.ids_node]; have h := ND.out; rw [T.ids_node] at h; have e := T.rotR_ids (T.node c x' s' (T.node c4 x3 s3 l3 r3) r'); rw [T.rotR] at e; rw [e]; exact h) (by have h := SZ.out; rw [T.flat_node] at h ⊢; have e := T.rotR_flat (T.node c x' s' (T.node c4 x3 s3 l3 r3) r'); rw [T.rotR] at e; rw [e]; exact h)).mono ?_
                rintro e w5 ⟨rfl, P5⟩
                have P5 := Aside0.mk P5
                go_wp2
                have PUT : TreePut w1 w5 (T.node b x s l (T.node c x' s' (T.node c4 x3 s3 l3 r3) r')) (T.node b x s l (T.node c x' s' (T.node c4 x3 s3 l3 r3) r')).bal := by
                  rw [RT.out]
                  refine ⟨P5.out.lies, FR4.out.trans P5.out.fr (fun k _ hk => ?_), P5.out.size.trans SS4.out⟩
                  rw [T.ids_node] at hk ⊢
                  have e := T.rotR_ids (T.node c x' s' (T.node c4 x3 s3 l3 r3) r')
                  rw [T.rotR] at e
                  rw [e] at hk
                  exact hk
                have PTR : (T.node b x s l (T.node c x' s' (T.node c4 x3 s3 l3 r3) r')).bal.ptr = some c4 := by rw [RT.out]; rfl
                go_ret
                exact FIN.out _ PUT _ (by rw [PTR]; rfl)
              · have RT : (T.node b x s l (T.node c x' s' l' r')).bal = (T.node b x s l (T.node c x' s' l' r')).rotL := by rw [T.bal, if_neg c1, if_pos c2, if_neg c3]
                replace RT := Aside0.mk RT
                have c3 : (T.node c x' s' l' r').bf ≤ 0 := by omega
                simp only [T.ptr, ptrA] at f34
                clear c1
                go_wp2_with fail
                refine (balF_tree LR2.out (by have := SZ2.out; omega)).mono ?_
                rintro e w' ⟨rfl, rfl⟩
                go_wp2_with fail
                refine (rotL_tree N2.out LR2.out LL2.out ND.out SZ.out).mono ?_
                rintro e w5 ⟨rfl, P5⟩
                have P5 := Aside0.mk P5
                clear f33 f34 z33 z34 c2 c3 c1n
                go_wp2
                have PUT : TreePut w1 w5 (T.node b x s l (T.node c x' s' l' r')) (T.node b x s l (T.node c x' s' l' r')).bal := by
                  rw [RT.out]
                  exact ⟨P5.out.lies, FR2.out.trans P5.out.fr (fun _ _ h => h), P5.out.size.trans SS2.out⟩
                have PTR : (T.node b x s l (T.node c x' s' l' r')).bal.ptr = some c := by rw [RT.out]; rfl
                go_ret
                exact FIN.out _ PUT _ (by rw [PTR]; rfl)
          · have RT : (T.node b x s l R).bal = (T.node b x s l R) := by rw [T.bal, if_neg c1, if_neg c2]
            replace RT := Aside0.mk RT
            have c2n : -1 ≤ l.ht - R.ht := by omega
            clear c1 c2 f33 f34 z33 z34
            go_wp2
            have PUT : TreePut w1 w2 (T.node b x s l R) (T.node b x s l R).bal := by
              rw [RT.out]
              exact ⟨⟨N2.out, LL2.out, LR2.out⟩, FR2.out, SS2.out⟩
            have PTR : (T.node b x s l R).bal.ptr = some b := by rw [RT.out]; rfl
            go_ret
            exact FIN.out _ PUT _ (by rw [PTR]; rfl)
      | false =>
        rw [hgone, if_neg (by decide), Int.sub_zero] at S1
        rw [hgone, if_neg (by decide)] at ED
        rw [hgone] at EG
        have f2 := S1.out.c2
        have HT1 := Aside0.mk (HT0.out hgone)
        clear hgone
        go_wp2
        go_ret
        refine .mk (by rw [ED.out]; rfl) ⟨?_, ?_, FR1.out⟩
        · rw [ED.out]
          have e1 : (T.node b x s l R).ht = (T.node b x s l r).ht := by rw [T.ht, T.ht, HT1.out]
          refine ⟨?_, LL.out, LR.out⟩
          rw [e1]
          exact N1.out
        · rw [EG.out, EH.out, if_neg (by decide), Int.sub_zero]
          exact S1.out
end Go.Proofs.YtebgaedalbdhaaaDoor.Av
