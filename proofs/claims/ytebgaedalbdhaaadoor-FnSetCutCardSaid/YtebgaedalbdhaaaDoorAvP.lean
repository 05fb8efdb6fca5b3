/- Another tree put to the left of all of a tree. -/
import Derived.Test.YtebgaedalbdhaaaDoorAvL
namespace Go.Proofs.YtebgaedalbdhaaaDoor.Av
open Go.RowKit Go.Proofs.YtebgaedalbdhaaaDoorW.PrintWords Go.Proofs.YtebgaedalbdhaaaDoorW.PrintLast Go.Proofs.YtebgaedalbdhaaaDoorW.PrintMore
set_option linter.unusedVariables false
set_option linter.unusedSimpArgs false

structure PrevPut (w w' : World) (n t t' : T) : Prop where
  lies : Lies w' t'
  fr : Fr (fun k => k ∈ n.ids ∨ k ∈ t.ids) w w'
  size : w'.heap.size = w.heap.size
theorem insPrev_ids (t n : T) : (t.insPrev n).ids = n.ids ++ t.ids := by unfold T.ids; rw [T.insPrev_flat, List.map_append]

set_option maxHeartbeats 4000000 in
set_option maxRecDepth 100000 in
theorem insPrev_tree (n : T) : ∀ (t : T) (w : World), t.ptr ≠ none → Lies w t → Lies w n → n.ptr ≠ none → (n.ids ++ t.ids).Nodup → n.flat.length + t.flat.length ≤ 1000000 →
    Calls Tryd.prog 74 #[.pointer (ptrA t.ptr), .pointer (ptrA n.ptr)] w fun e w' => e = .returned (.pointer (ptrA (t.insPrev n).ptr)) ∧ PrevPut w w' n t (t.insPrev n) := by
  intro t
  induction t with
  | nil => intro w h; exact absurd rfl h
  | node b x s l r ihl ihr =>
    intro w _ hL hN hn0 hD hZ
    clear ihr
    obtain ⟨N0, L0, R0⟩ := hL
    have LL0 := Aside0.mk L0
    have LR0 := Aside0.mk R0
    have NN := Aside0.mk hN
    replace N0 := Aside0.mk N0
    have HD := Aside0.mk hD
    have HZ := Aside0.mk hZ
    have IH := Aside0.mk ihl
    have f33 := N0.out.cl
    have z33 := N0.out.free 33
    have Hn := Aside0.mk hn0
    clear L0 R0 hN hD hZ hn0 ihl
    obtain ⟨D1, D2, D3⟩ := List.nodup_append.1 HD.out
    obtain ⟨dl, dr, bl, br, dd⟩ := nodup_node D2
    have ml : ∀ k ∈ l.ids, k ∈ (T.node b x s l r).ids := fun k hk => by rw [T.ids_node]; exact List.mem_append_left _ hk
    have mr : ∀ k ∈ r.ids, k ∈ (T.node b x s l r).ids := fun k hk => by rw [T.ids_node]; exact List.mem_append_right _ (List.mem_cons_of_mem _ hk)
    have mb : b ∈ (T.node b x s l r).ids := by simp [T.ids_node]
    have nb : b ∉ n.ids := fun h => D3 b h b mb rfl
    have DLN : (n.ids ++ l.ids).Nodup := List.nodup_append.2 ⟨D1, dl, fun a ha c hc => D3 a ha c (ml c hc)⟩
    replace DLN := Aside0.mk DLN
    have BL0 := Aside0.mk bl
    have BR0 := Aside0.mk br
    have NB := Aside0.mk nb
    have NR : ∀ k ∈ n.ids, k ∉ r.ids := fun k hk h => D3 k hk k (mr k h) rfl
    replace NR := Aside0.mk NR
    have DD0 := Aside0.mk dd
    have ML := Aside0.mk ml
    have MR := Aside0.mk mr
    have MB := Aside0.mk mb
    have HZ2 := Aside0.mk HZ.out
    rw [flat_len_node] at HZ2
    clear D1 D2 D3 dl dr bl br dd ml mr mb nb
    cases l with
    | nil =>
      have PRE := Aside0.mk (show (T.node b x s .nil r).insPrev n = (T.node b x s n r).bal from rfl)
      simp only [T.ptr, ptrA] at f33
      obtain ⟨c, hc⟩ : ∃ c, n.ptr = some c := by
        have h := Hn.out
        cases hp : n.ptr with
        | none => exact absurd hp h
        | some c => exact ⟨c, rfl⟩
      show Calls Tryd.prog 74 #[.pointer (some ⟨b, 0, none⟩), .pointer (ptrA n.ptr)] w _
      rw [hc]
      show Calls Tryd.prog 74 #[.pointer (some ⟨b, 0, none⟩), .pointer (some ⟨c, 0, none⟩)] w _
      have HC := Aside0.mk hc
      clear hc IH Hn
      go_enter Tryd.func74, Tryd.ntmps74
      go_wp2_with fail
      have N1 := Aside0.mk (N0.out.setL (some c))
      rw [← HC.out] at N1
      have LL := Aside0.mk (NN.out.far (p := ⟨b, 33, none⟩) NB.out (.pointer (some ⟨c, 0, none⟩)))
      have LR := Aside0.mk (LR0.out.far (p := ⟨b, 33, none⟩) BR0.out (.pointer (some ⟨c, 0, none⟩)))
      have FR1 := Aside0.mk ((Fr.refl (fun k => k ∈ n.ids ∨ k ∈ (T.node b x s .nil r).ids) w).set (p := ⟨b, 33, none⟩) (.inl (.inr MB.out)) (.pointer (some ⟨c, 0, none⟩)))
      have SS1 := Aside0.mk (setCell_size w ⟨b, 33, none⟩ (.pointer (some ⟨c, 0, none⟩)))
      have ND : Aside0 (T.node b x s n r).ids.Nodup := ⟨by have h := HD.out; simp only [T.ids_node, T.ids_nil, List.nil_append] at h ⊢; exact h⟩
      have SZ : Aside0 ((T.node b x s n r).flat.length ≤ 1000000) := ⟨by rw [flat_len_node]; have := HZ2.out; simp only [T.flat, List.length_nil] at this; omega⟩
      rw [HC.out] at N1
      simp only [ptrA] at N1
      generalize w.setCell ⟨b, 33, none⟩ (.pointer (some ⟨c, 0, none⟩)) = w1 at *
      rw [← HC.out] at N1
      have FIN : Aside0 (∀ w', TreePut w1 w' (T.node b x s n r) (T.node b x s n r).bal → PrevPut w w' n (T.node b x s .nil r) ((T.node b x s .nil r).insPrev n)) := ⟨fun w' P => ⟨by rw [PRE.out]; exact P.lies, FR1.out.trans P.fr (fun k _ hk => by
        rw [T.ids_node] at hk ⊢
        rw [T.ids_nil, List.nil_append]
        exact List.mem_append.1 hk), P.size.trans SS1.out⟩⟩
      clear f33 z33 HC NN N0

      obtain ⟨dl, dr, bl, br, dd⟩ := nodup_node ND.out
      have SZ2 := Aside0.mk SZ.out
      rw [flat_len_node] at SZ2
      have DL := Aside0.mk dl
      have DR := Aside0.mk dr
      have BL := Aside0.mk bl
      have BR := Aside0.mk br
      have DD := Aside0.mk dd
      clear dl dr bl br dd
      have fh := N1.out.ch
      have zh := N1.out.free 35
      have HB := Aside0.mk (ht_bound (t := (T.node b x s n r)) SZ.out)
      have hm1 : -1 ≤ (T.node b x s n r).ht - 1 ∧ (T.node b x s n r).ht - 1 ≤ 1000000 := by have := HB.out; omega
      obtain ⟨hm1, hm2⟩ := hm1
      go_wp2_with fail
      refine (maxH_calls N1.out LL.out.hat LR.out.hat).mono ?_
      rintro e w' ⟨rfl, rfl⟩
      have hmx : (if r.ht < n.ht then n.ht else r.ht) = (T.node b x s n r).ht - 1 := by rw [T.ht]; omega
      rw [hmx]
      have hmy : (T.node b x s n r).ht - 1 + 1 = (T.node b x s n r).ht := by omega
      have HY := Aside0.mk hmy
      clear hmx hmy
      obtain ⟨H, hH⟩ : ∃ H, H = (T.node b x s n r).ht - 1 := ⟨_, rfl⟩
      rw [← hH] at hm1 hm2 HY ⊢
      clear hH
      go_wp2_with fail
      have N2 := Aside0.mk (N1.out.setH (H + 1))
      have LL2 := Aside0.mk (LL.out.far (p := ⟨b, 35, none⟩) BL.out (.int .i64 (H + 1)))
      have LR2 := Aside0.mk (LR.out.far (p := ⟨b, 35, none⟩) BR.out (.int .i64 (H + 1)))
      have FR2 := Aside0.mk ((Fr.refl (fun k => k ∈ (T.node b x s n r).ids) w1).set (p := ⟨b, 35, none⟩) (.inl (show b ∈ (T.node b x s n r).ids by simp [T.ids_node])) (.int .i64 (H + 1)))
      have SS2 := Aside0.mk (setCell_size w1 ⟨b, 35, none⟩ (.int .i64 (H + 1)))
      generalize w1.setCell ⟨b, 35, none⟩ (.int .i64 (H + 1)) = w2 at *
      rw [HY.out] at N2
      clear fh zh N1 LL LR hm1 hm2 HY
      refine (balF_calls N2.out LL2.out.hat LR2.out.hat (ht_bound (by have := SZ2.out; omega)) (ht_bound (by have := SZ2.out; omega))).mono ?_
      rintro e w' ⟨rfl, rfl⟩
      have f33 := N2.out.cl
      have f34 := N2.out.cr
      have z33 := N2.out.free 33
      have z34 := N2.out.free 34
      by_cases c1 : 1 < n.ht - r.ht
      · have c1' := Aside0.mk c1
        cases n with
        | nil =>
          exfalso
          have := r.ht_nonneg
          simp [T.ht] at c1
          omega
        | node c x' s' l' r' =>
          by_cases c2 : (T.node c x' s' l' r').bf < 0
          · have C2 := Aside0.mk c2
            obtain ⟨c3, x3, s3, l3, r3, rfl⟩ := bf_neg c2
            have RT : (T.node b x s (T.node c x' s' l' (T.node c3 x3 s3 l3 r3)) r).bal = (T.node b x s (T.node c x' s' l' (T.node c3 x3 s3 l3 r3)).rotL r).rotR := by rw [T.bal, if_pos c1, if_pos c2]
            replace RT := Aside0.mk RT
            simp only [T.ptr, ptrA] at f33
            go_wp2_with fail
            refine (balF_tree LL2.out (by have := SZ2.out; omega)).mono ?_
            rintro e w' ⟨rfl, rfl⟩
            go_wp2_with fail
            refine (rotL_tree LL2.out.1 LL2.out.2.2 LL2.out.2.1 DL.out (by have := SZ2.out; omega)).mono ?_
            rintro e w3 ⟨rfl, P3⟩
            have P3 := Aside0.mk P3
            have N3 := Aside0.mk (N2.out.fr P3.out.fr BL.out)
            have LR3 := Aside0.mk (LR2.out.fr P3.out.fr (fun k hk hk2 => DD.out k hk2 hk))
            clear f33 f34 z33 z34 c1 c2
            have f33 := N3.out.cl
            have z33 := N3.out.free 33
            go_wp2_with fail
            have N4 := Aside0.mk (N3.out.setL (some c3))
            have LL4 := Aside0.mk (P3.out.lies.far (p := ⟨b, 33, none⟩) (by rw [T.rotL_ids]; exact BL.out) (.pointer (some ⟨c3, 0, none⟩)))
            have LR4 := Aside0.mk (LR3.out.far (p := ⟨b, 33, none⟩) BR.out (.pointer (some ⟨c3, 0, none⟩)))
            have FR4 := Aside0.mk ((FR2.out.trans (P3.out.fr.mono (G := fun k => k ∈ (T.node b x s (T.node c x' s' l' (T.node c3 x3 s3 l3 r3)) r).ids) (fun k hk => by rw [T.ids_node]; exact List.mem_append_left _ hk)) (fun _ _ h => h)).set (p := ⟨b, 33, none⟩) (.inl (by simp [T.ids_node])) (.pointer (some ⟨c3, 0, none⟩)))
            have SS4 := Aside0.mk ((setCell_size w3 ⟨b, 33, none⟩ (.pointer (some ⟨c3, 0, none⟩))).trans (P3.out.size.trans SS2.out))
            simp only [ptrA] at N4
            generalize w3.setCell ⟨b, 33, none⟩ (.pointer (some ⟨c3, 0, none⟩)) = w4 at *
            clear f33 z33 N3 LR3 P3 N2 LL2 LR2 FR2
            refine (rotR_tree (r := r) N4.out LL4.out LR4.out (by rw [T.ids_node]; have h := ND.out; rw [T.ids_node] at h; have e := T.rotL_ids (T.node c x' s' l' (T.node c3 x3 s3 l3 r3)); rw [T.rotL] at e; rw [e]; exact h) (by have h := SZ.out; rw [T.flat_node] at h ⊢; have e := T.rotL_flat (T.node c x' s' l' (T.node c3 x3 s3 l3 r3)); rw [T.rotL] at e; rw [e]; exact h)).mono ?_
            rintro e w5 ⟨rfl, P5⟩
            have P5 := Aside0.mk P5
            go_wp2
            have PUT : TreePut w1 w5 (T.node b x s (T.node c x' s' l' (T.node c3 x3 s3 l3 r3)) r) (T.node b x s (T.node c x' s' l' (T.node c3 x3 s3 l3 r3)) r).bal := by
              rw [RT.out]
              refine ⟨P5.out.lies, FR4.out.trans P5.out.fr (fun k _ hk => ?_), P5.out.size.trans SS4.out⟩
              rw [T.ids_node] at hk ⊢
              have e := T.rotL_ids (T.node c x' s' l' (T.node c3 x3 s3 l3 r3))
              rw [T.rotL] at e
              rw [e] at hk
              exact hk
            have PTR : (T.node b x s (T.node c x' s' l' (T.node c3 x3 s3 l3 r3)) r).bal.ptr = some c3 := by rw [RT.out]; rfl
            go_ret
            exact ⟨by rw [PRE.out, PTR]; rfl, FIN.out _ PUT⟩
          · have RT : (T.node b x s (T.node c x' s' l' r') r).bal = (T.node b x s (T.node c x' s' l' r') r).rotR := by rw [T.bal, if_pos c1, if_neg c2]
            replace RT := Aside0.mk RT
            have c2 : 0 ≤ (T.node c x' s' l' r').bf := by omega
            simp only [T.ptr, ptrA] at f33
            go_wp2_with fail
            refine (balF_tree LL2.out (by have := SZ2.out; omega)).mono ?_
            rintro e w' ⟨rfl, rfl⟩
            go_wp2_with fail
            refine (rotR_tree N2.out LL2.out LR2.out ND.out SZ.out).mono ?_
            rintro e w5 ⟨rfl, P5⟩
            have P5 := Aside0.mk P5
            clear f33 f34 z33 z34 c1 c2
            go_wp2
            have PUT : TreePut w1 w5 (T.node b x s (T.node c x' s' l' r') r) (T.node b x s (T.node c x' s' l' r') r).bal := by
              rw [RT.out]
              exact ⟨P5.out.lies, FR2.out.trans P5.out.fr (fun _ _ h => h), P5.out.size.trans SS2.out⟩
            have PTR : (T.node b x s (T.node c x' s' l' r') r).bal.ptr = some c := by rw [RT.out]; rfl
            go_ret
            exact ⟨by rw [PRE.out, PTR]; rfl, FIN.out _ PUT⟩
      · have c1n : n.ht - r.ht ≤ 1 := by omega
        by_cases c2 : n.ht - r.ht < -1
        · have c2' := Aside0.mk c2
          cases r with
          | nil =>
            exfalso
            have := n.ht_nonneg
            simp [T.ht] at c2
            omega
          | node c x' s' l' r' =>
            by_cases c3 : 0 < (T.node c x' s' l' r').bf
            · have C3 := Aside0.mk c3
              obtain ⟨c4, x3, s3, l3, r3, rfl⟩ := bf_pos c3
              have RT : (T.node b x s n (T.node c x' s' (T.node c4 x3 s3 l3 r3) r')).bal = (T.node b x s n (T.node c x' s' (T.node c4 x3 s3 l3 r3) r').rotR).rotL := by rw [T.bal, if_neg c1, if_pos c2, if_pos c3]
              replace RT := Aside0.mk RT
              simp only [T.ptr, ptrA] at f34
              clear c1
              go_wp2_with fail
              refine (balF_tree LR2.out (by have := SZ2.out; omega)).mono ?_
              rintro e w' ⟨rfl, rfl⟩
              go_wp2_with fail
              refine (rotR_tree LR2.out.1 LR2.out.2.1 LR2.out.2.2 DR.out (by have := SZ2.out; omega)).mono ?_
              rintro e w3 ⟨rfl, P3⟩
              have P3 := Aside0.mk P3
              have N3 := Aside0.mk (N2.out.fr P3.out.fr BR.out)
              have LL3 := Aside0.mk (LL2.out.fr P3.out.fr (fun k hk hk2 => DD.out k hk hk2))
              clear f33 f34 z33 z34 c2 c3 c1n
              have f34 := N3.out.cr
              have z34 := N3.out.free 34
              go_wp2_with fail
              have N4 := Aside0.mk (N3.out.setR (some c4))
              have LR4 := Aside0.mk (P3.out.lies.far (p := ⟨b, 34, none⟩) (by rw [T.rotR_ids]; exact BR.out) (.pointer (some ⟨c4, 0, none⟩)))
              have LL4 := Aside0.mk (LL3.out.far (p := ⟨b, 34, none⟩) BL.out (.pointer (some ⟨c4, 0, none⟩)))
              have FR4 := Aside0.mk ((FR2.out.trans (P3.out.fr.mono (G := fun k => k ∈ (T.node b x s n (T.node c x' s' (T.node c4 x3 s3 l3 r3) r')).ids) (fun k hk => by rw [T.ids_node]; exact List.mem_append_right _ (List.mem_cons_of_mem _ hk))) (fun _ _ h => h)).set (p := ⟨b, 34, none⟩) (.inl (by simp [T.ids_node])) (.pointer (some ⟨c4, 0, none⟩)))
              have SS4 := Aside0.mk ((setCell_size w3 ⟨b, 34, none⟩ (.pointer (some ⟨c4, 0, none⟩))).trans (P3.out.size.trans SS2.out))
              simp only [ptrA] at N4
              generalize w3.setCell ⟨b, 34, none⟩ (.pointer (some ⟨c4, 0, none⟩)) = w4 at *
              clear f34 z34 N3 LL3 P3 N2 LL2 LR2 FR2
              refine (rotL_tree (l := n) N4.out LR4.out LL4.out (by rw [T.ids_node]; have h := ND.out; rw [T.ids_node] at h; have e := T.rotR_ids (T.node c x' s' (T.node c4 x3 s3 l3 r3) r'); rw [T.rotR] at e; rw [e]; exact h) (by have h := SZ.out; rw [T.flat_node] at h ⊢; have e := T.rotR_flat (T.node c x' s' (T.node c4 x3 s3 l3 r3) r'); rw [T.rotR] at e; rw [e]; exact h)).mono ?_
              rintro e w5 ⟨rfl, P5⟩
              have P5 := Aside0.mk P5
              go_wp2
              have PUT : TreePut w1 w5 (T.node b x s n (T.node c x' s' (T.node c4 x3 s3 l3 r3) r')) (T.node b x s n (T.node c x' s' (T.node c4 x3 s3 l3 r3) r')).bal := by
                rw [RT.out]
                refine ⟨P5.out.lies, FR4.out.trans P5.out.fr (fun k _ hk => ?_), P5.out.size.trans SS4.out⟩
                rw [T.ids_node] at hk ⊢
                have e := T.rotR_ids (T.node c x' s' (T.node c4 x3 s3 l3 r3) r')
                rw [T.rotR] at e
                rw [e] at hk
                exact hk
              have PTR : (T.node b x s n (T.node c x' s' (T.node c4 x3 s3 l3 r3) r')).bal.ptr = some c4 := by rw [RT.out]; rfl
              go_ret
              exact ⟨by rw [PRE.out, PTR]; rfl, FIN.out _ PUT⟩
            · have RT : (T.node b x s n (T.node c x' s' l' r')).bal = (T.node b x s n (T.node c x' s' l' r')).rotL := by rw [T.bal, if_neg c1, if_pos c2, if_neg c3]
              replace RT := Aside0.mk RT
              have c3 : (T.node c x' s' l' r').bf ≤ 0 := by omega
              simp only [T.ptr, ptrA] at f34
              clear c1
              go_wp2_with fail
              refine (balF_tree LR2.out (by have := SZ2.out; omega)).mono ?_
              rintro e w' ⟨rfl, rfl⟩
              go_wp2_with fail
              refine (rotL_tree N2.out LR2.out LL2.out ND.out SZ.out).mono ?_
              rintro e w5 ⟨rfl, P5⟩
              have P5 := Aside0.mk P5
              clear f33 f34 z33 z34 c2 c3 c1n
              go_wp2
              have PUT : TreePut w1 w5 (T.node b x s n (T.node c x' s' l' r')) (T.node b x s n (T.node c x' s' l' r')).bal := by
                rw [RT.out]
                exact ⟨P5.out.lies, FR2.out.trans P5.out.fr (fun _ _ h => h), P5.out.size.trans SS2.out⟩
              have PTR : (T.node b x s n (T.node c x' s' l' r')).bal.ptr = some c := by rw [RT.out]; rfl
              go_ret
              exact ⟨by rw [PRE.out, PTR]; rfl, FIN.out _ PUT⟩
        · have RT : (T.node b x s n r).bal = (T.node b x s n r) := by rw [T.bal, if_neg c1, if_neg c2]
          replace RT := Aside0.mk RT
          have c2n : -1 ≤ n.ht - r.ht := by omega
          clear c1 c2 f33 f34 z33 z34
          go_wp2
          have PUT : TreePut w1 w2 (T.node b x s n r) (T.node b x s n r).bal := by
            rw [RT.out]
            exact ⟨⟨N2.out, LL2.out, LR2.out⟩, FR2.out, SS2.out⟩
          have PTR : (T.node b x s n r).bal.ptr = some b := by rw [RT.out]; rfl
          go_ret
          exact ⟨by rw [PRE.out, PTR]; rfl, FIN.out _ PUT⟩
    | node b3 x3 s3 l3 r3 =>
      have PRE := Aside0.mk (show (T.node b x s (T.node b3 x3 s3 l3 r3) r).insPrev n = (T.node b x s ((T.node b3 x3 s3 l3 r3).insPrev n) r).bal from rfl)
      simp only [T.ptr, ptrA] at f33
      show Calls Tryd.prog 74 #[.pointer (some ⟨b, 0, none⟩), .pointer (ptrA n.ptr)] w _
      go_enter Tryd.func74, Tryd.ntmps74
      go_wp2_with fail
      refine (IH.out w (by simp [T.ptr]) LL0.out NN.out Hn.out DLN.out (by have := HZ2.out; omega)).mono ?_
      rintro e w2 ⟨rfl, P2⟩
      replace P2 := Aside0.mk P2
      have N2 := Aside0.mk (N0.out.fr P2.out.fr (fun h => h.elim NB.out BL0.out))
      have LR2 := Aside0.mk (LR0.out.fr P2.out.fr (fun k hk h => h.elim (fun h => NR.out k h hk) (fun h => DD0.out k h hk)))
      clear f33 z33
      have f33 := N2.out.cl
      have z33 := N2.out.free 33
      have EI := Aside0.mk (insPrev_ids (T.node b3 x3 s3 l3 r3) n)
      have EF := Aside0.mk (T.insPrev_flat (T.node b3 x3 s3 l3 r3) n)
      obtain ⟨L, hL⟩ : ∃ L, L = (T.node b3 x3 s3 l3 r3).insPrev n := ⟨_, rfl⟩
      rw [← hL] at P2 EI EF PRE ⊢
      clear hL
      go_wp2_with fail
      have N1 := Aside0.mk (N2.out.setL L.ptr)
      have LL := Aside0.mk (P2.out.lies.far (p := ⟨b, 33, none⟩) (by rw [EI.out]; exact fun h => (List.mem_append.1 h).elim NB.out BL0.out) (.pointer (ptrA L.ptr)))
      have LR := Aside0.mk (LR2.out.far (p := ⟨b, 33, none⟩) BR0.out (.pointer (ptrA L.ptr)))
      have FR1 := Aside0.mk ((P2.out.fr.mono (G := fun k => k ∈ n.ids ∨ k ∈ (T.node b x s (T.node b3 x3 s3 l3 r3) r).ids) (fun k hk => hk.imp id (ML.out k))).set (p := ⟨b, 33, none⟩) (.inl (.inr MB.out)) (.pointer (ptrA L.ptr)))
      have SS1 := Aside0.mk ((setCell_size w2 ⟨b, 33, none⟩ (.pointer (ptrA L.ptr))).trans P2.out.size)
      have ND : Aside0 (T.node b x s L r).ids.Nodup := ⟨by have h := HD.out; rw [T.ids_node] at h ⊢; rw [EI.out, List.append_assoc]; exact h⟩
      have SZ : Aside0 ((T.node b x s L r).flat.length ≤ 1000000) := ⟨by rw [flat_len_node, EF.out, List.length_append]; have := HZ2.out; omega⟩
      generalize w2.setCell ⟨b, 33, none⟩ (.pointer (ptrA L.ptr)) = w1 at *
      have FIN : Aside0 (∀ w', TreePut w1 w' (T.node b x s L r) (T.node b x s L r).bal → PrevPut w w' n (T.node b x s (T.node b3 x3 s3 l3 r3) r) ((T.node b x s (T.node b3 x3 s3 l3 r3) r).insPrev n)) := ⟨fun w' P => ⟨by rw [PRE.out]; exact P.lies, FR1.out.trans P.fr (fun k _ hk => by
        rw [T.ids_node, EI.out, List.append_assoc] at hk
        rw [T.ids_node]
        exact List.mem_append.1 hk), P.size.trans SS1.out⟩⟩
      clear f33 z33 NN N0 N2 LL0 LR0 LR2 P2 DLN IH EI EF

      obtain ⟨dl, dr, bl, br, dd⟩ := nodup_node ND.out
      have SZ2 := Aside0.mk SZ.out
      rw [flat_len_node] at SZ2
      have DL := Aside0.mk dl
      have DR := Aside0.mk dr
      have BL := Aside0.mk bl
      have BR := Aside0.mk br
      have DD := Aside0.mk dd
      clear dl dr bl br dd
      have fh := N1.out.ch
      have zh := N1.out.free 35
      have HB := Aside0.mk (ht_bound (t := (T.node b x s L r)) SZ.out)
      have hm1 : -1 ≤ (T.node b x s L r).ht - 1 ∧ (T.node b x s L r).ht - 1 ≤ 1000000 := by have := HB.out; omega
      obtain ⟨hm1, hm2⟩ := hm1
      go_wp2_with fail
      refine (maxH_calls N1.out LL.out.hat LR.out.hat).mono ?_
      rintro e w' ⟨rfl, rfl⟩
      have hmx : (if r.ht < L.ht then L.ht else r.ht) = (T.node b x s L r).ht - 1 := by rw [T.ht]; omega
      rw [hmx]
      have hmy : (T.node b x s L r).ht - 1 + 1 = (T.node b x s L r).ht := by omega
      have HY := Aside0.mk hmy
      clear hmx hmy
      obtain ⟨H, hH⟩ : ∃ H, H = (T.node b x s L r).ht - 1 := ⟨_, rfl⟩
      rw [← hH] at hm1 hm2 HY ⊢
      clear hH
      go_wp2_with fail
      have N2 := Aside0.mk (N1.out.setH (H + 1))
      have LL2 := Aside0.mk (LL.out.far (p := ⟨b, 35, none⟩) BL.out (.int .i64 (H + 1)))
      have LR2 := Aside0.mk (LR.out.far (p := ⟨b, 35, none⟩) BR.out (.int .i64 (H + 1)))
      have FR2 := Aside0.mk ((Fr.refl (fun k => k ∈ (T.node b x s L r).ids) w1).set (p := ⟨b, 35, none⟩) (.inl (show b ∈ (T.node b x s L r).ids by simp [T.ids_node])) (.int .i64 (H + 1)))
      have SS2 := Aside0.mk (setCell_size w1 ⟨b, 35, none⟩ (.int .i64 (H + 1)))
      generalize w1.setCell ⟨b, 35, none⟩ (.int .i64 (H + 1)) = w2 at *
      rw [HY.out] at N2
      clear fh zh N1 LL LR hm1 hm2 HY
      refine (balF_calls N2.out LL2.out.hat LR2.out.hat (ht_bound (by have := SZ2.out; omega)) (ht_bound (by have := SZ2.out; omega))).mono ?_
      rintro e w' ⟨rfl, rfl⟩
      have f33 := N2.out.cl
      have f34 := N2.out.cr
      have z33 := N2.out.free 33
      have z34 := N2.out.free 34
      by_cases c1 : 1 < L.ht - r.ht
      · have c1' := Aside0.mk c1
        cases L with
        | nil =>
          exfalso
          have := r.ht_nonneg
          simp [T.ht] at c1
          omega
        | node c x' s' l' r' =>
          by_cases c2 : (T.node c x' s' l' r').bf < 0
          · have C2 := Aside0.mk c2
            obtain ⟨c3, x3, s3, l3, r3, rfl⟩ := bf_neg c2
            have RT : (T.node b x s (T.node c x' s' l' (T.node c3 x3 s3 l3 r3)) r).bal = (T.node b x s (T.node c x' s' l' (T.node c3 x3 s3 l3 r3)).rotL r).rotR := by rw [T.bal, if_pos c1, if_pos c2]
            replace RT := Aside0.mk RT
            simp only [T.ptr, ptrA] at f33
            go_wp2_with fail
            refine (balF_tree LL2.out (by have := SZ2.out; omega)).mono ?_
            rintro e w' ⟨rfl, rfl⟩
            go_wp2_with fail
            refine (rotL_tree LL2.out.1 LL2.out.2.2 LL2.out.2.1 DL.out (by have := SZ2.out; omega)).mono ?_
            rintro e w3 ⟨rfl, P3⟩
            have P3 := Aside0.mk P3
            have N3 := Aside0.mk (N2.out.fr P3.out.fr BL.out)
            have LR3 := Aside0.mk (LR2.out.fr P3.out.fr (fun k hk hk2 => DD.out k hk2 hk))
            clear f33 f34 z33 z34 c1 c2
            have f33 := N3.out.cl
            have z33 := N3.out.free 33
            go_wp2_with fail
            have N4 := Aside0.mk (N3.out.setL (some c3))
            have LL4 := Aside0.mk (P3.out.lies.far (p := ⟨b, 33, none⟩) (by rw [T.rotL_ids]; exact BL.out) (.pointer (some ⟨c3, 0, none⟩)))
            have LR4 := Aside0.mk (LR3.out.far (p := ⟨b, 33, none⟩) BR.out (.pointer (some ⟨c3, 0, none⟩)))
            have FR4 := Aside0.mk ((FR2.out.trans (P3.out.fr.mono (G := fun k => k ∈ (T.node b x s (T.node c x' s' l' (T.node c3 x3 s3 l3 r3)) r).ids) (fun k hk => by rw [T.ids_node]; exact List.mem_append_left _ hk)) (fun _ _ h => h)).set (p := ⟨b, 33, none⟩) (.inl (by simp [T.ids_node])) (.pointer (some ⟨c3, 0, none⟩)))
            have SS4 := Aside0.mk ((setCell_size w3 ⟨b, 33, none⟩ (.pointer (some ⟨c3, 0, none⟩))).trans (P3.out.size.trans SS2.out))
            simp only [ptrA] at N4
            generalize w3.setCell ⟨b, 33, none⟩ (.pointer (some ⟨c3, 0, none⟩)) = w4 at *
            clear f33 z33 N3 LR3 P3 N2 LL2 LR2 FR2
            refine (rotR_tree (r := r) N4.out LL4.out LR4.out (by rw [T.ids_node]; have h := ND.out; rw [T.ids_node] at h; have e := T.rotL_ids (T.node c x' s' l' (T.node c3 x3 s3 l3 r3)); rw [T.rotL] at e; rw [e]; exact h) (by have h := SZ.out; rw [T.flat_node] at h ⊢; have e := T.rotL_flat (T.node c x' s' l' (T.node c3 x3 s3 l3 r3)); rw [T.rotL] at e; rw [e]; exact h)).mono ?_
            rintro e w5 ⟨rfl, P5⟩
            have P5 := Aside0.mk P5
            go_wp2
            have PUT : TreePut w1 w5 (T.node b x s (T.node c x' s' l' (T.node c3 x3 s3 l3 r3)) r) (T.node b x s (T.node c x' s' l' (T.node c3 x3 s3 l3 r3)) r).bal := by
              rw [RT.out]
              refine ⟨P5.out.lies, FR4.out.trans P5.out.fr (fun k _ hk => ?_), P5.out.size.trans SS4.out⟩
              rw [T.ids_node] at hk ⊢
              have e := T.rotL_ids (T.node c x' s' l' (T.node c3 x3 s3 l3 r3))
              rw [T.rotL] at e
              rw [e] at hk
              exact hk
            have PTR : (T.node b x s (T.node c x' s' l' (T.node c3 x3 s3 l3 r3)) r).bal.ptr = some c3 := by rw [RT.out]; rfl
            go_ret
            exact ⟨by rw [PRE.out, PTR]; rfl, FIN.out _ PUT⟩
          · have RT : (T.node b x s (T.node c x' s' l' r') r).bal = (T.node b x s (T.node c x' s' l' r') r).rotR := by rw [T.bal, if_pos c1, if_neg c2]
            replace RT := Aside0.mk RT
            have c2 : 0 ≤ (T.node c x' s' l' r').bf := by omega
            simp only [T.ptr, ptrA] at f33
            go_wp2_with fail
            refine (balF_tree LL2.out (by have := SZ2.out; omega)).mono ?_
            rintro e w' ⟨rfl, rfl⟩
            go_wp2_with fail
            refine (rotR_tree N2.out LL2.out LR2.out ND.out SZ.out).mono ?_
            rintro e w5 ⟨rfl, P5⟩
            have P5 := Aside0.mk P5
            clear f33 f34 z33 z34 c1 c2
            go_wp2
            have PUT : TreePut w1 w5 (T.node b x s (T.node c x' s' l' r') r) (T.node b x s (T.node c x' s' l' r') r).bal := by
              rw [RT.out]
              exact ⟨P5.out.lies, FR2.out.trans P5.out.fr (fun _ _ h => h), P5.out.size.trans SS2.out⟩
            have PTR : (T.node b x s (T.node c x' s' l' r') r).bal.ptr = some c := by rw [RT.out]; rfl
            go_ret
            exact ⟨by rw [PRE.out, PTR]; rfl, FIN.out _ PUT⟩
      · have c1n : L.ht - r.ht ≤ 1 := by omega
        by_cases c2 : L.ht - r.ht < -1
        · have c2' := Aside0.mk c2
          cases r with
          | nil =>
            exfalso
            have := L.ht_nonneg
            simp [T.ht] at c2
            omega
          | node c x' s' l' r' =>
            by_cases c3 : 0 < (T.node c x' s' l' r').bf
            · have C3 := Aside0.mk c3
              obtain ⟨c4, x3, s3, l3, r3, rfl⟩ := bf_pos c3
              have RT : (T.node b x s L (T.node c x' s' (T.node c4 x3 s3 l3 r3) r')).bal = (T.node b x s L (T.node c x' s' (T.node c4 x3 s3 l3 r3) r').rotR).rotL := by rw [T.bal, if_neg c1, if_pos c2, if_pos c3]
              replace RT := Aside0.mk RT
              simp only [T.ptr, ptrA] at f34
              clear c1
              go_wp2_with fail
              refine (balF_tree LR2.out (by have := SZ2.out; omega)).mono ?_
              rintro e w' ⟨rfl, rfl⟩
              go_wp2_with fail
              refine (rotR_tree LR2.out.1 LR2.out.2.1 LR2.out.2.2 DR.out (by have := SZ2.out; omega)).mono ?_
              rintro e w3 ⟨rfl, P3⟩
              have P3 := Aside0.mk P3
              have N3 := Aside0.mk (N2.out.fr P3.out.fr BR.out)
              have LL3 := Aside0.mk (LL2.out.fr P3.out.fr (fun k hk hk2 => DD.out k hk hk2))
              clear f33 f34 z33 z34 c2 c3 c1n
              have f34 := N3.out.cr
              have z34 := N3.out.free 34
              go_wp2_with fail
              have N4 := Aside0.mk (N3.out.setR (some c4))
              have LR4 := Aside0.mk (P3.out.lies.far (p := ⟨b, 34, none⟩) (by rw [T.rotR_ids]; exact BR.out) (.pointer (some ⟨c4, 0, none⟩)))
              have LL4 := Aside0.mk (LL3.out.far (p := ⟨b, 34, none⟩) BL.out (.pointer (some ⟨c4, 0, none⟩)))
              have FR4 := Aside0.mk ((FR2.out.trans (P3.out.fr.mono (G := fun k => k ∈ (T.node b x s L (T.node c x' s' (T.node c4 x3 s3 l3 r3) r')).ids) (fun k hk => by rw [T.ids_node]; exact List.mem_append_right _ (List.mem_cons_of_mem _ hk))) (fun _ _ h => h)).set (p := ⟨b, 34, none⟩) (.inl (by simp [T.ids_node])) (.pointer (some ⟨c4, 0, none⟩)))
              have SS4 := Aside0.mk ((setCell_size w3 ⟨b, 34, none⟩ (.pointer (some ⟨c4, 0, none⟩))).trans (P3.out.size.trans SS2.out))
              simp only [ptrA] at N4
              generalize w3.setCell ⟨b, 34, none⟩ (.pointer (some ⟨c4, 0, none⟩)) = w4 at *
              clear f34 z34 N3 LL3 P3 N2 LL2 LR2 FR2
              refine (rotL_tree (l := L) N4.out LR4.out LL4.out (by rw [T.ids_node]; have h := ND.out; rw [T.ids_node] at h; have e := T.rotR_ids (T.node c x' s' (T.node c4 x3 s3 l3 r3) r'); rw [T.rotR] at e; rw [e]; exact h) (by have h := SZ.out; rw [T.flat_node] at h ⊢; have e := T.rotR_flat (T.node c x' s' (T.node c4 x3 s3 l3 r3) r'); rw [T.rotR] at e; rw [e]; exact h)).mono ?_
              rintro e w5 ⟨rfl, P5⟩
              have P5 := Aside0.mk P5
              go_wp2
              have PUT : TreePut w1 w5 (T.node b x s L (T.node c x' s' (T.node c4 x3 s3 l3 r3) r')) (T.node b x s L (T.node c x' s' (T.node c4 x3 s3 l3 r3) r')).bal := by
                rw [RT.out]
                refine ⟨P5.out.lies, FR4.out.trans P5.out.fr (fun k _ hk => ?_), P5.out.size.trans SS4.out⟩
                rw [T.ids_node] at hk ⊢
                have e := T.rotR_ids (T.node c x' s' (T.node c4 x3 s3 l3 r3) r')
                rw [T.rotR] at e
                rw [e] at hk
                exact hk
              have PTR : (T.node b x s L (T.node c x' s' (T.node c4 x3 s3 l3 r3) r')).bal.ptr = some c4 := by rw [RT.out]; rfl
              go_ret
              exact ⟨by rw [PRE.out, PTR]; rfl, FIN.out _ PUT⟩
            · have RT : (T.node b x s L (T.node c x' s' l' r')).bal = (T.node b x s L (T.node c x' s' l' r')).rotL := by rw [T.bal, if_neg c1, if_pos c2, if_neg c3]
              replace RT := Aside0.mk RT
              have c3 : (T.node c x' s' l' r').bf ≤ 0 := by omega
              simp only [T.ptr, ptrA] at f34
              clear c1
              go_wp2_with fail
              refine (balF_tree LR2.out (by have := SZ2.out; omega)).mono ?_
              rintro e w' ⟨rfl, rfl⟩
              go_wp2_with fail
              refine (rotL_tree N2.out LR2.out LL2.out ND.out SZ.out).mono ?_
              rintro e w5 ⟨rfl, P5⟩
              have P5 := Aside0.mk P5
              clear f33 f34 z33 z34 c2 c3 c1n
              go_wp2
              have PUT : TreePut w1 w5 (T.node b x s L (T.node c x' s' l' r')) (T.node b x s L (T.node c x' s' l' r')).bal := by
                rw [RT.out]
                exact ⟨P5.out.lies, FR2.out.trans P5.out.fr (fun _ _ h => h), P5.out.size.trans SS2.out⟩
              have PTR : (T.node b x s L (T.node c x' s' l' r')).bal.ptr = some c := by rw [RT.out]; rfl
              go_ret
              exact ⟨by rw [PRE.out, PTR]; rfl, FIN.out _ PUT⟩
        · have RT : (T.node b x s L r).bal = (T.node b x s L r) := by rw [T.bal, if_neg c1, if_neg c2]
          replace RT := Aside0.mk RT
          have c2n : -1 ≤ L.ht - r.ht := by omega
          clear c1 c2 f33 f34 z33 z34
          go_wp2
          have PUT : TreePut w1 w2 (T.node b x s L r) (T.node b x s L r).bal := by
            rw [RT.out]
            exact ⟨⟨N2.out, LL2.out, LR2.out⟩, FR2.out, SS2.out⟩
          have PTR : (T.node b x s L r).bal.ptr = some b := by rw [RT.out]; rfl
          go_ret
          exact ⟨by rw [PRE.out, PTR]; rfl, FIN.out _ PUT⟩
end Go.Proofs.YtebgaedalbdhaaaDoor.Av
