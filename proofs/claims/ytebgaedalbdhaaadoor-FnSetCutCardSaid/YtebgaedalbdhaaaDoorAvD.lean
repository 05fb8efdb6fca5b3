/- A number taken out of a tree. -/
import Derived.Test.YtebgaedalbdhaaaDoorAvI
import Derived.Test.YtebgaedalbdhaaaDoorRg
namespace Go.Proofs.YtebgaedalbdhaaaDoor.Av
open Go.RowKit Go.Proofs.YtebgaedalbdhaaaDoorW.PrintWords Go.Proofs.YtebgaedalbdhaaaDoorW.PrintLast Go.Proofs.YtebgaedalbdhaaaDoorW.PrintMore
set_option linter.unusedVariables false
set_option linter.unusedSimpArgs false

structure DelPut (w w' : World) (g : Nat) (t t' : T) (root : Option Nat) (sz nd : Int) (ch : Bool) : Prop where
  lies : Lies w' t'
  set : SetAt w' g root sz nd ch
  fr : Fr (fun k => k = g ∨ k ∈ t.ids) w w'
def DelPost (q : Int) (g : Nat) (t : T) (root : Option Nat) (sz nd : Int) (ch : Bool) (w : World) (e : Ending) (w' : World) : Prop :=
  e = .returned (.pointer (ptrA (t.del q).ptr)) ∧ DelPut w w' g t (t.del q) root sz (nd - if t.gone q then 1 else 0) (ch || t.has q)
theorem DelPost.mk {q : Int} {g : Nat} {t : T} {root : Option Nat} {sz nd : Int} {ch : Bool} {w : World} {e : Ending} {w' : World} (h3 : e = .returned (.pointer (ptrA (t.del q).ptr))) (h4 : DelPut w w' g t (t.del q) root sz (nd - if t.gone q then 1 else 0) (ch || t.has q)) : DelPost q g t root sz nd ch w e w' := ⟨h3, h4⟩
theorem T.del_mem {q : Int} : ∀ {t : T} {k : Nat}, k ∈ (t.del q).ids → k ∈ t.ids := by
  intro t
  induction t with
  | nil => intro k h; exact h
  | node b x s l r ihl ihr =>
    intro k h
    rw [T.ids_node]
    unfold T.del at h
    have hl : k ∈ (T.node b x s (l.del q) r).ids → k ∈ l.ids ++ b :: r.ids := fun h => by
      rw [T.ids_node] at h
      rcases List.mem_append.1 h with h | h
      · exact List.mem_append_left _ (ihl h)
      · exact List.mem_append_right _ h
    have hr : k ∈ (T.node b x s l (r.del q)).ids → k ∈ l.ids ++ b :: r.ids := fun h => by
      rw [T.ids_node] at h
      rcases List.mem_append.1 h with h | h
      · exact List.mem_append_left _ h
      · rcases List.mem_cons.1 h with h | h
        · exact List.mem_append_right _ (h ▸ List.mem_cons_self)
        · exact List.mem_append_right _ (List.mem_cons_of_mem _ (ihr h))
    have hm : k ∈ (T.merge l r).ids → k ∈ l.ids ++ b :: r.ids := fun h => by
      unfold T.ids at h
      rw [T.merge_flat, List.map_append] at h
      rcases List.mem_append.1 h with h | h
      · exact List.mem_append_left _ h
      · exact List.mem_append_right _ (List.mem_cons_of_mem _ h)
    split at h
    · split at h
      · rw [T.bal_ids] at h; exact hl h
      · exact hl h
    · split at h
      · split at h
        · rw [T.bal_ids] at h; exact hr h
        · exact hr h
      · split at h
        · split at h
          · rw [T.bal_ids] at h; exact hm h
          · rw [T.ids_node] at h; exact h
        · rw [T.ids_node] at h; exact h
theorem T.del_sub (q : Int) : ∀ t : T, (t.del q).ids.Sublist t.ids := by
  intro t
  induction t with
  | nil => exact List.Sublist.refl _
  | node b x s l r ihl ihr =>
    rw [T.ids_node]
    unfold T.del
    have hl : (T.node b x s (l.del q) r).ids.Sublist (l.ids ++ b :: r.ids) := by rw [T.ids_node]; exact List.Sublist.append ihl (List.Sublist.refl _)
    have hr : (T.node b x s l (r.del q)).ids.Sublist (l.ids ++ b :: r.ids) := by rw [T.ids_node]; exact List.Sublist.append (List.Sublist.refl _) (ihr.cons_cons _)
    have hm : (T.merge l r).ids.Sublist (l.ids ++ b :: r.ids) := by
      have e : (T.merge l r).ids = l.ids ++ r.ids := by unfold T.ids; rw [T.merge_flat, List.map_append]
      rw [e]
      exact List.Sublist.append (List.Sublist.refl _) (List.sublist_cons_self _ _)
    split
    · split
      · rw [T.bal_ids]; exact hl
      · exact hl
    · split
      · split
        · rw [T.bal_ids]; exact hr
        · exact hr
      · split
        · split
          · rw [T.bal_ids]; exact hm
          · rw [T.ids_node]; exact List.Sublist.refl _
        · rw [T.ids_node]; exact List.Sublist.refl _
theorem T.del_len (q : Int) (t : T) : (t.del q).flat.length ≤ t.flat.length := by
  have h := (T.del_sub q t).length_le
  simpa [T.ids] using h
theorem T.del_ht (q : Int) : ∀ t : T, t.gone q = false → (t.del q).ht = t.ht := by
  intro t
  induction t with
  | nil => intro _; rfl
  | node b x s l r ihl ihr =>
    intro h
    unfold T.gone at h
    unfold T.del
    split
    · rename_i c
      rw [if_pos c] at h
      rw [if_neg (by rw [h]; decide), T.ht, T.ht, ihl h]
    · rename_i c
      rw [if_neg c] at h
      split
      · rename_i c2
        rw [if_pos c2] at h
        rw [if_neg (by rw [h]; decide), T.ht, T.ht, ihr h]
      · rename_i c2
        rw [if_neg c2] at h
        split
        · rename_i c3
          rw [c3, Bool.true_and] at h
          rw [if_neg (by rw [h]; decide), T.ht, T.ht]
        · rfl

set_option maxHeartbeats 8000000 in
set_option maxRecDepth 100000 in
theorem del_own (q : Int) (g : Nat) (root : Option Nat) (sz : Int) (hq0 : 0 ≤ q) (hq1 : q + 2048 < 18446744073709551616) (b0 : Nat) (x0 : Int) (s0 : List Int) (l0 r0 : T) (w : World) (nd : Int) (ch : Bool) (hL : Lies w (T.node b0 x0 s0 l0 r0)) (hD : (T.node b0 x0 s0 l0 r0).ids.Nodup) (hx0 : 0 ≤ x0) (hx1 : x0 + 2048 < 18446744073709551616) (hZ : (T.node b0 x0 s0 l0 r0).flat.length ≤ 900000) (hg : g ∉ (T.node b0 x0 s0 l0 r0).ids) (hS : SetAt w g root sz nd ch) (hn0 : -1000000 ≤ nd) (hn1 : nd ≤ 1000000) (c1 : x0 ≤ q) (c2 : q < x0 + 2048) :
    Calls Tryd.prog 63 #[.pointer (some ⟨b0, 0, none⟩), .int .u64 q, .pointer (some ⟨g, 3, none⟩), .pointer (some ⟨g, 2, none⟩)] w (DelPost q g (T.node b0 x0 s0 l0 r0) root sz nd ch w) := by
  obtain ⟨hN0, hL0, hR0⟩ := hL
  have f0 := hN0.c0
  have f2 := hS.c2
  have N0 := Aside0.mk hN0
  have LL0 := Aside0.mk hL0
  have LR0 := Aside0.mk hR0
  have HD := Aside0.mk hD
  have S0 := Aside0.mk hS
  have HZ := Aside0.mk hZ
  rw [flat_len_node] at HZ
  have gm : g ≠ b0 ∧ g ∉ l0.ids ∧ g ∉ r0.ids := by
    rw [T.ids_node] at hg
    refine ⟨fun h => hg (by rw [h]; simp), fun h => hg (List.mem_append_left _ h), fun h => hg (List.mem_append_right _ (List.mem_cons_of_mem _ h))⟩
  obtain ⟨hgb, gl, gr⟩ := gm
  have hbg := Ne.symm hgb
  have GL := Aside0.mk gl
  have GR := Aside0.mk gr
  obtain ⟨dl, dr, bl, br, dd⟩ := nodup_node HD.out
  have DL0 := Aside0.mk dl
  have DR0 := Aside0.mk dr
  have BL0 := Aside0.mk bl
  have BR0 := Aside0.mk br
  have DD0 := Aside0.mk dd
  have nc1 : ¬ q < x0 := by omega
  have nc2 : ¬ x0 + 2048 ≤ q := by omega
  have HH := Aside0.mk (show (T.node b0 x0 s0 l0 r0).has q = bget s0 (q - x0).toNat by rw [T.has, if_neg nc1, if_neg nc2])
  have HG := Aside0.mk (show (T.node b0 x0 s0 l0 r0).gone q = (bget s0 (q - x0).toNat && (bclr s0 (q - x0).toNat).all (· == 0)) by rw [T.gone, if_neg nc1, if_neg nc2])
  have HDL := Aside0.mk (show (T.node b0 x0 s0 l0 r0).del q = if bget s0 (q - x0).toNat then (if (bclr s0 (q - x0).toNat).all (· == 0) then (T.merge l0 r0).bal else T.node b0 x0 (bclr s0 (q - x0).toNat) l0 r0) else T.node b0 x0 s0 l0 r0 by rw [T.del, if_neg nc1, if_neg nc2])
  have GI := Aside0.mk hg
  have hx2 : q < 18446744073709551616 := by omega
  clear hN0 hL0 hR0 hD hZ hg gl gr hS dl dr bl br dd nc1 nc2
  by_cases hE : (bget s0 (q - x0).toNat && (bclr s0 (q - x0).toNat).all (· == 0)) = true
  · -- the node goes
    have HE := Aside0.mk hE
    have hb : bget s0 (q - x0).toNat = true := by rw [Bool.and_eq_true] at hE; exact hE.1
    have ha : (bclr s0 (q - x0).toNat).all (· == 0) = true := by rw [Bool.and_eq_true] at hE; exact hE.2
    have EQ := HDL.out
    rw [if_pos hb, if_pos ha] at EQ
    replace EQ := Aside0.mk EQ
    have HCL := Aside0.mk (clear_put N0.out S0.out hbg hx0 c1 c2 hx2)
    rw [HE.out, if_pos hb, hb, Bool.or_true] at HCL
    have HH2 := HH.out
    rw [hb] at HH2
    replace HH2 := Aside0.mk HH2
    have HG2 := HG.out
    rw [hE] at HG2
    replace HG2 := Aside0.mk HG2
    have d1 : (nd - 1 == nd) = false := by simp; omega
    clear hE hb ha HH HG HDL HE
    have MID : Aside0 (∀ k, k ∈ (T.merge l0 r0).ids → k ∈ (T.node b0 x0 s0 l0 r0).ids) := ⟨fun k h => by
      unfold T.ids at h
      rw [T.merge_flat, List.map_append] at h
      rw [T.ids_node]
      rcases List.mem_append.1 h with h | h
      · exact List.mem_append_left _ h
      · exact List.mem_append_right _ (List.mem_cons_of_mem _ h)⟩
    have NDM : Aside0 (T.merge l0 r0).ids.Nodup := ⟨by
      have e : (T.merge l0 r0).ids = l0.ids ++ r0.ids := by unfold T.ids; rw [T.merge_flat, List.map_append]
      rw [e]
      refine List.Nodup.sublist (List.Sublist.append (List.Sublist.refl _) (List.sublist_cons_self b0 _)) ?_
      have h := HD.out
      rw [T.ids_node] at h
      exact h⟩
    have SZM : Aside0 ((T.merge l0 r0).flat.length ≤ 1000000) := ⟨by rw [T.merge_flat, List.length_append]; have := HZ.out; omega⟩
    have FINN : Aside0 (∀ w1, Lies w1 (T.merge l0 r0) → SetAt w1 g root sz (nd - 1) true → Fr (fun k => k = g ∨ k ∈ (T.node b0 x0 s0 l0 r0).ids) w w1 → ∀ w', TreePut w1 w' (T.merge l0 r0) (T.merge l0 r0).bal → ∀ e, e = .returned (.pointer (ptrA (T.merge l0 r0).bal.ptr)) → DelPost q g (T.node b0 x0 s0 l0 r0) root sz nd ch w e w') := ⟨fun w1 hL hS hF w' P e he => by
      refine .mk (by rw [EQ.out]; exact he) ⟨by rw [EQ.out]; exact P.lies, ?_, hF.trans P.fr (fun k _ h => .inr (MID.out k h))⟩
      rw [HG2.out, HH2.out, if_pos rfl, Bool.or_true]
      exact hS.fr P.fr (fun h => GI.out (MID.out g h))⟩
    cases l0 with
    | nil =>
      cases r0 with
      | nil =>
        go_enter Tryd.func63, Tryd.ntmps63
        go_wp2_with fail
        refine HCL.out.mono ?_
        rintro e w1 ⟨rfl, P2⟩
        replace P2 := Aside0.mk P2
        have f2 := P2.out.set.c2
        have z2 := P2.out.set.free 2
        have f33 := P2.out.node.cl
        have f34 := P2.out.node.cr
        simp only [T.ptr, ptrA] at f33 f34
        go_wp2
        go_ret
        refine FINN.out _ trivial (P2.out.set.set2 _) ?_ _ ⟨trivial, Fr.refl _ _, rfl⟩ _ rfl
        exact (P2.out.fr.mono (fun k hk => hk.elim (fun h => .inr (by rw [h]; simp [T.ids_node])) .inl)).set (.inl (.inl rfl)) _
      | node b x s L R =>
        go_enter Tryd.func63, Tryd.ntmps63
        go_wp2_with fail
        refine HCL.out.mono ?_
        rintro e w1 ⟨rfl, P2⟩
        replace P2 := Aside0.mk P2
        have f2 := P2.out.set.c2
        have z2 := P2.out.set.free 2
        have f33 := P2.out.node.cl
        have f34 := P2.out.node.cr
        simp only [T.ptr, ptrA] at f33 f34
        have LM1 := Aside0.mk (LR0.out.fr P2.out.fr (fun k hk h => h.elim (fun h => BR0.out (h ▸ hk)) (fun h => GR.out (h ▸ hk))))
        go_upto_region 17 with (fail)
        have LM := Aside0.mk (LM1.out.far (p := ⟨g, 2, none⟩) GR.out (.int .i64 (nd - 1)))
        have SM := Aside0.mk (P2.out.set.set2 (nd - 1))
        have FRM := Aside0.mk ((P2.out.fr.mono (G := fun k => k = g ∨ k ∈ (T.node b0 x0 s0 .nil (T.node b x s L R)).ids) (fun k hk => hk.elim (fun h => .inr (by rw [h]; simp [T.ids_node])) .inl)).set (p := ⟨g, 2, none⟩) (.inl (.inl rfl)) (.int .i64 (nd - 1)))
        generalize w1.setCell ⟨g, 2, none⟩ (.int .i64 (nd - 1)) = wz at *
        clear f2 z2
        have f2 := SM.out.c2
        have FIN : Aside0 (∀ w', TreePut wz w' (T.node b x s L R) (T.node b x s L R).bal → ∀ e, e = .returned (.pointer (ptrA (T.node b x s L R).bal.ptr)) → DelPost q g (T.node b0 x0 s0 .nil (T.node b x s L R)) root sz nd ch w e w') := ⟨FINN.out wz LM.out SM.out FRM.out⟩
        have N1 := Aside0.mk LM.out.1
        have LL := Aside0.mk LM.out.2.1
        have LR := Aside0.mk LM.out.2.2
        clear FINN
        clear f33 f34 P2 LM1 LL0 LR0 N0 S0 HCL hn0 hn1 hq0 hq1 hx0 hx1 hx2 c1 c2 hgb hbg DL0 DR0 BL0 BR0 DD0
        have ND : Aside0 (T.node b x s L R).ids.Nodup := ⟨NDM.out⟩
        have SZ : Aside0 ((T.node b x s L R).flat.length ≤ 1000000) := ⟨SZM.out⟩

        obtain ⟨dl, dr, bl, br, dd⟩ := nodup_node ND.out
        have SZ2 := Aside0.mk SZ.out
        rw [flat_len_node] at SZ2
        have DL := Aside0.mk dl
        have DR := Aside0.mk dr
        have BL := Aside0.mk bl
        have BR := Aside0.mk br
        have DD := Aside0.mk dd
        clear dl dr bl br dd
        have fh := N1.out.ch
        have zh := N1.out.free 35
        have HB := Aside0.mk (ht_bound (t := (T.node b x s L R)) SZ.out)
        have hm1 : -1 ≤ (T.node b x s L R).ht - 1 ∧ (T.node b x s L R).ht - 1 ≤ 1000000 := by have := HB.out; omega
        obtain ⟨hm1, hm2⟩ := hm1
        go_wp2_with fail
        refine (maxH_calls N1.out LL.out.hat LR.out.hat).mono ?_
        rintro e w' ⟨rfl, rfl⟩
        have hmx : (if R.ht < L.ht then L.ht else R.ht) = (T.node b x s L R).ht - 1 := by rw [T.ht]; omega
        rw [hmx]
        have hmy : (T.node b x s L R).ht - 1 + 1 = (T.node b x s L R).ht := by omega
        have HY := Aside0.mk hmy
        clear hmx hmy
        obtain ⟨H, hH⟩ : ∃ H, H = (T.node b x s L R).ht - 1 := ⟨_, rfl⟩
        rw [← hH] at hm1 hm2 HY ⊢
        clear hH
        go_wp2_with fail
        have N2 := Aside0.mk (N1.out.setH (H + 1))
        have LL2 := Aside0.mk (LL.out.far (p := ⟨b, 35, none⟩) BL.out (.int .i64 (H + 1)))
        have LR2 := Aside0.mk (LR.out.far (p := ⟨b, 35, none⟩) BR.out (.int .i64 (H + 1)))
        have FR2 := Aside0.mk ((Fr.refl (fun k => k ∈ (T.node b x s L R).ids) wz).set (p := ⟨b, 35, none⟩) (.inl (show b ∈ (T.node b x s L R).ids by simp [T.ids_node])) (.int .i64 (H + 1)))
        have SS2 := Aside0.mk (setCell_size wz ⟨b, 35, none⟩ (.int .i64 (H + 1)))
        generalize wz.setCell ⟨b, 35, none⟩ (.int .i64 (H + 1)) = w2 at *
        rw [HY.out] at N2
        clear fh zh N1 LL LR hm1 hm2 HY
        refine (balF_calls N2.out LL2.out.hat LR2.out.hat (ht_bound (by have := SZ2.out; omega)) (ht_bound (by have := SZ2.out; omega))).mono ?_
        rintro e w' ⟨rfl, rfl⟩
        have f33 := N2.out.cl
        have f34 := N2.out.cr
        have z33 := N2.out.free 33
        have z34 := N2.out.free 34
        by_cases c1 : 1 < L.ht - R.ht
        · have c1' := Aside0.mk c1
          cases L with
          | nil =>
            exfalso
            have := R.ht_nonneg
            simp [T.ht] at c1
            omega
          | node c x' s' l' r' =>
            by_cases c2 : (T.node c x' s' l' r').bf < 0
            · have C2 := Aside0.mk c2
              obtain ⟨c3, x3, s3, l3, r3, rfl⟩ := bf_neg c2
              have RT : (T.node b x s (T.node c x' s' l' (T.node c3 x3 s3 l3 r3)) R).bal = (T.node b x s (T.node c x' s' l' (T.node c3 x3 s3 l3 r3)).rotL R).rotR := by rw [T.bal, if_pos c1, if_pos c2]
              replace RT := Aside0.mk RT
              simp only [T.ptr, ptrA] at f33
              go_wp2_with fail
              refine (balF_tree LL2.out (by have := SZ2.out; omega)).mono ?_
              rintro e w' ⟨rfl, rfl⟩
              go_wp2_with fail
              refine (rotL_tree LL2.out.1 LL2.out.2.2 LL2.out.2.1 DL.out (by have := SZ2.out; omega)).mono ?_
              rintro e w3 ⟨rfl, P3⟩
              have P3 := Aside0.mk P3
              have N3 := Aside0.mk (N2.out.fr P3.out.fr BL.out)
              have LR3 := Aside0.mk (LR2.out.fr P3.out.fr (fun k hk hk2 => DD.out k hk2 hk))
              clear f33 f34 z33 z34 c1 c2
              have f33 := N3.out.cl
              have z33 := N3.out.free 33
              go_wp2_with fail
              have N4 := Aside0.mk (N3.out.setL (some c3))
              have LL4 := Aside0.mk (P3.out.lies.far (p := ⟨b, 33, none⟩) (by rw [T.rotL_ids]; exact BL.out) (.pointer (some ⟨c3, 0, none⟩)))
              have LR4 := Aside0.mk (LR3.out.far (p := ⟨b, 33, none⟩) BR.out (.pointer (some ⟨c3, 0, none⟩)))
              have FR4 := Aside0.mk ((FR2.out.trans (P3.out.fr.mono (G := fun k => k ∈ (T.node b x s (T.node c x' s' l' (T.node c3 x3 s3 l3 r3)) R).ids) (fun k hk => by rw [T.ids_node]; exact List.mem_append_left _ hk)) (fun _ _ h => h)).set (p := ⟨b, 33, none⟩) (.inl (by simp [T.ids_node])) (.pointer (some ⟨c3, 0, none⟩)))
              have SS4 := Aside0.mk ((setCell_size w3 ⟨b, 33, none⟩ (.pointer (some ⟨c3, 0, none⟩))).trans (P3.out.size.trans SS2.out))
              simp only [ptrA] at N4
              generalize w3.setCell ⟨b, 33, none⟩ (.pointer (some ⟨c3, 0, none⟩)) = w4 at *
              clear f33 z33 N3 LR3 P3 N2 LL2 LR2 FR2
              refine (rotR_tree (r := R) N4.out LL4.out LR4.out (by rw [T.ids_node]; have h := ND.out; rw [T.ids_node] at h; have e := T.rotL_ids (T.node c x' s' l' (T.node c3 x3 s3 l3 r3)); rw [T.rotL] at e; rw [e]; exact h) (by have h := SZ.out; rw [T.flat_node] at h ⊢; have e := T.rotL_flat (T.node c x' s' l' (T.node c3 x3 s3 l3 r3)); rw [T.rotL] at e; rw [e]; exact h)).mono ?_
              rintro e w5 ⟨rfl, P5⟩
              have P5 := Aside0.mk P5
              go_wp2
              have PUT : TreePut wz w5 (T.node b x s (T.node c x' s' l' (T.node c3 x3 s3 l3 r3)) R) (T.node b x s (T.node c x' s' l' (T.node c3 x3 s3 l3 r3)) R).bal := by
                rw [RT.out]
                refine ⟨P5.out.lies, FR4.out.trans P5.out.fr (fun k _ hk => ?_), P5.out.size.trans SS4.out⟩
                rw [T.ids_node] at hk ⊢
                have e := T.rotL_ids (T.node c x' s' l' (T.node c3 x3 s3 l3 r3))
                rw [T.rotL] at e
                rw [e] at hk
                exact hk
              have PTR : (T.node b x s (T.node c x' s' l' (T.node c3 x3 s3 l3 r3)) R).bal.ptr = some c3 := by rw [RT.out]; rfl
              go_ret
              exact FIN.out _ PUT _ (by rw [PTR]; rfl)
            · have RT : (T.node b x s (T.node c x' s' l' r') R).bal = (T.node b x s (T.node c x' s' l' r') R).rotR := by rw [T.bal, if_pos c1, if_neg c2]
              replace RT := Aside0.mk RT
              have c2 : 0 ≤ (T.node c x' s' l' r').bf := by omega
              simp only [T.ptr, ptrA] at f33
              go_wp2_with fail
              refine (balF_tree LL2.out (by have := SZ2.out; omega)).mono ?_
              rintro e w' ⟨rfl, rfl⟩
              go_wp2_with fail
              refine (rotR_tree N2.out LL2.out LR2.out ND.out SZ.out).mono ?_
              rintro e w5 ⟨rfl, P5⟩
              have P5 := Aside0.mk P5
              clear f33 f34 z33 z34 c1 c2
              go_wp2
              have PUT : TreePut wz w5 (T.node b x s (T.node c x' s' l' r') R) (T.node b x s (T.node c x' s' l' r') R).bal := by
                rw [RT.out]
                exact ⟨P5.out.lies, FR2.out.trans P5.out.fr (fun _ _ h => h), P5.out.size.trans SS2.out⟩
              have PTR : (T.node b x s (T.node c x' s' l' r') R).bal.ptr = some c := by rw [RT.out]; rfl
              go_ret
              exact FIN.out _ PUT _ (by rw [PTR]; rfl)
        · have c1n : L.ht - R.ht ≤ 1 := by omega
          by_cases c2 : L.ht - R.ht < -1
          · have c2' := Aside0.mk c2
            cases R with
            | nil =>
              exfalso
              have := L.ht_nonneg
              simp [T.ht] at c2
              omega
            | node c x' s' l' r' =>
              by_cases c3 : 0 < (T.node c x' s' l' r').bf
              · have C3 := Aside0.mk c3
                obtain ⟨c4, x3, s3, l3, r3, rfl⟩ := bf_pos c3
                have RT : (T.node b x s L (T.node c x' s' (T.node c4 x3 s3 l3 r3) r')).bal = (T.node b x s L (T.node c x' s' (T.node c4 x3 s3 l3 r3) r').rotR).rotL := by rw [T.bal, if_neg c1, if_pos c2, if_pos c3]
                replace RT := Aside0.mk RT
                simp only [T.ptr, ptrA] at f34
                clear c1
                go_wp2_with fail
                refine (balF_tree LR2.out (by have := SZ2.out; omega)).mono ?_
                rintro e w' ⟨rfl, rfl⟩
                go_wp2_with fail
                refine (rotR_tree LR2.out.1 LR2.out.2.1 LR2.out.2.2 DR.out (by have := SZ2.out; omega)).mono ?_
                rintro e w3 ⟨rfl, P3⟩
                have P3 := Aside0.mk P3
                have N3 := Aside0.mk (N2.out.fr P3.out.fr BR.out)
                have LL3 := Aside0.mk (LL2.out.fr P3.out.fr (fun k hk hk2 => DD.out k hk hk2))
                clear f33 f34 z33 z34 c2 c3 c1n
                have f34 := N3.out.cr
                have z34 := N3.out.free 34
                go_wp2_with fail
                have N4 := Aside0.mk (N3.out.setR (some c4))
                have LR4 := Aside0.mk (P3.out.lies.far (p := ⟨b, 34, none⟩) (by rw [T.rotR_ids]; exact BR.out) (.pointer (some ⟨c4, 0, none⟩)))
                have LL4 := Aside0.mk (LL3.out.far (p := ⟨b, 34, none⟩) BL.out (.pointer (some ⟨c4, 0, none⟩)))
                have FR4 := Aside0.mk ((FR2.out.trans (P3.out.fr.mono (G := fun k => k ∈ (T.node b x s L (T.node c x' s' (T.node c4 x3 s3 l3 r3) r')).ids) (fun k hk => by rw [T.ids_node]; exact List.mem_append_right _ (List.mem_cons_of_mem _ hk))) (fun _ _ h => h)).set (p := ⟨b, 34, none⟩) (.inl (by simp [T.ids_node])) (.pointer (some ⟨c4, 0, none⟩)))
                have SS4 := Aside0.mk ((setCell_size w3 ⟨b, 34, none⟩ (.pointer (some ⟨c4, 0, none⟩))).trans (P3.out.size.trans SS2.out))
                simp only [ptrA] at N4
                generalize w3.setCell ⟨b, 34, none⟩ (.pointer (some ⟨c4, 0, none⟩)) = w4 at *
                clear f34 z34 N3 LL3 P3 N2 LL2 LR2 FR2
                refine (rotL_tree (l := L) N4.out LR4.out LL4.out (by rw [T.ids_node]; have h := ND.out; rw [T.ids_node] at h; have e := T.rotR_ids (T.node c x' s' (T.node c4 x3 s3 l3 r3) r'); rw [T.rotR] at e; rw [e]; exact h) (by have h := SZ.out; rw [T.flat_node] at h ⊢; have e := T.rotR_flat (T.node c x' s' (T.node c4 x3 s3 l3 r3) r'); rw [T.rotR] at e; rw [e]; exact h)).mono ?_
                rintro e w5 ⟨rfl, P5⟩
                have P5 := Aside0.mk P5
                go_wp2
                have PUT : TreePut wz w5 (T.node b x s L (T.node c x' s' (T.node c4 x3 s3 l3 r3) r')) (T.node b x s L (T.node c x' s' (T.node c4 x3 s3 l3 r3) r')).bal := by
                  rw [RT.out]
                  refine ⟨P5.out.lies, FR4.out.trans P5.out.fr (fun k _ hk => ?_), P5.out.size.trans SS4.out⟩
                  rw [T.ids_node] at hk ⊢
                  have e := T.rotR_ids (T.node c x' s' (T.node c4 x3 s3 l3 r3) r')
                  rw [T.rotR] at e
                  rw [e] at hk
                  exact hk
                have PTR : (T.node b x s L (T.node c x' s' (T.node c4 x3 s3 l3 r3) r')).bal.ptr = some c4 := by rw [RT.out]; rfl
                go_ret
                exact FIN.out _ PUT _ (by rw [PTR]; rfl)
              · have RT : (T.node b x s L (T.node c x' s' l' r')).bal = (T.node b x s L (T.node c x' s' l' r')).rotL := by rw [T.bal, if_neg c1, if_pos c2, if_neg c3]
                replace RT := Aside0.mk RT
                have c3 : (T.node c x' s' l' r').bf ≤ 0 := by omega
                simp only [T.ptr, ptrA] at f34
                clear c1
                go_wp2_with fail
                refine (balF_tree LR2.out (by have := SZ2.out; omega)).mono ?_
                rintro e w' ⟨rfl, rfl⟩
                go_wp2_with fail
                refine (rotL_tree N2.out LR2.out LL2.out ND.out SZ.out).mono ?_
                rintro e w5 ⟨rfl, P5⟩
                have P5 := Aside0.mk P5
                clear f33 f34 z33 z34 c2 c3 c1n
                go_wp2
                have PUT : TreePut wz w5 (T.node b x s L (T.node c x' s' l' r')) (T.node b x s L (T.node c x' s' l' r')).bal := by
                  rw [RT.out]
                  exact ⟨P5.out.lies, FR2.out.trans P5.out.fr (fun _ _ h => h), P5.out.size.trans SS2.out⟩
                have PTR : (T.node b x s L (T.node c x' s' l' r')).bal.ptr = some c := by rw [RT.out]; rfl
                go_ret
                exact FIN.out _ PUT _ (by rw [PTR]; rfl)
          · have RT : (T.node b x s L R).bal = (T.node b x s L R) := by rw [T.bal, if_neg c1, if_neg c2]
            replace RT := Aside0.mk RT
            have c2n : -1 ≤ L.ht - R.ht := by omega
            clear c1 c2 f33 f34 z33 z34
            go_wp2
            have PUT : TreePut wz w2 (T.node b x s L R) (T.node b x s L R).bal := by
              rw [RT.out]
              exact ⟨⟨N2.out, LL2.out, LR2.out⟩, FR2.out, SS2.out⟩
            have PTR : (T.node b x s L R).bal.ptr = some b := by rw [RT.out]; rfl
            go_ret
            exact FIN.out _ PUT _ (by rw [PTR]; rfl)
    | node bl xl sl ll rl =>
      cases r0 with
      | nil =>
        obtain ⟨b, hbb⟩ : ∃ b, b = bl := ⟨_, rfl⟩
        obtain ⟨x, hxx⟩ : ∃ x, x = xl := ⟨_, rfl⟩
        obtain ⟨s, hss⟩ : ∃ s, s = sl := ⟨_, rfl⟩
        obtain ⟨L, hLL⟩ : ∃ L, L = ll := ⟨_, rfl⟩
        obtain ⟨R, hRR⟩ : ∃ R, R = rl := ⟨_, rfl⟩
        subst hbb hxx hss hLL hRR
        go_enter Tryd.func63, Tryd.ntmps63
        go_wp2_with fail
        refine HCL.out.mono ?_
        rintro e w1 ⟨rfl, P2⟩
        replace P2 := Aside0.mk P2
        have f2 := P2.out.set.c2
        have z2 := P2.out.set.free 2
        have f33 := P2.out.node.cl
        have f34 := P2.out.node.cr
        simp only [T.ptr, ptrA] at f33 f34
        have LM1 := Aside0.mk (LL0.out.fr P2.out.fr (fun k hk h => h.elim (fun h => BL0.out (h ▸ hk)) (fun h => GL.out (h ▸ hk))))
        go_upto_region 17 with (fail)
        have LM := Aside0.mk (LM1.out.far (p := ⟨g, 2, none⟩) GL.out (.int .i64 (nd - 1)))
        have SM := Aside0.mk (P2.out.set.set2 (nd - 1))
        have FRM := Aside0.mk ((P2.out.fr.mono (G := fun k => k = g ∨ k ∈ (T.node b0 x0 s0 (T.node b x s L R) .nil).ids) (fun k hk => hk.elim (fun h => .inr (by rw [h]; simp [T.ids_node])) .inl)).set (p := ⟨g, 2, none⟩) (.inl (.inl rfl)) (.int .i64 (nd - 1)))
        generalize w1.setCell ⟨g, 2, none⟩ (.int .i64 (nd - 1)) = wz at *
        clear f2 z2
        have f2 := SM.out.c2
        have FIN : Aside0 (∀ w', TreePut wz w' (T.node b x s L R) (T.node b x s L R).bal → ∀ e, e = .returned (.pointer (ptrA (T.node b x s L R).bal.ptr)) → DelPost q g (T.node b0 x0 s0 (T.node b x s L R) .nil) root sz nd ch w e w') := ⟨FINN.out wz LM.out SM.out FRM.out⟩
        have N1 := Aside0.mk LM.out.1
        have LL := Aside0.mk LM.out.2.1
        have LR := Aside0.mk LM.out.2.2
        clear FINN
        clear f33 f34 P2 LM1 LL0 LR0 N0 S0 HCL hn0 hn1 hq0 hq1 hx0 hx1 hx2 c1 c2 hgb hbg DL0 DR0 BL0 BR0 DD0
        have ND : Aside0 (T.node b x s L R).ids.Nodup := ⟨NDM.out⟩
        have SZ : Aside0 ((T.node b x s L R).flat.length ≤ 1000000) := ⟨SZM.out⟩

        obtain ⟨dl, dr, bl, br, dd⟩ := nodup_node ND.out
        have SZ2 := Aside0.mk SZ.out
        rw [flat_len_node] at SZ2
        have DL := Aside0.mk dl
        have DR := Aside0.mk dr
        have BL := Aside0.mk bl
        have BR := Aside0.mk br
        have DD := Aside0.mk dd
        clear dl dr bl br dd
        have fh := N1.out.ch
        have zh := N1.out.free 35
        have HB := Aside0.mk (ht_bound (t := (T.node b x s L R)) SZ.out)
        have hm1 : -1 ≤ (T.node b x s L R).ht - 1 ∧ (T.node b x s L R).ht - 1 ≤ 1000000 := by have := HB.out; omega
        obtain ⟨hm1, hm2⟩ := hm1
        go_wp2_with fail
        refine (maxH_calls N1.out LL.out.hat LR.out.hat).mono ?_
        rintro e w' ⟨rfl, rfl⟩
        have hmx : (if R.ht < L.ht then L.ht else R.ht) = (T.node b x s L R).ht - 1 := by rw [T.ht]; omega
        rw [hmx]
        have hmy : (T.node b x s L R).ht - 1 + 1 = (T.node b x s L R).ht := by omega
        have HY := Aside0.mk hmy
        clear hmx hmy
        obtain ⟨H, hH⟩ : ∃ H, H = (T.node b x s L R).ht - 1 := ⟨_, rfl⟩
        rw [← hH] at hm1 hm2 HY ⊢
        clear hH
        go_wp2_with fail
        have N2 := Aside0.mk (N1.out.setH (H + 1))
        have LL2 := Aside0.mk (LL.out.far (p := ⟨b, 35, none⟩) BL.out (.int .i64 (H + 1)))
        have LR2 := Aside0.mk (LR.out.far (p := ⟨b, 35, none⟩) BR.out (.int .i64 (H + 1)))
        have FR2 := Aside0.mk ((Fr.refl (fun k => k ∈ (T.node b x s L R).ids) wz).set (p := ⟨b, 35, none⟩) (.inl (show b ∈ (T.node b x s L R).ids by simp [T.ids_node])) (.int .i64 (H + 1)))
        have SS2 := Aside0.mk (setCell_size wz ⟨b, 35, none⟩ (.int .i64 (H + 1)))
        generalize wz.setCell ⟨b, 35, none⟩ (.int .i64 (H + 1)) = w2 at *
        rw [HY.out] at N2
        clear fh zh N1 LL LR hm1 hm2 HY
        refine (balF_calls N2.out LL2.out.hat LR2.out.hat (ht_bound (by have := SZ2.out; omega)) (ht_bound (by have := SZ2.out; omega))).mono ?_
        rintro e w' ⟨rfl, rfl⟩
        have f33 := N2.out.cl
        have f34 := N2.out.cr
        have z33 := N2.out.free 33
        have z34 := N2.out.free 34
        by_cases c1 : 1 < L.ht - R.ht
        · have c1' := Aside0.mk c1
          cases L with
          | nil =>
            exfalso
            have := R.ht_nonneg
            simp [T.ht] at c1
            omega
          | node c x' s' l' r' =>
            by_cases c2 : (T.node c x' s' l' r').bf < 0
            · have C2 := Aside0.mk c2
              obtain ⟨c3, x3, s3, l3, r3, rfl⟩ := bf_neg c2
              have RT : (T.node b x s (T.node c x' s' l' (T.node c3 x3 s3 l3 r3)) R).bal = (T.node b x s (T.node c x' s' l' (T.node c3 x3 s3 l3 r3)).rotL R).rotR := by rw [T.bal, if_pos c1, if_pos c2]
              replace RT := Aside0.mk RT
              simp only [T.ptr, ptrA] at f33
              go_wp2_with fail
              refine (balF_tree LL2.out (by have := SZ2.out; omega)).mono ?_
              rintro e w' ⟨rfl, rfl⟩
              go_wp2_with fail
              refine (rotL_tree LL2.out.1 LL2.out.2.2 LL2.out.2.1 DL.out (by have := SZ2.out; omega)).mono ?_
              rintro e w3 ⟨rfl, P3⟩
              have P3 := Aside0.mk P3
              have N3 := Aside0.mk (N2.out.fr P3.out.fr BL.out)
              have LR3 := Aside0.mk (LR2.out.fr P3.out.fr (fun k hk hk2 => DD.out k hk2 hk))
              clear f33 f34 z33 z34 c1 c2
              have f33 := N3.out.cl
              have z33 := N3.out.free 33
              go_wp2_with fail
              have N4 := Aside0.mk (N3.out.setL (some c3))
              have LL4 := Aside0.mk (P3.out.lies.far (p := ⟨b, 33, none⟩) (by rw [T.rotL_ids]; exact BL.out) (.pointer (some ⟨c3, 0, none⟩)))
              have LR4 := Aside0.mk (LR3.out.far (p := ⟨b, 33, none⟩) BR.out (.pointer (some ⟨c3, 0, none⟩)))
              have FR4 := Aside0.mk ((FR2.out.trans (P3.out.fr.mono (G := fun k => k ∈ (T.node b x s (T.node c x' s' l' (T.node c3 x3 s3 l3 r3)) R).ids) (fun k hk => by rw [T.ids_node]; exact List.mem_append_left _ hk)) (fun _ _ h => h)).set (p := ⟨b, 33, none⟩) (.inl (by simp [T.ids_node])) (.pointer (some ⟨c3, 0, none⟩)))
              have SS4 := Aside0.mk ((setCell_size w3 ⟨b, 33, none⟩ (.pointer (some ⟨c3, 0, none⟩))).trans (P3.out.size.trans SS2.out))
              simp only [ptrA] at N4
              generalize w3.setCell ⟨b, 33, none⟩ (.pointer (some ⟨c3, 0, none⟩)) = w4 at *
              clear f33 z33 N3 LR3 P3 N2 LL2 LR2 FR2
              refine (rotR_tree (r := R) N4.out LL4.out LR4.out (by rw [T.ids_node]; have h := ND.out; rw [T.ids_node] at h; have e := T.rotL_ids (T.node c x' s' l' (T.node c3 x3 s3 l3 r3)); rw [T.rotL] at e; rw [e]; exact h) (by have h := SZ.out; rw [T.flat_node] at h ⊢; have e := T.rotL_flat (T.node c x' s' l' (T.node c3 x3 s3 l3 r3)); rw [T.rotL] at e; rw [e]; exact h)).mono ?_
              rintro e w5 ⟨rfl, P5⟩
              have P5 := Aside0.mk P5
              go_wp2
              have PUT : TreePut wz w5 (T.node b x s (T.node c x' s' l' (T.node c3 x3 s3 l3 r3)) R) (T.node b x s (T.node c x' s' l' (T.node c3 x3 s3 l3 r3)) R).bal := by
                rw [RT.out]
                refine ⟨P5.out.lies, FR4.out.trans P5.out.fr (fun k _ hk => ?_), P5.out.size.trans SS4.out⟩
                rw [T.ids_node] at hk ⊢
                have e := T.rotL_ids (T.node c x' s' l' (T.node c3 x3 s3 l3 r3))
                rw [T.rotL] at e
                rw [e] at hk
                exact hk
              have PTR : (T.node b x s (T.node c x' s' l' (T.node c3 x3 s3 l3 r3)) R).bal.ptr = some c3 := by rw [RT.out]; rfl
              go_ret
              exact FIN.out _ PUT _ (by rw [PTR]; rfl)
            · have RT : (T.node b x s (T.node c x' s' l' r') R).bal = (T.node b x s (T.node c x' s' l' r') R).rotR := by rw [T.bal, if_pos c1, if_neg c2]
              replace RT := Aside0.mk RT
              have c2 : 0 ≤ (T.node c x' s' l' r').bf := by omega
              simp only [T.ptr, ptrA] at f33
              go_wp2_with fail
              refine (balF_tree LL2.out (by have := SZ2.out; omega)).mono ?_
              rintro e w' ⟨rfl, rfl⟩
              go_wp2_with fail
              refine (rotR_tree N2.out LL2.out LR2.out ND.out SZ.out).mono ?_
              rintro e w5 ⟨rfl, P5⟩
              have P5 := Aside0.mk P5
              clear f33 f34 z33 z34 c1 c2
              go_wp2
              have PUT : TreePut wz w5 (T.node b x s (T.node c x' s' l' r') R) (T.node b x s (T.node c x' s' l' r') R).bal := by
                rw [RT.out]
                exact ⟨P5.out.lies, FR2.out.trans P5.out.fr (fun _ _ h => h), P5.out.size.trans SS2.out⟩
              have PTR : (T.node b x s (T.node c x' s' l' r') R).bal.ptr = some c := by rw [RT.out]; rfl
              go_ret
              exact FIN.out _ PUT _ (by rw [PTR]; rfl)
        · have c1n : L.ht - R.ht ≤ 1 := by omega
          by_cases c2 : L.ht - R.ht < -1
          · have c2' := Aside0.mk c2
            cases R with
            | nil =>
              exfalso
              have := L.ht_nonneg
              simp [T.ht] at c2
              omega
            | node c x' s' l' r' =>
              by_cases c3 : 0 < (T.node c x' s' l' r').bf
              · have C3 := Aside0.mk c3
                obtain ⟨c4, x3, s3, l3, r3, rfl⟩ := bf_pos c3
                have RT : (T.node b x s L (T.node c x' s' (T.node c4 x3 s3 l3 r3) r')).bal = (T.node b x s L (T.node c x' s' (T.node c4 x3 s3 l3 r3) r').rotR).rotL := by rw [T.bal, if_neg c1, if_pos c2, if_pos c3]
                replace RT := Aside0.mk RT
                simp only [T.ptr, ptrA] at f34
                clear c1
                go_wp2_with fail
                refine (balF_tree LR2.out (by have := SZ2.out; omega)).mono ?_
                rintro e w' ⟨rfl, rfl⟩
                go_wp2_with fail
                refine (rotR_tree LR2.out.1 LR2.out.2.1 LR2.out.2.2 DR.out (by have := SZ2.out; omega)).mono ?_
                rintro e w3 ⟨rfl, P3⟩
                have P3 := Aside0.mk P3
                have N3 := Aside0.mk (N2.out.fr P3.out.fr BR.out)
                have LL3 := Aside0.mk (LL2.out.fr P3.out.fr (fun k hk hk2 => DD.out k hk hk2))
                clear f33 f34 z33 z34 c2 c3 c1n
                have f34 := N3.out.cr
                have z34 := N3.out.free 34
                go_wp2_with fail
                have N4 := Aside0.mk (N3.out.setR (some c4))
                have LR4 := Aside0.mk (P3.out.lies.far (p := ⟨b, 34, none⟩) (by rw [T.rotR_ids]; exact BR.out) (.pointer (some ⟨c4, 0, none⟩)))
                have LL4 := Aside0.mk (LL3.out.far (p := ⟨b, 34, none⟩) BL.out (.pointer (some ⟨c4, 0, none⟩)))
                have FR4 := Aside0.mk ((FR2.out.trans (P3.out.fr.mono (G := fun k => k ∈ (T.node b x s L (T.node c x' s' (T.node c4 x3 s3 l3 r3) r')).ids) (fun k hk => by rw [T.ids_node]; exact List.mem_append_right _ (List.mem_cons_of_mem _ hk))) (fun _ _ h => h)).set (p := ⟨b, 34, none⟩) (.inl (by simp [T.ids_node])) (.pointer (some ⟨c4, 0, none⟩)))
                have SS4 := Aside0.mk ((setCell_size w3 ⟨b, 34, none⟩ (.pointer (some ⟨c4, 0, none⟩))).trans (P3.out.size.trans SS2.out))
                simp only [ptrA] at N4
                generalize w3.setCell ⟨b, 34, none⟩ (.pointer (some ⟨c4, 0, none⟩)) = w4 at *
                clear f34 z34 N3 LL3 P3 N2 LL2 LR2 FR2
                refine (rotL_tree (l := L) N4.out LR4.out LL4.out (by rw [T.ids_node]; have h := ND.out; rw [T.ids_node] at h; have e := T.rotR_ids (T.node c x' s' (T.node c4 x3 s3 l3 r3) r'); rw [T.rotR] at e; rw [e]; exact h) (by have h := SZ.out; rw [T.flat_node] at h ⊢; have e := T.rotR_flat (T.node c x' s' (T.node c4 x3 s3 l3 r3) r'); rw [T.rotR] at e; rw [e]; exact h)).mono ?_
                rintro e w5 ⟨rfl, P5⟩
                have P5 := Aside0.mk P5
                go_wp2
                have PUT : TreePut wz w5 (T.node b x s L (T.node c x' s' (T.node c4 x3 s3 l3 r3) r')) (T.node b x s L (T.node c x' s' (T.node c4 x3 s3 l3 r3) r')).bal := by
                  rw [RT.out]
                  refine ⟨P5.out.lies, FR4.out.trans P5.out.fr (fun k _ hk => ?_), P5.out.size.trans SS4.out⟩
                  rw [T.ids_node] at hk ⊢
                  have e := T.rotR_ids (T.node c x' s' (T.node c4 x3 s3 l3 r3) r')
                  rw [T.rotR] at e
                  rw [e] at hk
                  exact hk
                have PTR : (T.node b x s L (T.node c x' s' (T.node c4 x3 s3 l3 r3) r')).bal.ptr = some c4 := by rw [RT.out]; rfl
                go_ret
                exact FIN.out _ PUT _ (by rw [PTR]; rfl)
              · have RT : (T.node b x s L (T.node c x' s' l' r')).bal = (T.node b x s L (T.node c x' s' l' r')).rotL := by rw [T.bal, if_neg c1, if_pos c2, if_neg c3]
                replace RT := Aside0.mk RT
                have c3 : (T.node c x' s' l' r').bf ≤ 0 := by omega
                simp only [T.ptr, ptrA] at f34
                clear c1
                go_wp2_with fail
                refine (balF_tree LR2.out (by have := SZ2.out; omega)).mono ?_
                rintro e w' ⟨rfl, rfl⟩
                go_wp2_with fail
                refine (rotL_tree N2.out LR2.out LL2.out ND.out SZ.out).mono ?_
                rintro e w5 ⟨rfl, P5⟩
                have P5 := Aside0.mk P5
                clear f33 f34 z33 z34 c2 c3 c1n
                go_wp2
                have PUT : TreePut wz w5 (T.node b x s L (T.node c x' s' l' r')) (T.node b x s L (T.node c x' s' l' r')).bal := by
                  rw [RT.out]
                  exact ⟨P5.out.lies, FR2.out.trans P5.out.fr (fun _ _ h => h), P5.out.size.trans SS2.out⟩
                have PTR : (T.node b x s L (T.node c x' s' l' r')).bal.ptr = some c := by rw [RT.out]; rfl
                go_ret
                exact FIN.out _ PUT _ (by rw [PTR]; rfl)
          · have RT : (T.node b x s L R).bal = (T.node b x s L R) := by rw [T.bal, if_neg c1, if_neg c2]
            replace RT := Aside0.mk RT
            have c2n : -1 ≤ L.ht - R.ht := by omega
            clear c1 c2 f33 f34 z33 z34
            go_wp2
            have PUT : TreePut wz w2 (T.node b x s L R) (T.node b x s L R).bal := by
              rw [RT.out]
              exact ⟨⟨N2.out, LL2.out, LR2.out⟩, FR2.out, SS2.out⟩
            have PTR : (T.node b x s L R).bal.ptr = some b := by rw [RT.out]; rfl
            go_ret
            exact FIN.out _ PUT _ (by rw [PTR]; rfl)
      | node br xr sr lr rr =>
        obtain ⟨M, hM⟩ : ∃ M, M = T.merge (T.node bl xl sl ll rl) (T.node br xr sr lr rr) := ⟨_, rfl⟩
        have HM := Aside0.mk (show (T.node br xr sr lr rr).insPrev (T.node bl xl sl ll rl) = M from hM.symm)
        have HM2 := Aside0.mk hM
        have HZ3 := HZ.out
        clear hM
        have HZ3 := Aside0.mk HZ3
        have DMN := Aside0.mk (show ((T.node bl xl sl ll rl).ids ++ (T.node br xr sr lr rr).ids).Nodup by
          have h := HD.out
          rw [T.ids_node] at h
          exact List.Nodup.sublist (List.Sublist.append (List.Sublist.refl _) (List.sublist_cons_self b0 _)) h)
        rw [← HM2.out] at MID NDM SZM FINN
        go_enter Tryd.func63, Tryd.ntmps63
        go_wp2_with fail
        refine HCL.out.mono ?_
        rintro e w1 ⟨rfl, P2⟩
        replace P2 := Aside0.mk P2
        have f2 := P2.out.set.c2
        have z2 := P2.out.set.free 2
        have f33 := P2.out.node.cl
        have f34 := P2.out.node.cr
        simp only [T.ptr, ptrA] at f33 f34
        have LL1 := Aside0.mk (LL0.out.fr P2.out.fr (fun k hk h => h.elim (fun h => BL0.out (h ▸ hk)) (fun h => GL.out (h ▸ hk))))
        have LR1 := Aside0.mk (LR0.out.fr P2.out.fr (fun k hk h => h.elim (fun h => BR0.out (h ▸ hk)) (fun h => GR.out (h ▸ hk))))
        go_upto_region 15 with (fail)
        have LL2 := Aside0.mk (LL1.out.far (p := ⟨g, 2, none⟩) GL.out (.int .i64 (nd - 1)))
        have LR2 := Aside0.mk (LR1.out.far (p := ⟨g, 2, none⟩) GR.out (.int .i64 (nd - 1)))
        have N2 := Aside0.mk (P2.out.node.far (p := ⟨g, 2, none⟩) hbg (.int .i64 (nd - 1)))
        have SM := Aside0.mk (P2.out.set.set2 (nd - 1))
        have FRM := Aside0.mk ((P2.out.fr.mono (G := fun k => k = g ∨ k ∈ (T.node b0 x0 s0 (T.node bl xl sl ll rl) (T.node br xr sr lr rr)).ids) (fun k hk => hk.elim (fun h => .inr (by rw [h]; simp [T.ids_node])) .inl)).set (p := ⟨g, 2, none⟩) (.inl (.inl rfl)) (.int .i64 (nd - 1)))
        generalize w1.setCell ⟨g, 2, none⟩ (.int .i64 (nd - 1)) = wy at *
        clear f2 z2 f33 f34
        refine Rg.region_text (by kernel_rfl) (by kernel_rfl) (fun wd hwd K hK => ?_)
        have N3 : Aside0 (NodeAt wd b0 x0 (bclr s0 (q - x0).toNat) (T.node bl xl sl ll rl).ptr (T.node br xr sr lr rr).ptr (T.node b0 x0 s0 (T.node bl xl sl ll rl) (T.node br xr sr lr rr)).ht) := ⟨by rw [hwd.out]; exact N2.out.drew⟩
        have LL3 : Aside0 (Lies wd (T.node bl xl sl ll rl)) := ⟨by rw [hwd.out]; exact LL2.out.move (fun _ _ => rfl)⟩
        have LR3 : Aside0 (Lies wd (T.node br xr sr lr rr)) := ⟨by rw [hwd.out]; exact LR2.out.move (fun _ _ => rfl)⟩
        have SM3 : Aside0 (SetAt wd g root sz (nd - 1) true) := ⟨by rw [hwd.out]; exact SM.out.move rfl⟩
        have FRM3 := Aside0.mk FRM.out.drew
        rw [← hwd.out] at FRM3
        clear hwd N2 LL2 LR2 SM FRM LL1 LR1 P2
        have f33 := N3.out.cl
        have f34 := N3.out.cr
        simp only [T.ptr, ptrA] at f33 f34
        go_wp2_with fail
        refine (insPrev_tree (T.node bl xl sl ll rl) (T.node br xr sr lr rr) wd (by simp [T.ptr]) LR3.out LL3.out (by simp [T.ptr]) DMN.out (by have := HZ3.out; omega)).mono ?_
        rintro e w4 ⟨rfl, P4⟩
        rw [HM.out] at P4 ⊢
        replace P4 := Aside0.mk P4
        have N4 := Aside0.mk (N3.out.fr P4.out.fr (fun h => h.elim BL0.out BR0.out))
        have SM4 := Aside0.mk (SM3.out.fr P4.out.fr (fun h => h.elim GL.out GR.out))
        clear f33 f34
        have f34 := N4.out.cr
        have z34 := N4.out.free 34
        go_upto_region 16 with (with_reducible refine Rg.only_nil ?_)
        have N5 := Aside0.mk (N4.out.setR M.ptr)
        have LM := Aside0.mk (P4.out.lies.far (p := ⟨b0, 34, none⟩) (fun h => by
          rw [← HM.out, insPrev_ids] at h
          exact (List.mem_append.1 h).elim BL0.out BR0.out) (.pointer (ptrA M.ptr)))
        have SM := Aside0.mk (SM4.out.far (p := ⟨b0, 34, none⟩) hgb (.pointer (ptrA M.ptr)))
        have FRM := Aside0.mk (((FRM3.out.trans P4.out.fr (fun k _ h => .inr (by
          rw [T.ids_node]
          rcases h with h | h
          · exact List.mem_append_left _ h
          · exact List.mem_append_right _ (List.mem_cons_of_mem _ h))))).set (p := ⟨b0, 34, none⟩) (.inl (.inr (by simp [T.ids_node]))) (.pointer (ptrA M.ptr)))
        generalize w4.setCell ⟨b0, 34, none⟩ (.pointer (ptrA M.ptr)) = wz at *
        clear f34 z34 N4 SM4 FRM3 P4 N3 LL3 LR3 SM3
        have f34 := N5.out.cr
        have f2 := SM.out.c2
        cases M with
        | nil =>
          exfalso
          have h := congrArg T.flat HM.out
          rw [T.insPrev_flat] at h
          simp [T.flat] at h
        | node b x s L R =>
        simp only [T.ptr, ptrA] at f34
        have FIN : Aside0 (∀ w', TreePut wz w' (T.node b x s L R) (T.node b x s L R).bal → ∀ e, e = .returned (.pointer (ptrA (T.node b x s L R).bal.ptr)) → DelPost q g (T.node b0 x0 s0 (T.node bl xl sl ll rl) (T.node br xr sr lr rr)) root sz nd ch w e w') := ⟨FINN.out wz LM.out SM.out FRM.out⟩
        have N1 := Aside0.mk LM.out.1
        have LL := Aside0.mk LM.out.2.1
        have LR := Aside0.mk LM.out.2.2
        have ND : Aside0 (T.node b x s L R).ids.Nodup := ⟨NDM.out⟩
        have SZ : Aside0 ((T.node b x s L R).flat.length ≤ 1000000) := ⟨SZM.out⟩
        clear FINN HM HM2 DMN N5 LL0 LR0 N0 S0 HCL hn0 hn1 hq0 hq1 hx0 hx1 hx2 c1 c2 hgb hbg DL0 DR0 BL0 BR0 DD0
        go_upto_region 17 with (fail)
        clear f34

        obtain ⟨dl, dr, bl, br, dd⟩ := nodup_node ND.out
        have SZ2 := Aside0.mk SZ.out
        rw [flat_len_node] at SZ2
        have DL := Aside0.mk dl
        have DR := Aside0.mk dr
        have BL := Aside0.mk bl
        have BR := Aside0.mk br
        have DD := Aside0.mk dd
        clear dl dr bl br dd
        have fh := N1.out.ch
        have zh := N1.out.free 35
        have HB := Aside0.mk (ht_bound (t := (T.node b x s L R)) SZ.out)
        have hm1 : -1 ≤ (T.node b x s L R).ht - 1 ∧ (T.node b x s L R).ht - 1 ≤ 1000000 := by have := HB.out; omega
        obtain ⟨hm1, hm2⟩ := hm1
        go_wp2_with fail
        refine (maxH_calls N1.out LL.out.hat LR.out.hat).mono ?_
        rintro e w' ⟨rfl, rfl⟩
        have hmx : (if R.ht < L.ht then L.ht else R.ht) = (T.node b x s L R).ht - 1 := by rw [T.ht]; omega
        rw [hmx]
        have hmy : (T.node b x s L R).ht - 1 + 1 = (T.node b x s L R).ht := by omega
        have HY := Aside0.mk hmy
        clear hmx hmy
        obtain ⟨H, hH⟩ : ∃ H, H = (T.node b x s L R).ht - 1 := ⟨_, rfl⟩
        rw [← hH] at hm1 hm2 HY ⊢
        clear hH
        go_wp2_with fail
        have N2 := Aside0.mk (N1.out.setH (H + 1))
        have LL2 := Aside0.mk (LL.out.far (p := ⟨b, 35, none⟩) BL.out (.int .i64 (H + 1)))
        have LR2 := Aside0.mk (LR.out.far (p := ⟨b, 35, none⟩) BR.out (.int .i64 (H + 1)))
        have FR2 := Aside0.mk ((Fr.refl (fun k => k ∈ (T.node b x s L R).ids) wz).set (p := ⟨b, 35, none⟩) (.inl (show b ∈ (T.node b x s L R).ids by simp [T.ids_node])) (.int .i64 (H + 1)))
        have SS2 := Aside0.mk (setCell_size wz ⟨b, 35, none⟩ (.int .i64 (H + 1)))
        generalize wz.setCell ⟨b, 35, none⟩ (.int .i64 (H + 1)) = w2 at *
        rw [HY.out] at N2
        clear fh zh N1 LL LR hm1 hm2 HY
        refine (balF_calls N2.out LL2.out.hat LR2.out.hat (ht_bound (by have := SZ2.out; omega)) (ht_bound (by have := SZ2.out; omega))).mono ?_
        rintro e w' ⟨rfl, rfl⟩
        have f33 := N2.out.cl
        have f34 := N2.out.cr
        have z33 := N2.out.free 33
        have z34 := N2.out.free 34
        by_cases c1 : 1 < L.ht - R.ht
        · have c1' := Aside0.mk c1
          cases L with
          | nil =>
            exfalso
            have := R.ht_nonneg
            simp [T.ht] at c1
            omega
          | node c x' s' l' r' =>
            by_cases c2 : (T.node c x' s' l' r').bf < 0
            · have C2 := Aside0.mk c2
              obtain ⟨c3, x3, s3, l3, r3, rfl⟩ := bf_neg c2
              have RT : (T.node b x s (T.node c x' s' l' (T.node c3 x3 s3 l3 r3)) R).bal = (T.node b x s (T.node c x' s' l' (T.node c3 x3 s3 l3 r3)).rotL R).rotR := by rw [T.bal, if_pos c1, if_pos c2]
              replace RT := Aside0.mk RT
              simp only [T.ptr, ptrA] at f33
              go_wp2_with fail
              refine (balF_tree LL2.out (by have := SZ2.out; omega)).mono ?_
              rintro e w' ⟨rfl, rfl⟩
              go_wp2_with fail
              refine (rotL_tree LL2.out.1 LL2.out.2.2 LL2.out.2.1 DL.out (by have := SZ2.out; omega)).mono ?_
              rintro e w3 ⟨rfl, P3⟩
              have P3 := Aside0.mk P3
              have N3 := Aside0.mk (N2.out.fr P3.out.fr BL.out)
              have LR3 := Aside0.mk (LR2.out.fr P3.out.fr (fun k hk hk2 => DD.out k hk2 hk))
              clear f33 f34 z33 z34 c1 c2
              have f33 := N3.out.cl
              have z33 := N3.out.free 33
              go_wp2_with fail
              have N4 := Aside0.mk (N3.out.setL (some c3))
              have LL4 := Aside0.mk (P3.out.lies.far (p := ⟨b, 33, none⟩) (by rw [T.rotL_ids]; exact BL.out) (.pointer (some ⟨c3, 0, none⟩)))
              have LR4 := Aside0.mk (LR3.out.far (p := ⟨b, 33, none⟩) BR.out (.pointer (some ⟨c3, 0, none⟩)))
              have FR4 := Aside0.mk ((FR2.out.trans (P3.out.fr.mono (G := fun k => k ∈ (T.node b x s (T.node c x' s' l' (T.node c3 x3 s3 l3 r3)) R).ids) (fun k hk => by rw [T.ids_node]; exact List.mem_append_left _ hk)) (fun _ _ h => h)).set (p := ⟨b, 33, none⟩) (.inl (by simp [T.ids_node])) (.pointer (some ⟨c3, 0, none⟩)))
              have SS4 := Aside0.mk ((setCell_size w3 ⟨b, 33, none⟩ (.pointer (some ⟨c3, 0, none⟩))).trans (P3.out.size.trans SS2.out))
              simp only [ptrA] at N4
              generalize w3.setCell ⟨b, 33, none⟩ (.pointer (some ⟨c3, 0, none⟩)) = w4 at *
              clear f33 z33 N3 LR3 P3 N2 LL2 LR2 FR2
              refine (rotR_tree (r := R) N4.out LL4.out LR4.out (by rw [T.ids_node]; have h := ND.out; rw [T.ids_node] at h; have e := T.rotL_ids (T.node c x' s' l' (T.node c3 x3 s3 l3 r3)); rw [T.rotL] at e; rw [e]; exact h) (by have h := SZ.out; rw [T.flat_node] at h ⊢; have e := T.rotL_flat (T.node c x' s' l' (T.node c3 x3 s3 l3 r3)); rw [T.rotL] at e; rw [e]; exact h)).mono ?_
              rintro e w5 ⟨rfl, P5⟩
              have P5 := Aside0.mk P5
              go_wp2
              have PUT : TreePut wz w5 (T.node b x s (T.node c x' s' l' (T.node c3 x3 s3 l3 r3)) R) (T.node b x s (T.node c x' s' l' (T.node c3 x3 s3 l3 r3)) R).bal := by
                rw [RT.out]
                refine ⟨P5.out.lies, FR4.out.trans P5.out.fr (fun k _ hk => ?_), P5.out.size.trans SS4.out⟩
                rw [T.ids_node] at hk ⊢
                have e := T.rotL_ids (T.node c x' s' l' (T.node c3 x3 s3 l3 r3))
                rw [T.rotL] at e
                rw [e] at hk
                exact hk
              have PTR : (T.node b x s (T.node c x' s' l' (T.node c3 x3 s3 l3 r3)) R).bal.ptr = some c3 := by rw [RT.out]; rfl
              go_ret
              exact FIN.out _ PUT _ (by rw [PTR]; rfl)
            · have RT : (T.node b x s (T.node c x' s' l' r') R).bal = (T.node b x s (T.node c x' s' l' r') R).rotR := by rw [T.bal, if_pos c1, if_neg c2]
              replace RT := Aside0.mk RT
              have c2 : 0 ≤ (T.node c x' s' l' r').bf := by omega
              simp only [T.ptr, ptrA] at f33
              go_wp2_with fail
              refine (balF_tree LL2.out (by have := SZ2.out; omega)).mono ?_
              rintro e w' ⟨rfl, rfl⟩
              go_wp2_with fail
              refine (rotR_tree N2.out LL2.out LR2.out ND.out SZ.out).mono ?_
              rintro e w5 ⟨rfl, P5⟩
              have P5 := Aside0.mk P5
              clear f33 f34 z33 z34 c1 c2
              go_wp2
              have PUT : TreePut wz w5 (T.node b x s (T.node c x' s' l' r') R) (T.node b x s (T.node c x' s' l' r') R).bal := by
                rw [RT.out]
                exact ⟨P5.out.lies, FR2.out.trans P5.out.fr (fun _ _ h => h), P5.out.size.trans SS2.out⟩
              have PTR : (T.node b x s (T.node c x' s' l' r') R).bal.ptr = some c := by rw [RT.out]; rfl
              go_ret
              exact FIN.out _ PUT _ (by rw [PTR]; rfl)
        · have c1n : L.ht - R.ht ≤ 1 := by omega
          by_cases c2 : L.ht - R.ht < -1
          · have c2' := Aside0.mk c2
            cases R with
            | nil =>
              exfalso
              have := L.ht_nonneg
              simp [T.ht] at c2
              omega
            | node c x' s' l' r' =>
              by_cases c3 : 0 < (T.node c x' s' l' r').bf
              · have C3 := Aside0.mk c3
                obtain ⟨c4, x3, s3, l3, r3, rfl⟩ := bf_pos c3
                have RT : (T.node b x s L (T.node c x' s' (T.node c4 x3 s3 l3 r3) r')).bal = (T.node b x s L (T.node c x' s' (T.node c4 x3 s3 l3 r3) r').rotR).rotL := by rw [T.bal, if_neg c1, if_pos c2, if_pos c3]
                replace RT := Aside0.mk RT
                simp only [T.ptr, ptrA] at f34
                clear c1
                go_wp2_with fail
                refine (balF_tree LR2.out (by have := SZ2.out; omega)).mono ?_
                rintro e w' ⟨rfl, rfl⟩
                go_wp2_with fail
                refine (rotR_tree LR2.out.1 LR2.out.2.1 LR2.out.2.2 DR.out (by have := SZ2.out; omega)).mono ?_
                rintro e w3 ⟨rfl, P3⟩
                have P3 := Aside0.mk P3
                have N3 := Aside0.mk (N2.out.fr P3.out.fr BR.out)
                have LL3 := Aside0.mk (LL2.out.fr P3.out.fr (fun k hk hk2 => DD.out k hk hk2))
                clear f33 f34 z33 z34 c2 c3 c1n
                have f34 := N3.out.cr
                have z34 := N3.out.free 34
                go_wp2_with fail
                have N4 := Aside0.mk (N3.out.setR (some c4))
                have LR4 := Aside0.mk (P3.out.lies.far (p := ⟨b, 34, none⟩) (by rw [T.rotR_ids]; exact BR.out) (.pointer (some ⟨c4, 0, none⟩)))
                have LL4 := Aside0.mk (LL3.out.far (p := ⟨b, 34, none⟩) BL.out (.pointer (some ⟨c4, 0, none⟩)))
                have FR4 := Aside0.mk ((FR2.out.trans (P3.out.fr.mono (G := fun k => k ∈ (T.node b x s L (T.node c x' s' (T.node c4 x3 s3 l3 r3) r')).ids) (fun k hk => by rw [T.ids_node]; exact List.mem_append_right _ (List.mem_cons_of_mem _ hk))) (fun _ _ h => h)).set (p := ⟨b, 34, none⟩) (.inl (by simp [T.ids_node])) (.pointer (some ⟨c4, 0, none⟩)))
                have SS4 := Aside0.mk ((setCell_size w3 ⟨b, 34, none⟩ (.pointer (some ⟨c4, 0, none⟩))).trans (P3.out.size.trans SS2.out))
                simp only [ptrA] at N4
                generalize w3.setCell ⟨b, 34, none⟩ (.pointer (some ⟨c4, 0, none⟩)) = w4 at *
                clear f34 z34 N3 LL3 P3 N2 LL2 LR2 FR2
                refine (rotL_tree (l := L) N4.out LR4.out LL4.out (by rw [T.ids_node]; have h := ND.out; rw [T.ids_node] at h; have e := T.rotR_ids (T.node c x' s' (T.node c4 x3 s3 l3 r3) r'); rw [T.rotR] at e; rw [e]; exact h) (by have h := SZ.out; rw [T.flat_node] at h ⊢; have e := T.rotR_flat (T.node c x' s' (T.node c4 x3 s3 l3 r3) r'); rw [T.rotR] at e; rw [e]; exact h)).mono ?_
                rintro e w5 ⟨rfl, P5⟩
                have P5 := Aside0.mk P5
                go_wp2
                have PUT : TreePut wz w5 (T.node b x s L (T.node c x' s' (T.node c4 x3 s3 l3 r3) r')) (T.node b x s L (T.node c x' s' (T.node c4 x3 s3 l3 r3) r')).bal := by
                  rw [RT.out]
                  refine ⟨P5.out.lies, FR4.out.trans P5.out.fr (fun k _ hk => ?_), P5.out.size.trans SS4.out⟩
                  rw [T.ids_node] at hk ⊢
                  have e := T.rotR_ids (T.node c x' s' (T.node c4 x3 s3 l3 r3) r')
                  rw [T.rotR] at e
                  rw [e] at hk
                  exact hk
                have PTR : (T.node b x s L (T.node c x' s' (T.node c4 x3 s3 l3 r3) r')).bal.ptr = some c4 := by rw [RT.out]; rfl
                go_ret
                exact FIN.out _ PUT _ (by rw [PTR]; rfl)
              · have RT : (T.node b x s L (T.node c x' s' l' r')).bal = (T.node b x s L (T.node c x' s' l' r')).rotL := by rw [T.bal, if_neg c1, if_pos c2, if_neg c3]
                replace RT := Aside0.mk RT
                have c3 : (T.node c x' s' l' r').bf ≤ 0 := by omega
                simp only [T.ptr, ptrA] at f34
                clear c1
                go_wp2_with fail
                refine (balF_tree LR2.out (by have := SZ2.out; omega)).mono ?_
                rintro e w' ⟨rfl, rfl⟩
                go_wp2_with fail
                refine (rotL_tree N2.out LR2.out LL2.out ND.out SZ.out).mono ?_
                rintro e w5 ⟨rfl, P5⟩
                have P5 := Aside0.mk P5
                clear f33 f34 z33 z34 c2 c3 c1n
                go_wp2
                have PUT : TreePut wz w5 (T.node b x s L (T.node c x' s' l' r')) (T.node b x s L (T.node c x' s' l' r')).bal := by
                  rw [RT.out]
                  exact ⟨P5.out.lies, FR2.out.trans P5.out.fr (fun _ _ h => h), P5.out.size.trans SS2.out⟩
                have PTR : (T.node b x s L (T.node c x' s' l' r')).bal.ptr = some c := by rw [RT.out]; rfl
                go_ret
                exact FIN.out _ PUT _ (by rw [PTR]; rfl)
          · have RT : (T.node b x s L R).bal = (T.node b x s L R) := by rw [T.bal, if_neg c1, if_neg c2]
            replace RT := Aside0.mk RT
            have c2n : -1 ≤ L.ht - R.ht := by omega
            clear c1 c2 f33 f34 z33 z34
            go_wp2
            have PUT : TreePut wz w2 (T.node b x s L R) (T.node b x s L R).bal := by
              rw [RT.out]
              exact ⟨⟨N2.out, LL2.out, LR2.out⟩, FR2.out, SS2.out⟩
            have PTR : (T.node b x s L R).bal.ptr = some b := by rw [RT.out]; rfl
            go_ret
            exact FIN.out _ PUT _ (by rw [PTR]; rfl)
  · -- the node stays
    have HE : Aside0 ((bget s0 (q - x0).toNat && (bclr s0 (q - x0).toNat).all (· == 0)) = false) := ⟨by simpa using hE⟩
    clear hE
    have HCL := Aside0.mk (clear_put N0.out S0.out hbg hx0 c1 c2 hx2)
    rw [HE.out] at HCL
    have HG2 := HG.out
    rw [HE.out] at HG2
    replace HG2 := Aside0.mk HG2
    have EQ : (T.node b0 x0 s0 l0 r0).del q = T.node b0 x0 (if bget s0 (q - x0).toNat then bclr s0 (q - x0).toNat else s0) l0 r0 := by
      rw [HDL.out]
      by_cases hb : bget s0 (q - x0).toNat = true
      · have h := HE.out
        rw [hb, Bool.true_and] at h
        rw [if_pos hb, if_pos hb, if_neg (by rw [h]; decide)]
      · rw [if_neg hb, if_neg hb]
    replace EQ := Aside0.mk EQ
    go_enter Tryd.func63, Tryd.ntmps63
    go_wp2_with fail
    refine HCL.out.mono ?_
    rintro e w1 ⟨rfl, P2⟩
    replace P2 := Aside0.mk P2
    have f2b := P2.out.set.c2
    clear f0 f2
    go_wp2
    go_ret
    refine .mk (by rw [EQ.out]; rfl) ⟨?_, ?_, P2.out.fr.mono (fun k hk => hk.elim (fun h => .inr (by rw [h]; simp [T.ids_node])) .inl)⟩
    · rw [EQ.out]
      exact ⟨P2.out.node, LL0.out.fr P2.out.fr (fun k hk h => h.elim (fun h => BL0.out (h ▸ hk)) (fun h => GL.out (h ▸ hk))), LR0.out.fr P2.out.fr (fun k hk h => h.elim (fun h => BR0.out (h ▸ hk)) (fun h => GR.out (h ▸ hk)))⟩
    · rw [HG2.out, HH.out, if_neg (by decide), Int.sub_zero]
      exact P2.out.set
end Go.Proofs.YtebgaedalbdhaaaDoor.Av
