/- A number put into a tree. -/
import Derived.Test.YtebgaedalbdhaaaDoorAvP
namespace Go.Proofs.YtebgaedalbdhaaaDoor.Av
open Go.RowKit Go.Proofs.YtebgaedalbdhaaaDoorW.PrintWords Go.Proofs.YtebgaedalbdhaaaDoorW.PrintLast Go.Proofs.YtebgaedalbdhaaaDoorW.PrintMore
set_option linter.unusedVariables false
set_option linter.unusedSimpArgs false

structure InsPut (w w' : World) (g : Nat) (t t' : T) (root : Option Nat) (sz nd : Int) (ch : Bool) : Prop where
  lies : Lies w' t'
  set : SetAt w' g root sz nd ch
  fr : Fr (fun k => k = g ∨ k ∈ t.ids) w w'
def InsPost (q : Int) (g : Nat) (t : T) (root : Option Nat) (sz nd : Int) (ch : Bool) (w : World) (e : Ending) (w' : World) : Prop :=
  ∃ id, w.heap.size ≤ id ∧ e = .returned (.pointer (ptrA (t.ins id q).ptr)) ∧ InsPut w w' g t (t.ins id q) root sz (nd + if t.cov q then 0 else 1) (ch || !t.has q)
theorem InsPost.mk {q : Int} {g : Nat} {t : T} {root : Option Nat} {sz nd : Int} {ch : Bool} {w : World} {e : Ending} {w' : World} (id : Nat) (h1 : w.heap.size ≤ id) (h3 : e = .returned (.pointer (ptrA (t.ins id q).ptr))) (h4 : InsPut w w' g t (t.ins id q) root sz (nd + if t.cov q then 0 else 1) (ch || !t.has q)) : InsPost q g t root sz nd ch w e w' := ⟨id, h1, h3, h4⟩
theorem ins_ids_mem {id : Nat} {q : Int} {t : T} {k : Nat} (h : k ∈ (t.ins id q).ids) : k ∈ t.ids ∨ k = id := T.ins_mem h

set_option maxHeartbeats 4000000 in
set_option maxRecDepth 100000 in
theorem ins_nil (q : Int) (g : Nat) (root : Option Nat) (sz : Int) (hq0 : 0 ≤ q) (hq1 : q + 2048 < 18446744073709551616) (w : World) (nd : Int) (ch : Bool) (hS : SetAt w g root sz nd ch) (hn0 : 0 ≤ nd) (hn1 : nd ≤ 1000000) :
    Calls Tryd.prog 62 #[.pointer (ptrA T.nil.ptr), .int .u64 q, .pointer (some ⟨g, 3, none⟩), .pointer (some ⟨g, 2, none⟩)] w (InsPost q g .nil root sz nd ch w) := by
  have S0 := Aside0.mk hS
  have hd1 : 0 ≤ q / 2048 := by omega
  have hd2 : q / 2048 * 2048 ≤ q := by omega
  have hgl := hS.lt
  clear hS
  show Calls Tryd.prog 62 #[.pointer none, .int .u64 q, .pointer (some ⟨g, 3, none⟩), .pointer (some ⟨g, 2, none⟩)] w _
  go_enter Tryd.func62, Tryd.ntmps62
  go_wp2_with fail
  generalize hw : w.alloc _ = w1
  have HN : Aside0 (NodeAt w1 w.heap.size (q / 2048 * 2048) zeros none none 1) := ⟨by rw [← hw]; exact node_new w _⟩
  have S1 : Aside0 (SetAt w1 g root sz nd ch) := ⟨by rw [← hw]; exact S0.out.alloc _⟩
  have FR1 : Aside0 (Fr (fun k => k = g ∨ k ∈ T.nil.ids) w w1) := ⟨by rw [← hw]; exact (Fr.refl _ w).alloc _⟩
  have SZ1 : Aside0 (w1.heap.size = w.heap.size + 1) := ⟨by rw [← hw]; simp⟩
  clear hw
  refine (set_put HN.out S1.out (by omega) (by omega) hd2 (by omega) (by omega)).mono ?_
  rintro e w2 ⟨rfl, P⟩
  have eb : (q - q / 2048 * 2048).toNat = (q % 2048).toNat := by omega
  rw [eb, bget_zeros, Bool.not_false, Bool.or_true] at P
  replace P := Aside0.mk P
  clear eb
  have f2 := P.out.set.c2
  have z2 := P.out.set.free 2
  go_wp2
  go_ret
  refine .mk w.heap.size (Nat.le_refl _) rfl ⟨?_, ?_, ?_⟩
  · have hne : w.heap.size ≠ g := by omega
    exact ⟨P.out.node.far (p := ⟨g, 2, none⟩) hne _, trivial, trivial⟩
  · have e1 : (ch || !T.nil.has q) = true := by simp [T.has]
    have e2 : (if T.nil.cov q = true then (0 : Int) else 1) = 1 := by simp [T.cov]
    rw [e1, e2]
    exact P.out.set.set2 _
  · refine ((FR1.out.trans P.out.fr ?_).set (.inl (.inl rfl)) _)
    rintro k hk (rfl | rfl)
    · exact absurd hk (Nat.lt_irrefl _)
    · exact .inl rfl

set_option maxHeartbeats 8000000 in
set_option maxRecDepth 100000 in
theorem ins_tree (q : Int) (g : Nat) (root : Option Nat) (sz : Int) (hq0 : 0 ≤ q) (hq1 : q + 2048 < 18446744073709551616) : ∀ (t : T) (w : World) (nd : Int) (ch : Bool), Lies w t → t.ids.Nodup → t.wf → t.flat.length ≤ 900000 → g ∉ t.ids → SetAt w g root sz nd ch → 0 ≤ nd → nd ≤ 1000000 →
    Calls Tryd.prog 62 #[.pointer (ptrA t.ptr), .int .u64 q, .pointer (some ⟨g, 3, none⟩), .pointer (some ⟨g, 2, none⟩)] w (InsPost q g t root sz nd ch w) := by
  intro t
  induction t with
  | nil => intro w nd ch _ _ _ _ _ hS h0 h1; exact ins_nil q g root sz hq0 hq1 w nd ch hS h0 h1
  | node b x s l r ihl ihr =>
    intro w nd ch hL hD hW hZ hg hS hn0 hn1
    obtain ⟨hN0, hL0, hR0⟩ := hL
    obtain ⟨hWl, hNW, hWr⟩ := T.wf_node.1 hW
    have N0 := Aside0.mk hN0
    have LL0 := Aside0.mk hL0
    have LR0 := Aside0.mk hR0
    have HD := Aside0.mk hD
    have S0 := Aside0.mk hS
    have WL := Aside0.mk hWl
    have WR := Aside0.mk hWr
    have IHL := Aside0.mk ihl
    have IHR := Aside0.mk ihr
    have HZ := Aside0.mk hZ
    rw [flat_len_node] at HZ
    have f0 := hN0.c0
    have f33 := hN0.cl
    have f34 := hN0.cr
    have z33 := hN0.free 33
    have z34 := hN0.free 34
    have hx0 : 0 ≤ x := hNW.1
    have hx1 : x + 2048 < 18446744073709551616 := hNW.2.1
    have gm : g ≠ b ∧ g ∉ l.ids ∧ g ∉ r.ids := by
      rw [T.ids_node] at hg
      refine ⟨fun h => hg (by rw [h]; simp), fun h => hg (List.mem_append_left _ h), fun h => hg (List.mem_append_right _ (List.mem_cons_of_mem _ h))⟩
    obtain ⟨hgb, gl, gr⟩ := gm
    have hbg := Ne.symm hgb
    have GL := Aside0.mk gl
    have GR := Aside0.mk gr
    clear hN0 hL0 hR0 hD hW hWl hWr hNW ihl ihr hZ hg hS gl gr
    obtain ⟨dl, dr, bl, br, dd⟩ := nodup_node HD.out
    have DL0 := Aside0.mk dl
    have DR0 := Aside0.mk dr
    have BL0 := Aside0.mk bl
    have BR0 := Aside0.mk br
    have DD0 := Aside0.mk dd
    clear dl dr bl br dd
    show Calls Tryd.prog 62 #[.pointer (some ⟨b, 0, none⟩), .int .u64 q, .pointer (some ⟨g, 3, none⟩), .pointer (some ⟨g, 2, none⟩)] w _
    by_cases c1 : q < x
    · have PRE : ∀ id, (T.node b x s l r).ins id q = (T.node b x s (l.ins id q) r).bal := fun id => by rw [T.ins, if_pos c1]
      replace PRE := Aside0.mk PRE
      have HC := Aside0.mk (show (T.node b x s l r).cov q = l.cov q by rw [T.cov, if_pos c1])
      have HH := Aside0.mk (show (T.node b x s l r).has q = l.has q by rw [T.has, if_pos c1])
      go_enter Tryd.func62, Tryd.ntmps62
      go_wp2_with fail
      refine (IHL.out w nd ch LL0.out DL0.out WL.out (by have := HZ.out; omega) GL.out S0.out hn0 hn1).mono ?_
      rintro e w2 ⟨id, i1, rfl, P2⟩
      replace P2 := Aside0.mk P2
      have hb1 := N0.out.lt
      have N2 := Aside0.mk (N0.out.fr P2.out.fr (fun h => h.elim hbg BL0.out))
      have LR2 := Aside0.mk (LR0.out.fr P2.out.fr (fun k hk h => h.elim (fun h => GR.out (h ▸ hk)) (fun h => DD0.out k h hk)))
      have RLT := Aside0.mk LR0.out.lt
      have IDM := Aside0.mk (fun k (h : k ∈ (l.ins id q).ids) => T.ins_mem h)
      have IDD := Aside0.mk (T.ins_nodup (q := q) DL0.out (id := id) (fun h => by have := LL0.out.lt _ h; omega))
      have ILN := Aside0.mk (T.ins_len id q l)
      have GLT := Aside0.mk S0.out.lt
      clear f0 f33 f34 z33 z34
      have f33 := N2.out.cl
      have z33 := N2.out.free 33
      obtain ⟨L, hL⟩ : ∃ L, L = l.ins id q := ⟨_, rfl⟩
      have PRE := Aside0.mk (PRE.out id)
      rw [← hL] at P2 IDM IDD ILN PRE ⊢
      clear hL c1
      go_wp2_with fail
      have N1 := Aside0.mk (N2.out.setL L.ptr)
      have BL1 : Aside0 (b ∉ L.ids) := ⟨fun h => (IDM.out b h).elim BL0.out (fun h => by omega)⟩
      have LL := Aside0.mk (P2.out.lies.far (p := ⟨b, 33, none⟩) BL1.out (.pointer (ptrA L.ptr)))
      have LR := Aside0.mk (LR2.out.far (p := ⟨b, 33, none⟩) BR0.out (.pointer (ptrA L.ptr)))
      have S1 := Aside0.mk (P2.out.set.far (p := ⟨b, 33, none⟩) hgb (.pointer (ptrA L.ptr)))
      have FR1 := Aside0.mk ((P2.out.fr.mono (G := fun k => k = g ∨ k ∈ (T.node b x s l r).ids) (fun k hk => hk.imp_right (fun h => by rw [T.ids_node]; exact List.mem_append_left _ h))).set (p := ⟨b, 33, none⟩) (.inl (.inr (by simp [T.ids_node]))) (.pointer (ptrA L.ptr)))
      have SS1 := Aside0.mk (setCell_size w2 ⟨b, 33, none⟩ (.pointer (ptrA L.ptr)))
      have ND : Aside0 (T.node b x s L r).ids.Nodup := ⟨by
        rw [T.ids_node, List.nodup_append, List.nodup_cons]
        refine ⟨IDD.out, ⟨BR0.out, DR0.out⟩, fun a ha c hc e => ?_⟩
        subst e
        rcases List.mem_cons.1 hc with rfl | hc
        · exact BL1.out ha
        · rcases IDM.out a ha with h | rfl
          · exact DD0.out a h hc
          · have := RLT.out _ hc; omega⟩
      have SZ : Aside0 ((T.node b x s L r).flat.length ≤ 1000000) := ⟨by rw [flat_len_node]; have := HZ.out; have := ILN.out; omega⟩
      generalize w2.setCell ⟨b, 33, none⟩ (.pointer (ptrA L.ptr)) = w1 at *
      have FIN : Aside0 (∀ w', TreePut w1 w' (T.node b x s L r) (T.node b x s L r).bal → ∀ e, e = .returned (.pointer (ptrA (T.node b x s L r).bal.ptr)) → InsPost q g (T.node b x s l r) root sz nd ch w e w') := ⟨fun w' P e he => by
        refine .mk id i1 (by rw [PRE.out]; exact he) ⟨by rw [PRE.out]; exact P.lies, ?_, FR1.out.trans P.fr ?_⟩
        · rw [HC.out, HH.out]
          refine S1.out.fr P.fr (fun h => ?_)
          rw [T.ids_node] at h
          rcases List.mem_append.1 h with h | h
          · rcases IDM.out g h with h | h
            · exact GL.out h
            · have := GLT.out; omega
          · rcases List.mem_cons.1 h with h | h
            · exact hgb h
            · exact GR.out h
        · intro k hk h
          rw [T.ids_node] at h ⊢
          rcases List.mem_append.1 h with h | h
          · rcases IDM.out k h with h | h
            · exact .inr (List.mem_append_left _ h)
            · omega
          · exact .inr (List.mem_append_right _ h)⟩
      clear f33 z33 N0 N2 LL0 LR0 LR2 P2 IHL IHR S0 S1 HC HH hn0 hn1 hq0 hq1 hx0 hx1 hgb hbg hb1

      obtain ⟨dl, dr, bl, br, dd⟩ := nodup_node ND.out
      have SZ2 := Aside0.mk SZ.out
      rw [flat_len_node] at SZ2
      have DL := Aside0.mk dl
      have DR := Aside0.mk dr
      have BL := Aside0.mk bl
      have BR := Aside0.mk br
      have DD := Aside0.mk dd
      clear dl dr bl br dd
      have fh := N1.out.ch
      have zh := N1.out.free 35
      have HB := Aside0.mk (ht_bound (t := (T.node b x s L r)) SZ.out)
      have hm1 : -1 ≤ (T.node b x s L r).ht - 1 ∧ (T.node b x s L r).ht - 1 ≤ 1000000 := by have := HB.out; omega
      obtain ⟨hm1, hm2⟩ := hm1
      go_wp2_with fail
      refine (maxH_calls N1.out LL.out.hat LR.out.hat).mono ?_
      rintro e w' ⟨rfl, rfl⟩
      have hmx : (if r.ht < L.ht then L.ht else r.ht) = (T.node b x s L r).ht - 1 := by rw [T.ht]; omega
      rw [hmx]
      have hmy : (T.node b x s L r).ht - 1 + 1 = (T.node b x s L r).ht := by omega
      have HY := Aside0.mk hmy
      clear hmx hmy
      obtain ⟨H, hH⟩ : ∃ H, H = (T.node b x s L r).ht - 1 := ⟨_, rfl⟩
      rw [← hH] at hm1 hm2 HY ⊢
      clear hH
      go_wp2_with fail
      have N2 := Aside0.mk (N1.out.setH (H + 1))
      have LL2 := Aside0.mk (LL.out.far (p := ⟨b, 35, none⟩) BL.out (.int .i64 (H + 1)))
      have LR2 := Aside0.mk (LR.out.far (p := ⟨b, 35, none⟩) BR.out (.int .i64 (H + 1)))
      have FR2 := Aside0.mk ((Fr.refl (fun k => k ∈ (T.node b x s L r).ids) w1).set (p := ⟨b, 35, none⟩) (.inl (show b ∈ (T.node b x s L r).ids by simp [T.ids_node])) (.int .i64 (H + 1)))
      have SS2 := Aside0.mk (setCell_size w1 ⟨b, 35, none⟩ (.int .i64 (H + 1)))
      generalize w1.setCell ⟨b, 35, none⟩ (.int .i64 (H + 1)) = w2 at *
      rw [HY.out] at N2
      clear fh zh N1 LL LR hm1 hm2 HY
      refine (balF_calls N2.out LL2.out.hat LR2.out.hat (ht_bound (by have := SZ2.out; omega)) (ht_bound (by have := SZ2.out; omega))).mono ?_
      rintro e w' ⟨rfl, rfl⟩
      have f33 := N2.out.cl
      have f34 := N2.out.cr
      have z33 := N2.out.free 33
      have z34 := N2.out.free 34
      by_cases c1 : 1 < L.ht - r.ht
      · have c1' := Aside0.mk c1
        cases L with
        | nil =>
          exfalso
          have := r.ht_nonneg
          simp [T.ht] at c1
          omega
        | node c x' s' l' r' =>
          by_cases c2 : (T.node c x' s' l' r').bf < 0
          · have C2 := Aside0.mk c2
            obtain ⟨c3, x3, s3, l3, r3, rfl⟩ := bf_neg c2
            have RT : (T.node b x s (T.node c x' s' l' (T.node c3 x3 s3 l3 r3)) r).bal = (T.node b x s (T.node c x' s' l' (T.node c3 x3 s3 l3 r3)).rotL r).rotR := by rw [T.bal, if_pos c1, if_pos c2]
            replace RT := Aside0.mk RT
            simp only [T.ptr, ptrA] at f33
            go_wp2_with fail
            refine (balF_tree LL2.out (by have := SZ2.out; omega)).mono ?_
            rintro e w' ⟨rfl, rfl⟩
            go_wp2_with fail
            refine (rotL_tree LL2.out.1 LL2.out.2.2 LL2.out.2.1 DL.out (by have := SZ2.out; omega)).mono ?_
            rintro e w3 ⟨rfl, P3⟩
            have P3 := Aside0.mk P3
            have N3 := Aside0.mk (N2.out.fr P3.out.fr BL.out)
            have LR3 := Aside0.mk (LR2.out.fr P3.out.fr (fun k hk hk2 => DD.out k hk2 hk))
            clear f33 f34 z33 z34 c1 c2
            have f33 := N3.out.cl
            have z33 := N3.out.free 33
            go_wp2_with fail
            have N4 := Aside0.mk (N3.out.setL (some c3))
            have LL4 := Aside0.mk (P3.out.lies.far (p := ⟨b, 33, none⟩) (by rw [T.rotL_ids]; exact BL.out) (.pointer (some ⟨c3, 0, none⟩)))
            have LR4 := Aside0.mk (LR3.out.far (p := ⟨b, 33, none⟩) BR.out (.pointer (some ⟨c3, 0, none⟩)))
            have FR4 := Aside0.mk ((FR2.out.trans (P3.out.fr.mono (G := fun k => k ∈ (T.node b x s (T.node c x' s' l' (T.node c3 x3 s3 l3 r3)) r).ids) (fun k hk => by rw [T.ids_node]; exact List.mem_append_left _ hk)) (fun _ _ h => h)).set (p := ⟨b, 33, none⟩) (.inl (by simp [T.ids_node])) (.pointer (some ⟨c3, 0, none⟩)))
            have SS4 := Aside0.mk ((setCell_size w3 ⟨b, 33, none⟩ (.pointer (some ⟨c3, 0, none⟩))).trans (P3.out.size.trans SS2.out))
            simp only [ptrA] at N4
            generalize w3.setCell ⟨b, 33, none⟩ (.pointer (some ⟨c3, 0, none⟩)) = w4 at *
            clear f33 z33 N3 LR3 P3 N2 LL2 LR2 FR2
            refine (rotR_tree (r := r) N4.out LL4.out LR4.out (by rw [T.ids_node]; have h := ND.out; rw [T.ids_node] at h; have e := T.rotL_ids (T.node c x' s' l' (T.node c3 x3 s3 l3 r3)); rw [T.rotL] at e; rw [e]; exact h) (by have h := SZ.out; rw [T.flat_node] at h ⊢; have e := T.rotL_flat (T.node c x' s' l' (T.node c3 x3 s3 l3 r3)); rw [T.rotL] at e; rw [e]; exact h)).mono ?_
            rintro e w5 ⟨rfl, P5⟩
            have P5 := Aside0.mk P5
            go_wp2
            have PUT : TreePut w1 w5 (T.node b x s (T.node c x' s' l' (T.node c3 x3 s3 l3 r3)) r) (T.node b x s (T.node c x' s' l' (T.node c3 x3 s3 l3 r3)) r).bal := by
              rw [RT.out]
              refine ⟨P5.out.lies, FR4.out.trans P5.out.fr (fun k _ hk => ?_), P5.out.size.trans SS4.out⟩
              rw [T.ids_node] at hk ⊢
              have e := T.rotL_ids (T.node c x' s' l' (T.node c3 x3 s3 l3 r3))
              rw [T.rotL] at e
              rw [e] at hk
              exact hk
            have PTR : (T.node b x s (T.node c x' s' l' (T.node c3 x3 s3 l3 r3)) r).bal.ptr = some c3 := by rw [RT.out]; rfl
            go_ret
            exact FIN.out _ PUT _ (by rw [PTR]; rfl)
          · have RT : (T.node b x s (T.node c x' s' l' r') r).bal = (T.node b x s (T.node c x' s' l' r') r).rotR := by rw [T.bal, if_pos c1, if_neg c2]
            replace RT := Aside0.mk RT
            have c2 : 0 ≤ (T.node c x' s' l' r').bf := by omega
            simp only [T.ptr, ptrA] at f33
            go_wp2_with fail
            refine (balF_tree LL2.out (by have := SZ2.out; omega)).mono ?_
            rintro e w' ⟨rfl, rfl⟩
            go_wp2_with fail
            refine (rotR_tree N2.out LL2.out LR2.out ND.out SZ.out).mono ?_
            rintro e w5 ⟨rfl, P5⟩
            have P5 := Aside0.mk P5
            clear f33 f34 z33 z34 c1 c2
            go_wp2
            have PUT : TreePut w1 w5 (T.node b x s (T.node c x' s' l' r') r) (T.node b x s (T.node c x' s' l' r') r).bal := by
              rw [RT.out]
              exact ⟨P5.out.lies, FR2.out.trans P5.out.fr (fun _ _ h => h), P5.out.size.trans SS2.out⟩
            have PTR : (T.node b x s (T.node c x' s' l' r') r).bal.ptr = some c := by rw [RT.out]; rfl
            go_ret
            exact FIN.out _ PUT _ (by rw [PTR]; rfl)
      · have c1n : L.ht - r.ht ≤ 1 := by omega
        by_cases c2 : L.ht - r.ht < -1
        · have c2' := Aside0.mk c2
          cases r with
          | nil =>
            exfalso
            have := L.ht_nonneg
            simp [T.ht] at c2
            omega
          | node c x' s' l' r' =>
            by_cases c3 : 0 < (T.node c x' s' l' r').bf
            · have C3 := Aside0.mk c3
              obtain ⟨c4, x3, s3, l3, r3, rfl⟩ := bf_pos c3
              have RT : (T.node b x s L (T.node c x' s' (T.node c4 x3 s3 l3 r3) r')).bal = (T.node b x s L (T.node c x' s' (T.node c4 x3 s3 l3 r3) r').rotR).rotL := by rw [T.bal, if_neg c1, if_pos c2, if_pos c3]
              replace RT := Aside0.mk RT
              simp only [T.ptr, ptrA] at f34
              clear c1
              go_wp2_with fail
              refine (balF_tree LR2.out (by have := SZ2.out; omega)).mono ?_
              rintro e w' ⟨rfl, rfl⟩
              go_wp2_with fail
              refine (rotR_tree LR2.out.1 LR2.out.2.1 LR2.out.2.2 DR.out (by have := SZ2.out; omega)).mono ?_
              rintro e w3 ⟨rfl, P3⟩
              have P3 := Aside0.mk P3
              have N3 := Aside0.mk (N2.out.fr P3.out.fr BR.out)
              have LL3 := Aside0.mk (LL2.out.fr P3.out.fr (fun k hk hk2 => DD.out k hk hk2))
              clear f33 f34 z33 z34 c2 c3 c1n
              have f34 := N3.out.cr
              have z34 := N3.out.free 34
              go_wp2_with fail
              have N4 := Aside0.mk (N3.out.setR (some c4))
              have LR4 := Aside0.mk (P3.out.lies.far (p := ⟨b, 34, none⟩) (by rw [T.rotR_ids]; exact BR.out) (.pointer (some ⟨c4, 0, none⟩)))
              have LL4 := Aside0.mk (LL3.out.far (p := ⟨b, 34, none⟩) BL.out (.pointer (some ⟨c4, 0, none⟩)))
              have FR4 := Aside0.mk ((FR2.out.trans (P3.out.fr.mono (G := fun k => k ∈ (T.node b x s L (T.node c x' s' (T.node c4 x3 s3 l3 r3) r')).ids) (fun k hk => by rw [T.ids_node]; exact List.mem_append_right _ (List.mem_cons_of_mem _ hk))) (fun _ _ h => h)).set (p := ⟨b, 34, none⟩) (.inl (by simp [T.ids_node])) (.pointer (some ⟨c4, 0, none⟩)))
              have SS4 := Aside0.mk ((setCell_size w3 ⟨b, 34, none⟩ (.pointer (some ⟨c4, 0, none⟩))).trans (P3.out.size.trans SS2.out))
              simp only [ptrA] at N4
              generalize w3.setCell ⟨b, 34, none⟩ (.pointer (some ⟨c4, 0, none⟩)) = w4 at *
              clear f34 z34 N3 LL3 P3 N2 LL2 LR2 FR2
              refine (rotL_tree (l := L) N4.out LR4.out LL4.out (by rw [T.ids_node]; have h := ND.out; rw [T.ids_node] at h; have e := T.rotR_ids (T.node c x' s' (T.node c4 x3 s3 l3 r3) r'); rw [T.rotR] at e; rw [e]; exact h) (by have h := SZ.out; rw [T.flat_node] at h ⊢; have e := T.rotR_flat (T.node c x' s' (T.node c4 x3 s3 l3 r3) r'); rw [T.rotR] at e; rw [e]; exact h)).mono ?_
              rintro e w5 ⟨rfl, P5⟩
              have P5 := Aside0.mk P5
              go_wp2
              have PUT : TreePut w1 w5 (T.node b x s L (T.node c x' s' (T.node c4 x3 s3 l3 r3) r')) (T.node b x s L (T.node c x' s' (T.node c4 x3 s3 l3 r3) r')).bal := by
                rw [RT.out]
                refine ⟨P5.out.lies, FR4.out.trans P5.out.fr (fun k _ hk => ?_), P5.out.size.trans SS4.out⟩
                rw [T.ids_node] at hk ⊢
                have e := T.rotR_ids (T.node c x' s' (T.node c4 x3 s3 l3 r3) r')
                rw [T.rotR] at e
                rw [e] at hk
                exact hk
              have PTR : (T.node b x s L (T.node c x' s' (T.node c4 x3 s3 l3 r3) r')).bal.ptr = some c4 := by rw [RT.out]; rfl
              go_ret
              exact FIN.out _ PUT _ (by rw [PTR]; rfl)
            · have RT : (T.node b x s L (T.node c x' s' l' r')).bal = (T.node b x s L (T.node c x' s' l' r')).rotL := by rw [T.bal, if_neg c1, if_pos c2, if_neg c3]
              replace RT := Aside0.mk RT
              have c3 : (T.node c x' s' l' r').bf ≤ 0 := by omega
              simp only [T.ptr, ptrA] at f34
              clear c1
              go_wp2_with fail
              refine (balF_tree LR2.out (by have := SZ2.out; omega)).mono ?_
              rintro e w' ⟨rfl, rfl⟩
              go_wp2_with fail
              refine (rotL_tree N2.out LR2.out LL2.out ND.out SZ.out).mono ?_
              rintro e w5 ⟨rfl, P5⟩
              have P5 := Aside0.mk P5
              clear f33 f34 z33 z34 c2 c3 c1n
              go_wp2
              have PUT : TreePut w1 w5 (T.node b x s L (T.node c x' s' l' r')) (T.node b x s L (T.node c x' s' l' r')).bal := by
                rw [RT.out]
                exact ⟨P5.out.lies, FR2.out.trans P5.out.fr (fun _ _ h => h), P5.out.size.trans SS2.out⟩
              have PTR : (T.node b x s L (T.node c x' s' l' r')).bal.ptr = some c := by rw [RT.out]; rfl
              go_ret
              exact FIN.out _ PUT _ (by rw [PTR]; rfl)
        · have RT : (T.node b x s L r).bal = (T.node b x s L r) := by rw [T.bal, if_neg c1, if_neg c2]
          replace RT := Aside0.mk RT
          have c2n : -1 ≤ L.ht - r.ht := by omega
          clear c1 c2 f33 f34 z33 z34
          go_wp2
          have PUT : TreePut w1 w2 (T.node b x s L r) (T.node b x s L r).bal := by
            rw [RT.out]
            exact ⟨⟨N2.out, LL2.out, LR2.out⟩, FR2.out, SS2.out⟩
          have PTR : (T.node b x s L r).bal.ptr = some b := by rw [RT.out]; rfl
          go_ret
          exact FIN.out _ PUT _ (by rw [PTR]; rfl)
    · by_cases c2 : x + 2048 ≤ q
      · have PRE : ∀ id, (T.node b x s l r).ins id q = (T.node b x s l (r.ins id q)).bal := fun id => by rw [T.ins, if_neg c1, if_pos c2]
        replace PRE := Aside0.mk PRE
        have HC := Aside0.mk (show (T.node b x s l r).cov q = r.cov q by rw [T.cov, if_neg c1, if_pos c2])
        have HH := Aside0.mk (show (T.node b x s l r).has q = r.has q by rw [T.has, if_neg c1, if_pos c2])
        have c1' : x ≤ q := by omega
        clear c1
        go_enter Tryd.func62, Tryd.ntmps62
        go_wp2_with fail
        refine (IHR.out w nd ch LR0.out DR0.out WR.out (by have := HZ.out; omega) GR.out S0.out hn0 hn1).mono ?_
        rintro e w2 ⟨id, i1, rfl, P2⟩
        replace P2 := Aside0.mk P2
        have hb1 := N0.out.lt
        have N2 := Aside0.mk (N0.out.fr P2.out.fr (fun h => h.elim hbg BR0.out))
        have LL2 := Aside0.mk (LL0.out.fr P2.out.fr (fun k hk h => h.elim (fun h => GL.out (h ▸ hk)) (fun h => DD0.out k hk h)))
        have LLT := Aside0.mk LL0.out.lt
        have IDM := Aside0.mk (fun k (h : k ∈ (r.ins id q).ids) => T.ins_mem h)
        have IDD := Aside0.mk (T.ins_nodup (q := q) DR0.out (id := id) (fun h => by have := LR0.out.lt _ h; omega))
        have ILN := Aside0.mk (T.ins_len id q r)
        have GLT := Aside0.mk S0.out.lt
        clear f0 f33 f34 z33 z34
        have f34 := N2.out.cr
        have z34 := N2.out.free 34
        obtain ⟨R, hR⟩ : ∃ R, R = r.ins id q := ⟨_, rfl⟩
        have PRE := Aside0.mk (PRE.out id)
        rw [← hR] at P2 IDM IDD ILN PRE ⊢
        clear hR c2 c1'
        go_wp2_with fail
        have N1 := Aside0.mk (N2.out.setR R.ptr)
        have BR1 : Aside0 (b ∉ R.ids) := ⟨fun h => (IDM.out b h).elim BR0.out (fun h => by omega)⟩
        have LR := Aside0.mk (P2.out.lies.far (p := ⟨b, 34, none⟩) BR1.out (.pointer (ptrA R.ptr)))
        have LL := Aside0.mk (LL2.out.far (p := ⟨b, 34, none⟩) BL0.out (.pointer (ptrA R.ptr)))
        have S1 := Aside0.mk (P2.out.set.far (p := ⟨b, 34, none⟩) hgb (.pointer (ptrA R.ptr)))
        have FR1 := Aside0.mk ((P2.out.fr.mono (G := fun k => k = g ∨ k ∈ (T.node b x s l r).ids) (fun k hk => hk.imp_right (fun h => by rw [T.ids_node]; exact List.mem_append_right _ (List.mem_cons_of_mem _ h)))).set (p := ⟨b, 34, none⟩) (.inl (.inr (by simp [T.ids_node]))) (.pointer (ptrA R.ptr)))
        have SS1 := Aside0.mk (setCell_size w2 ⟨b, 34, none⟩ (.pointer (ptrA R.ptr)))
        have ND : Aside0 (T.node b x s l R).ids.Nodup := ⟨by
          rw [T.ids_node, List.nodup_append, List.nodup_cons]
          refine ⟨DL0.out, ⟨BR1.out, IDD.out⟩, fun a ha c hc e => ?_⟩
          subst e
          rcases List.mem_cons.1 hc with rfl | hc
          · exact BL0.out ha
          · rcases IDM.out a hc with h | rfl
            · exact DD0.out a ha h
            · have := LLT.out _ ha; omega⟩
        have SZ : Aside0 ((T.node b x s l R).flat.length ≤ 1000000) := ⟨by rw [flat_len_node]; have := HZ.out; have := ILN.out; omega⟩
        generalize w2.setCell ⟨b, 34, none⟩ (.pointer (ptrA R.ptr)) = w1 at *
        have FIN : Aside0 (∀ w', TreePut w1 w' (T.node b x s l R) (T.node b x s l R).bal → ∀ e, e = .returned (.pointer (ptrA (T.node b x s l R).bal.ptr)) → InsPost q g (T.node b x s l r) root sz nd ch w e w') := ⟨fun w' P e he => by
          refine .mk id i1 (by rw [PRE.out]; exact he) ⟨by rw [PRE.out]; exact P.lies, ?_, FR1.out.trans P.fr ?_⟩
          · rw [HC.out, HH.out]
            refine S1.out.fr P.fr (fun h => ?_)
            rw [T.ids_node] at h
            rcases List.mem_append.1 h with h | h
            · exact GL.out h
            · rcases List.mem_cons.1 h with h | h
              · exact hgb h
              · rcases IDM.out g h with h | h
                · exact GR.out h
                · have := GLT.out; omega
          · intro k hk h
            rw [T.ids_node] at h ⊢
            rcases List.mem_append.1 h with h | h
            · exact .inr (List.mem_append_left _ h)
            · rcases List.mem_cons.1 h with rfl | h
              · exact .inr (List.mem_append_right _ List.mem_cons_self)
              · rcases IDM.out k h with h | h
                · exact .inr (List.mem_append_right _ (List.mem_cons_of_mem _ h))
                · omega⟩
        clear f34 z34 N0 N2 LL0 LR0 LL2 P2 IHL IHR S0 S1 HC HH hn0 hn1 hq0 hq1 hx0 hx1 hgb hbg hb1

        obtain ⟨dl, dr, bl, br, dd⟩ := nodup_node ND.out
        have SZ2 := Aside0.mk SZ.out
        rw [flat_len_node] at SZ2
        have DL := Aside0.mk dl
        have DR := Aside0.mk dr
        have BL := Aside0.mk bl
        have BR := Aside0.mk br
        have DD := Aside0.mk dd
        clear dl dr bl br dd
        have fh := N1.out.ch
        have zh := N1.out.free 35
        have HB := Aside0.mk (ht_bound (t := (T.node b x s l R)) SZ.out)
        have hm1 : -1 ≤ (T.node b x s l R).ht - 1 ∧ (T.node b x s l R).ht - 1 ≤ 1000000 := by have := HB.out; omega
        obtain ⟨hm1, hm2⟩ := hm1
        go_wp2_with fail
        refine (maxH_calls N1.out LL.out.hat LR.out.hat).mono ?_
        rintro e w' ⟨rfl, rfl⟩
        have hmx : (if R.ht < l.ht then l.ht else R.ht) = (T.node b x s l R).ht - 1 := by rw [T.ht]; omega
        rw [hmx]
        have hmy : (T.node b x s l R).ht - 1 + 1 = (T.node b x s l R).ht := by omega
        have HY := Aside0.mk hmy
        clear hmx hmy
        obtain ⟨H, hH⟩ : ∃ H, H = (T.node b x s l R).ht - 1 := ⟨_, rfl⟩
        rw [← hH] at hm1 hm2 HY ⊢
        clear hH
        go_wp2_with fail
        have N2 := Aside0.mk (N1.out.setH (H + 1))
        have LL2 := Aside0.mk (LL.out.far (p := ⟨b, 35, none⟩) BL.out (.int .i64 (H + 1)))
        have LR2 := Aside0.mk (LR.out.far (p := ⟨b, 35, none⟩) BR.out (.int .i64 (H + 1)))
        have FR2 := Aside0.mk ((Fr.refl (fun k => k ∈ (T.node b x s l R).ids) w1).set (p := ⟨b, 35, none⟩) (.inl (show b ∈ (T.node b x s l R).ids by simp [T.ids_node])) (.int .i64 (H + 1)))
        have SS2 := Aside0.mk (setCell_size w1 ⟨b, 35, none⟩ (.int .i64 (H + 1)))
        generalize w1.setCell ⟨b, 35, none⟩ (.int .i64 (H + 1)) = w2 at *
        rw [HY.out] at N2
        clear fh zh N1 LL LR hm1 hm2 HY
        refine (balF_calls N2.out LL2.out.hat LR2.out.hat (ht_bound (by have := SZ2.out; omega)) (ht_bound (by have := SZ2.out; omega))).mono ?_
        rintro e w' ⟨rfl, rfl⟩
        have f33 := N2.out.cl
        have f34 := N2.out.cr
        have z33 := N2.out.free 33
        have z34 := N2.out.free 34
        by_cases c1 : 1 < l.ht - R.ht
        · have c1' := Aside0.mk c1
          cases l with
          | nil =>
            exfalso
            have := R.ht_nonneg
            simp [T.ht] at c1
            omega
          | node c x' s' l' r' =>
            by_cases c2 : (T.node c x' s' l' r').bf < 0
            · have C2 := Aside0.mk c2
              obtain ⟨c3, x3, s3, l3, r3, rfl⟩ := bf_neg c2
              have RT : (T.node b x s (T.node c x' s' l' (T.node c3 x3 s3 l3 r3)) R).bal = (T.node b x s (T.node c x' s' l' (T.node c3 x3 s3 l3 r3)).rotL R).rotR := by rw [T.bal, if_pos c1, if_pos c2]
              replace RT := Aside0.mk RT
              simp only [T.ptr, ptrA] at f33
              go_wp2_with fail
              refine (balF_tree LL2.out (by have := SZ2.out; omega)).mono ?_
              rintro e w' ⟨rfl, rfl⟩
              go_wp2_with fail
              refine (rotL_tree LL2.out.1 LL2.out.2.2 LL2.out.2.1 DL.out (by have := SZ2.out; omega)).mono ?_
              rintro e w3 ⟨rfl, P3⟩
              have P3 := Aside0.mk P3
              have N3 := Aside0.mk (N2.out.fr P3.out.fr BL.out)
              have LR3 := Aside0.mk (LR2.out.fr P3.out.fr (fun k hk hk2 => DD.out k hk2 hk))
              clear f33 f34 z33 z34 c1 c2
              have f33 := N3.out.cl
              have z33 := N3.out.free 33
              go_wp2_with fail
              have N4 := Aside0.mk (N3.out.setL (some c3))
              have LL4 := Aside0.mk (P3.out.lies.far (p := ⟨b, 33, none⟩) (by rw [T.rotL_ids]; exact BL.out) (.pointer (some ⟨c3, 0, none⟩)))
              have LR4 := Aside0.mk (LR3.out.far (p := ⟨b, 33, none⟩) BR.out (.pointer (some ⟨c3, 0, none⟩)))
              have FR4 := Aside0.mk ((FR2.out.trans (P3.out.fr.mono (G := fun k => k ∈ (T.node b x s (T.node c x' s' l' (T.node c3 x3 s3 l3 r3)) R).ids) (fun k hk => by rw [T.ids_node]; exact List.mem_append_left _ hk)) (fun _ _ h => h)).set (p := ⟨b, 33, none⟩) (.inl (by simp [T.ids_node])) (.pointer (some ⟨c3, 0, none⟩)))
              have SS4 := Aside0.mk ((setCell_size w3 ⟨b, 33, none⟩ (.pointer (some ⟨c3, 0, none⟩))).trans (P3.out.size.trans SS2.out))
              simp only [ptrA] at N4
              generalize w3.setCell ⟨b, 33, none⟩ (.pointer (some ⟨c3, 0, none⟩)) = w4 at *
              clear f33 z33 N3 LR3 P3 N2 LL2 LR2 FR2
              refine (rotR_tree (r := R) N4.out LL4.out LR4.out (by rw [T.ids_node]; have h := ND.out; rw [T.ids_node] at h; have e := T.rotL_ids (T.node c x' s' l' (T.node c3 x3 s3 l3 r3)); rw [T.rotL] at e; rw [e]; exact h) (by have h := SZ.out; rw [T.flat_node] at h ⊢; have e := T.rotL_flat (T.node c x' s' l' (T.node c3 x3 s3 l3 r3)); rw [T.rotL] at e; rw [e]; exact h)).mono ?_
              rintro e w5 ⟨rfl, P5⟩
              have P5 := Aside0.mk P5
              go_wp2
              have PUT : TreePut w1 w5 (T.node b x s (T.node c x' s' l' (T.node c3 x3 s3 l3 r3)) R) (T.node b x s (T.node c x' s' l' (T.node c3 x3 s3 l3 r3)) R).bal := by
                rw [RT.out]
                refine ⟨P5.out.lies, FR4.out.trans P5.out.fr (fun k _ hk => ?_), P5.out.size.trans SS4.out⟩
                rw [T.ids_node] at hk ⊢
                have e := T.rotL_ids (T.node c x' s' l' (T.node c3 x3 s3 l3 r3))
                rw [T.rotL] at e
                rw [e] at hk
                exact hk
              have PTR : (T.node b x s (T.node c x' s' l' (T.node c3 x3 s3 l3 r3)) R).bal.ptr = some c3 := by rw [RT.out]; rfl
              go_ret
              exact FIN.out _ PUT _ (by rw [PTR]; rfl)
            · have RT : (T.node b x s (T.node c x' s' l' r') R).bal = (T.node b x s (T.node c x' s' l' r') R).rotR := by rw [T.bal, if_pos c1, if_neg c2]
              replace RT := Aside0.mk RT
              have c2 : 0 ≤ (T.node c x' s' l' r').bf := by omega
              simp only [T.ptr, ptrA] at f33
              go_wp2_with fail
              refine (balF_tree LL2.out (by have := SZ2.out; omega)).mono ?_
              rintro e w' ⟨rfl, rfl⟩
              go_wp2_with fail
              refine (rotR_tree N2.out LL2.out LR2.out ND.out SZ.out).mono ?_
              rintro e w5 ⟨rfl, P5⟩
              have P5 := Aside0.mk P5
              clear f33 f34 z33 z34 c1 c2
              go_wp2
              have PUT : TreePut w1 w5 (T.node b x s (T.node c x' s' l' r') R) (T.node b x s (T.node c x' s' l' r') R).bal := by
                rw [RT.out]
                exact ⟨P5.out.lies, FR2.out.trans P5.out.fr (fun _ _ h => h), P5.out.size.trans SS2.out⟩
              have PTR : (T.node b x s (T.node c x' s' l' r') R).bal.ptr = some c := by rw [RT.out]; rfl
              go_ret
              exact FIN.out _ PUT _ (by rw [PTR]; rfl)
        · have c1n : l.ht - R.ht ≤ 1 := by omega
          by_cases c2 : l.ht - R.ht < -1
          · have c2' := Aside0.mk c2
            cases R with
            | nil =>
              exfalso
              have := l.ht_nonneg
              simp [T.ht] at c2
              omega
            | node c x' s' l' r' =>
              by_cases c3 : 0 < (T.node c x' s' l' r').bf
              · have C3 := Aside0.mk c3
                obtain ⟨c4, x3, s3, l3, r3, rfl⟩ := bf_pos c3
                have RT : (T.node b x s l (T.node c x' s' (T.node c4 x3 s3 l3 r3) r')).bal = (T.node b x s l (T.node c x' s' (T.node c4 x3 s3 l3 r3) r').rotR).rotL := by rw [T.bal, if_neg c1, if_pos c2, if_pos c3]
                replace RT := Aside0.mk RT
                simp only [T.ptr, ptrA] at f34
                clear c1
                go_wp2_with fail
                refine (balF_tree LR2.out (by have := SZ2.out; omega)).mono ?_
                rintro e w' ⟨rfl, rfl⟩
                go_wp2_with fail
                refine (rotR_tree LR2.out.1 LR2.out.2.1 LR2.out.2.2 DR.out (by have := SZ2.out; omega)).mono ?_
                rintro e w3 ⟨rfl, P3⟩
                have P3 := Aside0.mk P3
                have N3 := Aside0.mk (N2.out.fr P3.out.fr BR.out)
                have LL3 := Aside0.mk (LL2.out.fr P3.out.fr (fun k hk hk2 => DD.out k hk hk2))
                clear f33 f34 z33 z34 c2 c3 c1n
                have f34 := N3.out.cr
                have z34 := N3.out.free 34
                go_wp2_with fail
                have N4 := Aside0.mk (N3.out.setR (some c4))
                have LR4 := Aside0.mk (P3.out.lies.far (p := ⟨b, 34, none⟩) (by rw [T.rotR_ids]; exact BR.out) (.pointer (some ⟨c4, 0, none⟩)))
                have LL4 := Aside0.mk (LL3.out.far (p := ⟨b, 34, none⟩) BL.out (.pointer (some ⟨c4, 0, none⟩)))
                have FR4 := Aside0.mk ((FR2.out.trans (P3.out.fr.mono (G := fun k => k ∈ (T.node b x s l (T.node c x' s' (T.node c4 x3 s3 l3 r3) r')).ids) (fun k hk => by rw [T.ids_node]; exact List.mem_append_right _ (List.mem_cons_of_mem _ hk))) (fun _ _ h => h)).set (p := ⟨b, 34, none⟩) (.inl (by simp [T.ids_node])) (.pointer (some ⟨c4, 0, none⟩)))
                have SS4 := Aside0.mk ((setCell_size w3 ⟨b, 34, none⟩ (.pointer (some ⟨c4, 0, none⟩))).trans (P3.out.size.trans SS2.out))
                simp only [ptrA] at N4
                generalize w3.setCell ⟨b, 34, none⟩ (.pointer (some ⟨c4, 0, none⟩)) = w4 at *
                clear f34 z34 N3 LL3 P3 N2 LL2 LR2 FR2
                refine (rotL_tree (l := l) N4.out LR4.out LL4.out (by rw [T.ids_node]; have h := ND.out; rw [T.ids_node] at h; have e := T.rotR_ids (T.node c x' s' (T.node c4 x3 s3 l3 r3) r'); rw [T.rotR] at e; rw [e]; exact h) (by have h := SZ.out; rw [T.flat_node] at h ⊢; have e := T.rotR_flat (T.node c x' s' (T.node c4 x3 s3 l3 r3) r'); rw [T.rotR] at e; rw [e]; exact h)).mono ?_
                rintro e w5 ⟨rfl, P5⟩
                have P5 := Aside0.mk P5
                go_wp2
                have PUT : TreePut w1 w5 (T.node b x s l (T.node c x' s' (T.node c4 x3 s3 l3 r3) r')) (T.node b x s l (T.node c x' s' (T.node c4 x3 s3 l3 r3) r')).bal := by
                  rw [RT.out]
                  refine ⟨P5.out.lies, FR4.out.trans P5.out.fr (fun k _ hk => ?_), P5.out.size.trans SS4.out⟩
                  rw [T.ids_node] at hk ⊢
                  have e := T.rotR_ids (T.node c x' s' (T.node c4 x3 s3 l3 r3) r')
                  rw [T.rotR] at e
                  rw [e] at hk
                  exact hk
                have PTR : (T.node b x s l (T.node c x' s' (T.node c4 x3 s3 l3 r3) r')).bal.ptr = some c4 := by rw [RT.out]; rfl
                go_ret
                exact FIN.out _ PUT _ (by rw [PTR]; rfl)
              · have RT : (T.node b x s l (T.node c x' s' l' r')).bal = (T.node b x s l (T.node c x' s' l' r')).rotL := by rw [T.bal, if_neg c1, if_pos c2, if_neg c3]
                replace RT := Aside0.mk RT
                have c3 : (T.node c x' s' l' r').bf ≤ 0 := by omega
                simp only [T.ptr, ptrA] at f34
                clear c1
                go_wp2_with fail
                refine (balF_tree LR2.out (by have := SZ2.out; omega)).mono ?_
                rintro e w' ⟨rfl, rfl⟩
                go_wp2_with fail
                refine (rotL_tree N2.out LR2.out LL2.out ND.out SZ.out).mono ?_
                rintro e w5 ⟨rfl, P5⟩
                have P5 := Aside0.mk P5
                clear f33 f34 z33 z34 c2 c3 c1n
                go_wp2
                have PUT : TreePut w1 w5 (T.node b x s l (T.node c x' s' l' r')) (T.node b x s l (T.node c x' s' l' r')).bal := by
                  rw [RT.out]
                  exact ⟨P5.out.lies, FR2.out.trans P5.out.fr (fun _ _ h => h), P5.out.size.trans SS2.out⟩
                have PTR : (T.node b x s l (T.node c x' s' l' r')).bal.ptr = some c := by rw [RT.out]; rfl
                go_ret
                exact FIN.out _ PUT _ (by rw [PTR]; rfl)
          · have RT : (T.node b x s l R).bal = (T.node b x s l R) := by rw [T.bal, if_neg c1, if_neg c2]
            replace RT := Aside0.mk RT
            have c2n : -1 ≤ l.ht - R.ht := by omega
            clear c1 c2 f33 f34 z33 z34
            go_wp2
            have PUT : TreePut w1 w2 (T.node b x s l R) (T.node b x s l R).bal := by
              rw [RT.out]
              exact ⟨⟨N2.out, LL2.out, LR2.out⟩, FR2.out, SS2.out⟩
            have PTR : (T.node b x s l R).bal.ptr = some b := by rw [RT.out]; rfl
            go_ret
            exact FIN.out _ PUT _ (by rw [PTR]; rfl)
      · have PRE : ∀ id, (T.node b x s l r).ins id q = (T.node b x (bput s (q - x).toNat) l r).bal := fun id => by rw [T.ins, if_neg c1, if_neg c2]
        replace PRE := Aside0.mk PRE
        have HC := Aside0.mk (show (T.node b x s l r).cov q = true by rw [T.cov, if_neg c1, if_neg c2])
        have HH := Aside0.mk (show (T.node b x s l r).has q = bget s (q - x).toNat by rw [T.has, if_neg c1, if_neg c2])
        have c1' : x ≤ q := by omega
        have c2' : q < x + 2048 := by omega
        clear c1 c2
        go_enter Tryd.func62, Tryd.ntmps62
        go_wp2_with fail
        refine (set_put N0.out S0.out hbg hx0 c1' c2' (by omega)).mono ?_
        rintro e w1 ⟨rfl, P2⟩
        replace P2 := Aside0.mk P2
        have N1 := Aside0.mk P2.out.node
        have LL := Aside0.mk (LL0.out.fr P2.out.fr (fun k hk h => h.elim (fun h => BL0.out (h ▸ hk)) (fun h => GL.out (h ▸ hk))))
        have LR := Aside0.mk (LR0.out.fr P2.out.fr (fun k hk h => h.elim (fun h => BR0.out (h ▸ hk)) (fun h => GR.out (h ▸ hk))))
        have S1 := Aside0.mk P2.out.set
        have ND : Aside0 (T.node b x (bput s (q - x).toNat) l r).ids.Nodup := ⟨by have h := HD.out; rw [T.ids_node] at h ⊢; exact h⟩
        have SZ : Aside0 ((T.node b x (bput s (q - x).toNat) l r).flat.length ≤ 1000000) := ⟨by rw [flat_len_node]; have := HZ.out; omega⟩
        have FIN : Aside0 (∀ w', TreePut w1 w' (T.node b x (bput s (q - x).toNat) l r) (T.node b x (bput s (q - x).toNat) l r).bal → ∀ e, e = .returned (.pointer (ptrA (T.node b x (bput s (q - x).toNat) l r).bal.ptr)) → InsPost q g (T.node b x s l r) root sz nd ch w e w') := ⟨fun w' P e he => by
          have ei : (T.node b x (bput s (q - x).toNat) l r).ids = (T.node b x s l r).ids := by rw [T.ids_node, T.ids_node]
          refine .mk w.heap.size (Nat.le_refl _) (by rw [PRE.out]; exact he) ⟨by rw [PRE.out]; exact P.lies, ?_, P2.out.fr.mono (G := fun k => k = g ∨ k ∈ (T.node b x s l r).ids) (fun k hk => hk.elim (fun h => .inr (by rw [h]; simp [T.ids_node])) .inl) |>.trans P.fr (fun k _ hk => .inr (by rw [ei] at hk; exact hk))⟩
          rw [HC.out, HH.out, if_pos rfl, Int.add_zero]
          refine S1.out.fr P.fr (fun h => ?_)
          rw [T.ids_node] at h
          rcases List.mem_append.1 h with h | h
          · exact GL.out h
          · rcases List.mem_cons.1 h with h | h
            · exact hgb h
            · exact GR.out h⟩
        obtain ⟨S, hS⟩ : ∃ S, S = bput s (q - x).toNat := ⟨_, rfl⟩
        rw [← hS] at N1 ND SZ FIN
        clear f0 f33 f34 z33 z34 N0 LL0 LR0 P2 IHL IHR S0 S1 HC HH hn0 hn1 hq0 hq1 hx0 hx1 hgb hbg PRE hS c1' c2'

        obtain ⟨dl, dr, bl, br, dd⟩ := nodup_node ND.out
        have SZ2 := Aside0.mk SZ.out
        rw [flat_len_node] at SZ2
        have DL := Aside0.mk dl
        have DR := Aside0.mk dr
        have BL := Aside0.mk bl
        have BR := Aside0.mk br
        have DD := Aside0.mk dd
        clear dl dr bl br dd
        have fh := N1.out.ch
        have zh := N1.out.free 35
        have HB := Aside0.mk (ht_bound (t := (T.node b x S l r)) SZ.out)
        have hm1 : -1 ≤ (T.node b x S l r).ht - 1 ∧ (T.node b x S l r).ht - 1 ≤ 1000000 := by have := HB.out; omega
        obtain ⟨hm1, hm2⟩ := hm1
        go_wp2_with fail
        refine (maxH_calls N1.out LL.out.hat LR.out.hat).mono ?_
        rintro e w' ⟨rfl, rfl⟩
        have hmx : (if r.ht < l.ht then l.ht else r.ht) = (T.node b x S l r).ht - 1 := by rw [T.ht]; omega
        rw [hmx]
        have hmy : (T.node b x S l r).ht - 1 + 1 = (T.node b x S l r).ht := by omega
        have HY := Aside0.mk hmy
        clear hmx hmy
        obtain ⟨H, hH⟩ : ∃ H, H = (T.node b x S l r).ht - 1 := ⟨_, rfl⟩
        rw [← hH] at hm1 hm2 HY ⊢
        clear hH
        go_wp2_with fail
        have N2 := Aside0.mk (N1.out.setH (H + 1))
        have LL2 := Aside0.mk (LL.out.far (p := ⟨b, 35, none⟩) BL.out (.int .i64 (H + 1)))
        have LR2 := Aside0.mk (LR.out.far (p := ⟨b, 35, none⟩) BR.out (.int .i64 (H + 1)))
        have FR2 := Aside0.mk ((Fr.refl (fun k => k ∈ (T.node b x S l r).ids) w1).set (p := ⟨b, 35, none⟩) (.inl (show b ∈ (T.node b x S l r).ids by simp [T.ids_node])) (.int .i64 (H + 1)))
        have SS2 := Aside0.mk (setCell_size w1 ⟨b, 35, none⟩ (.int .i64 (H + 1)))
        generalize w1.setCell ⟨b, 35, none⟩ (.int .i64 (H + 1)) = w2 at *
        rw [HY.out] at N2
        clear fh zh N1 LL LR hm1 hm2 HY
        refine (balF_calls N2.out LL2.out.hat LR2.out.hat (ht_bound (by have := SZ2.out; omega)) (ht_bound (by have := SZ2.out; omega))).mono ?_
        rintro e w' ⟨rfl, rfl⟩
        have f33 := N2.out.cl
        have f34 := N2.out.cr
        have z33 := N2.out.free 33
        have z34 := N2.out.free 34
        by_cases c1 : 1 < l.ht - r.ht
        · have c1' := Aside0.mk c1
          cases l with
          | nil =>
            exfalso
            have := r.ht_nonneg
            simp [T.ht] at c1
            omega
          | node c x' s' l' r' =>
            by_cases c2 : (T.node c x' s' l' r').bf < 0
            · have C2 := Aside0.mk c2
              obtain ⟨c3, x3, s3, l3, r3, rfl⟩ := bf_neg c2
              have RT : (T.node b x S (T.node c x' s' l' (T.node c3 x3 s3 l3 r3)) r).bal = (T.node b x S (T.node c x' s' l' (T.node c3 x3 s3 l3 r3)).rotL r).rotR := by rw [T.bal, if_pos c1, if_pos c2]
              replace RT := Aside0.mk RT
              simp only [T.ptr, ptrA] at f33
              go_wp2_with fail
              refine (balF_tree LL2.out (by have := SZ2.out; omega)).mono ?_
              rintro e w' ⟨rfl, rfl⟩
              go_wp2_with fail
              refine (rotL_tree LL2.out.1 LL2.out.2.2 LL2.out.2.1 DL.out (by have := SZ2.out; omega)).mono ?_
              rintro e w3 ⟨rfl, P3⟩
              have P3 := Aside0.mk P3
              have N3 := Aside0.mk (N2.out.fr P3.out.fr BL.out)
              have LR3 := Aside0.mk (LR2.out.fr P3.out.fr (fun k hk hk2 => DD.out k hk2 hk))
              clear f33 f34 z33 z34 c1 c2
              have f33 := N3.out.cl
              have z33 := N3.out.free 33
              go_wp2_with fail
              have N4 := Aside0.mk (N3.out.setL (some c3))
              have LL4 := Aside0.mk (P3.out.lies.far (p := ⟨b, 33, none⟩) (by rw [T.rotL_ids]; exact BL.out) (.pointer (some ⟨c3, 0, none⟩)))
              have LR4 := Aside0.mk (LR3.out.far (p := ⟨b, 33, none⟩) BR.out (.pointer (some ⟨c3, 0, none⟩)))
              have FR4 := Aside0.mk ((FR2.out.trans (P3.out.fr.mono (G := fun k => k ∈ (T.node b x S (T.node c x' s' l' (T.node c3 x3 s3 l3 r3)) r).ids) (fun k hk => by rw [T.ids_node]; exact List.mem_append_left _ hk)) (fun _ _ h => h)).set (p := ⟨b, 33, none⟩) (.inl (by simp [T.ids_node])) (.pointer (some ⟨c3, 0, none⟩)))
              have SS4 := Aside0.mk ((setCell_size w3 ⟨b, 33, none⟩ (.pointer (some ⟨c3, 0, none⟩))).trans (P3.out.size.trans SS2.out))
              simp only [ptrA] at N4
              generalize w3.setCell ⟨b, 33, none⟩ (.pointer (some ⟨c3, 0, none⟩)) = w4 at *
              clear f33 z33 N3 LR3 P3 N2 LL2 LR2 FR2
              refine (rotR_tree (r := r) N4.out LL4.out LR4.out (by rw [T.ids_node]; have h := ND.out; rw [T.ids_node] at h; have e := T.rotL_ids (T.node c x' s' l' (T.node c3 x3 s3 l3 r3)); rw [T.rotL] at e; rw [e]; exact h) (by have h := SZ.out; rw [T.flat_node] at h ⊢; have e := T.rotL_flat (T.node c x' s' l' (T.node c3 x3 s3 l3 r3)); rw [T.rotL] at e; rw [e]; exact h)).mono ?_
              rintro e w5 ⟨rfl, P5⟩
              have P5 := Aside0.mk P5
              go_wp2
              have PUT : TreePut w1 w5 (T.node b x S (T.node c x' s' l' (T.node c3 x3 s3 l3 r3)) r) (T.node b x S (T.node c x' s' l' (T.node c3 x3 s3 l3 r3)) r).bal := by
                rw [RT.out]
                refine ⟨P5.out.lies, FR4.out.trans P5.out.fr (fun k _ hk => ?_), P5.out.size.trans SS4.out⟩
                rw [T.ids_node] at hk ⊢
                have e := T.rotL_ids (T.node c x' s' l' (T.node c3 x3 s3 l3 r3))
                rw [T.rotL] at e
                rw [e] at hk
                exact hk
              have PTR : (T.node b x S (T.node c x' s' l' (T.node c3 x3 s3 l3 r3)) r).bal.ptr = some c3 := by rw [RT.out]; rfl
              go_ret
              exact FIN.out _ PUT _ (by rw [PTR]; rfl)
            · have RT : (T.node b x S (T.node c x' s' l' r') r).bal = (T.node b x S (T.node c x' s' l' r') r).rotR := by rw [T.bal, if_pos c1, if_neg c2]
              replace RT := Aside0.mk RT
              have c2 : 0 ≤ (T.node c x' s' l' r').bf := by omega
              simp only [T.ptr, ptrA] at f33
              go_wp2_with fail
              refine (balF_tree LL2.out (by have := SZ2.out; omega)).mono ?_
              rintro e w' ⟨rfl, rfl⟩
              go_wp2_with fail
              refine (rotR_tree N2.out LL2.out LR2.out ND.out SZ.out).mono ?_
              rintro e w5 ⟨rfl, P5⟩
              have P5 := Aside0.mk P5
              clear f33 f34 z33 z34 c1 c2
              go_wp2
              have PUT : TreePut w1 w5 (T.node b x S (T.node c x' s' l' r') r) (T.node b x S (T.node c x' s' l' r') r).bal := by
                rw [RT.out]
                exact ⟨P5.out.lies, FR2.out.trans P5.out.fr (fun _ _ h => h), P5.out.size.trans SS2.out⟩
              have PTR : (T.node b x S (T.node c x' s' l' r') r).bal.ptr = some c := by rw [RT.out]; rfl
              go_ret
              exact FIN.out _ PUT _ (by rw [PTR]; rfl)
        · have c1n : l.ht - r.ht ≤ 1 := by omega
          by_cases c2 : l.ht - r.ht < -1
          · have c2' := Aside0.mk c2
            cases r with
            | nil =>
              exfalso
              have := l.ht_nonneg
              simp [T.ht] at c2
              omega
            | node c x' s' l' r' =>
              by_cases c3 : 0 < (T.node c x' s' l' r').bf
              · have C3 := Aside0.mk c3
                obtain ⟨c4, x3, s3, l3, r3, rfl⟩ := bf_pos c3
                have RT : (T.node b x S l (T.node c x' s' (T.node c4 x3 s3 l3 r3) r')).bal = (T.node b x S l (T.node c x' s' (T.node c4 x3 s3 l3 r3) r').rotR).rotL := by rw [T.bal, if_neg c1, if_pos c2, if_pos c3]
                replace RT := Aside0.mk RT
                simp only [T.ptr, ptrA] at f34
                clear c1
                go_wp2_with fail
                refine (balF_tree LR2.out (by have := SZ2.out; omega)).mono ?_
                rintro e w' ⟨rfl, rfl⟩
                go_wp2_with fail
                refine (rotR_tree LR2.out.1 LR2.out.2.1 LR2.out.2.2 DR.out (by have := SZ2.out; omega)).mono ?_
                rintro e w3 ⟨rfl, P3⟩
                have P3 := Aside0.mk P3
                have N3 := Aside0.mk (N2.out.fr P3.out.fr BR.out)
                have LL3 := Aside0.mk (LL2.out.fr P3.out.fr (fun k hk hk2 => DD.out k hk hk2))
                clear f33 f34 z33 z34 c2 c3 c1n
                have f34 := N3.out.cr
                have z34 := N3.out.free 34
                go_wp2_with fail
                have N4 := Aside0.mk (N3.out.setR (some c4))
                have LR4 := Aside0.mk (P3.out.lies.far (p := ⟨b, 34, none⟩) (by rw [T.rotR_ids]; exact BR.out) (.pointer (some ⟨c4, 0, none⟩)))
                have LL4 := Aside0.mk (LL3.out.far (p := ⟨b, 34, none⟩) BL.out (.pointer (some ⟨c4, 0, none⟩)))
                have FR4 := Aside0.mk ((FR2.out.trans (P3.out.fr.mono (G := fun k => k ∈ (T.node b x S l (T.node c x' s' (T.node c4 x3 s3 l3 r3) r')).ids) (fun k hk => by rw [T.ids_node]; exact List.mem_append_right _ (List.mem_cons_of_mem _ hk))) (fun _ _ h => h)).set (p := ⟨b, 34, none⟩) (.inl (by simp [T.ids_node])) (.pointer (some ⟨c4, 0, none⟩)))
                have SS4 := Aside0.mk ((setCell_size w3 ⟨b, 34, none⟩ (.pointer (some ⟨c4, 0, none⟩))).trans (P3.out.size.trans SS2.out))
                simp only [ptrA] at N4
                generalize w3.setCell ⟨b, 34, none⟩ (.pointer (some ⟨c4, 0, none⟩)) = w4 at *
                clear f34 z34 N3 LL3 P3 N2 LL2 LR2 FR2
                refine (rotL_tree (l := l) N4.out LR4.out LL4.out (by rw [T.ids_node]; have h := ND.out; rw [T.ids_node] at h; have e := T.rotR_ids (T.node c x' s' (T.node c4 x3 s3 l3 r3) r'); rw [T.rotR] at e; rw [e]; exact h) (by have h := SZ.out; rw [T.flat_node] at h ⊢; have e := T.rotR_flat (T.node c x' s' (T.node c4 x3 s3 l3 r3) r'); rw [T.rotR] at e; rw [e]; exact h)).mono ?_
                rintro e w5 ⟨rfl, P5⟩
                have P5 := Aside0.mk P5
                go_wp2
                have PUT : TreePut w1 w5 (T.node b x S l (T.node c x' s' (T.node c4 x3 s3 l3 r3) r')) (T.node b x S l (T.node c x' s' (T.node c4 x3 s3 l3 r3) r')).bal := by
                  rw [RT.out]
                  refine ⟨P5.out.lies, FR4.out.trans P5.out.fr (fun k _ hk => ?_), P5.out.size.trans SS4.out⟩
                  rw [T.ids_node] at hk ⊢
                  have e := T.rotR_ids (T.node c x' s' (T.node c4 x3 s3 l3 r3) r')
                  rw [T.rotR] at e
                  rw [e] at hk
                  exact hk
                have PTR : (T.node b x S l (T.node c x' s' (T.node c4 x3 s3 l3 r3) r')).bal.ptr = some c4 := by rw [RT.out]; rfl
                go_ret
                exact FIN.out _ PUT _ (by rw [PTR]; rfl)
              · have RT : (T.node b x S l (T.node c x' s' l' r')).bal = (T.node b x S l (T.node c x' s' l' r')).rotL := by rw [T.bal, if_neg c1, if_pos c2, if_neg c3]
                replace RT := Aside0.mk RT
                have c3 : (T.node c x' s' l' r').bf ≤ 0 := by omega
                simp only [T.ptr, ptrA] at f34
                clear c1
                go_wp2_with fail
                refine (balF_tree LR2.out (by have := SZ2.out; omega)).mono ?_
                rintro e w' ⟨rfl, rfl⟩
                go_wp2_with fail
                refine (rotL_tree N2.out LR2.out LL2.out ND.out SZ.out).mono ?_
                rintro e w5 ⟨rfl, P5⟩
                have P5 := Aside0.mk P5
                clear f33 f34 z33 z34 c2 c3 c1n
                go_wp2
                have PUT : TreePut w1 w5 (T.node b x S l (T.node c x' s' l' r')) (T.node b x S l (T.node c x' s' l' r')).bal := by
                  rw [RT.out]
                  exact ⟨P5.out.lies, FR2.out.trans P5.out.fr (fun _ _ h => h), P5.out.size.trans SS2.out⟩
                have PTR : (T.node b x S l (T.node c x' s' l' r')).bal.ptr = some c := by rw [RT.out]; rfl
                go_ret
                exact FIN.out _ PUT _ (by rw [PTR]; rfl)
          · have RT : (T.node b x S l r).bal = (T.node b x S l r) := by rw [T.bal, if_neg c1, if_neg c2]
            replace RT := Aside0.mk RT
            have c2n : -1 ≤ l.ht - r.ht := by omega
            clear c1 c2 f33 f34 z33 z34
            go_wp2
            have PUT : TreePut w1 w2 (T.node b x S l r) (T.node b x S l r).bal := by
              rw [RT.out]
              exact ⟨⟨N2.out, LL2.out, LR2.out⟩, FR2.out, SS2.out⟩
            have PTR : (T.node b x S l r).bal.ptr = some b := by rw [RT.out]; rfl
            go_ret
            exact FIN.out _ PUT _ (by rw [PTR]; rfl)
end Go.Proofs.YtebgaedalbdhaaaDoor.Av
