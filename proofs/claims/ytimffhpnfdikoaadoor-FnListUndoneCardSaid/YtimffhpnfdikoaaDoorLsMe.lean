/- match: a subject's hits are handed to a callback; Match, ListMatch. ListMatch: the values that match a literal subject. -/
import Derived.Test.YtimffhpnfdikoaaDoorLsMc
namespace Go.Proofs.YtimffhpnfdikoaaDoor.Ls
open Go.RowKit Go.Maps Go.Proofs.YtimffhpnfdikoaaDoor.Pl Go.Proofs.YtimffhpnfdikoaaDoor.Bs Go.Proofs.YtimffhpnfdikoaaDoorW.PrintWords Go.Proofs.YtimffhpnfdikoaaDoorW.PrintLast Go.Proofs.YtimffhpnfdikoaaDoorW.PrintMore Go.Proofs.YtimffhpnfdikoaaDoor.GFnListKinds Go.Proofs.YtimffhpnfdikoaaDoor.PlFnListKinds
set_option linter.unusedVariables false
set_option linter.unusedSimpArgs false
structure MatchPost (w : World) (B ob : Nat) (R : List Int) (sub : Path → Int → Option ByteArray) (s : ByteArray) (e : Ending) (w' : World) : Prop where
  ret : e = .returned (.tuple #[])
  out : ∃ M : List (Path × Int), M.Nodup ∧ (∀ x, x ∈ M ↔ InH sub [] (tk s) x) ∧ Out w' B ob (R ++ M.map Prod.snd)
  fr : Fr (fun k => B ≤ k) w w'
theorem ag_not_of {w : World} {base P0 g n c : Nat} {xs : List Value} (h : AG S9 w P0 1 (.slice (some ⟨g, 0, none⟩) n c) n xs) (h9 : True) : ∃ cur T, w.heap[g]? = some (.cells cur T (0, 0)) ∧ (T = 106 ∨ T = 9) := by
  obtain ⟨g', cap', cur', T', e', q1, q2, q3, q4, q5⟩ := h.block
  injection e' with e1 _ _
  injection e1 with e1
  injection e1 with e1 _
  subst e1
  exact ⟨cur', T', q5, q4⟩
theorem not_of_ag {w w6 : World} {B P0 g n c L : Nat} {xs cs : List Value} (h : AG S9 w P0 1 (.slice (some ⟨g, 0, none⟩) n c) n xs) (hH : Blk w L 81 cs) (hf : Fr (fun k => k = L) w w6) : ¬ OF B w6 g := by
  obtain ⟨cur, T, hb, hT⟩ := ag_not_of (base := 0) h trivial
  have hgl : g ≠ L := by
    rintro rfl
    have := hb.symm.trans hH.blk
    injection this with this
    injection this with _ this _
    subst this
    rcases hT with hT | hT <;> exact absurd hT (by decide)
  have hb6 := (hf.block g (Array.getElem?_eq_some_iff.1 hb).1 hgl).trans hb
  rcases hT with rfl | rfl
  · exact not_of hb6 (by decide) (by decide)
  · exact not_of hb6 (by decide) (by decide)
section
set_option maxHeartbeats 16000000
set_option maxRecDepth 100000
theorem match_calls {w : World} {B L K ob : Nat} {sub : Path → Int → Option ByteArray} {ex : Prop} {cnt : Int} {s : ByteArray} {R : List Int} (h : Li w B L K sub ex cnt) (hex : ex) (hok : ∀ q v t, sub q v = some t → okF false q = true) (hs : Lits s) (hO : Out w B ob R) (hN : ∀ M : List (Path × Int), M.Nodup → (∀ x ∈ M, InH sub [] (tk s) x) → R.length + M.length ≤ 900000) :
    Calls Tryd.prog 56 #[.pointer (some ⟨L, 0, none⟩), .string s, cbV ob, .bool true] w (MatchPost w B ob R sub s) := by
  obtain ⟨nd, lv, hX⟩ := h
  obtain ⟨i9, hE9⟩ := ek9
  have HE := Aside0.mk hE9
  have HFN : Aside0 (Fine nd sub) := ⟨⟨hX.out, hX.live hex, hok⟩⟩
  have HX := Aside0.mk hX
  obtain ⟨xr, hxr, hh⟩ := hX.head
  have HR := Aside0.mk hxr
  have HH := Aside0.mk hh
  have HS := Aside0.mk hs
  have HO := Aside0.mk hO
  have HN := Aside0.mk hN
  have HSB : Aside0 (B ≤ w.heap.size) := ⟨hX.size⟩
  have hz : s.size ≤ 900 := hs.size
  clear hX hE9 hxr hh hs hO hN hok hex
  go_enter_defers Tryd.func56, Tryd.ntmps56
  go_upto_region 0 with (fail)
  refine wp_region_lit ?_
  refine Wk.arrL_ (Array.replicate 32 (.string .empty)) (T := 106) (N1 := 12) (N2 := 8) rfl rfl rfl rfl rfl rfl (fun _ _ => by kernel_rfl) (fun _ _ => by kernel_rfl) rfl (by kernel_rfl) (by simp [Value.oneCell']) rfl rfl ?_
  intro w2 cur hB2 hblk hcur hsz
  simp only [Act.put, List.setIfInBounds_toArray, List.set_cons_zero, List.set_cons_succ]
  generalize Value.agg (Array.replicate 32 (.string .empty)) = v12
  have hsh : w2.shape? w.heap.size = some (106, 32) := Wk.shape_of hblk (by rw [← Array.length_toList, hcur]; simp)
  have HA0 : Aside0 (AG S9 w2 w.heap.size 1 (.slice (some ⟨w.heap.size, 0, none⟩) 0 32) 0 [] ∧ Same w w2) := ⟨AG.made hblk (.inl rfl) (Nat.le_refl _) (by rw [← Array.length_toList, hcur]; simp) (by decide), fr_of_below hB2⟩
  clear hB2 hblk hcur hsz
  obtain ⟨P0, hP0⟩ : ∃ P0, P0 = w.heap.size := ⟨_, rfl⟩
  rw [← hP0] at HA0 hsh ⊢
  have HP0 := Aside0.mk hP0
  clear hP0
  go_wp2_with fail
  go_loopg [9, 10, 11] s.size (fun kq v9 v10 v11 wr => ∃ (a n : Nat) (out : Path), v10 = .int .i64 (a : Int) ∧ v11 = .int .i64 (n : Int) ∧ Aside0 (kq + n = s.size) ∧ Aside0 (TkS s a n out) ∧ Aside0 (AG S9 wr P0 1 v9 out.length (out.map Value.string)) ∧ Aside0 (Same w wr))
  case atStart => exact ⟨0, 0, [], rfl, rfl, ⟨by omega⟩, ⟨TkS.start s⟩, ⟨HA0.out.1⟩, ⟨HA0.out.2⟩⟩
  case round =>
    obtain ⟨a, n, out, rfl, rfl, HI, HT, HA, HW⟩ := hrel
    have HLE := Aside0.mk HT.out.le
    have HOL : Aside0 (out.length ≤ 2000) := ⟨by have := HT.out.outl; have := tk_len s; omega⟩
    have HPW : Aside0 (P0 ≤ wr.heap.size) := ⟨by rw [HP0.out]; exact HW.out.size⟩
    obtain ⟨g, cap, cur, T', hvv, -, -, hgb, -, -⟩ := HA.out.block
    obtain ⟨v10, hv10⟩ : ∃ v10, u9 = v10 := ⟨_, rfl⟩
    rw [hv10] at HA hvv
    rw [hv10]
    subst hvv
    have HGB := Aside0.mk hgb
    clear hv10 u9 hgb
    by_cases hlt : n < s.size
    · have n0 : (0 : Int) ≤ (n : Int) := by omega
      have n1 : (n : Int) < (s.size : Int) := by omega
      have n2 : decide ((n : Int) < (s.size : Int)) = true := decide_eq_true n1
      have n3 : IntKind.i64.wrap ((n : Int) + 1) = (n : Int) + 1 := by rw [IntKind.wrap_i64]; omega
      have hx : ((s[n]'hlt).toNat : Int) = bt s (n : Int) := bt_at s (n : Int) hlt
      have HLT := Aside0.mk hlt
      replace n0 := eq_true n0
      replace n1 := eq_true n1
      by_cases h46 : bt s (n : Int) = 46
      · have e46 : (((s[n]'hlt).toNat : Int) == 46) = true := by rw [hx, h46]; rfl
        obtain ⟨h1, h2⟩ := HT.out.dot hlt h46 (fun t ht => (HS.out.all t ht).2.2)
        have HT2 := Aside0.mk h2
        have w1 : IntKind.i64.wrap ((n : Int) - (a : Int)) = (n : Int) - (a : Int) := by rw [IntKind.wrap_i64]; omega
        have w3 : (((n : Int) - (a : Int)) == 0) = false := by rw [beq_eq_false_iff_ne]; omega
        have a0 : (0 : Int) ≤ (a : Int) := by omega
        have a1 : (a : Int) ≤ (n : Int) := by omega
        have a2 : (n : Int) ≤ (s.size : Int) := by omega
        have HRN : Aside0 (ReadG (wr.alloc (.cells #[.string (s.extract a n)] 9)) (some ⟨wr.heap.size, 0, none⟩) 1 1 [.string (s.extract a n)]) := ⟨read_newG (us := [.string (s.extract a n)]) (by rfl) (by intro u hu; simp only [List.mem_cons, List.not_mem_nil, or_false] at hu; rcases hu with rfl; rfl)⟩
        have w2 : wrap64 ((n : Int) - (a : Int)) = (n : Int) - (a : Int) := Pl.w64 (by omega) (by omega)
        clear h46 h1 h2 hx
        go_upto_region 8 with (fail)
        go_upto_region 9 with (first | (at_builtin; refine AG.append HE.out rfl (.tmp 28) (.tmp 33) rfl (.inr rfl) (v := .slice (some ⟨g, 0, none⟩) out.length cap) rfl (HA.out.alloc _) (by have := HPW.out; simp; omega) rfl HRN.out (by decide) (by have := HOL.out; omega) ?_; intro v' w5 hp5; have HP5 := Aside0.mk hp5; clear hp5) | fail)
        have HW5 : Aside0 (Same w w5) := ⟨(HW.out.alloc _).trans HP5.out.fr (fun k hk e => by
          have : g = k := by simpa [Value.ownBlock] using e
          have := HGB.out
          have := HP0.out
          omega)⟩
        go_wp2_with fail
        go_roundg (s.size - (n + 1))
        case measure => have := HI.out; have := HLT.out; omega
        case rel => exact ⟨n + 1, n + 1, out ++ [s.extract a n], rfl, rfl, ⟨by have := HLT.out; omega⟩, HT2, ⟨by have := HP5.out.row; simpa using this⟩, HW5⟩
      · have e46 : (((s[n]'hlt).toNat : Int) == 46) = false := by rw [beq_eq_false_iff_ne, hx]; exact h46
        have HT2 := Aside0.mk (HT.out.other hlt h46)
        clear h46 hx
        go_wp2_with fail
        go_roundg (s.size - (n + 1))
        case measure => have := HI.out; have := HLT.out; omega
        case rel => exact ⟨a, n + 1, out, rfl, rfl, ⟨by have := HLT.out; omega⟩, HT2, HA, HW⟩
    · have hie : n = s.size := by have := HI.out; omega
      subst hie
      have n2 : decide ((s.size : Int) < (s.size : Int)) = false := decide_eq_false (by omega)
      obtain ⟨h1, h2⟩ := HT.out.done (fun t ht => (HS.out.all t ht).2.2)
      have HTK := Aside0.mk h2
      have a3 : decide ((a : Int) ≥ (s.size : Int)) = false := decide_eq_false (by omega)
      have a0 : (0 : Int) ≤ (a : Int) := by omega
      have a1 : (a : Int) ≤ (s.size : Int) := by omega
      have HRN : Aside0 (ReadG (wr.alloc (.cells #[.string (s.extract a s.size)] 9)) (some ⟨wr.heap.size, 0, none⟩) 1 1 [.string (s.extract a s.size)]) := ⟨read_newG (us := [.string (s.extract a s.size)]) (by rfl) (by intro u hu; simp only [List.mem_cons, List.not_mem_nil, or_false] at hu; rcases hu with rfl; rfl)⟩
      have a4 : ¬ s.size ≤ a := by omega
      clear h1 h2 hlt
      go_upto_region 11 with (fail)
      go_upto_region 12 with (first | (at_builtin; refine AG.append HE.out rfl (.tmp 41) (.tmp 45) rfl (.inr rfl) (v := .slice (some ⟨g, 0, none⟩) out.length cap) rfl (HA.out.alloc _) (by have := HPW.out; simp; omega) rfl HRN.out (by decide) (by have := HOL.out; omega) ?_; intro v' w5 hp5; have HP5 := Aside0.mk hp5; clear hp5) | fail)
      obtain ⟨g5, cap5, cur5, T5, rfl, hn5, hm5, hgb5, -, -⟩ := HP5.out.row.block
      have hrow : AG S9 w5 P0 1 (.slice (some ⟨g5, 0, none⟩) (tk s).length cap5) (tk s).length ((tk s).map Value.string) := by
        have := HP5.out.row
        rw [HTK.out, List.map_append, List.length_append]
        exact this
      have HROW := Aside0.mk hrow
      have HCAP : Aside0 ((tk s).length ≤ cap5) := ⟨by rw [HTK.out, List.length_append]; exact hn5⟩
      have HLN : Aside0 ((tk s).length = out.length + 1) := ⟨by rw [HTK.out, List.length_append]; rfl⟩
      have HG5 := Aside0.mk hgb5
      have HW5 : Aside0 (Same w w5) := ⟨(HW.out.alloc _).trans HP5.out.fr (fun k hk e => by
        have : g = k := by simpa [Value.ownBlock] using e
        have := HGB.out
        have := HP0.out
        omega)⟩
      have HH5 : Aside0 (Blk w5 L 81 (hdr 0 0 (.pointer (some ⟨xr.1, 0, none⟩)) cnt)) := ⟨HH.out.fr HW5.out (fun h => h)⟩
      rw [← HLN.out]
      clear hrow hn5 hm5 hgb5 a0 a1 a3 a4 n2
      go_wp2_with fail
      refine (rlock_L HH5.out).mono ?_
      rintro e w6 ⟨rfl, hb6, hf6⟩
      have HB6 := Aside0.mk hb6
      have HF6 := Aside0.mk hf6
      have c6 := hb6.cell 6 rfl
      have HX6 : Aside0 (Lx w6 B L K sub (fun _ => False) ex 0 1 cnt nd lv) := ⟨(HX.out.fr HW5.out (fun _ _ h => h)).turn (fun x hx => by rw [HR.out] at hx; injection hx with hx; subst hx; exact hb6) hf6⟩
      have HO6 : Aside0 (Out w6 B ob R) := ⟨(HO.out.fr HW5.out (fun _ _ h => h)).fr hf6 (fun k hk e => by subst e; exact not_of HH5.out.blk (by decide) (by decide) hk)⟩
      have HGO : Aside0 (¬ OF B w6 g5) := ⟨not_of_ag HROW.out HH5.out hf6⟩
      have HANY := ml_calls (tk s).length (w := w6) (p := []) (base := B) (ob := ob) (R := R) (g := g5) (o := 0) (c := cap5) rfl HX6.out.tri HFN.out (fun j t ht => by
        rw [Nat.zero_add]
        have hj := (List.getElem?_eq_some_iff.1 ht).1
        have hr := HROW.out.fr hf6 (fun k hk e => by
          have hgk : g5 = k := by simpa [Value.ownBlock] using hk
          subst hgk
          obtain ⟨g', cap', cur', T', e', q1, q2, q3, q4, q5⟩ := HROW.out.block
          injection e' with e1 _ _
          injection e1 with e1
          injection e1 with e1 _
          subst e1
          rw [e] at q5
          have := q5.symm.trans HH5.out.blk
          injection this with this
          injection this with _ this _
          subst this
          rcases q4 with q4 | q4 <;> exact absurd q4 (by decide))
        rw [hr.cell (by rw [List.length_map]; exact hj)]
        exact strs_get ht) HCAP.out (by have := tk_len s; omega) HGO.out (fun t ht => ⟨(HS.out.all t ht).1, (HS.out.all t ht).2.1, by have := tk_short s t ht; omega⟩) HO6.out (Nat.le_trans (Nat.le_trans HSB.out HW5.out.size) hf6.size) HN.out
      rw [HR.out] at HANY
      have HAN := Aside0.mk HANY
      clear hb6 hf6 HANY
      go_wp2_with fail
      refine HAN.out.mono ?_
      rintro e w7 ⟨rfl, ⟨M, h1, h2, h3⟩, hf⟩
      have HB7 : Aside0 (Blk w7 L 81 (hdr 0 1 (.pointer (some ⟨xr.1, 0, none⟩)) cnt)) := ⟨HB6.out.fr hf (fun e => not_of HB6.out.blk (by decide) (by decide) e)⟩
      have H7 := Aside0.mk (And.intro h1 (And.intro h2 (And.intro h3 hf)))
      clear h1 h2 h3 hf HAN c6
      go_wp2_with fail
      refine leaves_cons (f := 52) (args := #[.pointer (some ⟨L, 0, none⟩)]) (by simp) (by simp [go_sem]) ?_
      refine (runlock_D HB7.out .returning).mono ?_
      rintro e u' w8 ⟨rfl, rfl, hb8, hf8⟩
      refine ⟨_, results_none rfl _ _ _, ?_⟩
      have hLB : B ≤ L := HX6.out.base
      refine ⟨rfl, ⟨M, H7.out.1, fun x => ?_, H7.out.2.2.1.fr hf8 (fun k hk e => ?_)⟩, ?_⟩
      · rw [H7.out.2.1]
        exact ⟨fun e => e.2, fun e => ⟨tk_ne s, e⟩⟩
      · subst e
        exact not_of HB7.out.blk (by decide) (by decide) hk
      · exact (((HW5.out.mono (G := fun k => B ≤ k) (fun _ h => h.elim)).trans HF6.out (fun k _ e => by subst e; exact hLB)).trans H7.out.2.2.2 (fun k _ e => e.1)).trans hf8 (fun k _ e => by subst e; exact hLB)
end
end Go.Proofs.YtimffhpnfdikoaaDoor.Ls
namespace Go.Proofs.YtimffhpnfdikoaaDoor.Ls
open Go.RowKit Go.Maps Go.Proofs.YtimffhpnfdikoaaDoor.Pl Go.Proofs.YtimffhpnfdikoaaDoor.Bs Go.Proofs.YtimffhpnfdikoaaDoorW.PrintWords Go.Proofs.YtimffhpnfdikoaaDoorW.PrintLast Go.Proofs.YtimffhpnfdikoaaDoorW.PrintMore Go.Proofs.YtimffhpnfdikoaaDoor.GFnListKinds Go.Proofs.YtimffhpnfdikoaaDoor.PlFnListKinds
set_option linter.unusedVariables false
set_option linter.unusedSimpArgs false
theorem nodup_le {α : Type} : ∀ {L M : List α}, L.Nodup → (∀ x ∈ L, x ∈ M) → L.length ≤ M.length
  | [], M, _, _ => by simp
  | x :: L, M, hn, hs => by
    obtain ⟨h1, h2⟩ := List.nodup_cons.1 hn
    obtain ⟨a, b, rfl⟩ := List.append_of_mem (hs x (by simp))
    have := nodup_le (L := L) (M := a ++ b) h2 (fun y hy => by
      have hne : y ≠ x := fun e => h1 (e ▸ hy)
      have := hs y (List.mem_cons_of_mem _ hy)
      rcases List.mem_append.1 this with h | h
      · exact List.mem_append_left _ h
      · rcases List.mem_cons.1 h with h | h
        · exact absurd h hne
        · exact List.mem_append_right _ h)
    simp only [List.length_append, List.length_cons] at this ⊢
    omega
/-- The entry that a hit stands for. -/
noncomputable def entOf (sub : Path → Int → Option ByteArray) (x : Path × Int) : S35 := ⟨(sub x.1 x.2).getD ByteArray.empty, x.2⟩
theorem ent_mem {st : LSt} {ss : SSt} (he : Eqv st ss) {x : Path × Int} (h : (st.sub x.1 x.2).isSome = true) : entOf st.sub x ∈ ss.l ∧ x.1 = tk (entOf st.sub x).f0 := by
  obtain ⟨s, hs⟩ := Option.isSome_iff_exists.1 h
  unfold entOf
  rw [hs]
  exact (he.sub _ _ _).1 hs
theorem hits_le {st : LSt} {ss : SSt} (he : Eqv st ss) {M : List (Path × Int)} (hn : M.Nodup) (hs : ∀ x ∈ M, (st.sub x.1 x.2).isSome = true) : M.length ≤ ss.l.length := by
  have h1 : (M.map (entOf st.sub)).Nodup := by
    have : ∀ {M : List (Path × Int)}, M.Nodup → (∀ x ∈ M, (st.sub x.1 x.2).isSome = true) → (M.map (entOf st.sub)).Nodup := by
      intro M
      induction M with
      | nil => intro _ _; exact List.nodup_nil
      | cons x M ih =>
        intro hn hs
        obtain ⟨g1, g2⟩ := List.nodup_cons.1 hn
        rw [List.map_cons, List.nodup_cons]
        refine ⟨fun e => ?_, ih g2 (fun y hy => hs y (List.mem_cons_of_mem _ hy))⟩
        obtain ⟨y, hy, e⟩ := List.mem_map.1 e
        have a1 := (ent_mem he (hs x (by simp))).2
        have a2 := (ent_mem he (hs y (List.mem_cons_of_mem _ hy))).2
        have : y = x := by
          refine Prod.ext ?_ ?_
          · rw [a1, a2, e]
          · have := congrArg S35.f1 e
            exact this
        rw [this] at hy
        exact g1 hy
    exact this hn hs
  have := nodup_le h1 (M := ss.l) (fun e he' => by
    obtain ⟨x, hx, rfl⟩ := List.mem_map.1 he'
    exact (ent_mem he (hs x hx)).1)
  rwa [List.length_map] at this
/-- What ListMatch answers: each hit once. -/
structure LMatchPost (w0 : World) (ds : List S46) (s : ByteArray) (e : Ending) (w' : World) : Prop where
  out : ∃ (v : Value) (M : List (Path × Int)), e = .returned v ∧ w'.ownsRow w0.heap.size 3 1 v (M.map Prod.snd).length ((M.map Prod.snd).map (.int .i64)) ∧ M.Nodup ∧ ∀ x, x ∈ M ↔ InH (runL ds).sub [] (tk s) x
  same : Same w0 w'
section
set_option maxHeartbeats 8000000
set_option maxRecDepth 100000
theorem match44_calls {w : World} {B L K ob : Nat} {sub : Path → Int → Option ByteArray} {ex : Prop} {cnt : Int} {s : ByteArray} {R : List Int} (h : Li w B L K sub ex cnt) (hex : ex) (hok : ∀ q v t, sub q v = some t → okF false q = true) (hs : Lits s) (hO : Out w B ob R) (hN : ∀ M : List (Path × Int), M.Nodup → (∀ x ∈ M, InH sub [] (tk s) x) → R.length + M.length ≤ 900000) :
    Calls Tryd.prog 44 #[.pointer (some ⟨L, 0, none⟩), .string s, cbV ob] w (MatchPost w B ob R sub s) := by
  have HC := Aside0.mk (match_calls h hex hok hs hO hN)
  clear h hex hok hs hO hN
  go_enter Tryd.func44, Tryd.ntmps44
  go_wp2_with fail
  refine HC.out.mono ?_
  rintro e w1 hp
  have he := hp.ret
  subst he
  have HP := Aside0.mk hp
  clear hp
  go_wp2_with fail
  go_end0
  exact HP.out
theorem lmatch_calls {w0 : World} {A0 : Option Addr} {c0 : Nat} {ds : List S46} {s : ByteArray} (hS : Scr w0 A0 ds) (hD : GoodD ds) (hcl : (runL ds).clean = true) (hok : ∀ q v t, (runL ds).sub q v = some t → okF false q = true) (hbd : ∀ M : List (Path × Int), M.Nodup → (∀ x ∈ M, ((runL ds).sub x.1 x.2).isSome = true) → M.length ≤ 900000) (hs : Lits s) : Calls Tryd.prog 24 #[.slice A0 ds.length c0, .string s, .bool false] w0 (LMatchPost w0 ds s) := by
  have HC := Aside0.mk (list_calls (c0 := c0) hS.row hS.gl hD)
  have HCL := Aside0.mk hcl
  have HOK := Aside0.mk hok
  have HBD := Aside0.mk hbd
  have HS := Aside0.mk hs
  clear hS hD hcl hok hbd hs
  go_enter Tryd.func24, Tryd.ntmps24
  go_wp2_with fail
  refine HC.out.mono ?_
  rintro e w1 ⟨⟨L, kv, rfl, hl, ho⟩, hs⟩
  have HL : Aside0 (LiS (w1.alloc (.cells #[.slice none 0 0] 26)) w0.heap.size L 82000 (runL ds)) := ⟨Li.fr hl ((Fr.refl (fun _ => False) w1).alloc _) (fun _ _ h => h)⟩
  have HS1 : Aside0 (Same w0 (w1.alloc (.cells #[.slice none 0 0] 26))) := ⟨hs.alloc _⟩
  have HO1 : Aside0 (Out (w1.alloc (.cells #[.slice none 0 0] 26)) w0.heap.size w1.heap.size []) := ⟨⟨hs.size, _, Blk.new w1 26 [.slice none 0 0], ⟨rfl, .inl ⟨rfl, rfl⟩⟩⟩⟩
  have HM : Aside0 (Calls Tryd.prog 44 #[.pointer (some ⟨L, 0, none⟩), .string s, cbV w1.heap.size] (w1.alloc (.cells #[.slice none 0 0] 26)) (MatchPost (w1.alloc (.cells #[.slice none 0 0] 26)) w0.heap.size w1.heap.size [] (runL ds).sub s)) := ⟨match44_calls HL.out HCL.out HOK.out HS.out HO1.out (fun M h1 h2 => by have := HBD.out M h1 (fun x hx => (h2 x hx).2); simpa using this)⟩
  clear hl ho hs HC
  go_wp2_with fail
  refine HM.out.mono ?_
  rintro e w2 ⟨rfl, ⟨M, h1, h2, h3⟩, hf⟩
  obtain ⟨v, hb, hr⟩ := h3.row
  have cv := hb.cell 0 rfl
  have HP : Aside0 (LMatchPost w0 ds s (.returned v) w2) := ⟨⟨⟨v, M, rfl, hr, h1, h2⟩, same_B HS1.out hf⟩⟩
  have hone : ∀ u ∈ (([] : List Int) ++ M.map Prod.snd).map (Value.int .i64), u.oneCell' = true := ints_one _
  obtain ⟨A', c', hv', -, -⟩ := read_own (w := w2) (W := w2) hr hone
  subst hv'
  have hz : (([] : List Int) ++ M.map Prod.snd).length = M.length := by simp
  rw [hz] at HP
  clear h1 h2 h3 hf hb hr HM hone hz
  go_wp2_with fail
  go_ret
  exact HP.out
end
end Go.Proofs.YtimffhpnfdikoaaDoor.Ls
