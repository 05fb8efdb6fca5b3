/- Trees of subjects: a script plainly; told; rows of what a script answers. Trees of subjects: the walk of a script over a tree. Trees of subjects: impl.tree, TreeRun. -/
import Derived.Test.YtjhmpcbpbdkddaaGreatTfB
import Derived.Test.YtjhmpcbpbdkddaaGreatGFnTreeRunx0
namespace Go.Proofs.YtjhmpcbpbdkddaaGreat.Te
open Go.RowKit Go.Proofs.YtjhmpcbpbdkddaaGreat.Bs Go.Proofs.YtjhmpcbpbdkddaaGreatW.PrintWords Go.Proofs.YtjhmpcbpbdkddaaGreatW.PrintLast Go.Proofs.YtjhmpcbpbdkddaaGreatW.PrintMore Go.Proofs.YtjhmpcbpbdkddaaGreat.GFnTreeRun
set_option linter.unusedVariables false
set_option linter.unusedSimpArgs false
set_option maxRecDepth 100000
/-- What is there: a subject's value. -/
abbrev Mm := BL → Option Int
def Den (es : List Ent) (m : Mm) : Prop := ∀ s v, (s, v) ∈ es ↔ m s = some v
def putM (m : Mm) (s : BL) (v : Int) : Mm := fun x => if x = s then some v else m x
def delM (m : Mm) (s : BL) : Mm := fun x => if x = s then none else m x
def sbj (d : S51) : BL := d.f1.data.toList
def stepM (m : Mm) (d : S51) : Mm := if d.f0 = 0 then putM m (sbj d) d.f2 else delM m (sbj d)
def toldM (m : Mm) (d : S51) : S34 := ⟨(m (sbj d)).isSome, (m (sbj d)).getD 0⟩
structure MSt where
  m : Mm
  told : List S34
def stepS (st : MSt) (d : S51) : MSt := ⟨stepM st.m d, st.told ++ [toldM st.m d]⟩
def runS (m0 : Mm) (ds : List S51) : MSt := ds.foldl stepS ⟨m0, []⟩
theorem runS_take {m0 : Mm} {ds : List S51} {i : Nat} {d : S51} (h : ds[i]? = some d) : runS m0 (ds.take (i + 1)) = stepS (runS m0 (ds.take i)) d := by
  obtain ⟨hi, rfl⟩ := List.getElem?_eq_some_iff.1 h
  unfold runS
  rw [List.take_add_one, List.getElem?_eq_getElem hi, Option.toList_some, List.foldl_append]
  rfl
theorem runS_told (m0 : Mm) (ds : List S51) : (runS m0 ds).told.length = ds.length := by
  have : ∀ (l : List S51) (st : MSt), (l.foldl stepS st).told.length = st.told.length + l.length := by
    intro l
    induction l with
    | nil => intro st; rfl
    | cons d l ih => intro st; rw [List.foldl_cons, ih]; simp [stepS]; omega
  rw [runS, this]
  simp
theorem den_put {es es' : List Ent} {m : Mm} {s : BL} {v : Int} (h : Den es m) (hi : ∀ e, e ∈ es' ↔ e = (s, v) ∨ (e ∈ es ∧ e.1 ≠ s)) : Den es' (putM m s v) := by
  intro x y
  rw [hi]
  unfold putM
  by_cases hx : x = s
  · subst hx
    simp [eq_comm]
  · simp [hx, h x y]
theorem den_del {es es' : List Ent} {m : Mm} {s : BL} (h : Den es m) (hi : ∀ e, e ∈ es' ↔ (e ∈ es ∧ e.1 ≠ s)) : Den es' (delM m s) := by
  intro x y
  rw [hi]
  unfold delM
  by_cases hx : x = s
  · subst hx
    simp
  · simp [hx, h x y]
/-- All subjects of a state are among some. -/
def Among (m : Mm) (L : List BL) : Prop := ∀ s, m s ≠ none → s ∈ L
theorem among_step {m : Mm} {L : List BL} {d : S51} (h : Among m L) (hd : sbj d ∈ L) : Among (stepM m d) L := by
  intro s hs
  unfold stepM at hs
  split at hs
  · unfold putM at hs
    split at hs
    · rename_i e
      rw [e]
      exact hd
    · exact h s hs
  · unfold delM at hs
    split at hs
    · exact absurd rfl hs
    · exact h s hs
theorem among_len {es : List Ent} {m : Mm} {L : List BL} (h : Den es m) (ha : Among m L) (hn : (es.map Prod.fst).Nodup) : es.length ≤ L.length := by
  rw [← List.length_map (f := Prod.fst)]
  refine hn.length_le_of_subset (fun s hs => ?_)
  obtain ⟨e, he, rfl⟩ := List.mem_map.1 hs
  exact ha e.1 (by rw [(h e.1 e.2).1 he]; simp)
theorem nodup_keysO {ot : Option T} (h : ∀ t, ot = some t → t.wf) : ((entsO ot).map Prod.fst).Nodup := by
  cases ot with
  | none => exact List.nodup_nil
  | some t => exact nodup_keys t (h t rfl)
/-! ### told -/
theorem told_calls {w : World} {es : List Ent} {m : Mm} {l : BL} {pr : Option Addr} {up : Bool} (h : WasO w es l pr up) (hm : Den es m) : Calls Tryz.prog 46 #[.pointer pr, .bool up] w fun e w' => e = .returned (.agg #[.bool (m l).isSome, .int .i64 ((m l).getD 0)]) ∧ Same w w' := by
  cases h with
  | new h0 =>
    have hn : m l = none := by
      cases hx : m l with
      | none => rfl
      | some v => exact absurd ((hm l v).2 hx) (h0 v)
    rw [hn]
    go_enter Tryz.func46, Tryz.ntmps46
    go_wp2_with fail
    refine bodyPost_ret (results_cell_row (p := 4) (ty := 34) rfl _ _ w.heap.size 34 #[.bool false, .int .i64 0] (0, 0) _ rfl (heap_alloc_new w _) Tryz.underlying34 rfl (by kernel_rfl)) rfl ?_
    exact ⟨rfl, (Fr.refl _ w).alloc _⟩
  | old v0 h0 a hc =>
    have hn : m l = some v0 := (hm l v0).1 h0
    rw [hn]
    have hc2 : ∀ o, (w.alloc o).cell? a = some (.int .i64 v0) := fun o => ((Fr.refl (fun _ => False) w).alloc o |> fun h => Same.cell h hc)
    go_enter Tryz.func46, Tryz.ntmps46
    go_wp2_with fail
    refine bodyPost_ret (results_cell_row (p := 4) (ty := 34) rfl _ _ w.heap.size 34 #[.bool true, .int .i64 v0] (0, 0) _ rfl (heap_alloc_new w _) Tryz.underlying34 rfl (by kernel_rfl)) rfl ?_
    exact ⟨rfl, (Fr.refl _ w).alloc _⟩
/-! ### rows of what was told -/
def e34 (l : List S34) : List Value := l.flatMap fun e => [.bool e.f0, .int .i64 e.f1]
theorem e34_app (l m : List S34) : e34 (l ++ m) = e34 l ++ e34 m := by simp [e34]
theorem e34_len : ∀ l : List S34, (e34 l).length = l.length * 2
  | [] => rfl
  | a :: l => by
    show (.bool a.f0 :: .int .i64 a.f1 :: e34 l).length = _
    simp [e34_len l]
    omega
theorem e34_one (l : List S34) : ∀ u ∈ e34 l, u.oneCell' = true := by
  intro u hu
  obtain ⟨e, he, hu⟩ := List.mem_flatMap.1 hu
  simp at hu
  rcases hu with rfl | rfl <;> rfl
theorem info34b : (Tryz.prog.info? 34).map (fun i => (i.zero, i.size, i.bytes)) = some (some (.agg #[.bool false, .int .i64 0]), 2, 16) := by kernel_rfl
theorem ek34 : ∃ i, ElemK Tryz.prog 28 34 i (.agg #[.bool false, .int .i64 0]) 2 16 := elem_of Tryz.underlying28 info34b (by rfl) (by decide) (by decide)
end Go.Proofs.YtjhmpcbpbdkddaaGreat.Te
namespace Go.Proofs.YtjhmpcbpbdkddaaGreat.Te
open Go.RowKit Go.Proofs.YtjhmpcbpbdkddaaGreat.Bs Go.Proofs.YtjhmpcbpbdkddaaGreatW.PrintWords Go.Proofs.YtjhmpcbpbdkddaaGreatW.PrintLast Go.Proofs.YtjhmpcbpbdkddaaGreatW.PrintMore Go.Proofs.YtjhmpcbpbdkddaaGreat.GFnTreeRun
set_option linter.unusedVariables false
set_option linter.unusedSimpArgs false
set_option maxRecDepth 100000
theorem rd51_at {L : List S51} {j : Nat} {x : S51} (h : L[j]? = some x) : rd_T51 L (j : Int) = x := by
  unfold rd_T51
  rw [Int.toNat_natCast, List.getD_eq_getElem?_getD, h]
  rfl
theorem conv_c {w : World} (s : ByteArray) (hs : s.size ≤ 1000) : ∃ n c w1, (convert 9 60 (.string s)).run Tryz.prog w = .ok (.slice (some ⟨w.heap.size, 0, none⟩) n c) w1 ∧ n = s.size ∧ n ≤ c ∧ CB w1 (some ⟨w.heap.size, 0, none⟩) n s.data.toList ∧ Same w w1 := by
  obtain ⟨A, c, w1, hrun, hC, hc, -, hB⟩ := Wk.conv_bytes (P := Tryz.prog) (u := .string) (w := w) (w0 := w) (N := w.heap.size) Tryz.underlying9 Tryz.underlying60 Tryz.underlying5 s (by omega) (Nat.le_refl _) (Below.refl _ _)
  have h2 := Lib.run_convert_string_bytes (P := Tryz.prog) w 9 60 5 s Tryz.underlying9 Tryz.underlying60 Tryz.underlying5
  have h3 := hrun.symm.trans h2
  injection h3 with h4 h5
  injection h4 with h6 h7 h8
  subst h6
  exact ⟨s.size, c, w1, hrun, rfl, hc, ⟨rfl, hs, hC⟩, fr_of_below hB⟩
/-- Deeds of which something is said. -/
structure GoodD (ds : List S51) (L : List BL) : Prop where
  len : ds.length ≤ 1000
  all : ∀ d ∈ ds, (d.f0 = 0 ∨ d.f0 = 1) ∧ 0 < d.f1.size ∧ d.f1.size ≤ 1000 ∧ 127 ∉ sbj d ∧ sbj d ∈ L
  few : L.length ≤ 47
  short : ∀ s ∈ L, s.length ≤ 1000
structure GrI (W0 : World) (tb : Nat) (m0 : Mm) (ds : List S51) (L : List BL) (i : Nat) (wr : World) (v : Value) : Prop where
  ex : ∃ ot, Tr wr W0.heap.size tb ot ∧ Den (entsO ot) (runS m0 (ds.take i)).m
  row : wr.ownsRow W0.heap.size 34 2 v i (e34 (runS m0 (ds.take i)).told)
  bel : Below W0.heap.size W0 wr
  among : Among (runS m0 (ds.take i)).m L
theorem below_fr {B : Nat} {F : Nat → Prop} {W0 w w' : World} (h : Below B W0 w) (hf : Fr F w w') (hF : ∀ k, F k → B ≤ k) (hB : B ≤ w.heap.size) : Below B W0 w' :=
  ⟨hf.os.trans h.os, hf.tape.trans h.tape, hf.output.trans h.output, Nat.le_trans h.size hf.size, fun k hk => (hf.block k (by omega) (fun e => by have := hF k e; omega)).trans (h.block k hk)⟩
theorem GrI.same {W0 : World} {tb : Nat} {m0 : Mm} {ds : List S51} {L : List BL} {i : Nat} {w w' : World} {v : Value} (h : GrI W0 tb m0 ds L i w v) (hs : Same w w') : GrI W0 tb m0 ds L i w' v := by
  obtain ⟨ot, h1, h2⟩ := h.ex
  exact ⟨⟨ot, h1.same hs, h2⟩, ownsRow_fr h.row hs (fun _ _ h => h), below_fr h.bel hs (fun k h => h.elim) h.bel.size, h.among⟩
theorem GrI.low {W0 : World} {tb : Nat} {m0 : Mm} {ds : List S51} {L : List BL} {i : Nat} {w : World} {v : Value} (h : GrI W0 tb m0 ds L i w v) : W0.heap.size ≤ w.heap.size := h.bel.size
/-- A deed's subject in a row of its own asks the tree. -/
theorem GrI.subj {W0 : World} {tb : Nat} {m0 : Mm} {ds : List S51} {L : List BL} {i : Nat} {w w3 : World} {v : Value} (h : GrI W0 tb m0 ds L i w v) (hD : GoodD ds L) {d : S51} (hd : d ∈ ds) (hs : Same w w3) {n c : Nat} (hn : n = d.f1.size) (hc : n ≤ c) (hb : CB w3 (some ⟨w.heap.size, 0, none⟩) n (sbj d)) :
    ∃ ot, Subj w3 W0.heap.size tb ot w.heap.size n c (sbj d) ∧ Den (entsO ot) (runS m0 (ds.take i)).m := by
  obtain ⟨ot, h1, h2⟩ := h.ex
  obtain ⟨a1, a2, a3, a4, a5⟩ := hD.all d hd
  have hlen := among_len h2 h.among (nodup_keysO h1.wf)
  refine ⟨ot, ⟨h1.same hs, hb, hc, by omega, a4, ⟨fun e => ?_, fun hm => ?_⟩, by have := hD.few; omega, fun e he => hD.short _ (h.among _ (by rw [(h2 e.1 e.2).1 he]; simp)), by have := hs.size; have := h.low; omega⟩, h2⟩
  · have := h1.hd.lt
    omega
  · have := h1.lies _ hm
    omega
theorem row_kept {w w' : World} {B tb base n : Nat} {ot : Option T} {v : Value} {xs : List Value} (h : Tr w B tb ot) (ho : w.ownsRow base 34 2 v n xs) (hf : Fr (fun k => k = tb ∨ k ∈ idsO ot) w w') : w'.ownsRow base 34 2 v n xs :=
  ownsRow_block ho (fun k hk => hf.block k (own_base ho hk).2 (fun e => by
    obtain ⟨a, b⟩ := h.apart (.inl rfl) ho hk
    exact e.elim a b))
/-- A round's end. -/
theorem GrI.next {W0 : World} {tb : Nat} {m0 : Mm} {ds : List S51} {L : List BL} {i : Nat} {d : S51} (hd : ds[i]? = some d) (hL : sbj d ∈ L) {w w6 w7 : World} {v v' : Value} (h : GrI W0 tb m0 ds L i w v) {ot ot' : Option T}
    (hd0 : Den (entsO ot) (runS m0 (ds.take i)).m) (ht : Tr w6 W0.heap.size tb ot') (hden : Den (entsO ot') (stepM (runS m0 (ds.take i)).m d)) (hrow6 : w6.ownsRow W0.heap.size 34 2 v i (e34 (runS m0 (ds.take i)).told)) (hb6 : Below W0.heap.size W0 w6)
    (ho : w7.ownsRow W0.heap.size 34 2 v' (i + 1) (e34 (runS m0 (ds.take i)).told ++ [.bool (toldM (runS m0 (ds.take i)).m d).f0, .int .i64 (toldM (runS m0 (ds.take i)).m d).f1])) (hg : (w6.alloc (.cells #[.bool (toldM (runS m0 (ds.take i)).m d).f0, .int .i64 (toldM (runS m0 (ds.take i)).m d).f1] 34)).grownBy w7 v.ownBlock) :
    GrI W0 tb m0 ds L (i + 1) w7 v' := by
  have hgr : Fr (fun k => v.ownBlock = some k) w6 w7 := ((Fr.refl _ w6).alloc _).trans (Fr.grown hg) (fun _ _ h => h)
  refine ⟨⟨ot', ht.fr hgr (fun e => (ht.apart (.inl rfl) hrow6 e).1 rfl) (fun x hx e => (ht.apart (.inl rfl) hrow6 e).2 hx), by rw [runS_take hd]; exact hden⟩, ?_, below_fr hb6 hgr (fun k e => (own_base hrow6 e).1) (by have := hb6.size; omega), by rw [runS_take hd]; exact among_step h.among hL⟩
  rw [runS_take hd]
  show w7.ownsRow W0.heap.size 34 2 v' (i + 1) (e34 ((runS m0 (ds.take i)).told ++ [toldM (runS m0 (ds.take i)).m d]))
  rw [e34_app]
  exact ho
section
set_option maxHeartbeats 8000000
theorem grow_walk {W0 w0 : World} {tb : Nat} {m0 : Mm} {A0 : Option Addr} {c0 : Nat} {ds : List S51} {L : List BL} (hT : Kd.C k51 W0 A0 ds.length ds) (hD : GoodD ds L) {ot0 : Option T} (ht0 : Tr w0 W0.heap.size tb ot0) (hd0 : Den (entsO ot0) m0) (ha0 : Among m0 L) (hb0 : Below W0.heap.size W0 w0) :
    Calls Tryz.prog 29 #[.pointer (some ⟨tb, 0, none⟩), .slice A0 ds.length c0] w0 fun e w' => ∃ v, e = .returned v ∧ GrI W0 tb m0 ds L ds.length w' v := by
  obtain ⟨i34, hK34⟩ := ek34
  have HK34 := Aside0.mk hK34
  have HT := Aside0.mk hT
  have HD := Aside0.mk hD
  have HG0 : Aside0 (GrI W0 tb m0 ds L 0 w0 (.slice none 0 0)) := ⟨⟨ot0, ht0, hd0⟩, ⟨rfl, .inl ⟨rfl, rfl⟩⟩, hb0, ha0⟩
  clear hK34 hT hD ht0 hd0 ha0 hb0
  go_enter Tryz.func29, Tryz.ntmps29
  go_wp2_with fail
  go_loopg [5, 6] ds.length (fun kq v5 v6 wr => ∃ (i : Nat), v6 = .int .i64 (i : Int) ∧ Aside0 (kq + i = ds.length ∧ i ≤ ds.length) ∧ Aside0 (GrI W0 tb m0 ds L i wr v5))
  case atStart => exact ⟨0, rfl, ⟨by omega⟩, HG0⟩
  case round =>
    clear HG0
    obtain ⟨i, rfl, HI, HR⟩ := hrel
    have i0 : (0 : Int) ≤ (i : Int) := by omega
    by_cases hlt : i < ds.length
    · have i1 : (i : Int) < (ds.length : Int) := by omega
      have i2 : decide ((i : Int) < (ds.length : Int)) = true := decide_eq_true i1
      have i5 : IntKind.i64.wrap ((i : Int) + 1) = ((i + 1 : Nat) : Int) := by rw [IntKind.wrap_i64]; have := HI.out; have := HD.out.len; omega
      obtain ⟨d, ht⟩ : ∃ d, ds[i]? = some d := ⟨_, List.getElem?_eq_getElem hlt⟩
      have HTI := Aside0.mk ht
      have HDD := Aside0.mk (HD.out.all d (List.mem_of_getElem? ht))
      have HIK : Aside0 (i + 1 ≤ ds.length ∧ ds.length ≤ 1000) := ⟨by have := HD.out.len; omega⟩
      obtain ⟨ad, rfl, t0, t1, t2⟩ := at_T51 (Kd.C_below HT.out HR.out.bel) (i : Int) (by omega) (by omega)
      rw [Int.toNat_natCast, rd51_at HTI.out] at t0 t1 t2
      clear ht
      go_upto_region 6 with (fail)
      have HB1 : Aside0 (Blk (wr.alloc (.cells #[.int .i64 d.f0, .string d.f1, .int .i64 d.f2] 51)) wr.heap.size 51 [.int .i64 d.f0, .string d.f1, .int .i64 d.f2]) := ⟨Blk.new _ _ _⟩
      have HS1 : Aside0 (Same wr (wr.alloc (.cells #[.int .i64 d.f0, .string d.f1, .int .i64 d.f2] 51))) := ⟨(Fr.refl _ _).alloc _⟩
      generalize wr.alloc (.cells #[.int .i64 d.f0, .string d.f1, .int .i64 d.f2] 51) = w2 at HB1 HS1 ⊢
      generalize htb : wr.heap.size = bx at HB1 ⊢
      have HR2 : Aside0 (GrI W0 tb m0 ds L i w2 u5) := ⟨HR.out.same HS1.out⟩
      have c0' := HB1.out.cell 0 rfl
      have c1' := HB1.out.cell 1 rfl
      have c2' := HB1.out.cell 2 rfl
      clear t0 t1 t2 htb hlt i0 i1 i2 HB1
      by_cases z0 : d.f0 = 0
      · have y0 : (d.f0 == 0) = true := by simpa using z0
        have HZ := Aside0.mk z0
        clear z0
        obtain ⟨n, c, w3, hrun, hn, hc, hcb, hs3⟩ := conv_c (w := w2) d.f1 HDD.out.2.2.1
        have HSU := Aside0.mk (HR2.out.subj HD.out (List.mem_of_getElem? HTI.out) hs3 hn hc hcb)
        have HR3 := Aside0.mk (HR2.out.same hs3)
        have HS3 := Aside0.mk hs3
        have d2' := hs3.cell c2'
        clear hn hc hcb hs3
        go_wp2_with fail
        obtain ⟨ot, hsu, hden⟩ := HSU.out
        have HSB := Aside0.mk (And.intro hsu hden)
        clear hsu hden HSU
        refine (Insert_calls HSB.out.1 d.f2).mono ?_
        rintro e w4 ⟨⟨ot', pr, up, rfl, h1, h2, h3, h4⟩⟩
        have HP := Aside0.mk (And.intro h1 (And.intro h2 h3))
        have HW := Aside0.mk h4
        clear h1 h2 h3 h4 hrun
        go_wp2_with fail
        refine (told_calls HW.out HSB.out.2).mono ?_
        rintro e w5 ⟨rfl, hs5⟩
        have HROW4 : Aside0 (w4.ownsRow W0.heap.size 34 2 u5 i (e34 (runS m0 (ds.take i)).told)) := ⟨row_kept HSB.out.1.tr HR3.out.row HP.out.2.2⟩
        have HROW5 : Aside0 (w5.ownsRow W0.heap.size 34 2 u5 i (e34 (runS m0 (ds.take i)).told)) := ⟨ownsRow_fr HROW4.out hs5 (fun _ _ h => h)⟩
        have HT5 : Aside0 (Tr w5 W0.heap.size tb ot') := ⟨HP.out.1.same hs5⟩
        have HB5 : Aside0 (Below W0.heap.size W0 w5) := ⟨below_fr (below_fr HR3.out.bel HP.out.2.2 (fun k e => by
          rcases e with e | e
          · rw [e]; exact HSB.out.1.tr.base.1
          · exact HSB.out.1.tr.base.2 k e) HR3.out.low) hs5 (fun k h => h.elim) (by have := HP.out.2.2.size; have := HR3.out.low; omega)⟩
        have HDEN : Aside0 (Den (entsO ot') (stepM (runS m0 (ds.take i)).m d)) := ⟨by unfold stepM; rw [if_pos HZ.out]; exact den_put HSB.out.2 HP.out.2.1⟩
        obtain ⟨tw, htw⟩ : ∃ tw, tw = (toldM (runS m0 (ds.take i)).m d).f0 := ⟨_, rfl⟩
        obtain ⟨tv, htv⟩ : ∃ tv, tv = (toldM (runS m0 (ds.take i)).m d).f1 := ⟨_, rfl⟩
        have hw1 : ((runS m0 (ds.take i)).m (sbj d)).isSome = tw := htw.symm
        have hw2 : ((runS m0 (ds.take i)).m (sbj d)).getD 0 = tv := htv.symm
        rw [hw1, hw2]
        have HTW := Aside0.mk (And.intro htw htv)
        clear hs5 hw1 hw2 htw htv
        have HRN : Aside0 (ReadG (w5.alloc (.cells #[.bool tw, .int .i64 tv] 34)) (some ⟨w5.heap.size, 0, none⟩) 1 2 [.bool tw, .int .i64 tv]) := ⟨read_newG (us := [.bool tw, .int .i64 tv]) (by rfl) (by intro u hu; simp only [List.mem_cons, List.not_mem_nil, or_false] at hu; rcases hu with rfl | rfl <;> rfl)⟩
        go_wp2_with (first | (at_builtin; refine wpList_ownG HK34.out rfl _ _ rfl (v := u5) (xs := e34 (runS m0 (ds.take i)).told) (ys := [.bool tw, .int .i64 tv]) rfl (HROW5.out.alloc _) (by have := HB5.out.size; simp; omega) rfl HRN.out (by have := HIK.out; omega) ?_; intro v' w7 ho hg hat; have HO7 := Aside0.mk ho; have HG7 := Aside0.mk hg; clear ho hg hat) | fail)
        go_roundg (ds.length - (i + 1))
        case measure => have := HI.out; have := HIK.out; omega
        case rel => exact ⟨i + 1, by first | rfl | go_num, ⟨by have := HIK.out; omega⟩, ⟨HR.out.next HTI.out HDD.out.2.2.2.2 HSB.out.2 HT5.out HDEN.out HROW5.out HB5.out (by rw [← HTW.out.1, ← HTW.out.2]; exact HO7.out) (by rw [← HTW.out.1, ← HTW.out.2]; exact HG7.out)⟩⟩
      · have y0 : (d.f0 == 0) = false := by simpa using z0
        have y1 : (d.f0 == 1) = true := by simpa using HDD.out.1.resolve_left z0
        have HZ := Aside0.mk z0
        clear z0
        obtain ⟨n, c, w3, hrun, hn, hc, hcb, hs3⟩ := conv_c (w := w2) d.f1 HDD.out.2.2.1
        have HSU := Aside0.mk (HR2.out.subj HD.out (List.mem_of_getElem? HTI.out) hs3 hn hc hcb)
        have HR3 := Aside0.mk (HR2.out.same hs3)
        have HS3 := Aside0.mk hs3
        have d2' := hs3.cell c2'
        clear hn hc hcb hs3
        go_wp2_with fail
        obtain ⟨ot, hsu, hden⟩ := HSU.out
        have HSB := Aside0.mk (And.intro hsu hden)
        clear hsu hden HSU
        refine (Delete_calls HSB.out.1).mono ?_
        rintro e w4 ⟨⟨ot', pr, up, rfl, h1, h2, h3, h4⟩⟩
        have HP := Aside0.mk (And.intro h1 (And.intro h2 h3))
        have HW := Aside0.mk h4
        clear h1 h2 h3 h4 hrun
        go_wp2_with fail
        refine (told_calls HW.out HSB.out.2).mono ?_
        rintro e w5 ⟨rfl, hs5⟩
        have HROW4 : Aside0 (w4.ownsRow W0.heap.size 34 2 u5 i (e34 (runS m0 (ds.take i)).told)) := ⟨row_kept HSB.out.1.tr HR3.out.row HP.out.2.2⟩
        have HROW5 : Aside0 (w5.ownsRow W0.heap.size 34 2 u5 i (e34 (runS m0 (ds.take i)).told)) := ⟨ownsRow_fr HROW4.out hs5 (fun _ _ h => h)⟩
        have HT5 : Aside0 (Tr w5 W0.heap.size tb ot') := ⟨HP.out.1.same hs5⟩
        have HB5 : Aside0 (Below W0.heap.size W0 w5) := ⟨below_fr (below_fr HR3.out.bel HP.out.2.2 (fun k e => by
          rcases e with e | e
          · rw [e]; exact HSB.out.1.tr.base.1
          · exact HSB.out.1.tr.base.2 k e) HR3.out.low) hs5 (fun k h => h.elim) (by have := HP.out.2.2.size; have := HR3.out.low; omega)⟩
        have HDEN : Aside0 (Den (entsO ot') (stepM (runS m0 (ds.take i)).m d)) := ⟨by unfold stepM; rw [if_neg HZ.out]; exact den_del HSB.out.2 HP.out.2.1⟩
        obtain ⟨tw, htw⟩ : ∃ tw, tw = (toldM (runS m0 (ds.take i)).m d).f0 := ⟨_, rfl⟩
        obtain ⟨tv, htv⟩ : ∃ tv, tv = (toldM (runS m0 (ds.take i)).m d).f1 := ⟨_, rfl⟩
        have hw1 : ((runS m0 (ds.take i)).m (sbj d)).isSome = tw := htw.symm
        have hw2 : ((runS m0 (ds.take i)).m (sbj d)).getD 0 = tv := htv.symm
        rw [hw1, hw2]
        have HTW := Aside0.mk (And.intro htw htv)
        clear hs5 hw1 hw2 htw htv
        have HRN : Aside0 (ReadG (w5.alloc (.cells #[.bool tw, .int .i64 tv] 34)) (some ⟨w5.heap.size, 0, none⟩) 1 2 [.bool tw, .int .i64 tv]) := ⟨read_newG (us := [.bool tw, .int .i64 tv]) (by rfl) (by intro u hu; simp only [List.mem_cons, List.not_mem_nil, or_false] at hu; rcases hu with rfl | rfl <;> rfl)⟩
        go_wp2_with (first | (at_builtin; refine wpList_ownG HK34.out rfl _ _ rfl (v := u5) (xs := e34 (runS m0 (ds.take i)).told) (ys := [.bool tw, .int .i64 tv]) rfl (HROW5.out.alloc _) (by have := HB5.out.size; simp; omega) rfl HRN.out (by have := HIK.out; omega) ?_; intro v' w7 ho hg hat; have HO7 := Aside0.mk ho; have HG7 := Aside0.mk hg; clear ho hg hat) | fail)
        go_roundg (ds.length - (i + 1))
        case measure => have := HI.out; have := HIK.out; omega
        case rel => exact ⟨i + 1, by first | rfl | go_num, ⟨by have := HIK.out; omega⟩, ⟨HR.out.next HTI.out HDD.out.2.2.2.2 HSB.out.2 HT5.out HDEN.out HROW5.out HB5.out (by rw [← HTW.out.1, ← HTW.out.2]; exact HO7.out) (by rw [← HTW.out.1, ← HTW.out.2]; exact HG7.out)⟩⟩
    · have i1 : ¬ ((i : Int) < (ds.length : Int)) := by omega
      obtain rfl : i = ds.length := by have := HI.out; omega
      go_wp2
      go_ret
      exact ⟨_, rfl, HR.out⟩
end
end Go.Proofs.YtjhmpcbpbdkddaaGreat.Te
namespace Go.Proofs.YtjhmpcbpbdkddaaGreat.Te
open Go.RowKit Go.Proofs.YtjhmpcbpbdkddaaGreat.Bs Go.Proofs.YtjhmpcbpbdkddaaGreatW.PrintWords Go.Proofs.YtjhmpcbpbdkddaaGreatW.PrintLast Go.Proofs.YtjhmpcbpbdkddaaGreatW.PrintMore Go.Proofs.YtjhmpcbpbdkddaaGreat.GFnTreeRun
set_option linter.unusedVariables false
set_option linter.unusedSimpArgs false
set_option maxRecDepth 100000
def m00 : Mm := fun _ => none
theorem grow_new {w w1 : World} {A0 : Option Addr} {c0 : Nat} {ds : List S51} {L : List BL} (hT : Kd.C k51 w A0 ds.length ds) (hD : GoodD ds L) (h1 : Tr w1 w.heap.size w.heap.size none) (hs : Same w w1) :
    Calls Tryz.prog 29 #[.pointer (some ⟨w.heap.size, 0, none⟩), .slice A0 ds.length c0] w1 fun e w' => ∃ v, e = .returned v ∧ GrI w w.heap.size m00 ds L ds.length w' v :=
  grow_walk hT hD h1 (fun s v => by simp [entsO, m00]) (fun s h => absurd rfl h) (below_of_fr hs)
/-- A tree that a script made. -/
structure TreeIs (w w' : World) (tb : Nat) (ds : List S51) : Prop where
  ex : ∃ ot, Tr w' w.heap.size tb ot ∧ Den (entsO ot) (runS m00 ds).m
  same : Same w w'
theorem GrI.whole {w w' : World} {tb : Nat} {ds : List S51} {L : List BL} {v : Value} (h : GrI w tb m00 ds L ds.length w' v) : TreeIs w w' tb ds ∧ w'.ownsRow w.heap.size 34 2 v ds.length (e34 (runS m00 ds).told) := by
  have e : ds.take ds.length = ds := List.take_of_length_le (Nat.le_refl _)
  obtain ⟨ot, h1, h2⟩ := h.ex
  have h3 := h.row
  rw [e] at h2 h3
  exact ⟨⟨⟨ot, h1, h2⟩, fr_of_below h.bel⟩, h3⟩
theorem tree_calls {w : World} {A0 : Option Addr} {c0 : Nat} {ds : List S51} {L : List BL} (hT : Kd.C k51 w A0 ds.length ds) (hD : GoodD ds L) : Calls Tryz.prog 31 #[.slice A0 ds.length c0] w fun e w' => e = .returned (.pointer (some ⟨w.heap.size, 0, none⟩)) ∧ TreeIs w w' w.heap.size ds := by
  have HT := Aside0.mk (And.intro hT hD)
  clear hT hD
  go_enter Tryz.func31, Tryz.ntmps31
  go_wp2_with fail
  refine new_calls.mono ?_
  rintro e w1 ⟨rfl, h1, hs1⟩
  have HN := Aside0.mk (And.intro h1 hs1)
  clear h1 hs1
  go_wp2_with fail
  refine (grow_new HT.out.1 HT.out.2 HN.out.1 HN.out.2).mono ?_
  rintro e w2 ⟨v, rfl, hg⟩
  have HG := Aside0.mk hg.whole
  clear hg
  go_wp2_with fail
  go_ret
  exact ⟨rfl, HG.out.1⟩
/-- What TreeRun answers. -/
structure RunPost (w : World) (ds : List S51) (e : Ending) (w' : World) : Prop where
  out : ∃ v es, e = .returned (.tuple #[v, .int .i64 ((es.length : Nat) : Int)]) ∧ w'.ownsRow w.heap.size 34 2 v ds.length (e34 (runS m00 ds).told) ∧ Den es (runS m00 ds).m ∧ (es.map Prod.fst).Nodup
  same : Same w w'
theorem run_calls {w : World} {A0 : Option Addr} {c0 : Nat} {ds : List S51} {L : List BL} (hT : Kd.C k51 w A0 ds.length ds) (hD : GoodD ds L) : Calls Tryz.prog 13 #[.slice A0 ds.length c0] w (RunPost w ds) := by
  have HT := Aside0.mk (And.intro hT hD)
  clear hT hD
  go_enter Tryz.func13, Tryz.ntmps13
  go_wp2_with fail
  refine new_calls.mono ?_
  rintro e w1 ⟨rfl, h1, hs1⟩
  have HN := Aside0.mk (And.intro h1 hs1)
  clear h1 hs1
  go_wp2_with fail
  refine (grow_new HT.out.1 HT.out.2 HN.out.1 HN.out.2).mono ?_
  rintro e w2 ⟨v, rfl, hg⟩
  have HG := Aside0.mk hg.whole
  clear hg
  obtain ⟨ot, h1, h2⟩ := HG.out.1.ex
  have HO := Aside0.mk (And.intro h1 h2)
  clear h1 h2
  go_wp2_with fail
  refine (size_calls HO.out.1).mono ?_
  rintro e w' ⟨rfl, hw'⟩
  subst w'
  obtain ⟨z, hz⟩ : ∃ z, z = (entsO ot).length := ⟨_, rfl⟩
  rw [← hz]
  have HZ := Aside0.mk hz
  clear hz
  go_wp2_with fail
  refine bodyPost_ret (results_list (rs := [.tmp 2, .tmp 3]) rfl (by simp) (.tmp (.tmp .nil))) rfl ?_
  exact ⟨⟨v, entsO ot, by rw [← HZ.out]; rfl, HG.out.2, HO.out.2, nodup_keysO HO.out.1.wf⟩, HG.out.1.same⟩
end Go.Proofs.YtjhmpcbpbdkddaaGreat.Te
