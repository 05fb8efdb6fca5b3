/- Values that are handed to a callback: the callback of ListMatch, callbacksForResults. matchLevel: what it hands to its callback, plainly. The walk of matchLevel. -/
import Derived.Test.YtimffhpnfdikoaaDoorLsHa
namespace Go.Proofs.YtimffhpnfdikoaaDoor.Ls
open Go.RowKit Go.Maps Go.Proofs.YtimffhpnfdikoaaDoor.Pl Go.Proofs.YtimffhpnfdikoaaDoor.Bs Go.Proofs.YtimffhpnfdikoaaDoorW.PrintWords Go.Proofs.YtimffhpnfdikoaaDoorW.PrintLast Go.Proofs.YtimffhpnfdikoaaDoorW.PrintMore Go.Proofs.YtimffhpnfdikoaaDoor.GFnListKinds Go.Proofs.YtimffhpnfdikoaaDoor.PlFnListKinds
set_option linter.unusedVariables false
set_option linter.unusedSimpArgs false
/-- The kinds of blocks of what is gathered. -/
def OKd (w : World) (k : Nat) : Prop := ∃ cs T z, w.heap[k]? = some (.cells cs T z) ∧ (T = 3 ∨ T = 26)
def OF (base : Nat) (w : World) (k : Nat) : Prop := base ≤ k ∧ OKd w k
theorem of_trans {base : Nat} {w w1 w2 : World} (h : Fr (OF base w) w w1) (h2 : Fr (OF base w1) w1 w2) : Fr (OF base w) w w2 := by
  refine h.trans h2 (fun k hk hf => ?_)
  by_cases hn : OF base w k
  · exact hn
  · have e := h.block k hk hn
    refine ⟨hf.1, ?_⟩
    have h3 := hf.2
    unfold OKd at h3 ⊢
    rw [e] at h3
    exact h3
theorem fr_of {base : Nat} {w w1 : World} {F : Nat → Prop} (h : Fr F w w1) (hF : ∀ k, k < w.heap.size → F k → OF base w k) : Fr (OF base w) w w1 := ⟨h.os, h.tape, h.output, h.size, fun k hk hn => h.block k hk (fun hf => hn (hF k hk hf))⟩
theorem wk_of {base B : Nat} {w : World} {k : Nat} (h : WF B w k) : ¬ OF base w k := by
  rintro ⟨_, cs, T, z, e, hT⟩
  rcases hT with rfl | rfl
  · exact not_wk e (by decide) (by decide) (by decide) h.2
  · exact not_wk e (by decide) (by decide) (by decide) h.2
theorem not_of {base : Nat} {w : World} {k : Nat} {T : TypeId} {cs : Array Value} {z : Nat × Nat} (h : w.heap[k]? = some (.cells cs T z)) (h1 : T ≠ 3) (h2 : T ≠ 26) : ¬ OF base w k := by
  rintro ⟨_, cs', T', z', e, hT⟩
  rw [h] at e
  injection e with e
  injection e with _ e _
  subst e
  rcases hT with hT | hT
  · exact h1 hT
  · exact h2 hT
structure Out (w : World) (base ob : Nat) (R : List Int) : Prop where
  lo : base ≤ ob
  row : ∃ v, Blk w ob 26 [v] ∧ w.ownsRow base 3 1 v R.length (R.map (.int .i64))
theorem Out.fr {w w1 : World} {base ob : Nat} {R : List Int} {F : Nat → Prop} (h : Out w base ob R) (hf : Fr F w w1) (hF : ∀ k, OF base w k → ¬ F k) : Out w1 base ob R := by
  obtain ⟨v, hb, ho⟩ := h.row
  refine ⟨h.lo, v, hb.fr hf (hF ob ⟨h.lo, _, _, _, hb.blk, .inr rfl⟩), ownsRow_block ho (fun k hk => ?_)⟩
  have hbase := own_base ho hk
  refine hf.block k hbase.2 (hF k ⟨hbase.1, ?_⟩)
  rcases ho.2 with ⟨rfl, -⟩ | ⟨g, cap, cur, rfl, hb', hgg, -⟩
  · cases hk
  · have : g = k := by simpa [Value.ownBlock] using hk
    subst this
    exact ⟨_, _, _, hgg, .inl rfl⟩
theorem own_ne_blk {w : World} {base e size n b : Nat} {v : Value} {xs cs : List Value} {T : TypeId} (h : w.ownsRow base e size v n xs) (hB : Blk w b T cs) (hT : e ≠ T) (hk : v.ownBlock = some b) : False := by
  rcases h.2 with ⟨rfl, -⟩ | ⟨g, cap, cur, rfl, hb', hgg, -⟩
  · cases hk
  · have : g = b := by simpa [Value.ownBlock] using hk
    subst this
    rw [hB.blk] at hgg
    injection hgg with hgg
    injection hgg with _ hgg _
    exact hT hgg.symm
/-- What a callback leaves. -/
structure CbPost (w : World) (base ob : Nat) (R L : List Int) (e : Ending) (w' : World) : Prop where
  ret : e = .returned (.tuple #[])
  out : Out w' base ob (R ++ L)
  fr : Fr (OF base w) w w'
section
set_option maxHeartbeats 8000000
set_option maxRecDepth 100000
theorem cb_calls {w : World} {base ob : Nat} {R : List Int} {z : Int} (h : Out w base ob R) (hb : base ≤ w.heap.size) (hR : R.length ≤ 900000) : Calls Tryd.prog 45 #[.int .i64 z, .pointer (some ⟨ob, 0, none⟩)] w (CbPost w base ob R [z]) := by
  obtain ⟨i3, hK3⟩ := ek3
  have HK3 := Aside0.mk hK3
  obtain ⟨v, hB, ho⟩ := h.row
  have HO := Aside0.mk h
  have HB := Aside0.mk hB
  have HOW := Aside0.mk ho
  have HBS := Aside0.mk hb
  have HRL := Aside0.mk hR
  have c0 := hB.cell 0 rfl
  have HRN : Aside0 (ReadG (w.alloc (.cells #[.int .i64 z] 3)) (some ⟨w.heap.size, 0, none⟩) 1 1 [.int .i64 z]) := ⟨read_newG (us := [.int .i64 z]) (by rfl) (by intro u hu; simp only [List.mem_cons, List.not_mem_nil, or_false] at hu; rcases hu with rfl; rfl)⟩
  have HONE : Aside0 (∀ u ∈ R.map (Value.int .i64) ++ [.int .i64 z], u.oneCell' = true) := ⟨fun u hu => by
    rcases List.mem_append.1 hu with hu | hu
    · exact ints_one R u hu
    · rw [List.mem_singleton.1 hu]; rfl⟩
  clear hK3 h hB ho hb hR
  go_enter Tryd.func45, Tryd.ntmps45
  go_upto_region 0 with (fail)
  go_wp2_with (first | (at_builtin; refine wpList_ownG HK3.out rfl (.tmp 3) (.tmp 5) rfl (v := v) (n := R.length) (m := 1) (xs := R.map (.int .i64)) (ys := [.int .i64 z]) rfl (HOW.out.alloc _) (Nat.le_trans HBS.out (by simp)) rfl HRN.out (by have := HRL.out; omega) ?_; intro v' w7 ho hg hat; obtain ⟨A', c', hv', hl', -⟩ := read_own (w := w7) (W := w7) ho HONE.out; subst hv'; have HO7 := Aside0.mk ho; have HG7 := Aside0.mk hg; clear ho hg hat hl'; have hB7 : Blk w7 ob 26 [v] := (HB.out.alloc _).fr (Fr.grown HG7.out) (fun e => own_ne_blk HOW.out HB.out (by decide) e); have z7 := hB7.free 0; have q7 := hB7.cell 0 rfl; have HB7 := Aside0.mk hB7; clear hB7) | fail)
  go_end0
  have hf7 : Fr (OF base w) w w7 := ((Fr.refl (OF base w) w).alloc _).trans (Fr.grown HG7.out) (fun k hk e => by
    have hbase := own_base HOW.out e
    refine ⟨hbase.1, ?_⟩
    rcases HOW.out.2 with ⟨rfl, -⟩ | ⟨g, cap, cur, rfl, hb', hgg, -⟩
    · cases e
    · have : g = k := by simpa [Value.ownBlock] using e
      subst this
      exact ⟨_, _, _, hgg, .inl rfl⟩)
  refine ⟨rfl, ⟨HO.out.lo, _, HB7.out.set 0 (by simp) _, ?_⟩, hf7.trans (fr_set1 (F := fun k => k = ob) (Fr.refl _ w7) rfl _) (fun k hk e => ?_)⟩
  · have h1 : w7.ownsRow base 3 1 (.slice A' (R.length + 1) c') (R ++ [z]).length ((R ++ [z]).map (.int .i64)) := by
      rw [List.map_append, List.length_append]
      exact HO7.out
    refine ownsRow_block h1 (fun k hk => ?_)
    refine (fr_set1 (F := fun k => k = ob) (Fr.refl _ w7) rfl (.slice A' (R.length + 1) c')).block k (own_base h1 hk).2 (fun e => ?_)
    subst e
    exact own_ne_blk h1 HB7.out (by decide) hk
  · subst e
    exact ⟨HO.out.lo, _, _, _, HB.out.blk, .inr rfl⟩
end
theorem wpList_callfg {P : Program} {ops : Array Oper} {rest : List Oper} {op : Oper} {a : Act} {w : World} {Q : Exit → Act → World → Prop} (hgd : Region.wanted op (yielded ops a.tmps) = true) (c : Call) (ho : op.op = .call c) (x : Operand) (hc : c.callee = .value x) {f : FuncId} {cap us : Array Value} (hx : a.eval x = .func (.func f) #[] cap) (hu : c.args.map a.eval = us)
    (hcall : ∀ vs W, (callFunc f vs).run P W = .ok (.enter f vs) W)
    (h : Calls P f (us ++ cap) w (fun e w' => match e with | .returned v => wpList P ops Q rest (a.put op.dst v) w' | .panicked ch => Q (.panic ch) a w' | .outgrown => LetsOut Q)) : wpList P ops Q (op :: rest) a w := by
  subst hu
  refine wpList_step fun K hK => ?_
  rw [if_pos hgd]
  unfold Oper.wp execOp
  simp only [ho, resolve, hc, hx, Deferred.ofValue, Sem.run_bind, Sem.run_pure, Result.andThen_ok, invoke, hcall, Array.empty_append]
  show Oper.upon P op a K Q (.ok (.enter f _) w)
  simp only [Oper.upon]
  refine h.mono fun e w' he => ?_
  cases e with
  | returned v => exact hK _ _ he
  | panicked ch => exact he
  | outgrown => exact he
theorem of_iter {base : Nat} {w : World} {k : Nat} (h : ∃ a b c d, w.heap[k]? = some (.mapIter a b c d)) : ¬ OF base w k := by
  rintro ⟨_, cs, T, z, e, _⟩
  obtain ⟨a, b, c, d, h⟩ := h
  rw [h] at e
  cases e
theorem of_map {base : Nat} {w : World} {k : Nat} (h : ∃ es c, w.heap[k]? = some (.map es c)) : ¬ OF base w k := by
  rintro ⟨_, cs, T, z, e, _⟩
  obtain ⟨es, c, h⟩ := h
  rw [h] at e
  cases e
section
set_option maxHeartbeats 8000000
set_option maxRecDepth 100000
/-- All values of a node. -/
structure CbsPost (w : World) (base ob : Nat) (R : List Int) (m : Int → Option ByteArray) (e : Ending) (w' : World) : Prop where
  ret : e = .returned (.tuple #[])
  out : ∃ L : List Int, L.Nodup ∧ (∀ v, v ∈ L ↔ (m v).isSome = true) ∧ Out w' base ob (R ++ L)
  fr : Fr (OF base w) w w'
structure CbS (w wv : World) (base ob : Nat) (R : List Int) (M r K : Nat) (m : Int → Option ByteArray) (lf : Int → Bool) (n : Nat) (L : List Int) : Prop where
  mr : Mr VS wv M r K m lf n
  nodup : L.Nodup
  mem : ∀ v, v ∈ L ↔ (m v).isSome = true ∧ lf v = false
  out : Out wv base ob (R ++ L)
  fr : Fr (OF base w) w wv
  new : w.heap.size ≤ r
theorem cbs_calls {w : World} {base ob K : Nat} {R : List Int} {y : Nat × Nat} {pv : Value} {m : Int → Option ByteArray} (h : Out w base ob R) (hb : base ≤ w.heap.size) (hN : ∀ L : List Int, L.Nodup → (∀ v ∈ L, (m v).isSome = true) → R.length + L.length ≤ 900000) (hBl : Blk w y.1 95 [pv, .map (some y.2)]) (hM : Mp VS w y.2 K m) :
    Calls Tryd.prog 87 #[.pointer (some ⟨y.1, 0, none⟩), .func (.func 45) #[] #[.pointer (some ⟨ob, 0, none⟩)]] w (CbsPost w base ob R m) := by
  have HO := Aside0.mk h
  have HBS := Aside0.mk hb
  have HN := Aside0.mk hN
  have HM := Aside0.mk hM
  have c1 := hBl.cell 1 rfl
  clear h hb hN hBl hM
  go_enter Tryd.func87, Tryd.ntmps87
  go_wp2_with (first | (at_range; refine wpList_mp_range rfl _ rfl rfl HM.out ?_; intro w2 n0 hmr hsm; have HI0 : Aside0 (CbS w w2 base ob R y.2 w.heap.size K m (fun s => (m s).isSome) n0 []) := ⟨⟨hmr, List.nodup_nil, (fun v => ⟨(fun e => by cases e), fun e => by rw [e.1] at e; cases e.2⟩), by rw [List.append_nil]; exact HO.out.fr hsm (fun _ _ h => h), hsm.mono (fun _ h => h.elim), Nat.le_refl _⟩⟩; clear hmr hsm) | fail)
  try go_frame
  go_loopw [4] (fun v4 wv => ∃ (lf : Int → Bool) (n : Nat) (L : List Int), Aside0 (CbS w wv base ob R y.2 w.heap.size K m lf n L)) (fun _ wv => wv.rangeLeft y.2 w.heap.size)
  case atStart => exact ⟨_, _, _, HI0⟩
  case round =>
    obtain ⟨lf, n, L, HI⟩ := hrel
    go_wp2_with (first | (at_next; refine wpList_mp_next rfl _ rfl rfl HI.out.mr ?_ ?_) | fail)
    · intro hl0
      have HP : Aside0 (CbsPost w base ob R m (.returned (.tuple #[])) wr) := ⟨⟨rfl, ⟨L, HI.out.nodup, (fun v => by rw [HI.out.mem]; exact ⟨fun h => h.1, fun h => ⟨h, hl0 v⟩⟩), HI.out.out⟩, HI.out.fr⟩⟩
      clear hl0
      go_wp2
      go_end0
      exact HP.out
    · intro x c w3 cnt' hx hc hlx hmx hmr hlt hfr hen
      have hen2 : (Instr.entry (.pointer (some ⟨w.heap.size, 0, none⟩))).run Tryd.prog w3 = .ok (.tuple #[.int .i64 x, .string c]) w3 := hen
      have HMR := Aside0.mk hmr
      have HLT := Aside0.mk hlt
      have HO3 : Aside0 (Out w3 base ob (R ++ L)) := ⟨HI.out.out.fr hfr (fun k hk e => by subst e; exact of_iter HI.out.mr.iter hk)⟩
      have hni : x ∉ L := fun e => by
        have := ((HI.out.mem x).1 e).2
        rw [hlx] at this
        cases this
      have hnd : (L ++ [x]).Nodup := List.nodup_append.2 ⟨HI.out.nodup, List.nodup_cons.2 ⟨by simp, List.nodup_nil⟩, fun a ha b hb e => by
        rw [List.mem_singleton.1 hb] at e
        rw [e] at ha
        exact hni ha⟩
      have hmm : ∀ v, v ∈ L ++ [x] ↔ (m v).isSome = true ∧ (lf v && !decide (v = x)) = false := by
        intro v
        rw [List.mem_append, List.mem_singleton, HI.out.mem]
        constructor
        · rintro (⟨h1, h2⟩ | rfl)
          · exact ⟨h1, by rw [h2]; rfl⟩
          · exact ⟨by rw [hmx]; rfl, by simp⟩
        · rintro ⟨h1, h2⟩
          by_cases hv : v = x
          · exact .inr hv
          · left
            refine ⟨h1, ?_⟩
            simpa [hv] using h2
      have hln : R.length + (L ++ [x]).length ≤ 900000 := HN.out _ hnd (fun v hv => ((hmm v).1 hv).1)
      have HF3 : Aside0 (Fr (OF base w) w w3) := ⟨HI.out.fr.trans hfr (fun k hk e => by have := HI.out.new; omega)⟩
      have HSZ : Aside0 (base ≤ w3.heap.size) := ⟨Nat.le_trans HBS.out HF3.out.size⟩
      have HCB : Aside0 (Calls Tryd.prog 45 #[.int .i64 x, .pointer (some ⟨ob, 0, none⟩)] w3 (CbPost w3 base ob (R ++ L) [x])) := ⟨cb_calls HO3.out HSZ.out (by rw [List.length_append] at hln ⊢; omega)⟩
      have HND := Aside0.mk hnd
      have HMM := Aside0.mk hmm
      have HCALL : Aside0 (∀ vs W, (callFunc 45 vs).run Tryd.prog W = .ok (.enter 45 vs) W) := ⟨fun vs W => rfl⟩
      have HCNT : Aside0 (wr.rangeLeft y.2 w.heap.size = n) := ⟨HI.out.mr.left_eq⟩
      have HIT := Aside0.mk HI.out.mr
      clear hx hc hlx hmx hmr hlt hfr hen hni hnd hmm hln
      go_wp2_with (first | (refine wpList_callfg rfl _ rfl (.tmp 14) rfl rfl rfl HCALL.out ?_) | fail)
      refine HCB.out.mono ?_
      rintro e w4 hp
      have hpe := hp.ret
      subst hpe
      dsimp only
      have hmr4 := HMR.out.fr hp.fr (fun e => of_map ⟨_, HMR.out.mp.blk.choose_spec⟩ e) (fun e => of_iter HMR.out.iter e)
      have HI4 : Aside0 (CbS w w4 base ob R y.2 w.heap.size K m (fun z => lf z && !decide (z = x)) cnt' (L ++ [x])) := ⟨⟨hmr4, HND.out, HMM.out, by rw [← List.append_assoc]; exact hp.out, of_trans HF3.out hp.fr, Nat.le_refl _⟩⟩
      clear hp hmr4 hen2
      go_wp2
      go_roundw
      case rel => exact ⟨_, _, _, HI4⟩
      case measure => rw [HI4.out.mr.left_eq, HCNT.out]; exact HLT.out
end
end Go.Proofs.YtimffhpnfdikoaaDoor.Ls
namespace Go.Proofs.YtimffhpnfdikoaaDoor.Ls
open Go.RowKit Go.Maps Go.Proofs.YtimffhpnfdikoaaDoor.Pl Go.Proofs.YtimffhpnfdikoaaDoor.Bs Go.Proofs.YtimffhpnfdikoaaDoorW.PrintWords Go.Proofs.YtimffhpnfdikoaaDoorW.PrintLast Go.Proofs.YtimffhpnfdikoaaDoorW.PrintMore Go.Proofs.YtimffhpnfdikoaaDoor.GFnListKinds Go.Proofs.YtimffhpnfdikoaaDoor.PlFnListKinds
set_option linter.unusedVariables false
set_option linter.unusedSimpArgs false
def InH (sub : Path → Int → Option ByteArray) (p toks : Path) (x : Path × Int) : Prop := (∃ q, x.1 = p ++ q ∧ mt toks q = true) ∧ (sub x.1 x.2).isSome = true
section
variable {sub : Path → Int → Option ByteArray} {p toks rest q : Path} {t : ByteArray} {x : Path × Int} {nd lv : Pm}
theorem InH.pre (h : InH sub p toks x) : p <+: x.1 := by
  obtain ⟨⟨q, e, _⟩, _⟩ := h
  exact ⟨q, e.symm⟩
theorem inh_nil : InH sub p [] x ↔ x.1 = p ∧ (sub x.1 x.2).isSome = true := by
  constructor
  · rintro ⟨⟨q, e, h⟩, h2⟩
    rw [mt_nil] at h
    subst h
    rw [List.append_nil] at e
    exact ⟨e, h2⟩
  · rintro ⟨e, h2⟩
    exact ⟨⟨[], by rw [List.append_nil]; exact e, rfl⟩, h2⟩
theorem inh_cons (hok : ∀ q v s, sub q v = some s → okF false q = true) : InH sub p (t :: rest) x ↔ (x.1 = p ++ [full] ∧ (sub x.1 x.2).isSome = true) ∨ InH sub (p ++ [star]) rest x ∨ InH sub (p ++ [t]) rest x := by
  constructor
  · rintro ⟨⟨q, e, h⟩, h2⟩
    cases q with
    | nil => cases h
    | cons u q =>
      have e' : x.1 = p ++ [u] ++ q := by rw [e]; simp
      rcases mt_cons.1 h with h | ⟨h | h, h3⟩
      · left
        subst h
        obtain ⟨s, hs⟩ := Option.isSome_iff_exists.1 h2
        have := hok _ _ _ hs
        rw [e'] at this
        have := okF_end this
        subst this
        exact ⟨by rw [e', List.append_nil], h2⟩
      · subst h
        exact .inr (.inl ⟨⟨q, e', h3⟩, h2⟩)
      · subst h
        exact .inr (.inr ⟨⟨q, e', h3⟩, h2⟩)
  · rintro (⟨e, h2⟩ | ⟨⟨q, e, h⟩, h2⟩ | ⟨⟨q, e, h⟩, h2⟩)
    · exact ⟨⟨[full], e, mt_cons.2 (.inl rfl)⟩, h2⟩
    · exact ⟨⟨star :: q, by rw [e]; simp, mt_cons.2 (.inr ⟨.inl rfl, h⟩)⟩, h2⟩
    · exact ⟨⟨t :: q, by rw [e]; simp, mt_cons.2 (.inr ⟨.inr rfl, h⟩)⟩, h2⟩
theorem pre_snoc_ne {t u : ByteArray} {y : Path} (h : q ++ [t] <+: y) (h2 : q ++ [u] <+: y) : t = u := by
  obtain ⟨r, e⟩ := h
  obtain ⟨r', e'⟩ := h2
  rw [← e', List.append_assoc, List.append_assoc] at e
  have := List.append_cancel_left e
  injection this
theorem pre_of {y : Path} (h : q ++ [t] <+: y) : q <+: y := (List.prefix_append _ _).trans h
/-- What has been handed on when i tokens are behind. -/
structure VisS (sub : Path → Int → Option ByteArray) (p toks : Path) (i : Nat) (L : List (Path × Int)) : Prop where
  nodup : L.Nodup
  mem : ∀ x, InH sub p toks x ↔ x ∈ L ∨ InH sub (p ++ toks.take i) (toks.drop i) x ∨ (i = toks.length ∧ ∃ j, i = j + 1 ∧ InH sub (p ++ toks.take j ++ [star]) [] x)
  apart : ∀ x ∈ L, ¬ (p ++ toks.take i) <+: x.1
  nostar : ∀ j, i = j + 1 → i = toks.length → ∀ x ∈ L, x.1 ≠ p ++ toks.take j ++ [star]
theorem VisS.zero : VisS sub p toks 0 [] := by
  refine ⟨List.nodup_nil, fun x => ?_, (fun x hx => by cases hx), fun j h => by cases h⟩
  rw [List.take_zero, List.append_nil, List.drop_zero]
  exact ⟨fun h => .inr (.inl h), fun h => h.elim (fun h => by cases h) (fun h => h.elim (fun h => h) (fun h => by obtain ⟨_, j, h, _⟩ := h; cases h))⟩
variable {i : Nat} {L : List (Path × Int)} {Lf : List Int} {Ls : List (Path × Int)}
theorem nodup_tag {Lf : List Int} (h : Lf.Nodup) (y : Path) : (Lf.map (fun v => (y, v))).Nodup := List.Pairwise.map _ (fun a b hab e => hab (by injection e)) h
theorem mem_tag {Lf : List Int} {y : Path} {x : Path × Int} : x ∈ Lf.map (fun v => (y, v)) ↔ x.1 = y ∧ x.2 ∈ Lf := by
  rw [List.mem_map]
  constructor
  · rintro ⟨v, h, rfl⟩
    exact ⟨rfl, h⟩
  · rintro ⟨h1, h2⟩
    exact ⟨x.2, h2, by rw [← h1]⟩
theorem VisS.nodup3 (h : VisS sub p toks i L) (hq : p ++ toks.take i = q) (hf : Lf.Nodup) (hs : Ls.Nodup) (hp : ∀ x ∈ Ls, q ++ [star] <+: x.1) : (L ++ Lf.map (fun v => (q ++ [full], v)) ++ Ls).Nodup := by
  refine List.nodup_append.2 ⟨List.nodup_append.2 ⟨h.nodup, nodup_tag hf _, fun a ha b hb e => ?_⟩, hs, fun a ha b hb e => ?_⟩
  · subst e
    have := (mem_tag.1 hb).1
    refine h.apart a ha ?_
    rw [hq, this]
    exact List.prefix_append _ _
  · subst e
    have h1 := hp a hb
    rcases List.mem_append.1 ha with ha | ha
    · refine h.apart a ha ?_
      rw [hq]
      exact pre_of h1
    · rw [(mem_tag.1 ha).1] at h1
      exact absurd (pre_snoc_ne h1 (List.prefix_refl _)) star_full
theorem inh_tag {y : Path} {v : Int} (h : (sub y v).isSome = true) : InH sub y [] (y, v) := inh_nil.2 ⟨rfl, h⟩
/-- Whatever is handed on is a hit. -/
theorem VisS.all3 (h : VisS sub p toks i L) (hok : ∀ q v s, sub q v = some s → okF false q = true) (hq : p ++ toks.take i = q) (ht : toks[i]? = some t) (hf : ∀ v ∈ Lf, (sub (q ++ [full]) v).isSome = true) (hs : ∀ x ∈ Ls, InH sub (q ++ [star]) (toks.drop (i + 1)) x) : ∀ x ∈ L ++ Lf.map (fun v => (q ++ [full], v)) ++ Ls, InH sub p toks x := by
  intro x hx
  rw [h.mem]
  rcases List.mem_append.1 hx with hx | hx
  · rcases List.mem_append.1 hx with hx | hx
    · exact .inl hx
    · right; left
      obtain ⟨h1, h2⟩ := mem_tag.1 hx
      rw [hq, drop_cons ht, inh_cons hok]
      exact .inl ⟨h1, by rw [h1]; exact hf _ h2⟩
  · right; left
    rw [hq, drop_cons ht, inh_cons hok]
    exact .inr (.inl (hs x hx))
/-- A round. -/
theorem VisS.next (h : VisS sub p toks i L) (hok : ∀ q v s, sub q v = some s → okF false q = true) (hq : p ++ toks.take i = q) (ht : toks[i]? = some t) (hlit : t ≠ star ∧ t ≠ full) (hfn : Lf.Nodup) (hf : ∀ v, v ∈ Lf ↔ (sub (q ++ [full]) v).isSome = true) (hsn : Ls.Nodup) (hs : ∀ x, x ∈ Ls ↔ toks.drop (i + 1) ≠ [] ∧ InH sub (q ++ [star]) (toks.drop (i + 1)) x) :
    VisS sub p toks (i + 1) (L ++ Lf.map (fun v => (q ++ [full], v)) ++ Ls) := by
  have hlt := (List.getElem?_eq_some_iff.1 ht).1
  have hsp : ∀ x ∈ Ls, q ++ [star] <+: x.1 := fun x hx => ((hs x).1 hx).2.pre
  have hsnoc : p ++ toks.take (i + 1) = q ++ [t] := by rw [path_snoc ht, hq]
  refine ⟨h.nodup3 hq hfn hsn hsp, fun x => ?_, fun x hx => ?_, fun j hj hl x hx => ?_⟩
  · rw [h.mem, hq, drop_cons ht, inh_cons hok, hsnoc]
    constructor
    · rintro (h1 | ((⟨h1, h2⟩ | h1 | h1) | ⟨h1, _⟩))
      · exact .inl (List.mem_append_left _ (List.mem_append_left _ h1))
      · exact .inl (List.mem_append_left _ (List.mem_append_right _ (mem_tag.2 ⟨h1, (hf _).2 (by rw [← h1]; exact h2)⟩)))
      · by_cases hd : toks.drop (i + 1) = []
        · rw [hd] at h1
          refine .inr (.inr ⟨?_, i, rfl, by rw [hq]; exact h1⟩)
          have := List.drop_eq_nil_iff.1 hd
          omega
        · exact .inl (List.mem_append_right _ ((hs x).2 ⟨hd, h1⟩))
      · exact .inr (.inl h1)
      · omega
    · rintro (h1 | h1 | ⟨h1, j, h2, h3⟩)
      · rcases List.mem_append.1 h1 with h1 | h1
        · rcases List.mem_append.1 h1 with h1 | h1
          · exact .inl h1
          · obtain ⟨h2, h3⟩ := mem_tag.1 h1
            exact .inr (.inl (.inl ⟨h2, by rw [h2]; exact (hf _).1 h3⟩))
        · exact .inr (.inl (.inr (.inl ((hs x).1 h1).2)))
      · exact .inr (.inl (.inr (.inr h1)))
      · obtain rfl : j = i := by omega
        rw [hq] at h3
        refine .inr (.inl (.inr (.inl ?_)))
        rw [List.drop_of_length_le (by omega)]
        exact h3
  · rw [hsnoc]
    intro hp
    rcases List.mem_append.1 hx with hx | hx
    · rcases List.mem_append.1 hx with hx | hx
      · refine h.apart x hx ?_
        rw [hq]
        exact pre_of hp
      · rw [(mem_tag.1 hx).1] at hp
        exact hlit.2 (pre_snoc_ne hp (List.prefix_refl _))
    · exact hlit.1 (pre_snoc_ne hp (hsp x hx))
  · obtain rfl : j = i := by omega
    rw [hq]
    intro e
    rcases List.mem_append.1 hx with hx | hx
    · rcases List.mem_append.1 hx with hx | hx
      · refine h.apart x hx ?_
        rw [hq, e]
        exact List.prefix_append _ _
      · rw [(mem_tag.1 hx).1] at e
        have := List.append_cancel_left e
        injection this with this
        exact star_full this.symm
    · refine ((hs x).1 hx).1 ?_
      exact List.drop_of_length_le (by omega)
/-- A level that is not there. -/
theorem VisS.none {w : World} {B K : Nat} (h : VisS sub p toks i L) (hF : Fine nd sub) (hT : Tri w B K nd lv sub) (hl : lv (p ++ toks.take i) = Option.none) (hi : i < toks.length) : ∀ x, x ∈ L ↔ toks ≠ [] ∧ InH sub p toks x := by
  intro x
  have hne : toks ≠ [] := fun e => by rw [e] at hi; simp at hi
  rw [h.mem]
  constructor
  · exact fun e => ⟨hne, .inl e⟩
  · rintro ⟨_, h1 | h1 | ⟨h1, _⟩⟩
    · exact h1
    · obtain ⟨⟨q, e1, e2⟩, e3⟩ := h1
      obtain ⟨s, hs⟩ := Option.isSome_iff_exists.1 e3
      rw [e1] at hs
      exact (hF.flat hT hl (toks := toks.drop i) (by intro e; have := List.drop_eq_nil_iff.1 e; omega) ⟨q, x.2, s, hs, e2⟩).elim
    · omega
theorem VisS.empty (h : VisS sub p toks 0 L) (ht : toks = []) : L = [] := by
  cases L with
  | nil => rfl
  | cons x L =>
    exfalso
    refine h.apart x (by simp) ?_
    rw [List.take_zero, List.append_nil]
    exact ((h.mem x).2 (.inl (by simp))).pre
/-- The last node and the last star. -/
theorem VisS.done {j : Nat} (h : VisS sub p toks toks.length L) (hj : toks.length = j + 1) (hq : p ++ toks.take j = q) (ht : toks[j]? = some t) (hlit : t ≠ star ∧ t ≠ full) {Ln Lp : List Int} (h1 : Ln.Nodup) (h2 : ∀ v, v ∈ Ln ↔ (sub (q ++ [t]) v).isSome = true) (h3 : Lp.Nodup) (h4 : ∀ v, v ∈ Lp ↔ (sub (q ++ [star]) v).isSome = true) :
    (L ++ Ln.map (fun v => (q ++ [t], v)) ++ Lp.map (fun v => (q ++ [star], v))).Nodup ∧ ∀ x, x ∈ L ++ Ln.map (fun v => (q ++ [t], v)) ++ Lp.map (fun v => (q ++ [star], v)) ↔ toks ≠ [] ∧ InH sub p toks x := by
  have hsnoc : p ++ toks.take toks.length = q ++ [t] := by rw [hj, path_snoc ht, hq]
  refine ⟨List.nodup_append.2 ⟨List.nodup_append.2 ⟨h.nodup, nodup_tag h1 _, fun a ha b hb e => ?_⟩, nodup_tag h3 _, fun a ha b hb e => ?_⟩, fun x => ?_⟩
  · subst e
    refine h.apart a ha ?_
    rw [hsnoc, (mem_tag.1 hb).1]
    exact List.prefix_refl _
  · subst e
    rcases List.mem_append.1 ha with ha | ha
    · refine h.nostar j hj rfl a ha ?_
      rw [hq]
      exact (mem_tag.1 hb).1
    · have e := (mem_tag.1 ha).1.symm.trans (mem_tag.1 hb).1
      have := List.append_cancel_left e
      injection this with this
      exact hlit.1 this
  · rw [h.mem, hsnoc, List.drop_length, inh_nil]
    constructor
    · intro hx
      refine ⟨fun e => by rw [e] at hj; simp at hj, ?_⟩
      rcases List.mem_append.1 hx with hx | hx
      · rcases List.mem_append.1 hx with hx | hx
        · exact .inl hx
        · obtain ⟨e1, e2⟩ := mem_tag.1 hx
          exact .inr (.inl ⟨e1, by rw [e1]; exact (h2 _).1 e2⟩)
      · obtain ⟨e1, e2⟩ := mem_tag.1 hx
        exact .inr (.inr ⟨rfl, j, hj, by rw [hq, inh_nil]; exact ⟨e1, by rw [e1]; exact (h4 _).1 e2⟩⟩)
    · rintro ⟨_, hx | ⟨e1, e2⟩ | ⟨_, j', e1, e2⟩⟩
      · exact List.mem_append_left _ (List.mem_append_left _ hx)
      · exact List.mem_append_left _ (List.mem_append_right _ (mem_tag.2 ⟨e1, (h2 _).2 (by rw [← e1]; exact e2)⟩))
      · obtain rfl : j' = j := by omega
        rw [hq, inh_nil] at e2
        exact List.mem_append_right _ (mem_tag.2 ⟨e2.1, (h4 _).2 (by rw [← e2.1]; exact e2.2)⟩)
theorem VisS.part {j : Nat} (h : VisS sub p toks toks.length L) (hj : toks.length = j + 1) (hq : p ++ toks.take j = q) (ht : toks[j]? = some t) (hlit : t ≠ star ∧ t ≠ full) {Ln Lp : List Int} (h1 : Ln.Nodup) (h2 : ∀ v ∈ Ln, (sub (q ++ [t]) v).isSome = true) (h3 : Lp.Nodup) (h4 : ∀ v ∈ Lp, (sub (q ++ [star]) v).isSome = true) :
    (L ++ Ln.map (fun v => (q ++ [t], v)) ++ Lp.map (fun v => (q ++ [star], v))).Nodup ∧ ∀ x ∈ L ++ Ln.map (fun v => (q ++ [t], v)) ++ Lp.map (fun v => (q ++ [star], v)), InH sub p toks x := by
  have hsnoc : p ++ toks.take toks.length = q ++ [t] := by rw [hj, path_snoc ht, hq]
  refine ⟨List.nodup_append.2 ⟨List.nodup_append.2 ⟨h.nodup, nodup_tag h1 _, fun a ha b hb e => ?_⟩, nodup_tag h3 _, fun a ha b hb e => ?_⟩, fun x hx => ?_⟩
  · subst e
    refine h.apart a ha ?_
    rw [hsnoc, (mem_tag.1 hb).1]
    exact List.prefix_refl _
  · subst e
    rcases List.mem_append.1 ha with ha | ha
    · refine h.nostar j hj rfl a ha ?_
      rw [hq]
      exact (mem_tag.1 hb).1
    · have e := (mem_tag.1 ha).1.symm.trans (mem_tag.1 hb).1
      have := List.append_cancel_left e
      injection this with this
      exact hlit.1 this
  · rw [h.mem, hsnoc, List.drop_length, inh_nil]
    rcases List.mem_append.1 hx with hx | hx
    · rcases List.mem_append.1 hx with hx | hx
      · exact .inl hx
      · obtain ⟨e1, e2⟩ := mem_tag.1 hx
        exact .inr (.inl ⟨e1, by rw [e1]; exact h2 _ e2⟩)
    · obtain ⟨e1, e2⟩ := mem_tag.1 hx
      exact .inr (.inr ⟨rfl, j, hj, by rw [hq, inh_nil]; exact ⟨e1, by rw [e1]; exact h4 _ e2⟩⟩)
end
end Go.Proofs.YtimffhpnfdikoaaDoor.Ls
namespace Go.Proofs.YtimffhpnfdikoaaDoor.Ls
open Go.RowKit Go.Maps Go.Proofs.YtimffhpnfdikoaaDoor.Pl Go.Proofs.YtimffhpnfdikoaaDoor.Bs Go.Proofs.YtimffhpnfdikoaaDoorW.PrintWords Go.Proofs.YtimffhpnfdikoaaDoorW.PrintLast Go.Proofs.YtimffhpnfdikoaaDoorW.PrintMore Go.Proofs.YtimffhpnfdikoaaDoor.GFnListKinds Go.Proofs.YtimffhpnfdikoaaDoor.PlFnListKinds
set_option linter.unusedVariables false
set_option linter.unusedSimpArgs false
theorem of_keep {base : Nat} {w w' : World} {k : Nat} (h : ¬ OF base w k) (hk : k < w.heap.size) (hf : Fr (OF base w) w w') : ¬ OF base w' k := by
  intro e
  have hb := hf.block k hk h
  refine h ⟨e.1, ?_⟩
  have h2 := e.2
  unfold OKd at h2 ⊢
  rwa [← hb]
structure MlPost (w : World) (base ob : Nat) (R : List Int) (sub : Path → Int → Option ByteArray) (p toks : Path) (e : Ending) (w' : World) : Prop where
  ret : e = .returned (.tuple #[])
  out : ∃ L : List (Path × Int), L.Nodup ∧ (∀ x, x ∈ L ↔ toks ≠ [] ∧ InH sub p toks x) ∧ Out w' base ob (R ++ L.map Prod.snd)
  fr : Fr (OF base w) w w'
structure MlS (w0 : World) (base ob : Nat) (R : List Int) (sub : Path → Int → Option ByteArray) (nd lv : Pm) (p toks : Path) (i : Nat) (vl vp vn : Value) (L : List (Path × Int)) (w : World) : Prop where
  fr : Fr (OF base w0) w0 w
  vl : vl = ptrA ((lv (p ++ toks.take i)).map Prod.fst)
  zero : i = 0 → vp = .pointer none ∧ vn = .pointer none
  pos : ∀ j t, i = j + 1 → toks[j]? = some t → vp = ptrA ((nd (p ++ toks.take j ++ [star])).map Prod.fst) ∧ vn = ptrA ((nd (p ++ toks.take j ++ [t])).map Prod.fst)
  out : Out w base ob (R ++ L.map Prod.snd)
  vis : VisS sub p toks i L
abbrev cbV (ob : Nat) : Value := .func (.func 45) #[] #[.pointer (some ⟨ob, 0, none⟩)]
section
set_option maxHeartbeats 16000000
set_option maxRecDepth 100000
theorem ml_calls (n : Nat) : ∀ {w : World} {B K base ob : Nat} {nd lv : Pm} {sub : Path → Int → Option ByteArray} {R : List Int} {p toks : Path} {g o c : Nat}, toks.length = n → Tri w B K nd lv sub → Fine nd sub → (∀ j t, toks[j]? = some t → w.cell? ⟨g, o + j, none⟩ = some (.string t)) → toks.length ≤ c → toks.length ≤ 1000 →
    ¬ OF base w g → (∀ t ∈ toks, t ≠ star ∧ t ≠ full ∧ t.size ≤ 1000) → Out w base ob R → base ≤ w.heap.size → (∀ L : List (Path × Int), L.Nodup → (∀ x ∈ L, InH sub p toks x) → R.length + L.length ≤ 900000) →
    Calls Tryd.prog 74 #[ptrA ((lv p).map Prod.fst), .slice (some ⟨g, o, none⟩) toks.length c, cbV ob] w (MlPost w base ob R sub p toks) := by
  induction n using Nat.strongRecOn with
  | ind n ih =>
  intro w B K base ob nd lv sub R p toks g o c hlen hT hF hR hc hl hgo hlit hO hbs hN
  have IH := Aside0.mk ih
  have HT := Aside0.mk hT
  have HF := Aside0.mk hF
  have HR := Aside0.mk hR
  have HC := Aside0.mk hc
  have HGO := Aside0.mk hgo
  have HLT := Aside0.mk hlit
  have HO := Aside0.mk hO
  have HBS := Aside0.mk hbs
  have HN := Aside0.mk hN
  have HLN := Aside0.mk hlen
  clear ih hT hF hR hc hgo hlit hO hbs hN hlen
  rw [ptrA_eq]
  go_enter Tryd.func74, Tryd.ntmps74
  go_wp2_with fail
  go_loopg [0, 6, 7, 12] toks.length (fun kq v0 v6 v7 v12 wr => ∃ (i : Nat) (L : List (Path × Int)), v12 = .int .i64 (i : Int) ∧ Aside0 (kq + i = toks.length ∧ i ≤ toks.length) ∧ Aside0 (MlS w base ob R sub nd lv p toks i v0 v6 v7 L wr))
  case atStart => exact ⟨0, [], rfl, ⟨by omega⟩, ⟨⟨Fr.refl _ _, by rw [List.take_zero, List.append_nil, ptrA_eq], fun _ => ⟨rfl, rfl⟩, (fun j t h => by cases h), by rw [List.map_nil, List.append_nil]; exact HO.out, VisS.zero⟩⟩⟩
  case round =>
    obtain ⟨i, L, rfl, HI, HS⟩ := hrel
    have i0 : (0 : Int) ≤ (i : Int) := by omega
    have HTW : Aside0 (Tri wr B K nd lv sub) := ⟨HT.out.far HS.out.fr (fun k hk => wk_of hk)⟩
    have HBW : Aside0 (base ≤ wr.heap.size) := ⟨Nat.le_trans HBS.out HS.out.fr.size⟩
    by_cases hlt : i < toks.length
    · have i1 : (i : Int) < (toks.length : Int) := by omega
      have i2 : decide ((i : Int) < (toks.length : Int)) = true := decide_eq_true i1
      have i5 : IntKind.i64.wrap ((i : Int) + 1) = (i : Int) + 1 := by rw [IntKind.wrap_i64]; have := HI.out; omega
      obtain ⟨t, ht⟩ : ∃ t, toks[i]? = some t := ⟨_, List.getElem?_eq_getElem hlt⟩
      have HTI := Aside0.mk ht
      have HTL := Aside0.mk (HLT.out t (List.mem_of_getElem? ht))
      have HIK : Aside0 (i < toks.length) := ⟨hlt⟩
      have ct : wr.cell? ⟨g, o + i, none⟩ = some (.string t) := (World.cell?_of_block (a := ⟨g, o + i, none⟩) (HS.out.fr.block g (World.block_lt_of_cell? w _ (HR.out i t ht)) HGO.out)).trans (HR.out i t ht)
      have hvl := HS.out.vl
      obtain ⟨q, hq⟩ : ∃ q, p ++ toks.take i = q := ⟨_, rfl⟩
      rw [hq] at hvl
      have HQ := Aside0.mk hq
      have HV0 := Aside0.mk hvl
      obtain ⟨v0, hv0⟩ : ∃ v0, u0 = v0 := ⟨_, rfl⟩
      rw [hv0] at HS HV0
      rw [hv0]
      clear ht hv0 u0 hvl hq
      cases hlv : lv q with
      | none =>
        have hv := HV0.out
        rw [hlv] at hv
        have hv2 : v0 = .pointer none := hv
        subst hv2
        have HP : Aside0 (MlPost w base ob R sub p toks (.returned (.tuple #[])) wr) := ⟨⟨rfl, ⟨L, HS.out.vis.nodup, HS.out.vis.none HF.out HTW.out (by rw [HQ.out]; exact hlv) HIK.out, HS.out.out⟩, HS.out.fr⟩⟩
        clear hv hlv
        go_wp2_with fail
        refine bodyPost_ret (results_none rfl _ _ _) rfl ?_
        exact HP.out
      | some x =>
        have hv := HV0.out
        rw [hlv] at hv
        have hv2 : v0 = .pointer (some ⟨x.1, 0, none⟩) := hv
        subst hv2
        have HL := Aside0.mk hlv
        obtain ⟨-, -, hB, hM⟩ := HTW.out.lev _ x hlv
        have d2 := hB.cell 2 rfl
        rw [ptrA_eq] at d2
        have hk2 : kid nd q full = (nd (q ++ [full])).map Prod.fst := rfl
        rw [hk2] at d2
        obtain ⟨nf, hnf⟩ : ∃ nf, nd (q ++ [full]) = nf := ⟨_, rfl⟩
        rw [hnf] at d2
        have HNF := Aside0.mk hnf
        clear hv hlv hB hM hk2 hnf
        go_upto_if 23 with (fail)
        go_cut [] from 24 to 29 (fun wc => Aside0 (∃ Lf : List Int, Lf.Nodup ∧ (∀ v, v ∈ Lf ↔ (sub (q ++ [full]) v).isSome = true) ∧ Out wc base ob (R ++ L.map Prod.snd ++ Lf) ∧ Fr (OF base w) w wc))
        case first =>
          cases nf with
          | none =>
            have HZ : Aside0 (∀ v, (sub (q ++ [full]) v).isSome = false) := ⟨fun v => by rw [HF.out.out _ HNF.out]; rfl⟩
            simp only [Option.map_none]
            go_wp2_with fail
            go_meet
            case rel => exact ⟨[], List.nodup_nil, (fun v => ⟨(fun e => by cases e), fun e => by rw [HZ.out v] at e; cases e⟩), by rw [List.append_nil]; exact HS.out.out, HS.out.fr⟩
          | some y =>
            simp only [Option.map_some]
            simp only [Option.map_some] at d2
            obtain ⟨-, -, hBy, hMy⟩ := HTW.out.node _ y HNF.out
            have HCB : Aside0 (Calls Tryd.prog 87 #[.pointer (some ⟨y.1, 0, none⟩), cbV ob] wr (CbsPost wr base ob (R ++ L.map Prod.snd) (sub (q ++ [full])))) := ⟨cbs_calls HS.out.out HBW.out (fun Lf h1 h2 => by
              have := HN.out (L ++ Lf.map (fun v => (q ++ [full], v)) ++ []) (HS.out.vis.nodup3 HQ.out h1 List.nodup_nil (fun x hx => by cases hx)) (HS.out.vis.all3 HF.out.ok HQ.out HTI.out h2 (fun x hx => by cases hx))
              simp only [List.length_append, List.length_map, List.length_nil] at this ⊢
              omega) hBy hMy⟩
            clear hBy hMy
            go_wp2_with fail
            refine HCB.out.mono ?_
            rintro e w4 ⟨rfl, ⟨Lf, h1, h2, h3⟩, h4⟩
            have H4 := Aside0.mk (And.intro h1 (And.intro h2 (And.intro h3 h4)))
            clear h1 h2 h3 h4 HCB
            go_wp2_with fail
            go_meet
            case rel => exact ⟨Lf, H4.out.1, H4.out.2.1, H4.out.2.2.1, of_trans HS.out.fr H4.out.2.2.2⟩
        case rest =>
          obtain ⟨Lf, h1, h2, h3, h4⟩ := hcut.out
          have HLF := Aside0.mk (And.intro h1 (And.intro h2 (And.intro h3 h4)))
          have HTC : Aside0 (Tri wc B K nd lv sub) := ⟨HT.out.far h4 (fun k hk => wk_of hk)⟩
          obtain ⟨-, -, hB, hM⟩ := HTC.out.lev _ x HL.out
          have d1 := hB.cell 1 rfl
          rw [ptrA_eq] at d1
          have hk1 : kid nd q star = (nd (q ++ [star])).map Prod.fst := rfl
          rw [hk1] at d1
          obtain ⟨ns, hns⟩ : ∃ ns, nd (q ++ [star]) = ns := ⟨_, rfl⟩
          rw [hns] at d1
          have HNS := Aside0.mk hns
          clear hcut h1 h2 h3 h4 hB hM hk1 hns d2
          go_upto_if 35 with (fail)
          go_cut [] from 34 to 45 (fun wc2 => Aside0 (∃ Ls : List (Path × Int), Ls.Nodup ∧ (∀ x, x ∈ Ls ↔ toks.drop (i + 1) ≠ [] ∧ InH sub (q ++ [star]) (toks.drop (i + 1)) x) ∧ Out wc2 base ob (R ++ L.map Prod.snd ++ Lf ++ Ls.map Prod.snd) ∧ Fr (OF base w) w wc2))
          case first =>
            cases ns with
            | none =>
              have HG : Aside0 (∀ x, ¬ InH sub (q ++ [star]) (toks.drop (i + 1)) x) := ⟨fun x h => by
                obtain ⟨⟨r, e1, _⟩, e2⟩ := h
                obtain ⟨s, hs⟩ := Option.isSome_iff_exists.1 e2
                rw [e1] at hs
                exact HF.out.gone HTW.out HNS.out (ne_nil _ _) r ⟨_, s, hs⟩⟩
              simp only [Option.map_none]
              go_wp2_with fail
              go_meet
              case rel => exact ⟨[], List.nodup_nil, (fun x => ⟨(fun e => by cases e), fun e => (HG.out x e.2).elim⟩), by rw [List.map_nil, List.append_nil]; exact HLF.out.2.2.1, HLF.out.2.2.2⟩
            | some y =>
              obtain ⟨-, -, hBy, -⟩ := HTC.out.node _ y HNS.out
              have HBY := Aside0.mk hBy
              simp only [Option.map_some]
              have j0 : (0 : Int) ≤ (i : Int) + 1 := by omega
              have j1 : (i : Int) + 1 ≤ (toks.length : Int) := by omega
              have j2 : (toks.length : Int) ≤ (c : Int) := by have := HC.out; omega
              have j3 : (i : Int) + 1 ≤ (c : Int) := by omega
              clear hBy
              by_cases hci : c = i + 1
              · subst hci
                go_upto_region 9 with (fail)
                refine region_tail 9 (by kernel_rfl) (by kernel_rfl) (fun wd hwd => ?_)
                have HWD : Aside0 (Same wc wd) := ⟨by rw [hwd.out]; exact (Fr.refl _ _).drew⟩
                have e0 := (HBY.out.fr HWD.out (fun h => h)).cell 0 rfl
                clear hwd
                simp only [List.take_succ_cons, List.take_zero, List.drop_succ_cons, List.drop_zero]
                repeat still_step
                refine wpStill_nil ?_
                go_wp2_with fail
                have HWF : Aside0 (Fr (OF base w) w wd) := ⟨HLF.out.2.2.2.trans HWD.out (fun _ _ h => h.elim)⟩
                have HRC : Aside0 (∀ cx o', (toks.drop (i + 1) = [] ∨ o' = o + (i + 1)) → toks.length - (i + 1) ≤ cx → Calls Tryd.prog 74 #[ptrA ((lv (q ++ [star])).map Prod.fst), .slice (some ⟨g, o', none⟩) (toks.length - (i + 1)) cx, cbV ob] wd (MlPost wd base ob (R ++ L.map Prod.snd ++ Lf) sub (q ++ [star]) (toks.drop (i + 1)))) := ⟨fun cx o' ho hcx => by
                  have hl : (toks.drop (i + 1)).length = toks.length - (i + 1) := List.length_drop
                  have hcall : Calls Tryd.prog 74 #[ptrA ((lv (q ++ [star])).map Prod.fst), .slice (some ⟨g, o', none⟩) (toks.drop (i + 1)).length cx, cbV ob] wd (MlPost wd base ob (R ++ L.map Prod.snd ++ Lf) sub (q ++ [star]) (toks.drop (i + 1))) := IH.out (toks.drop (i + 1)).length (by have := HLN.out; have := HIK.out; omega) rfl (HTC.out.far HWD.out (fun _ _ h => h)) HF.out (fun j t' ht' => by
                    rw [List.getElem?_drop] at ht'
                    rcases ho with ho | ho
                    · have := List.drop_eq_nil_iff.1 ho
                      rw [List.getElem?_eq_none (by omega)] at ht'
                      cases ht'
                    · rw [ho, show o + (i + 1) + j = o + (i + 1 + j) by omega]
                      exact (World.cell?_of_block (a := ⟨g, o + (i + 1 + j), none⟩) (HWF.out.block g (World.block_lt_of_cell? w _ (HR.out _ _ ht')) HGO.out)).trans (HR.out _ _ ht')) (by omega) (by omega) (of_keep HGO.out (World.block_lt_of_cell? w _ (HR.out _ _ HTI.out)) HWF.out) (fun t' ht' => HLT.out t' (List.mem_of_mem_drop ht')) (HLF.out.2.2.1.fr HWD.out (fun _ _ h => h)) (Nat.le_trans HBS.out HWF.out.size) (fun Ls h1 h2 => by
                    have := HN.out (L ++ Lf.map (fun v => (q ++ [full], v)) ++ Ls) (HS.out.vis.nodup3 HQ.out HLF.out.1 h1 (fun x hx => (h2 x hx).pre)) (HS.out.vis.all3 HF.out.ok HQ.out HTI.out (fun v hv => (HLF.out.2.1 v).1 hv) h2)
                    simp only [List.length_append, List.length_map] at this ⊢
                    omega)
                  rw [hl] at hcall
                  exact hcall⟩
                clear e0
                have HD0 : Aside0 (toks.drop (i + 1) = []) := ⟨List.drop_eq_nil_iff.2 (by have := HC.out; omega)⟩
                refine (HRC.out 0 o (.inl HD0.out) (by have := HC.out; omega)).mono ?_
                rintro e w6 ⟨rfl, ⟨Ls, h1, h2, h3⟩, h4⟩
                have H6 := Aside0.mk (And.intro h1 (And.intro h2 (And.intro h3 h4)))
                clear h1 h2 h3 h4 HRC
                go_wp2_with fail
                go_meet
                case rel => exact ⟨Ls, H6.out.1, H6.out.2.1, H6.out.2.2.1, of_trans HWF.out H6.out.2.2.2⟩
              · have HCI := Aside0.mk hci
                go_upto_region 9 with (fail)
                refine region_tail 9 (by kernel_rfl) (by kernel_rfl) (fun wd hwd => ?_)
                have HWD : Aside0 (Same wc wd) := ⟨by rw [hwd.out]; exact (Fr.refl _ _).drew⟩
                have e0 := (HBY.out.fr HWD.out (fun h => h)).cell 0 rfl
                clear hwd
                simp only [List.take_succ_cons, List.take_zero, List.drop_succ_cons, List.drop_zero]
                repeat still_step
                refine wpStill_nil ?_
                go_wp2_with fail
                have HWF : Aside0 (Fr (OF base w) w wd) := ⟨HLF.out.2.2.2.trans HWD.out (fun _ _ h => h.elim)⟩
                have HRC : Aside0 (∀ cx o', (toks.drop (i + 1) = [] ∨ o' = o + (i + 1)) → toks.length - (i + 1) ≤ cx → Calls Tryd.prog 74 #[ptrA ((lv (q ++ [star])).map Prod.fst), .slice (some ⟨g, o', none⟩) (toks.length - (i + 1)) cx, cbV ob] wd (MlPost wd base ob (R ++ L.map Prod.snd ++ Lf) sub (q ++ [star]) (toks.drop (i + 1)))) := ⟨fun cx o' ho hcx => by
                  have hl : (toks.drop (i + 1)).length = toks.length - (i + 1) := List.length_drop
                  have hcall : Calls Tryd.prog 74 #[ptrA ((lv (q ++ [star])).map Prod.fst), .slice (some ⟨g, o', none⟩) (toks.drop (i + 1)).length cx, cbV ob] wd (MlPost wd base ob (R ++ L.map Prod.snd ++ Lf) sub (q ++ [star]) (toks.drop (i + 1))) := IH.out (toks.drop (i + 1)).length (by have := HLN.out; have := HIK.out; omega) rfl (HTC.out.far HWD.out (fun _ _ h => h)) HF.out (fun j t' ht' => by
                    rw [List.getElem?_drop] at ht'
                    rcases ho with ho | ho
                    · have := List.drop_eq_nil_iff.1 ho
                      rw [List.getElem?_eq_none (by omega)] at ht'
                      cases ht'
                    · rw [ho, show o + (i + 1) + j = o + (i + 1 + j) by omega]
                      exact (World.cell?_of_block (a := ⟨g, o + (i + 1 + j), none⟩) (HWF.out.block g (World.block_lt_of_cell? w _ (HR.out _ _ ht')) HGO.out)).trans (HR.out _ _ ht')) (by omega) (by omega) (of_keep HGO.out (World.block_lt_of_cell? w _ (HR.out _ _ HTI.out)) HWF.out) (fun t' ht' => HLT.out t' (List.mem_of_mem_drop ht')) (HLF.out.2.2.1.fr HWD.out (fun _ _ h => h)) (Nat.le_trans HBS.out HWF.out.size) (fun Ls h1 h2 => by
                    have := HN.out (L ++ Lf.map (fun v => (q ++ [full], v)) ++ Ls) (HS.out.vis.nodup3 HQ.out HLF.out.1 h1 (fun x hx => (h2 x hx).pre)) (HS.out.vis.all3 HF.out.ok HQ.out HTI.out (fun v hv => (HLF.out.2.1 v).1 hv) h2)
                    simp only [List.length_append, List.length_map] at this ⊢
                    omega)
                  rw [hl] at hcall
                  exact hcall⟩
                clear e0
                refine (HRC.out (c - (i + 1)) (o + (i + 1)) (.inr rfl) (by have := HC.out; omega)).mono ?_
                rintro e w6 ⟨rfl, ⟨Ls, h1, h2, h3⟩, h4⟩
                have H6 := Aside0.mk (And.intro h1 (And.intro h2 (And.intro h3 h4)))
                clear h1 h2 h3 h4 HRC
                go_wp2_with fail
                go_meet
                case rel => exact ⟨Ls, H6.out.1, H6.out.2.1, H6.out.2.2.1, of_trans HWF.out H6.out.2.2.2⟩
          case rest =>
            obtain ⟨Ls, h1, h2, h3, h4⟩ := hcut.out
            have HLS := Aside0.mk (And.intro h1 (And.intro h2 (And.intro h3 h4)))
            have HTD : Aside0 (Tri wc B K nd lv sub) := ⟨HT.out.far h4 (fun k hk => wk_of hk)⟩
            have HOU : Aside0 (Out wc base ob (R ++ (L ++ Lf.map (fun v => (q ++ [full], v)) ++ Ls).map Prod.snd)) := ⟨by
              have : (L ++ Lf.map (fun v => (q ++ [full], v)) ++ Ls).map Prod.snd = L.map Prod.snd ++ Lf ++ Ls.map Prod.snd := by
                rw [List.map_append, List.map_append, List.map_map]
                congr 2
                exact List.map_id Lf
              rw [this, ← List.append_assoc, ← List.append_assoc]
              exact h3⟩
            have HVI : Aside0 (VisS sub p toks (i + 1) (L ++ Lf.map (fun v => (q ++ [full], v)) ++ Ls)) := ⟨HS.out.vis.next HF.out.ok HQ.out HTI.out ⟨HTL.out.1, HTL.out.2.1⟩ HLF.out.1 HLF.out.2.1 h1 h2⟩
            obtain ⟨-, -, hB, hM⟩ := HTD.out.lev _ x HL.out
            have HMC := Aside0.mk hM
            have d0 := hB.cell 0 rfl
            obtain ⟨kt, hkt⟩ : ∃ kt, nd (q ++ [t]) = kt := ⟨_, rfl⟩
            have HKT := Aside0.mk hkt
            have HKG : Aside0 (VN.mkV ((kids nd q t).getD VN.zv) = .pointer ((kt.map Prod.fst).map (fun b => (⟨b, 0, none⟩ : Addr)))) := ⟨by
              show ptrA ((kids nd q t).getD none) = _
              rw [kids_get q HTL.out.1 HTL.out.2.1, ← ptrA_eq, ← hkt]
              rfl⟩
            have HFI : Aside0 (∀ vl' vp' vn', vl' = ptrA ((lv (q ++ [t])).map Prod.fst) → vp' = ptrA (ns.map Prod.fst) → vn' = ptrA (kt.map Prod.fst) → MlS w base ob R sub nd lv p toks (i + 1) vl' vp' vn' (L ++ Lf.map (fun v => (q ++ [full], v)) ++ Ls) wc) := ⟨fun vl' vp' vn' h1' h3' h2' => ⟨h4, by rw [h1', path_snoc HTI.out, HQ.out], (fun e => by cases e), (fun j u hj hu => by
              obtain rfl : j = i := by omega
              rw [HTI.out] at hu
              injection hu with hu
              subst hu
              rw [HQ.out, HNS.out, HKT.out]
              exact ⟨h3', h2'⟩), HOU.out, HVI.out⟩⟩
            clear hB hM hkt hcut d1 h1 h2 h3 h4
            go_upto_region 10 with (fail)
            go_upto_region 11 with (first | (at_lookup; refine wpList_mp_look rfl _ _ rfl rfl HMC.out (by show _ ≤ _; have := HTL.out.2.2; unfold maxLen; omega) rfl ?_; rw [HKG.out]) | fail)
            cases kt with
            | none =>
              simp only [Option.map_none]
              have HLN : Aside0 (lv (q ++ [t]) = none) := ⟨by
                cases hq : lv (q ++ [t]) with
                | none => rfl
                | some z =>
                  obtain ⟨y, hy⟩ := HTD.out.lvnd _ _ (ne_nil _ _) hq
                  rw [HKT.out] at hy
                  cases hy⟩
              go_wp2_with fail
              go_roundg (toks.length - (i + 1))
              case measure => have := HI.out; have := HIK.out; omega
              case rel => exact ⟨i + 1, _, rfl, ⟨by have := HIK.out; omega⟩, ⟨HFI.out _ _ _ (by rw [HLN.out]; rfl) (by cases ns <;> rfl) rfl⟩⟩
            | some z =>
              simp only [Option.map_some]
              obtain ⟨-, -, hBz, -⟩ := HTD.out.node _ z HKT.out
              have e0 := hBz.cell 0 rfl
              clear hBz
              go_wp2_with fail
              go_roundg (toks.length - (i + 1))
              case measure => have := HI.out; have := HIK.out; omega
              case rel => exact ⟨i + 1, _, rfl, ⟨by have := HIK.out; omega⟩, ⟨HFI.out _ _ _ rfl (by cases ns <;> rfl) rfl⟩⟩
    · have hie : i = toks.length := by have := HI.out; omega
      subst hie
      have i2 : decide ((toks.length : Int) < (toks.length : Int)) = false := decide_eq_false (by omega)
      rcases Nat.eq_zero_or_pos toks.length with hz | hz
      · obtain ⟨h7, h8⟩ := HS.out.zero hz
        have HT0 : Aside0 (toks = []) := ⟨List.length_eq_zero_iff.1 hz⟩
        have HP : Aside0 (MlPost w base ob R sub p toks (.returned (.tuple #[])) wr) := ⟨⟨rfl, ⟨L, HS.out.vis.nodup, (fun x => by
          have hv := HS.out.vis
          rw [hz] at hv
          have := hv.empty HT0.out
          subst this
          exact ⟨(fun e => by cases e), fun e => (e.1 HT0.out).elim⟩), HS.out.out⟩, HS.out.fr⟩⟩
        obtain ⟨v6, hv6⟩ : ∃ v6, u6 = v6 := ⟨_, rfl⟩
        obtain ⟨v7, hv7⟩ : ∃ v7, u7 = v7 := ⟨_, rfl⟩
        rw [hv6] at h7
        rw [hv7] at h8
        rw [hv6, hv7]
        clear hv6 hv7 hz HS
        subst h7
        subst h8
        go_wp2_with fail
        go_end0
        exact HP.out
      · obtain ⟨j, hj⟩ : ∃ j, toks.length = j + 1 := ⟨toks.length - 1, by omega⟩
        obtain ⟨t, ht⟩ : ∃ t, toks[j]? = some t := ⟨_, List.getElem?_eq_getElem (by omega)⟩
        obtain ⟨h7, h8⟩ := HS.out.pos j t hj ht
        obtain ⟨q, hq⟩ : ∃ q, p ++ toks.take j = q := ⟨_, rfl⟩
        have HTL := Aside0.mk (HLT.out t (List.mem_of_getElem? ht))
        have HDN : Aside0 (∀ Ln Lp : List Int, Ln.Nodup → (∀ v, v ∈ Ln ↔ (sub (q ++ [t]) v).isSome = true) → Lp.Nodup → (∀ v, v ∈ Lp ↔ (sub (q ++ [star]) v).isSome = true) → (L ++ Ln.map (fun v => (q ++ [t], v)) ++ Lp.map (fun v => (q ++ [star], v))).Nodup ∧ ∀ x, x ∈ L ++ Ln.map (fun v => (q ++ [t], v)) ++ Lp.map (fun v => (q ++ [star], v)) ↔ toks ≠ [] ∧ InH sub p toks x) := ⟨fun Ln Lp g1 g2 g3 g4 => HS.out.vis.done hj hq ht ⟨HTL.out.1, HTL.out.2.1⟩ g1 g2 g3 g4⟩
        obtain ⟨nt, hnt⟩ : ∃ nt, nd (q ++ [t]) = nt := ⟨_, rfl⟩
        obtain ⟨ns, hns⟩ : ∃ ns, nd (q ++ [star]) = ns := ⟨_, rfl⟩
        rw [hq, hns] at h7
        rw [hq, hnt, ptrA_eq] at h8
        obtain ⟨po, hpo⟩ : ∃ po : Option Addr, (nt.map Prod.fst).map (fun b => (⟨b, 0, none⟩ : Addr)) = po := ⟨_, rfl⟩
        rw [hpo] at h8
        have HPO := Aside0.mk hpo
        have HV6 := Aside0.mk h7
        have HNT := Aside0.mk hnt
        have HNS := Aside0.mk hns
        have HOU := Aside0.mk HS.out.out
        have HFR := Aside0.mk HS.out.fr
        have HPT : Aside0 (∀ Ln Lp : List Int, Ln.Nodup → (∀ v ∈ Ln, (sub (q ++ [t]) v).isSome = true) → Lp.Nodup → (∀ v ∈ Lp, (sub (q ++ [star]) v).isSome = true) → R.length + L.length + Ln.length + Lp.length ≤ 900000) := ⟨fun Ln Lp g1 g2 g3 g4 => by
          obtain ⟨e1, e2⟩ := HS.out.vis.part hj hq ht ⟨HTL.out.1, HTL.out.2.1⟩ g1 g2 g3 g4
          have := HN.out _ e1 e2
          simp only [List.length_append, List.length_map] at this
          omega⟩
        clear hz hj ht hq hnt hns HS h7 hpo
        subst h8
        go_upto_if 60 with (fail)
        go_cut [] from 61 to 63 (fun wc => Aside0 (∃ Ln : List Int, Ln.Nodup ∧ (∀ v, v ∈ Ln ↔ (sub (q ++ [t]) v).isSome = true) ∧ Out wc base ob (R ++ L.map Prod.snd ++ Ln) ∧ Fr (OF base w) w wc))
        case first =>
          cases nt with
          | none =>
            have HZ : Aside0 (∀ v, (sub (q ++ [t]) v).isSome = false) := ⟨fun v => by rw [HF.out.out _ HNT.out]; rfl⟩
            have hv : none = po := HPO.out
            subst hv
            go_wp2_with fail
            go_meet
            case rel => exact ⟨[], List.nodup_nil, (fun v => ⟨(fun e => by cases e), fun e => by rw [HZ.out v] at e; cases e⟩), by rw [List.append_nil]; exact HOU.out, HFR.out⟩
          | some y =>
            have hv : some ⟨y.1, 0, none⟩ = po := HPO.out
            subst hv
            obtain ⟨-, -, hBy, hMy⟩ := HTW.out.node _ y HNT.out
            have HCB : Aside0 (Calls Tryd.prog 87 #[.pointer (some ⟨y.1, 0, none⟩), cbV ob] wr (CbsPost wr base ob (R ++ L.map Prod.snd) (sub (q ++ [t])))) := ⟨cbs_calls HOU.out HBW.out (fun Ln h1 h2 => by
              have := HPT.out Ln [] h1 h2 List.nodup_nil (fun v hv => by cases hv)
              simp only [List.length_append, List.length_map, List.length_nil] at this ⊢
              omega) hBy hMy⟩
            clear hBy hMy
            go_wp2_with fail
            refine HCB.out.mono ?_
            rintro e w4 ⟨rfl, ⟨Ln, h1, h2, h3⟩, h4⟩
            have H4 := Aside0.mk (And.intro h1 (And.intro h2 (And.intro h3 h4)))
            clear h1 h2 h3 h4 HCB
            go_wp2_with fail
            go_meet
            case rel => exact ⟨Ln, H4.out.1, H4.out.2.1, H4.out.2.2.1, of_trans HFR.out H4.out.2.2.2⟩
        case rest =>
          obtain ⟨Ln, h1, h2, h3, h4⟩ := hcut.out
          have HLN2 := Aside0.mk (And.intro h1 (And.intro h2 (And.intro h3 h4)))
          have HTV : Aside0 (Tri wc B K nd lv sub) := ⟨HT.out.far h4 (fun k hk => wk_of hk)⟩
          have HBV : Aside0 (base ≤ wc.heap.size) := ⟨Nat.le_trans HBS.out h4.size⟩
          have HSN : Aside0 (∀ Lp : List Int, (L ++ Ln.map (fun v => (q ++ [t], v)) ++ Lp.map (fun v => (q ++ [star], v))).map Prod.snd = L.map Prod.snd ++ Ln ++ Lp) := ⟨fun Lp => by
            rw [List.map_append, List.map_append, List.map_map, List.map_map]
            congr 1
            · congr 1
              exact List.map_id Ln
            · exact List.map_id Lp⟩
          obtain ⟨v6, hv6⟩ : ∃ v6, u6 = v6 := ⟨_, rfl⟩
          rw [hv6] at HV6
          rw [hv6]
          clear hcut hv6 h1 h2 h3 h4
          cases ns with
          | none =>
            have hv : v6 = .pointer none := HV6.out
            subst hv
            have HP : Aside0 (MlPost w base ob R sub p toks (.returned (.tuple #[])) wc) := ⟨by
              have hz : ∀ v, v ∈ ([] : List Int) ↔ (sub (q ++ [star]) v).isSome = true := fun v => ⟨(fun e => by cases e), fun e => by rw [HF.out.out _ HNS.out] at e; cases e⟩
              obtain ⟨e1, e2⟩ := HDN.out Ln [] HLN2.out.1 HLN2.out.2.1 List.nodup_nil hz
              refine ⟨rfl, ⟨_, e1, e2, ?_⟩, HLN2.out.2.2.2⟩
              rw [HSN.out, List.append_nil, ← List.append_assoc]
              exact HLN2.out.2.2.1⟩
            go_wp2_with fail
            go_end0
            exact HP.out
          | some y =>
            have hv : v6 = .pointer (some ⟨y.1, 0, none⟩) := HV6.out
            subst hv
            obtain ⟨-, -, hBy, hMy⟩ := HTV.out.node _ y HNS.out
            have HCB : Aside0 (Calls Tryd.prog 87 #[.pointer (some ⟨y.1, 0, none⟩), cbV ob] wc (CbsPost wc base ob (R ++ L.map Prod.snd ++ Ln) (sub (q ++ [star])))) := ⟨cbs_calls HLN2.out.2.2.1 HBV.out (fun Lp h1 h2 => by
              have := HPT.out Ln Lp HLN2.out.1 (fun v hv => (HLN2.out.2.1 v).1 hv) h1 h2
              simp only [List.length_append, List.length_map] at this ⊢
              omega) hBy hMy⟩
            clear hBy hMy
            go_wp2_with fail
            refine HCB.out.mono ?_
            rintro e w4 ⟨rfl, ⟨Lp, h1, h2, h3⟩, h4⟩
            have HP : Aside0 (MlPost w base ob R sub p toks (.returned (.tuple #[])) w4) := ⟨by
              obtain ⟨e1, e2⟩ := HDN.out Ln Lp HLN2.out.1 HLN2.out.2.1 h1 h2
              refine ⟨rfl, ⟨_, e1, e2, ?_⟩, of_trans HLN2.out.2.2.2 h4⟩
              rw [HSN.out, ← List.append_assoc, ← List.append_assoc]
              exact h3⟩
            clear h1 h2 h3 h4 HCB
            go_wp2_with fail
            go_end0
            exact HP.out
end
end Go.Proofs.YtimffhpnfdikoaaDoor.Ls
