/- A local array, a subject taken apart on the spot (tokenizeSubject). -/
import Derived.Test.YtoopmpjgmgffoaaDoorTrB
import Derived.Test.YtoopmpjgmgffoaaDoorPlTr
import Derived.Test.YtoopmpjgmgffoaaDoorPlWalk
namespace Go.Proofs.YtoopmpjgmgffoaaDoor.Tr
open Go.RowKit Go.Proofs.YtoopmpjgmgffoaaDoor.Pl Go.Proofs.YtoopmpjgmgffoaaDoor.Bs Go.Proofs.YtoopmpjgmgffoaaDoorW.PrintWords Go.Proofs.YtoopmpjgmgffoaaDoorW.PrintLast Go.Proofs.YtoopmpjgmgffoaaDoorW.PrintMore Go.Proofs.YtoopmpjgmgffoaaDoor.GFnTransformBack Go.Proofs.YtoopmpjgmgffoaaDoor.PlFnTransformBack
set_option linter.unusedVariables false
set_option linter.unusedSimpArgs false
def AG (S : TypeId → Prop) (w : World) (base size : Nat) (v : Value) (n : Nat) (xs : List Value) : Prop :=
  ∃ g cap cur T, v = .slice (some ⟨g, 0, none⟩) n cap ∧ S T ∧ base ≤ g ∧ w.heap[g]? = some (.cells cur T (0, 0)) ∧ xs.length = n * size ∧ n ≤ cap ∧ cap * size ≤ cur.size ∧ cap ≤ maxLen ∧ cur.toList.take (n * size) = xs
section
variable {S : TypeId → Prop}
theorem AG.made {w : World} {g base size : Nat} {cur : Array Value} {T : TypeId} {n : Nat} (h : w.heap[g]? = some (.cells cur T (0, 0))) (hS : S T) (hb : base ≤ g) (hn : n * size ≤ cur.size) (hm : n ≤ maxLen) : AG S w base size (.slice (some ⟨g, 0, none⟩) 0 n) 0 [] :=
  ⟨g, n, cur, T, rfl, hS, hb, h, by simp, Nat.zero_le _, hn, hm, by simp⟩
theorem AG.fr {F : Nat → Prop} {w w1 : World} {base size : Nat} {v : Value} {n : Nat} {xs : List Value} (h : AG S w base size v n xs) (hf : Fr F w w1) (hn : ∀ k, v.ownBlock = some k → ¬ F k) : AG S w1 base size v n xs := by
  obtain ⟨g, cap, cur, T, rfl, hS, hb, hg, r⟩ := h
  exact ⟨g, cap, cur, T, rfl, hS, hb, (hf.block g (Array.getElem?_eq_some_iff.1 hg).1 (hn g rfl)).trans hg, r⟩
theorem AG.alloc {w : World} {base size : Nat} {v : Value} {n : Nat} {xs : List Value} (h : AG S w base size v n xs) (o : Obj) : AG S (w.alloc o) base size v n xs := h.fr ((Fr.refl (F := fun _ => False) w).alloc o) (fun _ _ h => h)
theorem AG.low {w : World} {base base' size : Nat} {v : Value} {n : Nat} {xs : List Value} (h : AG S w base size v n xs) (hb : base' ≤ base) : AG S w base' size v n xs := by
  obtain ⟨g, cap, cur, T, rfl, hS, h1, r⟩ := h
  exact ⟨g, cap, cur, T, rfl, hS, by omega, r⟩
theorem AG.block {w : World} {base size : Nat} {v : Value} {n : Nat} {xs : List Value} (h : AG S w base size v n xs) : ∃ g cap cur T, v = .slice (some ⟨g, 0, none⟩) n cap ∧ n ≤ cap ∧ cap ≤ maxLen ∧ base ≤ g ∧ S T ∧ w.heap[g]? = some (.cells cur T (0, 0)) := by
  obtain ⟨g, cap, cur, T, rfl, hS, hb, hg, h0, h1, h2, h3, h4⟩ := h
  exact ⟨g, cap, cur, T, rfl, h1, h3, hb, hS, hg⟩
theorem AG.cell {w : World} {base size : Nat} {g n cap : Nat} {xs : List Value} (h : AG S w base size (.slice (some ⟨g, 0, none⟩) n cap) n xs) {j : Nat} (hj : j < xs.length) : w.cell? ⟨g, j, none⟩ = xs[j]? := by
  obtain ⟨g', cap', cur, T, e, hS, hb, hg, h0, h1, h2, h3, h4⟩ := h
  injection e with e1 e2 e3
  injection e1 with e1
  injection e1 with e1 e4
  subst e1
  rw [cell_of_row w g _ cur T (0, 0) hg]
  conv => rhs; rw [← h4]
  rw [List.getElem?_take_of_lt (by omega), Array.getElem?_toList]
theorem AG.of_own {w : World} {base e size n : Nat} {v : Value} {xs : List Value} (h : w.ownsRow base e size v n xs) (hS : S e) (hn : 0 < n) : AG S w base size v n xs := by
  obtain ⟨h1, h2⟩ := h
  rcases h2 with ⟨_, h0⟩ | ⟨g, cap, cur, rfl, hb, hg, hnc, hcm, hcs, htake⟩
  · omega
  exact ⟨g, cap, cur, e, rfl, hS, hb, hg, h1, hnc, by omega, hcm, htake⟩
structure AGPost (S : TypeId → Prop) (W : World) (base size : Nat) (v : Value) (n : Nat) (xs : List Value) (v' : Value) (w' : World) : Prop where
  row : AG S w' base size v' n xs
  fr : Fr (fun k => v.ownBlock = some k) W w'
section
variable {P : Program} {ops : Array Oper} {Q : Exit → Act → World → Prop} {rest : List Oper} {o : Oper} {a : Act}
set_option maxRecDepth 100000 in
theorem AG.run_append {W : World} {base : Nat} {t e : TypeId} {i0 : TypeInfo} {z : Value} {size bytes : Nat} (K : ElemK P t e i0 z size bytes) (hS : S e) (ty : TypeId) {v : Value} {n m : Nat} {xs ys : List Value} (h : AG S W base size v n xs) (hbW : base ≤ W.heap.size) {ad : Addr} {c : Nat} (hr : ReadG W (some ad) m size ys) (hm : 0 < m) (hsz : n + m ≤ 1000000) :
    ∃ v' w', (Builtin.append_ #[t, t] ty #[v, .slice (some ad) m c]).run P W = .ok v' w' ∧ AGPost S W base size v (n + m) (xs ++ ys) v' w' := by
  obtain ⟨g, cap, cur, T, rfl, hT, hb, hg, h0, h1, h2, h3, h4⟩ := h
  have hglt : g < W.heap.size := (Array.getElem?_eq_some_iff.1 hg).1
  have hyl := hr.len
  have hnews : ∀ j u, ys[j]? = some u → W.cell? (ad.add j) = some u := fun j u hu => by
    obtain ⟨ad', e, hc⟩ := hr.read (by have := (List.getElem?_eq_some_iff.1 hu).1; omega)
    injection e with e
    subst e
    exact hc j u hu
  have hp := K.pos
  by_cases hroom : n + m ≤ cap
  · have hmul : (n + m) * size ≤ cap * size := Nat.mul_le_mul_right _ hroom
    rw [Nat.add_mul] at hmul
    have hrun := run_append_room_cells (P := P) W t ty e i0 K.under K.info g 0 n cap ad m c ys (by rw [K.sz]; exact hyl) hnews hr.one hroom
      (fun j hj => by rw [K.sz, cell_of_row W g _ cur T (0, 0) hg, Array.getElem?_eq_getElem (by omega)]; rfl) (fun j _ => blk_frozen hg _)
    rw [K.sz, Nat.zero_add] at hrun
    obtain ⟨cur', c1, c2, c3⟩ := setCells_row ys (n * size) W cur hg (by omega)
    obtain ⟨s1, s2, s3, s4⟩ := setCells_same g ys (n * size) W
    refine ⟨_, _, hrun, ⟨⟨g, cap, cur', T, rfl, hT, hb, c1, by rw [List.length_append, h0, hyl, Nat.add_mul], hroom, by omega, h3, ?_⟩, ⟨s1, s2, s3, by rw [s4]; exact Nat.le_refl _, fun k hk hne => setCells_far _ _ k (fun e => hne (by rw [e]; rfl))⟩⟩⟩
    rw [c3]
    have hl1 : (List.take (n * size) cur.toList).length = n * size := by rw [h4, h0]
    rw [Nat.add_mul, List.take_append_of_le_length (by rw [List.length_append, hl1, hyl]; exact Nat.le_refl _), h4]
    exact List.take_of_length_le (by rw [List.length_append, h0, hyl]; exact Nat.le_refl _)
  obtain ⟨v', w', hrun, hown, hgr⟩ := run_append_arg_grows (P := P) W t ty e i0 z size bytes K.under K.info K.zero K.sz K.by_ K.zs K.pos ⟨g, 0, none⟩ n cap xs h0
    (fun j u hu => by
      have hj : j < xs.length := (List.getElem?_eq_some_iff.1 hu).1
      rw [add_plain, cell_of_row W g _ cur T (0, 0) hg, ← hu]
      conv => rhs; rw [← h4]
      rw [List.getElem?_take_of_lt (by omega), Array.getElem?_toList])
    ad m c ys hyl hnews (by omega) (by unfold maxLen; omega) (by
      have := Nat.mul_le_mul hsz K.small
      omega)
  exact ⟨v', w', hrun, ⟨(AG.of_own hown hS (by omega)).low hbW, ⟨hgr.os, hgr.tape, hgr.output, hgr.size, fun k hk _ => hgr.block k hk (by simp)⟩⟩⟩
theorem AG.append {W : World} {base : Nat} {t e : TypeId} {i0 : TypeInfo} {z : Value} {size bytes : Nat} (K : ElemK P t e i0 z size bytes) (hw : Region.wanted o (yielded ops a.tmps) = true) (s x : Operand) (ho : o.op = .call { callee := .builtin .append, args := #[s, x], argTypes := #[t, t] }) (hS : S e)
    {v : Value} {n m : Nat} {xs ys : List Value} (hs : a.eval s = v) (h : AG S W base size v n xs) (hbW : base ≤ W.heap.size) {ad : Addr} {c : Nat} (hx : a.eval x = .slice (some ad) m c) (hr : ReadG W (some ad) m size ys) (hm : 0 < m) (hsz : n + m ≤ 1000000)
    (hK : ∀ v' w', AGPost S W base size v (n + m) (xs ++ ys) v' w' → wpList P ops Q rest (a.put o.dst v') w') : wpList P ops Q (o :: rest) a W := by
  refine wpList_step fun KK hK' => ?_
  rw [if_pos hw]
  obtain ⟨v', w', hrun, hp⟩ := AG.run_append (c := c) K hS o.type h hbW hr hm hsz
  unfold Oper.wp execOp
  simp only [ho, resolve, invoke, builtin, Sem.run_bind, Sem.run_pure, Result.andThen_ok, List.map_toArray, List.map_cons, List.map_nil, hs, hx, hrun]
  exact hK' _ _ (hK v' w' hp)
end
end
def TkS (s : ByteArray) (a n : Nat) (out : List ByteArray) : Prop := ∃ pre p rest : List UInt8, s = ba (pre ++ p ++ rest) ∧ a = pre.length ∧ n = pre.length + p.length ∧ tk s = out ++ (toksA p rest).map ba
theorem TkS.start (s : ByteArray) : TkS s 0 0 [] := ⟨[], [], s.data.toList, rfl, rfl, rfl, rfl⟩
theorem TkS.le {s : ByteArray} {a n : Nat} {out : List ByteArray} (h : TkS s a n out) : a ≤ n ∧ n ≤ s.size := by
  obtain ⟨pre, p, rest, h1, h2, h3, h4⟩ := h
  have : s.size = pre.length + p.length + rest.length := by rw [h1, ba_size]; simp; omega
  omega
theorem TkS.outl {s : ByteArray} {a n : Nat} {out : List ByteArray} (h : TkS s a n out) : out.length + 1 ≤ (tk s).length := by
  obtain ⟨pre, p, rest, h1, h2, h3, h4⟩ := h
  rw [h4, List.length_append, List.length_map, toksA_len]
  omega
theorem TkS.dot {s : ByteArray} {a n : Nat} {out : List ByteArray} (h : TkS s a n out) (hn : n < s.size) (hb : bt s (n : Int) = 46) : TkS s (n + 1) (n + 1) (out ++ [s.extract a n]) := by
  obtain ⟨pre, p, rest, h1, h2, h3, h4⟩ := h
  cases rest with
  | nil => rw [h1, ba_size] at hn; simp at hn; omega
  | cons c rest =>
    have hc : bt s (n : Int) = (c.toNat : Int) := bt_mid (pre ++ p) c rest h1 (by simp; omega)
    rw [hc] at hb
    have hc6 : c = 46 := (toNat_eq (n := 46) (by omega)).1 hb
    subst hc6
    have hx : s.extract a n = ba p := by
      have := ext_mid (s := s) (a := (a : Int)) (b := (n : Int)) pre p (46 :: rest) h1 (by omega) (by omega)
      simpa using this
    rw [toksA_dot] at h4
    refine ⟨pre ++ p ++ [46], [], rest, by rw [h1]; simp, by simp; omega, by simp; omega, ?_⟩
    rw [h4, hx]
    simp
theorem TkS.other {s : ByteArray} {a n : Nat} {out : List ByteArray} (h : TkS s a n out) (hn : n < s.size) (hb : bt s (n : Int) ≠ 46) : TkS s a (n + 1) out := by
  obtain ⟨pre, p, rest, h1, h2, h3, h4⟩ := h
  cases rest with
  | nil => rw [h1, ba_size] at hn; simp at hn; omega
  | cons c rest =>
    have hc : bt s (n : Int) = (c.toNat : Int) := bt_mid (pre ++ p) c rest h1 (by simp; omega)
    have hc6 : c ≠ 46 := fun e => hb (by rw [hc, e]; rfl)
    refine ⟨pre, p ++ [c], rest, by rw [h1]; simp, h2, by simp; omega, ?_⟩
    rw [h4, toksA_other _ hc6]
theorem TkS.done {s : ByteArray} {a : Nat} {out : List ByteArray} (h : TkS s a s.size out) : tk s = out ++ [s.extract a s.size] := by
  obtain ⟨pre, p, rest, h1, h2, h3, h4⟩ := h
  have hz : s.size = pre.length + p.length + rest.length := by rw [h1, ba_size]; simp; omega
  have hr : rest = [] := List.length_eq_zero_iff.1 (by omega)
  subst hr
  have hx : s.extract a s.size = ba p := by
    have := ext_end (s := s) (a := (a : Int)) pre p (by rw [h1, List.append_nil]) (by omega)
    simpa using this
  have h5 : tk s = out ++ [ba p] := h4
  rw [h5, hx]
abbrev S9 : TypeId → Prop := fun T => T = 81 ∨ T = 9
structure TokPost (w : World) (s : ByteArray) (e : Ending) (w' : World) : Prop where
  out : ∃ g c, e = .returned (.slice (some ⟨g, 0, none⟩) (tk s).length c) ∧ (tk s).length ≤ c ∧ Kd.C Kd.string w' (some ⟨g, 0, none⟩) (tk s).length (tk s)
  same : Same w w'
section
set_option maxHeartbeats 8000000
set_option maxRecDepth 100000
theorem tok_calls {w : World} {s : ByteArray} (hs : s.size ≤ 500000) : Calls Tryd.prog 46 #[.string s] w (TokPost w s) := by
  obtain ⟨i9, hE9⟩ := ek30
  have HE := Aside0.mk hE9
  have HZ := Aside0.mk hs
  clear hE9 hs
  go_enter Tryd.func46, Tryd.ntmps46
  go_upto_region 1 with (fail)
  refine wp_region_lit ?_
  refine Wk.arrL_ (Array.replicate 32 (.string ⟨#[]⟩)) (T := 81) (N1 := 7) (N2 := 3) rfl rfl rfl rfl rfl rfl (fun _ _ => by kernel_rfl) (fun _ _ => by kernel_rfl) rfl (by kernel_rfl) (by simp [Value.oneCell']) rfl rfl ?_
  intro w2 cur hB2 hblk hcur hsz
  simp only [Act.put, List.setIfInBounds_toArray, List.set_cons_zero, List.set_cons_succ]
  generalize Value.agg (Array.replicate 32 (.string ⟨#[]⟩)) = v13
  have hsh : w2.shape? w.heap.size = some (81, 32) := Wk.shape_of hblk (by rw [← Array.length_toList, hcur]; simp)
  have HA0 : Aside0 (AG S9 w2 w.heap.size 1 (.slice (some ⟨w.heap.size, 0, none⟩) 0 32) 0 [] ∧ Same w w2) := ⟨AG.made hblk (.inl rfl) (Nat.le_refl _) (by rw [← Array.length_toList, hcur]; simp) (by decide), fr_of_below hB2⟩
  clear hB2 hblk hcur hsz
  obtain ⟨P0, hP0⟩ : ∃ P0, P0 = w.heap.size := ⟨_, rfl⟩
  rw [← hP0] at HA0 hsh ⊢
  have HP0 := Aside0.mk hP0
  clear hP0
  go_wp2_with fail
  go_loopg [4, 5, 6] s.size (fun kq v4 v5 v6 wr => ∃ (a n : Nat) (out : List ByteArray), v5 = .int .i64 (a : Int) ∧ v6 = .int .i64 (n : Int) ∧ Aside0 (kq + n = s.size) ∧ Aside0 (TkS s a n out) ∧ Aside0 (AG S9 wr P0 1 v4 out.length (out.map Value.string)) ∧ Aside0 (Same w wr))
  case atStart => exact ⟨0, 0, [], rfl, rfl, ⟨by omega⟩, ⟨TkS.start s⟩, ⟨HA0.out.1⟩, ⟨HA0.out.2⟩⟩
  case round =>
    obtain ⟨a, n, out, rfl, rfl, HI, HT, HA, HW⟩ := hrel
    have HLE := Aside0.mk HT.out.le
    have HOL : Aside0 (out.length ≤ 600000) := ⟨by have := HT.out.outl; have := tk_len s; have := HZ.out; omega⟩
    have HPW : Aside0 (P0 ≤ wr.heap.size) := ⟨by rw [HP0.out]; exact HW.out.size⟩
    obtain ⟨g, cap, cur, T', hvv, -, -, hgb, -, -⟩ := HA.out.block
    obtain ⟨v10, hv10⟩ : ∃ v10, u4 = v10 := ⟨_, rfl⟩
    rw [hv10] at HA hvv
    rw [hv10]
    subst hvv
    have HGB := Aside0.mk hgb
    clear hv10 u4 hgb
    by_cases hlt : n < s.size
    · have n0 : (0 : Int) ≤ (n : Int) := by omega
      have n1 : (n : Int) < (s.size : Int) := by omega
      have n2 : decide ((n : Int) < (s.size : Int)) = true := decide_eq_true n1
      have n3 : IntKind.i64.wrap ((n : Int) + 1) = (n : Int) + 1 := by rw [IntKind.wrap_i64]; have := HZ.out; omega
      have hx : ((s[n]'hlt).toNat : Int) = bt s (n : Int) := bt_at s (n : Int) hlt
      have HLT := Aside0.mk hlt
      replace n0 := eq_true n0
      replace n1 := eq_true n1
      by_cases h46 : bt s (n : Int) = 46
      · have e46 : (((s[n]'hlt).toNat : Int) == 46) = true := by rw [hx, h46]; rfl
        have HT2 := Aside0.mk (HT.out.dot hlt h46)
        have a0 : (0 : Int) ≤ (a : Int) := by omega
        have a1 : (a : Int) ≤ (n : Int) := by have := HLE.out; omega
        have a2 : (n : Int) ≤ (s.size : Int) := by omega
        have HRN : Aside0 (ReadG (wr.alloc (.cells #[.string (s.extract a n)] 9)) (some ⟨wr.heap.size, 0, none⟩) 1 1 [.string (s.extract a n)]) := ⟨read_newG (us := [.string (s.extract a n)]) (by rfl) (by intro u hu; simp only [List.mem_cons, List.not_mem_nil, or_false] at hu; rcases hu with rfl; rfl)⟩
        clear h46 hx
        go_wp2_with (first | (at_builtin; refine AG.append HE.out rfl (.tmp 19) (.tmp 24) rfl (.inr rfl) (v := .slice (some ⟨g, 0, none⟩) out.length cap) rfl (HA.out.alloc _) (by have := HPW.out; simp; omega) rfl HRN.out (by decide) (by have := HOL.out; omega) ?_; intro v' w5 hp5; have HP5 := Aside0.mk hp5; clear hp5) | fail)
        have HW5 : Aside0 (Same w w5) := ⟨(HW.out.alloc _).trans HP5.out.fr (fun k hk e => by
          have : g = k := by simpa [Value.ownBlock] using e
          have := HGB.out
          have := HP0.out
          omega)⟩
        go_roundg (s.size - (n + 1))
        case measure => have := HI.out; have := HLT.out; omega
        case rel => exact ⟨n + 1, n + 1, out ++ [s.extract a n], rfl, rfl, ⟨by have := HLT.out; omega⟩, HT2, ⟨by have := HP5.out.row; simpa using this⟩, HW5⟩
      have e46 : (((s[n]'hlt).toNat : Int) == 46) = false := by rw [beq_eq_false_iff_ne, hx]; exact h46
      have HT2 := Aside0.mk (HT.out.other hlt h46)
      clear h46 hx
      go_wp2_with fail
      go_roundg (s.size - (n + 1))
      case measure => have := HI.out; have := HLT.out; omega
      case rel => exact ⟨a, n + 1, out, rfl, rfl, ⟨by have := HLT.out; omega⟩, HT2, HA, HW⟩
    have hie : n = s.size := by have := HI.out; have := HLE.out; omega
    subst hie
    have n2 : decide ((s.size : Int) < (s.size : Int)) = false := decide_eq_false (by omega)
    have HTK := Aside0.mk (HT.out.done)
    have a0 : (0 : Int) ≤ (a : Int) := by omega
    have a1 : (a : Int) ≤ (s.size : Int) := by have := HLE.out; omega
    have HRN : Aside0 (ReadG (wr.alloc (.cells #[.string (s.extract a s.size)] 9)) (some ⟨wr.heap.size, 0, none⟩) 1 1 [.string (s.extract a s.size)]) := ⟨read_newG (us := [.string (s.extract a s.size)]) (by rfl) (by intro u hu; simp only [List.mem_cons, List.not_mem_nil, or_false] at hu; rcases hu with rfl; rfl)⟩
    clear hlt
    go_wp2_with (first | (at_builtin; refine AG.append HE.out rfl (.tmp 28) (.tmp 32) rfl (.inr rfl) (v := .slice (some ⟨g, 0, none⟩) out.length cap) rfl (HA.out.alloc _) (by have := HPW.out; simp; omega) rfl HRN.out (by decide) (by have := HOL.out; omega) ?_; intro v' w5 hp5; have HP5 := Aside0.mk hp5; clear hp5) | fail)
    obtain ⟨g5, cap5, cur5, T5, rfl, hn5, hm5, hgb5, -, -⟩ := HP5.out.row.block
    have hrow : AG S9 w5 P0 1 (.slice (some ⟨g5, 0, none⟩) (tk s).length cap5) (tk s).length ((tk s).map Value.string) := by
      have := HP5.out.row
      rw [HTK.out, List.map_append, List.length_append]
      exact this
    have hln : (tk s).length = out.length + 1 := by rw [HTK.out, List.length_append]; rfl
    have HP : TokPost w s (.returned (.slice (some ⟨g5, 0, none⟩) (tk s).length cap5)) w5 := by
      refine ⟨⟨g5, cap5, rfl, by rw [hln]; exact hn5, rfl, by have := HOL.out; omega, fun h0 => ⟨⟨g5, 0, none⟩, rfl, fun j p hj => ⟨[.string p], rfl, rfl, fun i u hu => ?_⟩⟩⟩, (HW.out.alloc _).trans HP5.out.fr (fun k hk e => ?_)⟩
      · match i with
        | 0 =>
          injection hu with hu
          subst hu
          show w5.cell? ((⟨g5, 0, none⟩ : Addr).add (j * 1 + 0)) = _
          rw [Nat.mul_one, Nat.add_zero, Bs.add_at, hrow.cell (by rw [List.length_map]; exact (List.getElem?_eq_some_iff.1 hj).1), List.getElem?_map, hj]
          rfl
        | i + 1 => simp at hu
      have : g = k := by simpa [Value.ownBlock] using e
      have := HGB.out
      have := HP0.out
      omega
    rw [hln] at HP
    have HPO := Aside0.mk HP
    clear HP hrow hln hn5 hm5 hgb5 a0 a1 n2
    go_wp2_with fail
    go_ret
    exact HPO.out
end
end Go.Proofs.YtoopmpjgmgffoaaDoor.Tr
