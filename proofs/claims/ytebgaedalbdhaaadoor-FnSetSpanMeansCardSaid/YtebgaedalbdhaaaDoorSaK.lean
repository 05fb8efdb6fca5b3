/- The end of a row without gaps: the set's SpanEnd. -/
import Derived.Test.YtebgaedalbdhaaaDoorSaJ
namespace Go.Proofs.YtebgaedalbdhaaaDoor.Av
open Go.RowKit Go.Proofs.YtebgaedalbdhaaaDoorW.PrintWords Go.Proofs.YtebgaedalbdhaaaDoorW.PrintLast Go.Proofs.YtebgaedalbdhaaaDoorW.PrintMore
set_option linter.unusedVariables false
set_option linter.unusedSimpArgs false

theorem info61 : (Tryd.prog.info? 61).map (fun i => (i.zero, i.size, i.bytes)) = some (some (.pointer none), 1, 8) := by kernel_rfl
theorem fr_of_below {w w' : World} (h : Below w.heap.size w w') : Fr (fun _ => False) w w' := ⟨h.os, h.tape, h.output, h.size, fun k hk _ => h.block k hk⟩
theorem below_of_fr {w w' : World} (h : Fr (fun _ => False) w w') : Below w.heap.size w w' := ⟨h.os, h.tape, h.output, h.size, fun k hk => h.block k hk (fun h => h)⟩
def stkC (st : List T) : List Value := (st.map (fun u => Value.pointer (ptrA u.ptr))).reverse
theorem stkC_cons (u : T) (st : List T) : stkC (u :: st) = stkC st ++ [Value.pointer (ptrA u.ptr)] := by simp [stkC]
theorem stkC_len (st : List T) : (stkC st).length = st.length := by simp [stkC]
theorem AR_pop {w : World} {base : Nat} {v u : Value} {cs : List Value} (h : Wk.AR w base v (cs ++ [u])) :
    ∃ g cap, v = .slice (some ⟨g, 0, none⟩) (cs.length + 1) cap ∧ cs.length + 1 ≤ cap ∧ cap ≤ maxLen ∧ w.cell? ⟨g, cs.length, none⟩ = some u ∧ Wk.AR w base (.slice (some ⟨g, 0, none⟩) cs.length cap) cs := by
  obtain ⟨g, cap, cur, T, hv, hb, hg, h1, h2, h3, h4⟩ := h
  simp only [List.length_append, List.length_cons, List.length_nil, Nat.zero_add] at hv h1 h4
  have hs : cs.length + 1 ≤ cur.size := by omega
  refine ⟨g, cap, hv, h1, h3, ?_, ⟨g, cap, cur, T, rfl, hb, hg, by omega, h2, h3, ?_⟩⟩
  · rw [cell_of_row w g _ cur T (0, 0) hg, ← Array.getElem?_toList, ← List.getElem?_take_of_lt (show cs.length < cs.length + 1 by omega), h4]
    simp
  · have := congrArg (List.take cs.length) h4
    rw [List.take_take, Nat.min_eq_left (by omega)] at this
    simpa using this
theorem new_cell (w : World) (v : Value) (ty : TypeId) : (w.alloc (.cells #[v] ty)).cell? ⟨w.heap.size, 0, none⟩ = some v := cell_at (cur := [v]) (heap_alloc_new w _)
/-- The stack of those that come later. -/
structure SpS (w wr : World) (st : List T) (v : Value) : Prop where
  fr : Fr (fun _ => False) w wr
  row : Wk.AR wr w.heap.size v (stkC st)
  ok : StkOk w st
section
variable {w wr w2 : World} {st : List T} {v v2 : Value}
theorem SpS.base (h : SpS w wr st v) {o : Obj} : w.heap.size ≤ (wr.alloc o).heap.size := by have := h.fr.size; simp; omega
theorem SpS.below (h : SpS w wr st v) {o : Obj} : Below w.heap.size w (wr.alloc o) := below_of_fr (h.fr.alloc o)
theorem SpS.push (h : SpS w wr st v) {b : Nat} {x : Int} {s : List Int} {l r : T} (hl : Lies w (.node b x s l r)) (h1 : Wk.AR w2 w.heap.size v2 (stkC st ++ [.pointer (some ⟨b, 0, none⟩)])) (h2 : Below w.heap.size w w2) : SpS w w2 (.node b x s l r :: st) v2 :=
  ⟨fr_of_below h2, by rw [stkC_cons]; exact h1, ⟨fun u hu => by
    rcases List.mem_cons.1 hu with rfl | hu
    · exact ⟨hl, _, _, _, _, _, rfl⟩
    · exact h.ok.each u hu⟩⟩
end
theorem flatS_len (st : List T) (h : ∀ u ∈ st, ∃ b x s l r, u = T.node b x s l r) : st.length ≤ (flatS st).length := by
  induction st with
  | nil => exact Nat.le_refl _
  | cons u st ih =>
    obtain ⟨b, x, s, l, r, rfl⟩ := h u List.mem_cons_self
    rw [flatS_cons]
    have := ih (fun u hu => h u (List.mem_cons_of_mem _ hu))
    simp
    omega
def SpanIs (L : List Int) (n : Int) (v : Value) : Prop := (n ∉ L ∧ v = .tuple #[.int .u64 0, .bool false]) ∨ ∃ E, Span L n E ∧ v = .tuple #[.int .u64 E, .bool true]
def SpanPost (w : World) (L : List Int) (n : Int) (e : Ending) (w' : World) : Prop := ∃ v, e = .returned v ∧ SpanIs L n v ∧ Fr (fun _ => False) w w'
/-- On the way down to the number. -/
structure Dn (w wr : World) (t : T) (r : Bool) (n : Int) (u : T) (k : Nat) (st : List T) (done : List Nd) (v : Value) : Prop where
  len : u.flat.length ≤ k
  s : SpS w wr st v
  split : t.flat = done ++ u.flat ++ flatS st
  lies : Lies w u
  has : r = u.has n
theorem Dn.room {w wr : World} {t : T} {r : Bool} {n : Int} {u : T} {k : Nat} {st : List T} {done : List Nd} {v : Value} (h : Dn w wr t r n u k st done v) (hz : t.flat.length ≤ 900000) : (stkC st).length + 1 ≤ maxLen ∧ ((stkC st).length + 1) * 8 ≤ 140737488355328 := by
  have h1 := flatS_len st (fun u hu => (h.s.ok.each u hu).2)
  have h2 := congrArg List.length h.split
  simp only [List.length_append] at h2
  rw [stkC_len]
  unfold maxLen
  omega

theorem u64_not {v : Nat} (hv : v < 18446744073709551616) : bits .xor .u64 (if IntKind.u64.signed = true then -1 else IntKind.u64.max) (v : Int) = ((18446744073709551615 - v : Nat) : Int) := by
  have hm : (if IntKind.u64.signed = true then -1 else IntKind.u64.max) = ((18446744073709551615 : Nat) : Int) := by decide
  rw [hm]
  show IntKind.u64.wrap ((BitVec.ofInt 64 ((18446744073709551615 : Nat) : Int) ^^^ BitVec.ofInt 64 (v : Int)).toNat : Int) = _
  rw [BitVec.toNat_xor, ofInt_u64 _ (by omega), ofInt_u64 v hv]
  have e : 18446744073709551615 ^^^ v = 18446744073709551615 - v := by
    apply Nat.eq_of_testBit_eq
    intro j
    have e1 : (18446744073709551615 : Nat) - v = 2 ^ 64 - (v + 1) := by omega
    have e2 : (18446744073709551615 : Nat) = 2 ^ 64 - 1 := by decide
    rw [e1, Nat.testBit_two_pow_sub_succ (by omega), Nat.testBit_xor, e2, Nat.testBit_two_pow_sub_one]
    by_cases h : j < 64
    · simp [h]
    · have : v.testBit j = false := Nat.testBit_lt_two_pow (Nat.lt_of_lt_of_le hv (by
        have := Nat.pow_le_pow_right (n := 2) (by omega) (show 64 ≤ j by omega)
        omega))
      simp [h, this]
  rw [e, IntKind.wrap_u64]
  omega
theorem miss_eq {v : Nat} (k : Nat) (hv : v < 18446744073709551616) : bits .and .u64 (bits .xor .u64 (if IntKind.u64.signed = true then -1 else IntKind.u64.max) (v : Int)) (IntKind.u64.wrap (18446744073709551615 * 2 ^ k)) = ((missW v k : Nat) : Int) := by
  have e1 : IntKind.u64.wrap (18446744073709551615 * 2 ^ k) = ((18446744073709551615 * 2 ^ k % 18446744073709551616 : Nat) : Int) := by
    have : ((2 : Int) ^ k) = ((2 ^ k : Nat) : Int) := by simp
    rw [this, IntKind.wrap_u64]
    omega
  rw [u64_not hv, e1, u64_and_nat _ _ (by omega) (Nat.mod_lt _ (by omega))]
  rfl
theorem flat_room {w wr : World} {t : T} {n q : Int} {done rest : List Nd} {b : Nat} {x : Int} {s : List Int} {st : List T} {u : T} {v : Value} (h : At t n q done b x s rest) (hz : t.flat.length ≤ 900000) (hs : SpS w wr st v) (e : rest = u.flat ++ flatS st) : (stkC st).length + 1 ≤ maxLen ∧ ((stkC st).length + 1) * 8 ≤ 140737488355328 := by
  have h1 := flatS_len st (fun u hu => (hs.ok.each u hu).2)
  have h2 := congrArg List.length h.split
  rw [e] at h2
  simp only [List.length_append, List.length_cons] at h2
  rw [stkC_len]
  unfold maxLen
  omega
/-- On the way down to the next node. -/
structure Lf (w wr : World) (rest : List Nd) (m : Nat) (b : Nat) (x : Int) (s : List Int) (l r : T) (st : List T) (v : Value) : Prop where
  len : l.flat.length ≤ m
  stk : SpS w wr st v
  lies : Lies w (.node b x s l r)
  split : rest = (T.node b x s l r).flat ++ flatS st
/-- On the way along the row. -/
structure Ou (w wr : World) (t : T) (n : Int) (m : Nat) (b : Nat) (x : Int) (s : List Int) (l r : T) (st : List T) (done : List Nd) (q : Int) (i k : Nat) (v : Value) : Prop where
  len : r.flat.length + (flatS st).length ≤ m
  stk : SpS w wr st v
  here : At t n q done b x s (r.flat ++ flatS st)
  lies : Lies w (.node b x s l r)
  q : q = x + (i : Int) * 64 + (k : Int)
set_option maxHeartbeats 16000000 in
set_option maxRecDepth 100000 in
theorem spanEnd_calls {w : World} {g : Nat} {t : T} {sz nd n : Int} (h : SetIs w g t sz nd) (ho : OrdF t.flat) (hz : t.flat.length ≤ 900000) (h0 : 0 ≤ n) (h1 : n + 2048 < 18446744073709551616) (hT : TabAt w) :
    Calls Tryd.prog 38 #[.pointer (some ⟨g, 0, none⟩), .int .u64 n] w (SpanPost w t.nums n) := by
  have HZ := Aside0.mk hz
  have HO := Aside0.mk ho
  have HW := Aside0.mk h.wf
  have HL := Aside0.mk h.lies
  have HT := Aside0.mk hT
  have f0 := h.set.c0
  have HS := Aside0.mk h.set
  have hbool : t.has n = true ↔ n ∈ t.nums := by rw [has_iff n ho, mem_nums h.wf]
  obtain ⟨r, hr⟩ : ∃ r, r = t.has n := ⟨_, rfl⟩
  have HR := Aside0.mk hr
  rw [← hr] at hbool
  have HB := Aside0.mk hbool
  clear h ho hz hT hr hbool
  have HF0 := Aside0.mk (Fr.refl (fun _ => False) w)
  go_enter Tryd.func38, Tryd.ntmps38
  go_upto_region 4 with (fail)
  generalize hw0 : w.alloc (Obj.cells _ 80) = w0
  have HS0 : Aside0 (SpS w w0 [] (.slice (some ⟨w.heap.size, 0, none⟩) 0 32)) := ⟨hw0 ▸ ⟨(Fr.refl _ w).alloc _, Wk.AR.made (heap_alloc_new w _) (Nat.le_refl _) (by decide) (by decide), ⟨fun u h => by cases h⟩⟩⟩
  replace f0 : w0.cell? ⟨g, 0, none⟩ = some (.pointer (ptrA t.ptr)) := by rw [← hw0]; exact (HS.out.alloc _).c0
  clear hw0 HF0 HS
  obtain ⟨P0, hP0⟩ : ∃ P0, P0 = w.heap.size := ⟨_, rfl⟩
  rw [← hP0] at HS0 ⊢
  clear hP0
  go_wp2
  clear f0
  go_loopg [7, 8] t.flat.length (fun k v7 v8 w' => ∃ u : T, v8 = .pointer (ptrA u.ptr) ∧ Aside0 (∃ st done, Dn w w' t r n u k st done v7))
  case atStart => exact ⟨t, rfl, ⟨[], [], Nat.le_refl _, HS0.out, by simp [flatS], HL.out, HR.out⟩⟩
  case round =>
    obtain ⟨u, rfl, HU⟩ := hrel
    obtain ⟨st, done, hd⟩ := HU.out
    have HD := Aside0.mk hd
    clear HU hd HS0 HL
    cases u with
    | nil =>
      have hr : r = false := HD.out.has
      subst hr
      rw [show ptrA T.nil.ptr = none from rfl]
      go_wp2
      refine bodyPost_ret (results_list (rs := [.tmp 4, .tmp 5]) rfl (by simp) (.tmp (.tmp .nil))) rfl ?_
      exact ⟨_, rfl, .inl ⟨(fun h => by have := HB.out.2 h; cases this), rfl⟩, HD.out.s.fr⟩
    | node b x s lt rt =>
      have hw := HW.out
      have hnw : NW (b, x, s) := hw _ (by rw [HD.out.split, T.flat_node]; simp)
      have HNW := Aside0.mk hnw
      have hx0 : 0 ≤ x := (NW_iff.1 hnw).1
      have hx1 : x + 2048 < 18446744073709551616 := (NW_iff.1 hnw).2.1
      have HH := HD.out.has
      rw [T.has] at HH
      replace HH := Aside0.mk HH
      have HK := Aside0.mk HD.out.len
      have N0 : Aside0 (NodeAt wr b x s lt.ptr rt.ptr (T.node b x s lt rt).ht) := ⟨HD.out.lies.1.fr HD.out.s.fr (fun h => h)⟩
      have HRM := Aside0.mk (HD.out.room HZ.out)
      have f0 := N0.out.c0
      clear hw hnw
      rw [show ptrA (T.node b x s lt rt).ptr = some ⟨b, 0, none⟩ from rfl]
      by_cases c1 : n < x
      · have hh := HH.out
        rw [if_pos c1] at hh
        have HH2 := Aside0.mk hh
        clear hh HH
        go_upto_region 9 with (refine Wk.AR.append rfl (.tmp 30) (.tmp 32) 81 61 (.pointer none) 8 rfl Tryd.underlying81 info61 rfl rfl (HD.out.s.row.alloc _) (Nat.le_refl _) HD.out.s.base HD.out.s.below ⟨wr.heap.size, 0, none⟩ 1 (.pointer (some ⟨b, 0, none⟩)) rfl (new_cell wr _ _) rfl HRM.out.2 HRM.out.1 (fun v' w2 h1 h2 _ _ _ => ?_); have HS2 := Aside0.mk (HD.out.s.push HD.out.lies h1 h2); clear h1 h2)
        have f33 : w2.cell? ⟨b, 33, none⟩ = some (.pointer (ptrA lt.ptr)) := (HD.out.lies.1.fr HS2.out.fr (fun h => h)).cl
        clear f0
        go_wp2
        go_roundg lt.flat.length
        case measure => have := HK.out; rw [flat_len_node] at this; omega
        case rel => exact ⟨lt, rfl, ⟨_, done, Nat.le_refl _, HS2.out, by rw [HD.out.split, T.flat_node, flatS_cons]; simp, HD.out.lies.2.1, HH2.out⟩⟩
      · have c1n : x ≤ n := by omega
        have f34 := N0.out.cr
        by_cases c2 : x + 2048 ≤ n
        · have hh := HH.out
          rw [if_neg c1, if_pos c2] at hh
          have HH2 := Aside0.mk hh
          clear hh HH c1
          go_wp2
          go_roundg rt.flat.length
          case measure => have := HK.out; rw [flat_len_node] at this; omega
          case rel => exact ⟨rt, rfl, ⟨st, done ++ lt.flat ++ [(b, x, s)], Nat.le_refl _, HD.out.s, by rw [HD.out.split, T.flat_node]; simp, HD.out.lies.2.2, HH2.out⟩⟩
        · have hh := HH.out
          rw [if_neg c1, if_neg c2] at hh
          have HH2 := Aside0.mk hh
          have c2n : n < x + 2048 := by omega
          clear hh HH c1 c2 f34
          go_wp2_with fail
          refine (exists_calls N0.out hx0 c1n c2n (by omega)).mono ?_
          rintro e w' ⟨rfl, rfl⟩
          rw [← HH2.out]
          cases hb : r with
          | false =>
            subst hb
            go_wp2
            refine bodyPost_ret (results_list (rs := [.tmp 4, .tmp 5]) rfl (by simp) (.tmp (.tmp .nil))) rfl ?_
            exact ⟨_, rfl, .inl ⟨(fun h => by have := HB.out.2 h; cases this), rfl⟩, HD.out.s.fr⟩
          | true =>
            have HN := Aside0.mk (HB.out.1 hb)
            clear hb HH2 HR HB
            obtain ⟨o, ho⟩ : ∃ o : Nat, n = x + o := ⟨(n - x).toNat, by omega⟩
            have HOO := Aside0.mk ho
            have e3 : IntKind.u64.wrap (n - x) = o := by rw [IntKind.wrap_u64]; omega
            have b1 : o < 2048 := by omega
            have HOU : Aside0 (Ou w wr t n (rt.flat.length + (flatS st).length) b x s lt rt st (done ++ lt.flat) n (o / 64) (o % 64) u7) :=
              ⟨⟨Nat.le_refl _, HD.out.s, ⟨by rw [HD.out.split, T.flat_node]; simp, Int.le_refl _, fun y a b => by omega, c1n⟩, HD.out.lies, by omega⟩⟩
            clear ho
            go_wp2
            go_loopg [1, 7, 8, 10, 11] (rt.flat.length + (flatS st).length) (fun m v1 v7 v8 v10 v11 w' => ∃ (b : Nat) (q : Int) (i k : Nat), v8 = .pointer (some ⟨b, 0, none⟩) ∧ v1 = .int .u64 q ∧ v10 = .int .u64 i ∧ v11 = .int .u64 k ∧ i < 32 ∧ k < 64 ∧ Aside0 (∃ x s l r st done, Ou w w' t n m b x s l r st done q i k v7))
            case atStart => exact ⟨b, n, o / 64, o % 64, rfl, rfl, by simp, by simp, by omega, by omega, ⟨_, _, _, _, _, _, HOU.out⟩⟩
            case round =>
              clear HOU HD HNW HK N0 HRM f0 c1n c2n e3 b1 HOO hx0 hx1
              obtain ⟨b, q, i, k, rfl, rfl, rfl, rfl, hi, hk, HU⟩ := hrel
              obtain ⟨x, s, l, r, st, done, hou⟩ := HU.out
              have HOU := Aside0.mk hou
              have HI := Aside0.mk hi
              have HKK := Aside0.mk hk
              have HNW := Aside0.mk (HOU.out.here.words HW.out)
              have hx0 : 0 ≤ x := (NW_iff.1 HNW.out).1
              have hx1 : x + 2048 < 18446744073709551616 := (NW_iff.1 HNW.out).2.1
              have N0 : Aside0 (NodeAt wr b x s l.ptr r.ptr (T.node b x s l r).ht) := ⟨HOU.out.lies.1.fr HOU.out.stk.fr (fun h => h)⟩
              obtain ⟨GK, hGK⟩ : ∃ GK, GK = gk := ⟨_, rfl⟩
              have HGK := Aside0.mk hGK
              clear hGK
              clear HU hou hi hk
              go_wp2
              go_loopg [1, 10, 11] 32 (fun m v1 v10 v11 w' => ∃ (q : Int) (i k : Nat), v1 = .int .u64 q ∧ v10 = .int .u64 i ∧ v11 = .int .u64 k ∧ i ≤ 32 ∧ k < 64 ∧ w' = wr ∧ Aside0 (32 - i ≤ m ∧ (i = 32 → k = 0) ∧ q = x + (i : Int) * 64 + (k : Int) ∧ At t n q done b x s (r.flat ++ flatS st)))
              case atStart => exact ⟨q, i, k, rfl, rfl, rfl, Nat.le_of_lt HI.out, HKK.out, rfl, ⟨by omega, (fun h => by have := HI.out; omega), HOU.out.q, HOU.out.here⟩⟩
              case round =>
                clear HI HKK
                obtain ⟨q', i', k', rfl, rfl, rfl, hi, hk, rfl, HU⟩ := hrel
                have HM := Aside0.mk HU.out.1
                have HE := Aside0.mk HU.out.2.1
                have HQ := Aside0.mk HU.out.2.2.1
                have HAT := Aside0.mk HU.out.2.2.2
                clear HU
                by_cases hlt : i' < 32
                · have hs := (NW_iff.1 HNW.out).2.2
                  obtain ⟨v, hv⟩ : ∃ v : Nat, s.getD i' 0 = (v : Int) := ⟨wd s i', wd_cast hs i'⟩
                  have hv1 : v < 18446744073709551616 := by have h1 := wd_lt hs i'; unfold wd at h1; rw [hv, Int.toNat_natCast] at h1; exact h1
                  have f1 := N0.out.cbit i' hlt
                  rw [hv] at f1
                  have HV := Aside0.mk hv
                  have b1 : (0 : Int) ≤ (i' : Int) := by omega
                  have b2 : (i' : Int) < 32 := by omega
                  clear hs hv
                  have q0 : 0 ≤ q' := by have := HQ.out; omega
                  have q1 : q' + 64 - (k' : Int) ≤ x + 2048 := by have := HQ.out; omega
                  have k0 : (0 : Int) ≤ (k' : Int) := by omega
                  have k1 : (k' : Int) < 64 := by omega
                  go_upto_region 19 with (fail)
                  rw [miss_eq k' hv1]
                  by_cases hmz : missW v k' = 0
                  · have HF := Aside0.mk (HAT.out.full HW.out HO.out HQ.out hlt hk HV.out hmz)
                    rw [hmz]
                    clear hmz f1
                    go_wp2
                    go_roundg (32 - (i' + 1))
                    case measure => have := HM.out; omega
                    case rel => exact ⟨q' + (64 - (k' : Int)), i' + 1, 0, by first | rfl | simp, by first | rfl | simp, by first | rfl | simp, by omega, by omega, rfl, ⟨Nat.le_refl _, (fun _ => rfl), by have := HQ.out; simp; omega, HF.out⟩⟩
                  · obtain ⟨hsp, z1, z2⟩ := HAT.out.miss HW.out HO.out HN.out HQ.out hlt hk HV.out hmz
                    have TZ := Aside0.mk (tz_calls (w := wr) (missW v k') hmz (missW_lt v k') (HT.out.fr HOU.out.stk.fr (fun h => h)))
                    obtain ⟨c, hc⟩ : ∃ c, c = Lib.ctz 64 (missW v k') := ⟨_, rfl⟩
                    rw [← hc] at hsp z1 z2 TZ
                    have HSP := Aside0.mk hsp
                    have hne : ((missW v k' : Nat) : Int) ≠ 0 := by omega
                    have hnb : (((missW v k' : Nat) : Int) != 0) = true := by simpa using hne
                    have z3 : (k' : Int) ≤ (c : Int) := by omega
                    have z4 : (c : Int) < 64 := by omega
                    have z5 : 0 ≤ q' + ((c : Int) - (k' : Int)) - 1 := by have := hsp.1; omega
                    generalize missW v k' = M at *
                    clear hc hsp hne hmz f1 z1 z2
                    go_wp2_with fail
                    refine TZ.out.mono ?_
                    rintro e w' ⟨rfl, rfl⟩
                    clear TZ
                    go_wp2
                    refine bodyPost_ret (results_list (rs := [.tmp 4, .tmp 5]) rfl (by simp) (.tmp (.tmp .nil))) rfl ?_
                    exact ⟨_, rfl, .inr ⟨_, HSP.out, rfl⟩, HOU.out.stk.fr⟩
                · have hi32 : i' = 32 := by omega
                  subst hi32
                  have hk0 := HE.out rfl
                  subst hk0
                  have hq := HQ.out
                  have hqq : q' = x + 2048 := by simp at hq; omega
                  replace HQ := Aside0.mk hqq
                  have q0 : 0 ≤ q' := by omega
                  have q1 : q' ≤ x + 2048 := by omega
                  have q2 : 1 ≤ q' := by omega
                  have f34 := N0.out.cr
                  have HMU0 : Aside0 (r.flat.length + (flatS st).length ≤ GK) := ⟨by have := HOU.out.len; have := HGK.out; omega⟩
                  clear hq hqq HE hlt hi hk
                  cases r with
                  | nil =>
                    have HAT1 : Aside0 (At t n q' done b x s (flatS st)) := ⟨HAT.out⟩
                    rw [show ptrA T.nil.ptr = none from rfl] at f34
                    cases st with
                    | nil =>
                      obtain ⟨gg, cap, cc, TT, e7, -⟩ := HOU.out.stk.row
                      have HSP := Aside0.mk (span_of HN.out HAT1.out.low HAT1.out.had (HAT1.out.gap HW.out HO.out HQ.out (fun p hp => by cases hp)))
                      have e7' : u7 = .slice (some ⟨gg, 0, none⟩) 0 cap := e7
                      have HFR := Aside0.mk HOU.out.stk.fr
                      clear e7 HOU
                      subst e7'
                      go_wp2
                      refine bodyPost_ret (results_list (rs := [.tmp 4, .tmp 5]) rfl (by simp) (.tmp (.tmp .nil))) rfl ?_
                      exact ⟨_, rfl, .inr ⟨q' - 1, HSP.out, rfl⟩, HFR.out⟩
                    | cons top st2 =>
                      obtain ⟨hlt, b2, x2, s2, l2, r2, rfl⟩ := HOU.out.stk.ok.each top List.mem_cons_self
                      have HL2 := Aside0.mk hlt
                      have HAT2 : Aside0 (At t n q' done b x s ((b2, x2, s2) :: (r2.flat ++ flatS st2))) := ⟨by have := HAT1.out; rw [flatS_cons] at this; exact this⟩
                      have hrow := HOU.out.stk.row
                      rw [stkC_cons] at hrow
                      obtain ⟨gg, cap, e7, hc1, hc2, hcell, hpop⟩ := AR_pop hrow
                      have HS2 : Aside0 (SpS w wr st2 (.slice (some ⟨gg, 0, none⟩) (stkC st2).length cap)) := ⟨HOU.out.stk.fr, hpop, ⟨fun u hu => HOU.out.stk.ok.each u (List.mem_cons_of_mem _ hu)⟩⟩
                      have HN2 : Aside0 (NodeAt wr b2 x2 s2 l2.ptr r2.ptr (T.node b2 x2 s2 l2 r2).ht) := ⟨HL2.out.1.fr HS2.out.fr (fun h => h)⟩
                      have HMU : Aside0 (r2.flat.length + (flatS st2).length + 1 ≤ GK) := ⟨by have := HMU0.out; rw [flatS_cons] at this; simp at this; omega⟩
                      have hlen : ∃ L, L = (stkC st2).length := ⟨_, rfl⟩
                      obtain ⟨L, hL⟩ := hlen
                      rw [← hL] at e7 hc1 hcell HS2
                      have hcell' : wr.cell? ⟨gg, L, none⟩ = some (.pointer (some ⟨b2, 0, none⟩)) := hcell
                      unfold maxLen at hc2
                      have j1 : ((L : Int) + 1 - 1).toNat = L := by omega
                      clear hlt hrow hpop hcell HOU hL HMU0 HAT HAT1
                      subst e7
                      go_upto_region 38 with (fail)
                      clear f34
                      have HAF := Aside0.mk (HAT2.out.after HO.out).1
                      have hxx : q' ≤ x2 := by have := HAF.out _ List.mem_cons_self; simp only at this; omega
                      have HNW2 : Aside0 (NW (b2, x2, s2)) := ⟨HW.out _ (by rw [HAT2.out.split]; simp)⟩
                      have y0 : 0 ≤ x2 := (NW_iff.1 HNW2.out).1
                      have y1 : x2 + 2048 < 18446744073709551616 := (NW_iff.1 HNW2.out).2.1
                      have g0 := HN2.out.c0
                      by_cases c3 : q' < x2
                      · have HSP := Aside0.mk (span_of HN.out HAT2.out.low HAT2.out.had (HAT2.out.gap' HW.out HO.out HQ.out c3))
                        go_wp2
                        refine bodyPost_ret (results_list (rs := [.tmp 4, .tmp 5]) rfl (by simp) (.tmp (.tmp .nil))) rfl ?_
                        exact ⟨_, rfl, .inr ⟨q' - 1, HSP.out, rfl⟩, HS2.out.fr⟩
                      · have e : x2 = q' := by omega
                        subst e
                        go_wp2
                        go_roundg (r2.flat.length + (flatS st2).length)
                        case measure => have := HMU.out; have := HGK.out; omega
                        case rel => exact ⟨b2, x2, 0, 0, rfl, rfl, by first | rfl | simp, by first | rfl | simp, by omega, by omega, ⟨x2, s2, l2, r2, st2, done ++ [(b, x, s)], Nat.le_refl _, HS2.out, HAT2.out.next rfl, HL2.out, by simp⟩⟩
                  | node b1 x1 s1 l1 r1 =>
                    have L1 : Aside0 (Lf w wr ((T.node b1 x1 s1 l1 r1).flat ++ flatS st) l1.flat.length b1 x1 s1 l1 r1 st u7) := ⟨Nat.le_refl _, HOU.out.stk, HOU.out.lies.2.2, rfl⟩
                    obtain ⟨RS, hRS⟩ : ∃ RS, RS = (T.node b1 x1 s1 l1 r1).flat ++ flatS st := ⟨_, rfl⟩
                    have HRL : Aside0 (RS.length ≤ GK) := ⟨by rw [hRS, List.length_append]; exact HMU0.out⟩
                    rw [← hRS] at L1 HAT
                    rw [show ptrA (T.node b1 x1 s1 l1 r1).ptr = some ⟨b1, 0, none⟩ from rfl] at f34
                    clear hRS HMU0 HOU
                    go_wp2
                    clear f34
                    go_loopg [7, 8] l1.flat.length (fun m v7 v8 w' => ∃ b2 : Nat, v8 = .pointer (some ⟨b2, 0, none⟩) ∧ Aside0 (∃ x2 s2 l2 r2 st2, Lf w w' RS m b2 x2 s2 l2 r2 st2 v7))
                    case atStart => exact ⟨b1, rfl, ⟨x1, s1, l1, r1, st, L1.out⟩⟩
                    case round =>
                      clear L1
                      obtain ⟨b2, rfl, HU⟩ := hrel
                      obtain ⟨x2, s2, l2, r2, st2, hlf⟩ := HU.out
                      have HLF := Aside0.mk hlf
                      clear HU hlf
                      have HN2 : Aside0 (NodeAt wr b2 x2 s2 l2.ptr r2.ptr (T.node b2 x2 s2 l2 r2).ht) := ⟨HLF.out.lies.1.fr HLF.out.stk.fr (fun h => h)⟩
                      have f33 := HN2.out.cl
                      cases l2 with
                      | nil =>
                        rw [show ptrA T.nil.ptr = none from rfl] at f33
                        have HS2 := Aside0.mk HLF.out.stk
                        have HL2 := Aside0.mk HLF.out.lies
                        have HAT2 : Aside0 (At t n q' done b x s ((b2, x2, s2) :: (r2.flat ++ flatS st2))) := ⟨by have := HAT.out; rw [HLF.out.split] at this; exact this⟩
                        have HMU : Aside0 (r2.flat.length + (flatS st2).length + 1 ≤ GK) := ⟨by have h1 := HRL.out; rw [HLF.out.split] at h1; simp [T.flat] at h1; omega⟩
                        obtain ⟨l2, hl2⟩ : ∃ l2 : T, l2 = .nil := ⟨_, rfl⟩
                        rw [← hl2] at HL2
                        clear hl2 HLF
                        go_upto_region 38 with (fail)
                        clear f33
                        have HAF := Aside0.mk (HAT2.out.after HO.out).1
                        have hxx : q' ≤ x2 := by have := HAF.out _ List.mem_cons_self; simp only at this; omega
                        have HNW2 : Aside0 (NW (b2, x2, s2)) := ⟨HW.out _ (by rw [HAT2.out.split]; simp)⟩
                        have y0 : 0 ≤ x2 := (NW_iff.1 HNW2.out).1
                        have y1 : x2 + 2048 < 18446744073709551616 := (NW_iff.1 HNW2.out).2.1
                        have g0 := HN2.out.c0
                        by_cases c3 : q' < x2
                        · have HSP := Aside0.mk (span_of HN.out HAT2.out.low HAT2.out.had (HAT2.out.gap' HW.out HO.out HQ.out c3))
                          go_wp2
                          refine bodyPost_ret (results_list (rs := [.tmp 4, .tmp 5]) rfl (by simp) (.tmp (.tmp .nil))) rfl ?_
                          exact ⟨_, rfl, .inr ⟨q' - 1, HSP.out, rfl⟩, HS2.out.fr⟩
                        · have e : x2 = q' := by omega
                          subst e
                          go_wp2
                          go_roundg (r2.flat.length + (flatS st2).length)
                          case measure => have := HMU.out; have := HGK.out; omega
                          case rel => exact ⟨b2, x2, 0, 0, rfl, rfl, by first | rfl | simp, by first | rfl | simp, by omega, by omega, ⟨x2, s2, l2, r2, st2, done ++ [(b, x, s)], Nat.le_refl _, HS2.out, HAT2.out.next rfl, HL2.out, by simp⟩⟩
                      | node b3 x3 s3 l3 r3 =>
                        have HRM := Aside0.mk (flat_room HAT.out HZ.out HLF.out.stk HLF.out.split)
                        have HK := Aside0.mk HLF.out.len
                        rw [show ptrA (T.node b3 x3 s3 l3 r3).ptr = some ⟨b3, 0, none⟩ from rfl] at f33
                        go_upto_region 33 with (refine Wk.AR.append rfl (.tmp 119) (.tmp 121) 81 61 (.pointer none) 8 rfl Tryd.underlying81 info61 rfl rfl (HLF.out.stk.row.alloc _) (Nat.le_refl _) HLF.out.stk.base HLF.out.stk.below ⟨wr.heap.size, 0, none⟩ 1 (.pointer (some ⟨b2, 0, none⟩)) rfl (new_cell wr _ _) rfl HRM.out.2 HRM.out.1 (fun v' w2 h1 h2 _ _ _ => ?_); have HS3 := Aside0.mk (HLF.out.stk.push HLF.out.lies h1 h2); clear h1 h2)
                        have f34 : w2.cell? ⟨b2, 33, none⟩ = some (.pointer (ptrA (T.node b3 x3 s3 l3 r3).ptr)) := (HLF.out.lies.1.fr HS3.out.fr (fun h => h)).cl
                        rw [show ptrA (T.node b3 x3 s3 l3 r3).ptr = some ⟨b3, 0, none⟩ from rfl] at f34
                        clear f33
                        go_wp2
                        go_roundg l3.flat.length
                        case measure => have := HK.out; rw [flat_len_node] at this; omega
                        case rel => exact ⟨b3, rfl, ⟨x3, s3, l3, r3, _, Nat.le_refl _, HS3.out, HLF.out.lies.2.1, by rw [HLF.out.split, flatS_cons, T.flat_node]; simp⟩⟩
end Go.Proofs.YtebgaedalbdhaaaDoor.Av
