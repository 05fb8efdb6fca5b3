/- A script of deeds over a list: what it makes of it, plainly; one deed's walk. A script of deeds over a list: the walks of impl.list and ListKinds. What the specification's list has behind a script: plainly; rows of entries. -/
import Derived.Test.YtimffhpnfdikoaaDoorLsN
import Derived.Test.YtimffhpnfdikoaaDoorPlList
import Derived.Test.YtimffhpnfdikoaaDoorBt
namespace Go.Proofs.YtimffhpnfdikoaaDoor.Ls
open Go.RowKit Go.Maps Go.Proofs.YtimffhpnfdikoaaDoor.Bs Go.Proofs.YtimffhpnfdikoaaDoorW.PrintWords Go.Proofs.YtimffhpnfdikoaaDoorW.PrintLast Go.Proofs.YtimffhpnfdikoaaDoorW.PrintMore Go.Proofs.YtimffhpnfdikoaaDoor.GFnListKinds Go.Proofs.YtimffhpnfdikoaaDoor.PlFnListKinds
set_option linter.unusedVariables false
set_option linter.unusedSimpArgs false
structure LSt where
  sub : Path → Int → Option ByteArray
  cnt : Int
  kinds : List Int
  clean : Bool
def st0 : LSt := ⟨fun _ _ => none, 0, [], true⟩
def putL (st : LSt) (s : ByteArray) (v : Int) : LSt :=
  if okF false (tk s) = true then ⟨setS st.sub (tk s) (upd (st.sub (tk s)) v s), IntKind.u32.wrap (st.cnt + 1), st.kinds ++ [0], st.clean⟩
  else ⟨st.sub, st.cnt, st.kinds ++ [1], false⟩
def remL (st : LSt) (s : ByteArray) (v : Int) : LSt :=
  if okF false (tk s) = true ∧ (st.sub (tk s) v).isSome = true then ⟨setS st.sub (tk s) (del (st.sub (tk s)) v), IntKind.u32.wrap (st.cnt - 1), st.kinds ++ [0], st.clean⟩
  else ⟨st.sub, st.cnt, st.kinds ++ [1], st.clean⟩
def stepL (st : LSt) (d : S46) : LSt := if d.f0 = 0 then putL st d.f1 d.f2 else if d.f0 = 1 then remL st d.f1 d.f2 else ⟨st.sub, st.cnt, st.kinds ++ [0], st.clean⟩
def runL (ds : List S46) : LSt := ds.foldl stepL st0
theorem runL_take {ds : List S46} {i : Nat} {d : S46} (h : ds[i]? = some d) : runL (ds.take (i + 1)) = stepL (runL (ds.take i)) d := by
  obtain ⟨hi, rfl⟩ := List.getElem?_eq_some_iff.1 h
  unfold runL
  rw [List.take_add_one, List.getElem?_eq_getElem hi, Option.toList_some, List.foldl_append]
  rfl
theorem step_kinds (st : LSt) (d : S46) : (stepL st d).kinds.length = st.kinds.length + 1 := by
  unfold stepL putL remL
  repeat' split
  all_goals simp
theorem runL_kinds (ds : List S46) : (runL ds).kinds.length = ds.length := by
  have : ∀ (l : List S46) (st : LSt), (l.foldl stepL st).kinds.length = st.kinds.length + l.length := by
    intro l
    induction l with
    | nil => intro st; rfl
    | cons d l ih => intro st; rw [List.foldl_cons, ih, step_kinds, List.length_cons]; omega
  rw [runL, this]
  simp [st0]
def LiS (w : World) (B L K : Nat) (st : LSt) : Prop := Li w B L K st.sub (st.clean = true) st.cnt
theorem Li.mono {w : World} {B L K K' : Nat} {sub : Path → Int → Option ByteArray} {ex : Prop} {cnt : Int} (h : Li w B L K sub ex cnt) (hK : K ≤ K') : Li w B L K' sub ex cnt := by
  obtain ⟨nd, lv, h⟩ := h
  exact ⟨nd, lv, h.mono hK⟩
theorem Li.weaken {w : World} {B L K : Nat} {sub : Path → Int → Option ByteArray} {ex ex' : Prop} {cnt : Int} (h : Li w B L K sub ex cnt) (hx : ex' → ex) : Li w B L K sub ex' cnt := by
  obtain ⟨nd, lv, h⟩ := h
  exact ⟨nd, lv, h.congrE (fun e => ⟨hx e, fun _ e => e⟩)⟩
/-- A deed's end. -/
structure OpPost (W : World) (B L K : Nat) (st st' : LSt) (ev : Value) (w' : World) : Prop where
  kind : ∃ k, IsErr k ev ∧ st'.kinds = st.kinds ++ [k]
  fr : Fr (WF B W) W w'
  li : LiS w' B L K st'
theorem ins_op {W : World} {B L K : Nat} {st : LSt} {s : ByteArray} {v : Int} {e : Ending} {w' : World} (hs : s.size ≤ 80) (h : InsPost W B L K st.sub (st.clean = true) st.cnt (tk s) s v e w') : ∃ ev, e = .returned ev ∧ OpPost W B L (K + 82) st (putL st s v) ev w' := by
  have hl := tk_len s
  unfold putL
  by_cases ho : okF false (tk s) = true
  · obtain ⟨rfl, h2⟩ := h.ok ho
    rw [if_pos ho]
    exact ⟨_, rfl, ⟨0, .nil, rfl⟩, h.fr, Li.mono h2 (by omega)⟩
  · obtain ⟨⟨t0, a0, rfl⟩, h2⟩ := h.bad (by simpa using ho)
    rw [if_neg ho]
    exact ⟨_, rfl, ⟨1, .err _ _, rfl⟩, h.fr, Li.weaken (Li.mono h2 (by omega)) (fun e => by cases e)⟩
theorem rem_op {W : World} {B L K : Nat} {st : LSt} {s : ByteArray} {v : Int} {e : Ending} {w' : World} (h : RmPost W B L K st.sub (st.clean = true) st.cnt (tk s) v e w') : ∃ ev, e = .returned ev ∧ OpPost W B L (K + 82) st (remL st s v) ev w' := by
  unfold remL
  by_cases ho : okF false (tk s) = true ∧ (st.sub (tk s) v).isSome = true
  · obtain ⟨rfl, h2⟩ := h.ok ho.1 (by rw [← Option.isSome_iff_ne_none]; exact ho.2)
    rw [if_pos ho]
    exact ⟨_, rfl, ⟨0, .nil, rfl⟩, h.fr, Li.mono h2 (by omega)⟩
  · obtain ⟨⟨t0, a0, rfl⟩, h2⟩ := h.bad (by rw [← Option.isSome_iff_ne_none]; exact ho)
    rw [if_neg ho]
    exact ⟨_, rfl, ⟨1, .err _ _, rfl⟩, h.fr, Li.mono h2 (by omega)⟩
/-- The cells of the two laid errors. -/
structure GlL (w : World) : Prop where
  c0 : ∃ t a, w.cell? ⟨0, 0, none⟩ = some (.iface t (.pointer (some a)))
  c1 : ∃ t a, w.cell? ⟨1, 0, none⟩ = some (.iface t (.pointer (some a)))
theorem GlL.size {w : World} (h : GlL w) : 1 < w.heap.size := by
  obtain ⟨t, a, h⟩ := h.c1
  exact World.block_lt_of_cell? w _ h
theorem GlL.fr {w w1 : World} {F : Nat → Prop} (h : GlL w) (hf : Fr F w w1) (h0 : ¬ F 0) (h1 : ¬ F 1) : GlL w1 := by
  have hs := h.size
  obtain ⟨t, a, e⟩ := h.c0
  obtain ⟨t', a', e'⟩ := h.c1
  exact ⟨⟨t, a, (World.cell?_of_block (a := ⟨0, 0, none⟩) (hf.block 0 (by omega) h0)).trans e⟩, ⟨t', a', (World.cell?_of_block (a := ⟨1, 0, none⟩) (hf.block 1 (by omega) h1)).trans e'⟩⟩
theorem ins_calls {W : World} {B L K : Nat} {st : LSt} {s : ByteArray} {v : Int} (h : LiS W B L K st) (hs : s.size ≤ 80) (hv : (Lit.int .i64 v).wf = true) (hK : K < 100000) (hG : GlL W) (hB : 1 < B) :
    Calls Tryd.prog 49 #[.pointer (some ⟨L, 0, none⟩), .string s, .int .i64 v] W (fun e w' => ∃ ev, e = .returned ev ∧ OpPost W B L (K + 82) st (putL st s v) ev w') := by
  obtain ⟨kz, hz⟩ := Ev.rounds (tk_split s (by omega))
  obtain ⟨t0, a0, hg⟩ := hG.c0
  refine (insert_calls h (by omega) hv hz (tk_ne s) (by have := tk_len s; omega) (fun t ht => by have := tk_short s t ht; omega) hK hg (by omega)).mono ?_
  intro e w' hp
  exact ins_op hs hp
set_option maxHeartbeats 2000000 in
theorem rem_calls {W : World} {B L K : Nat} {st : LSt} {s : ByteArray} {v : Int} (h : LiS W B L K st) (hs : s.size ≤ 80) (hv : (Lit.int .i64 v).wf = true) (hK : K < 100000) (hG : GlL W) (hB : 1 < B) :
    Calls Tryd.prog 50 #[.pointer (some ⟨L, 0, none⟩), .string s, .int .i64 v] W (fun e w' => ∃ ev, e = .returned ev ∧ OpPost W B L (K + 82) st (remL st s v) ev w') := by
  obtain ⟨kz, hz⟩ := Ev.rounds (tk_split s (by omega))
  obtain ⟨t0, a0, hg⟩ := hG.c0
  obtain ⟨t1, a1, hg1⟩ := hG.c1
  have HC := Aside0.mk (remove_calls h (by omega) hv hz (tk_ne s) (by have := tk_len s; omega) (fun t ht => by have := tk_short s t ht; omega) hK hg hg1 hB)
  clear h hs hv hK hG hB hz hg hg1
  go_enter Tryd.func50, Tryd.ntmps50
  go_wp2_with fail
  refine HC.out.mono ?_
  intro e w' hp
  obtain ⟨ev, rfl, ho⟩ := rem_op hp
  have HO := Aside0.mk ho
  clear hp ho
  go_wp2_with fail
  go_ret
  exact ⟨_, rfl, HO.out⟩
end Go.Proofs.YtimffhpnfdikoaaDoor.Ls
namespace Go.Proofs.YtimffhpnfdikoaaDoor.Ls
open Go.RowKit Go.Maps Go.Proofs.YtimffhpnfdikoaaDoor.Bs Go.Proofs.YtimffhpnfdikoaaDoorW.PrintWords Go.Proofs.YtimffhpnfdikoaaDoorW.PrintLast Go.Proofs.YtimffhpnfdikoaaDoorW.PrintMore Go.Proofs.YtimffhpnfdikoaaDoor.GFnListKinds Go.Proofs.YtimffhpnfdikoaaDoor.PlFnListKinds
set_option linter.unusedVariables false
set_option linter.unusedSimpArgs false
theorem info3b : (Tryd.prog.info? 3).map (fun i => (i.zero, i.size, i.bytes)) = some (some (.int .i64 0), 1, 8) := by kernel_rfl
theorem ek3 : ∃ i, ElemK Tryd.prog 26 3 i (.int .i64 0) 1 8 := elem_of Tryd.underlying26 info3b (by decide) (by decide) (by decide)
theorem rd46_at {L : List S46} {j : Nat} {x : S46} (h : L[j]? = some x) : rd_T46 L (j : Int) = x := by
  unfold rd_T46
  rw [Int.toNat_natCast, List.getD_eq_getElem?_getD, h]
  rfl
structure GoodD (ds : List S46) : Prop where
  len : ds.length ≤ 1000
  all : ∀ d ∈ ds, d.f1.size ≤ 80 ∧ (Lit.int .i64 d.f2).wf = true
structure ListPost (w0 : World) (ds : List S46) (e : Ending) (w' : World) : Prop where
  out : ∃ L kv, e = .returned (.tuple #[.pointer (some ⟨L, 0, none⟩), kv]) ∧ LiS w' w0.heap.size L 82000 (runL ds) ∧ w'.ownsRow w0.heap.size 3 1 kv ds.length ((runL ds).kinds.map (.int .i64))
  same : Same w0 w'
theorem wf_same {B : Nat} {w0 wr wx : World} (h : Same w0 wr) (hf : Fr (WF B wr) wr wx) (hB : w0.heap.size ≤ B) : Same w0 wx := h.trans hf (fun k hk e => by have := e.1; omega)
theorem ints_one (l : List Int) : ∀ u ∈ l.map (Value.int .i64), u.oneCell' = true := by
  intro u hu
  obtain ⟨z, _, rfl⟩ := List.mem_map.1 hu
  rfl
theorem own_nwk {w : World} {base : Nat} {size n : Nat} {v : Value} {xs : List Value} {k : Nat} (h : w.ownsRow base 3 size v n xs) (hk : v.ownBlock = some k) : ¬ WK w k := by
  rcases h.2 with ⟨rfl, -⟩ | ⟨g, cap, cur, rfl, hb, hgg, -⟩
  · cases hk
  · have : g = k := by simpa [Value.ownBlock] using hk
    subst this
    exact not_wk hgg (by decide) (by decide) (by decide)
theorem own_wf {w w1 : World} {B base : Nat} {size n : Nat} {v : Value} {xs : List Value} (h : w.ownsRow base 3 size v n xs) (hf : Fr (WF B w) w w1) : w1.ownsRow base 3 size v n xs :=
  ownsRow_block h (fun k hk => hf.block k (own_base h hk).2 (fun e => own_nwk h hk e.2))
section
set_option maxHeartbeats 8000000
set_option maxRecDepth 100000
theorem list_calls {w0 : World} {A0 : Option Addr} {c0 : Nat} {ds : List S46} (hT : Kd.C k46 w0 A0 ds.length ds) (hG : GlL w0) (hD : GoodD ds) : Calls Tryd.prog 33 #[.slice A0 ds.length c0] w0 (ListPost w0 ds) := by
  obtain ⟨i3, hK3⟩ := ek3
  have HK3 := Aside0.mk hK3
  have HT := Aside0.mk hT
  have HG := Aside0.mk hG
  have HD := Aside0.mk hD
  clear hK3 hT hG hD
  go_enter Tryd.func33, Tryd.ntmps33
  go_wp2_with fail
  refine newList_calls.mono ?_
  rintro e w1 ⟨L, rfl, hli, hs1⟩
  have HL1 := Aside0.mk hli
  have HSA := Aside0.mk hs1
  clear hli hs1
  go_wp2_with fail
  go_loopg [5, 6] ds.length (fun kq v5 v6 wr => ∃ (i : Nat), v6 = .int .i64 (i : Int) ∧ Aside0 (kq + i = ds.length ∧ i ≤ ds.length) ∧ Aside0 (LiS wr w0.heap.size L (82 * i) (runL (ds.take i))) ∧ Aside0 (wr.ownsRow w0.heap.size 3 1 v5 i ((runL (ds.take i)).kinds.map (.int .i64))) ∧ Aside0 (Same w0 wr))
  case atStart => exact ⟨0, rfl, ⟨by omega⟩, ⟨Li.weaken HL1.out (fun _ => trivial)⟩, ⟨⟨rfl, .inl ⟨rfl, rfl⟩⟩⟩, HSA⟩
  case round =>
    clear HL1 HSA
    obtain ⟨i, rfl, HI, HL, HO, HS⟩ := hrel
    have i0 : (0 : Int) ≤ (i : Int) := by omega
    by_cases hlt : i < ds.length
    · have i1 : (i : Int) < (ds.length : Int) := by omega
      have i2 : decide ((i : Int) < (ds.length : Int)) = true := decide_eq_true i1
      have i5 : IntKind.i64.wrap ((i : Int) + 1) = ((i + 1 : Nat) : Int) := by rw [IntKind.wrap_i64]; have := HI.out; have := HD.out.len; omega
      obtain ⟨d, ht⟩ : ∃ d, ds[i]? = some d := ⟨_, List.getElem?_eq_getElem hlt⟩
      have HTI := Aside0.mk ht
      have HDD := Aside0.mk (HD.out.all d (List.mem_of_getElem? ht))
      obtain ⟨ad, rfl, t0, t1, t2⟩ := at_T46 (Kd.C_below HT.out (below_of_fr HS.out)) (i : Int) (by omega) (by omega)
      rw [Int.toNat_natCast, rd46_at HTI.out] at t0 t1 t2
      clear ht
      go_upto_region 7 with (fail)
      have HB1 : Aside0 (Blk (wr.alloc (.cells #[.int .i64 d.f0, .string d.f1, .int .i64 d.f2] 46)) wr.heap.size 46 [.int .i64 d.f0, .string d.f1, .int .i64 d.f2]) := ⟨Blk.new _ _ _⟩
      have HS1 : Aside0 (Same wr (wr.alloc (.cells #[.int .i64 d.f0, .string d.f1, .int .i64 d.f2] 46))) := ⟨(Fr.refl _ _).alloc _⟩
      generalize wr.alloc (.cells #[.int .i64 d.f0, .string d.f1, .int .i64 d.f2] 46) = w2 at HB1 HS1 ⊢
      generalize htb : wr.heap.size = tb at HB1 ⊢
      have HL2 : Aside0 (LiS w2 w0.heap.size L (82 * i) (runL (ds.take i))) := ⟨Li.fr HL.out HS1.out (fun _ _ h => h)⟩
      have HG2 : Aside0 (GlL w2) := ⟨(HG.out.fr HS.out (fun h => h) (fun h => h)).fr HS1.out (fun h => h) (fun h => h)⟩
      have HIK : Aside0 (82 * i < 82000 ∧ i + 1 ≤ ds.length) := ⟨by have := HD.out.len; omega⟩
      have RND : Aside0 (∀ (k : Int) (v v' : Value) (w6 w7 : World), (stepL (runL (ds.take i)) d).kinds = (runL (ds.take i)).kinds ++ [k] → LiS w6 w0.heap.size L (82 * i + 82) (stepL (runL (ds.take i)) d) → w6.ownsRow w0.heap.size 3 1 v i ((runL (ds.take i)).kinds.map (.int .i64)) → Same w0 w6 → w7.ownsRow w0.heap.size 3 1 v' (i + 1) ((runL (ds.take i)).kinds.map (.int .i64) ++ [.int .i64 k]) → (w6.alloc (.cells #[.int .i64 k] 3)).grownBy w7 v.ownBlock →
          ∃ (j : Nat), Value.int .i64 ((i + 1 : Nat) : Int) = .int .i64 (j : Int) ∧ Aside0 (ds.length - (i + 1) + j = ds.length ∧ j ≤ ds.length) ∧ Aside0 (LiS w7 w0.heap.size L (82 * j) (runL (ds.take j))) ∧ Aside0 (w7.ownsRow w0.heap.size 3 1 v' j ((runL (ds.take j)).kinds.map (.int .i64))) ∧ Aside0 (Same w0 w7)) := ⟨fun k v v' w6 w7 hk hl ho hs ho7 hg7 => by
        have hgr : Fr (fun k => v.ownBlock = some k) w6 w7 := ((Fr.refl _ w6).alloc _).trans (Fr.grown hg7) (fun _ _ h => h)
        refine ⟨i + 1, rfl, ⟨by omega⟩, ⟨?_⟩, ⟨?_⟩, ⟨hs.trans hgr (fun k hk e => ?_)⟩⟩
        · rw [runL_take HTI.out, show 82 * (i + 1) = 82 * i + 82 by omega]
          exact Li.fr hl hgr (fun k hk e => own_nwk ho e hk.2)
        · rw [runL_take HTI.out, hk, List.map_append]
          exact ho7
        · have := own_base ho e
          omega⟩
      have c0' := HB1.out.cell 0 rfl
      have c1' := HB1.out.cell 1 rfl
      have c2' := HB1.out.cell 2 rfl
      clear t0 t1 t2 htb hlt i0 i1 i2
      by_cases z0 : d.f0 = 0
      · have y0 : (d.f0 == 0) = true := by simpa using z0
        have HST : Aside0 (stepL (runL (ds.take i)) d = putL (runL (ds.take i)) d.f1 d.f2) := ⟨by unfold stepL; rw [if_pos z0]⟩
        rw [HST.out] at RND
        clear z0
        go_wp2_with fail
        refine (ins_calls HL2.out HDD.out.1 HDD.out.2 (by have := HIK.out; omega) HG2.out HG.out.size).mono ?_
        rintro e w5 ⟨ev, rfl, hop⟩
        obtain ⟨⟨k, hk, hks⟩, hf5, hl5⟩ := hop
        have HL5 := Aside0.mk hl5
        have HF5 := Aside0.mk hf5
        have HKS := Aside0.mk hks
        have HE := Aside0.mk hk
        clear hk hks hf5 hl5
        go_wp2_with fail
        refine (one_calls HE.out).mono ?_
        rintro e w6 ⟨rfl, rfl⟩
        have HO5 : Aside0 (w6.ownsRow w0.heap.size 3 1 u5 i ((runL (ds.take i)).kinds.map (.int .i64))) := ⟨own_wf (ownsRow_fr HO.out HS1.out (fun _ _ h => h)) HF5.out⟩
        have HS5 : Aside0 (Same w0 w6) := ⟨wf_same (HS.out.trans HS1.out (fun _ _ h => h)) HF5.out (Nat.le_refl _)⟩
        have HRN : Aside0 (ReadG (w6.alloc (.cells #[.int .i64 k] 3)) (some ⟨w6.heap.size, 0, none⟩) 1 1 [.int .i64 k]) := ⟨read_newG (us := [.int .i64 k]) (by rfl) (by intro u hu; simp only [List.mem_cons, List.not_mem_nil, or_false] at hu; rcases hu with rfl; rfl)⟩
        go_wp2_with (first | (at_builtin; refine wpList_ownG HK3.out rfl _ _ rfl (v := u5) (xs := (runL (ds.take i)).kinds.map (.int .i64)) (ys := [.int .i64 k]) rfl (HO5.out.alloc _) (Nat.le_trans HS5.out.size (by simp)) rfl HRN.out (by have := HI.out; have := HD.out.len; omega) ?_; intro v' w7 ho hg hat; have HO7 := Aside0.mk ho; have HG7 := Aside0.mk hg; clear ho hg hat) | fail)
        go_roundg (ds.length - (i + 1))
        case measure => have := HI.out; have := HIK.out; omega
        case rel => exact RND.out k u5 v' w6 w7 HKS.out HL5.out HO5.out HS5.out HO7.out HG7.out
      · have y0 : (d.f0 == 0) = false := by simpa using z0
        by_cases z1 : d.f0 = 1
        · have y1 : (d.f0 == 1) = true := by simpa using z1
          have HST : Aside0 (stepL (runL (ds.take i)) d = remL (runL (ds.take i)) d.f1 d.f2) := ⟨by unfold stepL; rw [if_neg z0, if_pos z1]⟩
          rw [HST.out] at RND
          clear z0 z1
          go_wp2_with fail
          refine (rem_calls HL2.out HDD.out.1 HDD.out.2 (by have := HIK.out; omega) HG2.out HG.out.size).mono ?_
          rintro e w5 ⟨ev, rfl, hop⟩
          obtain ⟨⟨k, hk, hks⟩, hf5, hl5⟩ := hop
          have HL5 := Aside0.mk hl5
          have HF5 := Aside0.mk hf5
          have HKS := Aside0.mk hks
          have HE := Aside0.mk hk
          clear hk hks hf5 hl5
          go_wp2_with fail
          refine (one_calls HE.out).mono ?_
          rintro e w6 ⟨rfl, rfl⟩
          have HO5 : Aside0 (w6.ownsRow w0.heap.size 3 1 u5 i ((runL (ds.take i)).kinds.map (.int .i64))) := ⟨own_wf (ownsRow_fr HO.out HS1.out (fun _ _ h => h)) HF5.out⟩
          have HS5 : Aside0 (Same w0 w6) := ⟨wf_same (HS.out.trans HS1.out (fun _ _ h => h)) HF5.out (Nat.le_refl _)⟩
          have HRN : Aside0 (ReadG (w6.alloc (.cells #[.int .i64 k] 3)) (some ⟨w6.heap.size, 0, none⟩) 1 1 [.int .i64 k]) := ⟨read_newG (us := [.int .i64 k]) (by rfl) (by intro u hu; simp only [List.mem_cons, List.not_mem_nil, or_false] at hu; rcases hu with rfl; rfl)⟩
          go_wp2_with (first | (at_builtin; refine wpList_ownG HK3.out rfl _ _ rfl (v := u5) (xs := (runL (ds.take i)).kinds.map (.int .i64)) (ys := [.int .i64 k]) rfl (HO5.out.alloc _) (Nat.le_trans HS5.out.size (by simp)) rfl HRN.out (by have := HI.out; have := HD.out.len; omega) ?_; intro v' w7 ho hg hat; have HO7 := Aside0.mk ho; have HG7 := Aside0.mk hg; clear ho hg hat) | fail)
          go_roundg (ds.length - (i + 1))
          case measure => have := HI.out; have := HIK.out; omega
          case rel => exact RND.out k u5 v' w6 w7 HKS.out HL5.out HO5.out HS5.out HO7.out HG7.out
        · have y1 : (d.f0 == 1) = false := by simpa using z1
          have HST : Aside0 (stepL (runL (ds.take i)) d = ⟨(runL (ds.take i)).sub, (runL (ds.take i)).cnt, (runL (ds.take i)).kinds ++ [0], (runL (ds.take i)).clean⟩) := ⟨by unfold stepL; rw [if_neg z0, if_neg z1]⟩
          rw [HST.out] at RND
          clear z0 z1
          have HO5 : Aside0 (w2.ownsRow w0.heap.size 3 1 u5 i ((runL (ds.take i)).kinds.map (.int .i64))) := ⟨ownsRow_fr HO.out HS1.out (fun _ _ h => h)⟩
          have HS5 : Aside0 (Same w0 w2) := ⟨HS.out.trans HS1.out (fun _ _ h => h)⟩
          have HRN : Aside0 (ReadG (w2.alloc (.cells #[.int .i64 0] 3)) (some ⟨w2.heap.size, 0, none⟩) 1 1 [.int .i64 0]) := ⟨read_newG (us := [.int .i64 0]) (by rfl) (by intro u hu; simp only [List.mem_cons, List.not_mem_nil, or_false] at hu; rcases hu with rfl; rfl)⟩
          go_wp2_with (first | (at_builtin; refine wpList_ownG HK3.out rfl _ _ rfl (v := u5) (xs := (runL (ds.take i)).kinds.map (.int .i64)) (ys := [.int .i64 0]) rfl (HO5.out.alloc _) (Nat.le_trans HS5.out.size (by simp)) rfl HRN.out (by have := HI.out; have := HD.out.len; omega) ?_; intro v' w7 ho hg hat; have HO7 := Aside0.mk ho; have HG7 := Aside0.mk hg; clear ho hg hat) | fail)
          go_roundg (ds.length - (i + 1))
          case measure => have := HI.out; have := HIK.out; omega
          case rel => exact RND.out 0 u5 v' w2 w7 rfl (Li.mono HL2.out (by omega)) HO5.out HS5.out HO7.out HG7.out
    · have hie : i = ds.length := by have := HI.out; omega
      subst hie
      have i2 : decide ((ds.length : Int) < (ds.length : Int)) = false := decide_eq_false (by omega)
      rw [List.take_length] at HL HO
      have HPO : Aside0 (ListPost w0 ds (.returned (.tuple #[.pointer (some ⟨L, 0, none⟩), u5])) wr) := ⟨⟨L, u5, rfl, Li.mono HL.out (by have := HD.out.len; omega), HO.out⟩, HS.out⟩
      clear HL HO HS
      go_wp2
      refine bodyPost_ret (results_list (rs := [.tmp 2, .tmp 3]) rfl (by simp) (.tmp (.tmp .nil))) rfl ?_
      exact HPO.out
/-- ListKinds. -/
structure KindsPost (w0 : World) (ds : List S46) (e : Ending) (w' : World) : Prop where
  out : ∃ kv, e = .returned (.tuple #[kv, .int .i64 (runL ds).cnt]) ∧ w'.ownsRow w0.heap.size 3 1 kv ds.length ((runL ds).kinds.map (.int .i64))
  same : Same w0 w'
theorem run_cnt (ds : List S46) : 0 ≤ (runL ds).cnt ∧ (runL ds).cnt < 4294967296 := by
  have hw : ∀ z : Int, 0 ≤ IntKind.u32.wrap z ∧ IntKind.u32.wrap z < 4294967296 := fun z => by
    have : IntKind.u32.wrap z = z % 4294967296 := rfl
    omega
  have : ∀ (l : List S46) (st : LSt), 0 ≤ st.cnt ∧ st.cnt < 4294967296 → 0 ≤ (l.foldl stepL st).cnt ∧ (l.foldl stepL st).cnt < 4294967296 := by
    intro l
    induction l with
    | nil => intro st h; exact h
    | cons d l ih =>
      intro st h
      rw [List.foldl_cons]
      refine ih _ ?_
      unfold stepL putL remL
      repeat' split
      all_goals first | exact hw _ | exact h
  exact this ds st0 ⟨by decide, by decide⟩
theorem kinds_calls {w0 : World} {A0 : Option Addr} {c0 : Nat} {ds : List S46} (hT : Kd.C k46 w0 A0 ds.length ds) (hG : GlL w0) (hD : GoodD ds) : Calls Tryd.prog 13 #[.slice A0 ds.length c0] w0 (KindsPost w0 ds) := by
  have HC := Aside0.mk (list_calls (c0 := c0) hT hG hD)
  have HN := Aside0.mk (run_cnt ds)
  clear hT hG hD
  go_enter Tryd.func13, Tryd.ntmps13
  go_wp2_with fail
  refine HC.out.mono ?_
  rintro e w1 ⟨⟨L, kv, rfl, hl, ho⟩, hs⟩
  have HL := Aside0.mk hl
  have HO := Aside0.mk ho
  have HS := Aside0.mk hs
  clear hl ho hs HC
  go_wp2_with fail
  refine (count_calls HL.out).mono ?_
  rintro e w2 ⟨rfl, hf, -⟩
  have HP : Aside0 (KindsPost w0 ds (.returned (.tuple #[kv, .int .i64 (runL ds).cnt])) w2) := ⟨⟨kv, rfl, own_wf HO.out hf⟩, wf_same HS.out hf (Nat.le_refl _)⟩
  have hw : IntKind.i64.wrap (runL ds).cnt = (runL ds).cnt := by rw [IntKind.wrap_i64]; have := HN.out; omega
  clear hf
  go_wp2_with fail
  refine bodyPost_ret (results_list (rs := [.tmp 2, .tmp 3]) rfl (by simp) (.tmp (.tmp .nil))) rfl ?_
  exact HP.out
end
end Go.Proofs.YtimffhpnfdikoaaDoor.Ls
namespace Go.Proofs.YtimffhpnfdikoaaDoor.Ls
open Go.RowKit Go.Maps Go.Proofs.YtimffhpnfdikoaaDoor.Pl Go.Proofs.YtimffhpnfdikoaaDoor.Bs Go.Proofs.YtimffhpnfdikoaaDoorW.PrintWords Go.Proofs.YtimffhpnfdikoaaDoorW.PrintLast Go.Proofs.YtimffhpnfdikoaaDoorW.PrintMore Go.Proofs.YtimffhpnfdikoaaDoor.GFnListKinds Go.Proofs.YtimffhpnfdikoaaDoor.PlFnListKinds
set_option linter.unusedVariables false
set_option linter.unusedSimpArgs false
/-! ### rows of entries -/
def e35 (l : List S35) : List Value := l.flatMap fun e => [.string e.f0, .int .i64 e.f1]
theorem e35_cons (x : S35) (l : List S35) : e35 (x :: l) = [.string x.f0, .int .i64 x.f1] ++ e35 l := rfl
theorem e35_app (l m : List S35) : e35 (l ++ m) = e35 l ++ e35 m := by simp [e35]
theorem e35_len : ∀ l : List S35, (e35 l).length = l.length * 2
  | [] => rfl
  | x :: l => by rw [e35_cons, List.length_append, e35_len l]; simp; omega
theorem e35_get : ∀ {L : List S35} {j : Nat} {x : S35}, L[j]? = some x → (e35 L)[j * 2]? = some (.string x.f0) ∧ (e35 L)[j * 2 + 1]? = some (.int .i64 x.f1)
  | [], _, _, h => by simp at h
  | y :: r, 0, x, h => by
    injection h with h
    subst h
    exact ⟨rfl, rfl⟩
  | y :: r, j + 1, x, h => by
    obtain ⟨h1, h2⟩ := e35_get (L := r) (j := j) (x := x) h
    rw [e35_cons, show (j + 1) * 2 = j * 2 + 2 by omega]
    refine ⟨?_, ?_⟩
    · rw [List.getElem?_append_right (by simp)]; exact h1
    · rw [List.getElem?_append_right (by simp), ← h2]; congr 1
theorem e35_one (l : List S35) : ∀ u ∈ e35 l, u.oneCell' = true := by
  intro u hu
  obtain ⟨e, _, he⟩ := List.mem_flatMap.1 hu
  simp only [List.mem_cons, List.not_mem_nil, or_false] at he
  rcases he with rfl | rfl <;> rfl
theorem e35_take (l : List S35) (n : Nat) : e35 (l.take n) = (e35 l).take (n * 2) := by
  induction l generalizing n with
  | nil => simp [e35]
  | cons x l ih =>
    cases n with
    | zero => simp [e35]
    | succ n =>
      rw [List.take_succ_cons, e35_cons, e35_cons, ih, show (n + 1) * 2 = n * 2 + 2 by omega, List.take_append]
      simp
theorem e35_drop (l : List S35) (n : Nat) : e35 (l.drop n) = (e35 l).drop (n * 2) := by
  induction l generalizing n with
  | nil => simp [e35]
  | cons x l ih =>
    cases n with
    | zero => simp
    | succ n =>
      rw [List.drop_succ_cons, e35_cons, ih, show (n + 1) * 2 = n * 2 + 2 by omega, List.drop_append]
      simp
theorem kc35_of_rg {w : World} {A : Option Addr} {L : List S35} (h : ReadG w A L.length 2 (e35 L)) (hL : L.length ≤ 1000000) : Kd.C k35 w A L.length L := by
  refine ⟨rfl, by omega, fun hn => ?_⟩
  obtain ⟨ad, e2, hcell⟩ := h.read (by rw [h.len]; omega)
  refine ⟨ad, e2, fun j p hj => ⟨[.string p.f0, .int .i64 p.f1], rfl, k35_mk w p, fun i u hu => ?_⟩⟩
  obtain ⟨g1, g2⟩ := e35_get hj
  show w.cell? (ad.add (j * 2 + i)) = some u
  match i with
  | 0 => injection hu with hu; subst hu; exact hcell _ _ g1
  | 1 => injection hu with hu; subst hu; exact hcell _ _ g2
  | i + 2 => simp at hu
theorem info35b : (Tryd.prog.info? 35).map (fun i => (i.zero, i.size, i.bytes)) = some (some (.agg #[.string .empty, .int .i64 0]), 2, 24) := by kernel_rfl
theorem ek35 : ∃ i, ElemK Tryd.prog 25 35 i (.agg #[.string .empty, .int .i64 0]) 2 24 := elem_of Tryd.underlying25 info35b (by decide) (by decide) (by decide)
theorem own_ne {w : World} {b1 b2 e1 e2 s1 s2 n1 n2 : Nat} {v1 v2 : Value} {xs1 xs2 : List Value} (h1 : w.ownsRow b1 e1 s1 v1 n1 xs1) (h2 : w.ownsRow b2 e2 s2 v2 n2 xs2) (he : e1 ≠ e2) {k : Nat} (hk : v1.ownBlock = some k) : v2.ownBlock ≠ some k := by
  intro hk2
  rcases h1.2 with ⟨rfl, -⟩ | ⟨g, cap, cur, rfl, hb, hgg, -⟩
  · cases hk
  · rcases h2.2 with ⟨rfl, -⟩ | ⟨g', cap', cur', rfl, hb', hgg', -⟩
    · cases hk2
    · have e1' : g = k := by simpa [Value.ownBlock] using hk
      have e2' : g' = k := by simpa [Value.ownBlock] using hk2
      subst e1'
      subst e2'
      rw [hgg] at hgg'
      injection hgg' with hgg'
      injection hgg' with _ hgg' _
      exact he hgg'
/-! ### the specification's list -/
structure SSt where
  l : List S35
  kinds : List Int
def stepS (st : SSt) (d : S46) : SSt :=
  if d.f0 = 0 ∧ okF false (tk d.f1) = true then ⟨if plN st.l d.f1 d.f2 = none then st.l ++ [⟨d.f1, d.f2⟩] else st.l, st.kinds ++ [0]⟩
  else match plN st.l d.f1 d.f2 with
    | some n => if d.f0 = 1 then ⟨st.l.take n ++ st.l.drop (n + 1), st.kinds ++ [0]⟩ else ⟨st.l, st.kinds ++ [1]⟩
    | none => ⟨st.l, st.kinds ++ [1]⟩
def runS (ds : List S46) : SSt := ds.foldl stepS ⟨[], []⟩
theorem runS_take {ds : List S46} {i : Nat} {d : S46} (h : ds[i]? = some d) : runS (ds.take (i + 1)) = stepS (runS (ds.take i)) d := by
  obtain ⟨hi, rfl⟩ := List.getElem?_eq_some_iff.1 h
  unfold runS
  rw [List.take_add_one, List.getElem?_eq_getElem hi, Option.toList_some, List.foldl_append]
  rfl
theorem plN_lt : ∀ {l : List S35} {s : ByteArray} {v : Int} {n : Nat}, plN l s v = some n → n < l.length
  | [], s, v, n, h => by cases h
  | e :: l, s, v, n, h => by
    unfold plN at h
    split at h
    · injection h with h; subst h; simp
    · cases hq : plN l s v with
      | none => rw [hq] at h; cases h
      | some m =>
        rw [hq] at h
        injection h with h
        have h : m + 1 = n := h
        have := plN_lt hq
        simp only [List.length_cons]
        omega
theorem step_sizes (st : SSt) (d : S46) : (stepS st d).l.length ≤ st.l.length + 1 ∧ (stepS st d).kinds.length = st.kinds.length + 1 := by
  unfold stepS
  split
  · refine ⟨?_, by simp⟩
    show (if _ then _ else _ : List S35).length ≤ _
    split <;> simp
  · split
    · split
      · refine ⟨?_, by simp⟩
        simp only [List.length_append, List.length_take, List.length_drop]
        omega
      · exact ⟨by simp, by simp⟩
    · exact ⟨by simp, by simp⟩
theorem run_sizes (ds : List S46) : (runS ds).l.length ≤ ds.length ∧ (runS ds).kinds.length = ds.length := by
  have : ∀ (l : List S46) (st : SSt), (l.foldl stepS st).l.length ≤ st.l.length + l.length ∧ (l.foldl stepS st).kinds.length = st.kinds.length + l.length := by
    intro l
    induction l with
    | nil => intro st; exact ⟨by simp, by simp⟩
    | cons d l ih =>
      intro st
      rw [List.foldl_cons]
      have h1 := ih (stepS st d)
      have h2 := step_sizes st d
      simp only [List.length_cons]
      omega
  have h := this ds ⟨[], []⟩
  unfold runS
  simpa using h
theorem okF_formed (L : List (List UInt8)) : okF false (L.map ba) = formedB L ∧ okF true (L.map ba) = L.isEmpty := by
  induction L with
  | nil => exact ⟨rfl, rfl⟩
  | cons t L ih =>
    have h1 : okF true ((t :: L).map ba) = (t :: L).isEmpty := by
      rw [List.map_cons]
      unfold okF
      rw [if_pos (.inr rfl)]
      rfl
    refine ⟨?_, h1⟩
    rw [List.map_cons, formedB]
    unfold okF
    have hz : (ba t).size = 0 ↔ t = [] := by rw [ba_size]; exact List.length_eq_zero_iff
    by_cases h0 : t = []
    · rw [if_pos (.inl (hz.2 h0))]
      simp [h0]
    · rw [if_neg (fun e => by rcases e with e | e; exact h0 (hz.1 e); cases e)]
      have hfl : (ba t = full) ↔ t = [62] := by
        show (ba t = ba [62]) ↔ _
        exact ba_inj
      by_cases h6 : t = [62]
      · rw [decide_eq_true (hfl.2 h6), ih.2]
        subst h6
        cases L with
        | nil => rfl
        | cons u L => rfl
      · rw [decide_eq_false (fun e => h6 (hfl.1 e)), ih.1]
        simp [h0, h6]
theorem formed_tk (s : ByteArray) (hs : s.size ≤ 1000) : Ev (fun k => spec_Formed.f k (tk s)) (okF false (tk s)) := by
  have hl : (toks s.data.toList).length ≤ 140737488351232 := by
    have h := tk_len s
    unfold tk at h
    rw [List.length_map] at h
    omega
  unfold tk
  rw [(okF_formed _).1]
  exact Formed_ev _ hl
end Go.Proofs.YtimffhpnfdikoaaDoor.Ls
