/- A script of deeds over a list: the walks of impl.list and ListKinds. -/
import Derived.Test.YtimffhpnfdikoaaDoorLsO
import Derived.Test.YtimffhpnfdikoaaDoorBt
namespace Go.Proofs.YtimffhpnfdikoaaDoor.Ls
open Go.RowKit Go.Maps Go.Proofs.YtimffhpnfdikoaaDoor.Bs Go.Proofs.YtimffhpnfdikoaaDoorW.PrintWords Go.Proofs.YtimffhpnfdikoaaDoorW.PrintLast Go.Proofs.YtimffhpnfdikoaaDoorW.PrintMore Go.Proofs.YtimffhpnfdikoaaDoor.GFnListKinds Go.Proofs.YtimffhpnfdikoaaDoor.PlFnListKinds
set_option linter.unusedVariables false
set_option linter.unusedSimpArgs false
theorem info3b : (Tryd.prog.info? 3).map (fun i => (i.zero, i.size, i.bytes)) = some (some (.int .i64 0), 1, 8) := by kernel_rfl
theorem ek3 : ∃ i, ElemK Tryd.prog 26 3 i (.int .i64 0) 1 8 := elem_of Tryd.underlying26 info3b (by decide) (by decide) (by decide)
theorem rd46_at {L : List S46} {j : Nat} {x : S46} (h : L[j]? = some x) : rd_T46 L (j : Int) = x := by
  unfold rd_T46
  rw [Int.toNat_natCast, List.getD_eq_getElem?_getD, h]
  rfl
structure GoodD (ds : List S46) : Prop where
  len : ds.length ≤ 1000
  all : ∀ d ∈ ds, d.f1.size ≤ 80 ∧ (Lit.int .i64 d.f2).wf = true
structure ListPost (w0 : World) (ds : List S46) (e : Ending) (w' : World) : Prop where
  out : ∃ L kv, e = .returned (.tuple #[.pointer (some ⟨L, 0, none⟩), kv]) ∧ LiS w' w0.heap.size L 82000 (runL ds) ∧ w'.ownsRow w0.heap.size 3 1 kv ds.length ((runL ds).kinds.map (.int .i64))
  same : Same w0 w'
theorem wf_same {B : Nat} {w0 wr wx : World} (h : Same w0 wr) (hf : Fr (WF B wr) wr wx) (hB : w0.heap.size ≤ B) : Same w0 wx := h.trans hf (fun k hk e => by have := e.1; omega)
theorem ints_one (l : List Int) : ∀ u ∈ l.map (Value.int .i64), u.oneCell' = true := by
  intro u hu
  obtain ⟨z, _, rfl⟩ := List.mem_map.1 hu
  rfl
theorem own_nwk {w : World} {base : Nat} {size n : Nat} {v : Value} {xs : List Value} {k : Nat} (h : w.ownsRow base 3 size v n xs) (hk : v.ownBlock = some k) : ¬ WK w k := by
  rcases h.2 with ⟨rfl, -⟩ | ⟨g, cap, cur, rfl, hb, hgg, -⟩
  · cases hk
  · have : g = k := by simpa [Value.ownBlock] using hk
    subst this
    exact not_wk hgg (by decide) (by decide) (by decide)
theorem own_wf {w w1 : World} {B base : Nat} {size n : Nat} {v : Value} {xs : List Value} (h : w.ownsRow base 3 size v n xs) (hf : Fr (WF B w) w w1) : w1.ownsRow base 3 size v n xs :=
  ownsRow_block h (fun k hk => hf.block k (own_base h hk).2 (fun e => own_nwk h hk e.2))
section
set_option maxHeartbeats 8000000
set_option maxRecDepth 100000
theorem list_calls {w0 : World} {A0 : Option Addr} {c0 : Nat} {ds : List S46} (hT : Kd.C k46 w0 A0 ds.length ds) (hG : GlL w0) (hD : GoodD ds) : Calls Tryd.prog 33 #[.slice A0 ds.length c0] w0 (ListPost w0 ds) := by
  obtain ⟨i3, hK3⟩ := ek3
  have HK3 := Aside0.mk hK3
  have HT := Aside0.mk hT
  have HG := Aside0.mk hG
  have HD := Aside0.mk hD
  clear hK3 hT hG hD
  go_enter Tryd.func33, Tryd.ntmps33
  go_wp2_with fail
  refine newList_calls.mono ?_
  rintro e w1 ⟨L, rfl, hli, hs1⟩
  have HL1 := Aside0.mk hli
  have HSA := Aside0.mk hs1
  clear hli hs1
  go_wp2_with fail
  go_loopg [5, 6] ds.length (fun kq v5 v6 wr => ∃ (i : Nat), v6 = .int .i64 (i : Int) ∧ Aside0 (kq + i = ds.length ∧ i ≤ ds.length) ∧ Aside0 (LiS wr w0.heap.size L (82 * i) (runL (ds.take i))) ∧ Aside0 (wr.ownsRow w0.heap.size 3 1 v5 i ((runL (ds.take i)).kinds.map (.int .i64))) ∧ Aside0 (Same w0 wr))
  case atStart => exact ⟨0, rfl, ⟨by omega⟩, ⟨Li.weaken HL1.out (fun _ => trivial)⟩, ⟨⟨rfl, .inl ⟨rfl, rfl⟩⟩⟩, HSA⟩
  case round =>
    clear HL1 HSA
    obtain ⟨i, rfl, HI, HL, HO, HS⟩ := hrel
    have i0 : (0 : Int) ≤ (i : Int) := by omega
    by_cases hlt : i < ds.length
    · have i1 : (i : Int) < (ds.length : Int) := by omega
      have i2 : decide ((i : Int) < (ds.length : Int)) = true := decide_eq_true i1
      have i5 : IntKind.i64.wrap ((i : Int) + 1) = ((i + 1 : Nat) : Int) := by rw [IntKind.wrap_i64]; have := HI.out; have := HD.out.len; omega
      obtain ⟨d, ht⟩ : ∃ d, ds[i]? = some d := ⟨_, List.getElem?_eq_getElem hlt⟩
      have HTI := Aside0.mk ht
      have HDD := Aside0.mk (HD.out.all d (List.mem_of_getElem? ht))
      obtain ⟨ad, rfl, t0, t1, t2⟩ := at_T46 (Kd.C_below HT.out (below_of_fr HS.out)) (i : Int) (by omega) (by omega)
      rw [Int.toNat_natCast, rd46_at HTI.out] at t0 t1 t2
      clear ht
      go_upto_region 7 with (fail)
      have HB1 : Aside0 (Blk (wr.alloc (.cells #[.int .i64 d.f0, .string d.f1, .int .i64 d.f2] 46)) wr.heap.size 46 [.int .i64 d.f0, .string d.f1, .int .i64 d.f2]) := ⟨Blk.new _ _ _⟩
      have HS1 : Aside0 (Same wr (wr.alloc (.cells #[.int .i64 d.f0, .string d.f1, .int .i64 d.f2] 46))) := ⟨(Fr.refl _ _).alloc _⟩
      generalize wr.alloc (.cells #[.int .i64 d.f0, .string d.f1, .int .i64 d.f2] 46) = w2 at HB1 HS1 ⊢
      generalize htb : wr.heap.size = tb at HB1 ⊢
      have HL2 : Aside0 (LiS w2 w0.heap.size L (82 * i) (runL (ds.take i))) := ⟨Li.fr HL.out HS1.out (fun _ _ h => h)⟩
      have HG2 : Aside0 (GlL w2) := ⟨(HG.out.fr HS.out (fun h => h) (fun h => h)).fr HS1.out (fun h => h) (fun h => h)⟩
      have HIK : Aside0 (82 * i < 82000 ∧ i + 1 ≤ ds.length) := ⟨by have := HD.out.len; omega⟩
      have RND : Aside0 (∀ (k : Int) (v v' : Value) (w6 w7 : World), (stepL (runL (ds.take i)) d).kinds = (runL (ds.take i)).kinds ++ [k] → LiS w6 w0.heap.size L (82 * i + 82) (stepL (runL (ds.take i)) d) → w6.ownsRow w0.heap.size 3 1 v i ((runL (ds.take i)).kinds.map (.int .i64)) → Same w0 w6 → w7.ownsRow w0.heap.size 3 1 v' (i + 1) ((runL (ds.take i)).kinds.map (.int .i64) ++ [.int .i64 k]) → (w6.alloc (.cells #[.int .i64 k] 3)).grownBy w7 v.ownBlock →
          ∃ (j : Nat), Value.int .i64 ((i + 1 : Nat) : Int) = .int .i64 (j : Int) ∧ Aside0 (ds.length - (i + 1) + j = ds.length ∧ j ≤ ds.length) ∧ Aside0 (LiS w7 w0.heap.size L (82 * j) (runL (ds.take j))) ∧ Aside0 (w7.ownsRow w0.heap.size 3 1 v' j ((runL (ds.take j)).kinds.map (.int .i64))) ∧ Aside0 (Same w0 w7)) := ⟨fun k v v' w6 w7 hk hl ho hs ho7 hg7 => by
        have hgr : Fr (fun k => v.ownBlock = some k) w6 w7 := ((Fr.refl _ w6).alloc _).trans (Fr.grown hg7) (fun _ _ h => h)
        refine ⟨i + 1, rfl, ⟨by omega⟩, ⟨?_⟩, ⟨?_⟩, ⟨hs.trans hgr (fun k hk e => ?_)⟩⟩
        · rw [runL_take HTI.out, show 82 * (i + 1) = 82 * i + 82 by omega]
          exact Li.fr hl hgr (fun k hk e => own_nwk ho e hk.2)
        · rw [runL_take HTI.out, hk, List.map_append]
          exact ho7
        · have := own_base ho e
          omega⟩
      have c0' := HB1.out.cell 0 rfl
      have c1' := HB1.out.cell 1 rfl
      have c2' := HB1.out.cell 2 rfl
      clear t0 t1 t2 htb hlt i0 i1 i2
      by_cases z0 : d.f0 = 0
      · have y0 : (d.f0 == 0) = true := by simpa using z0
        have HST : Aside0 (stepL (runL (ds.take i)) d = putL (runL (ds.take i)) d.f1 d.f2) := ⟨by unfold stepL; rw [if_pos z0]⟩
        rw [HST.out] at RND
        clear z0
        go_wp2_with fail
        refine (ins_calls HL2.out HDD.out.1 HDD.out.2 (by have := HIK.out; omega) HG2.out HG.out.size).mono ?_
        rintro e w5 ⟨ev, rfl, hop⟩
        obtain ⟨⟨k, hk, hks⟩, hf5, hl5⟩ := hop
        have HL5 := Aside0.mk hl5
        have HF5 := Aside0.mk hf5
        have HKS := Aside0.mk hks
        have HE := Aside0.mk hk
        clear hk hks hf5 hl5
        go_wp2_with fail
        refine (one_calls HE.out).mono ?_
        rintro e w6 ⟨rfl, rfl⟩
        have HO5 : Aside0 (w6.ownsRow w0.heap.size 3 1 u5 i ((runL (ds.take i)).kinds.map (.int .i64))) := ⟨own_wf (ownsRow_fr HO.out HS1.out (fun _ _ h => h)) HF5.out⟩
        have HS5 : Aside0 (Same w0 w6) := ⟨wf_same (HS.out.trans HS1.out (fun _ _ h => h)) HF5.out (Nat.le_refl _)⟩
        have HRN : Aside0 (ReadG (w6.alloc (.cells #[.int .i64 k] 3)) (some ⟨w6.heap.size, 0, none⟩) 1 1 [.int .i64 k]) := ⟨read_newG (us := [.int .i64 k]) (by rfl) (by intro u hu; simp only [List.mem_cons, List.not_mem_nil, or_false] at hu; rcases hu with rfl; rfl)⟩
        go_wp2_with (first | (at_builtin; refine wpList_ownG HK3.out rfl _ _ rfl (v := u5) (xs := (runL (ds.take i)).kinds.map (.int .i64)) (ys := [.int .i64 k]) rfl (HO5.out.alloc _) (Nat.le_trans HS5.out.size (by simp)) rfl HRN.out (by have := HI.out; have := HD.out.len; omega) ?_; intro v' w7 ho hg hat; have HO7 := Aside0.mk ho; have HG7 := Aside0.mk hg; clear ho hg hat) | fail)
        go_roundg (ds.length - (i + 1))
        case measure => have := HI.out; have := HIK.out; omega
        case rel => exact RND.out k u5 v' w6 w7 HKS.out HL5.out HO5.out HS5.out HO7.out HG7.out
      · have y0 : (d.f0 == 0) = false := by simpa using z0
        by_cases z1 : d.f0 = 1
        · have y1 : (d.f0 == 1) = true := by simpa using z1
          have HST : Aside0 (stepL (runL (ds.take i)) d = remL (runL (ds.take i)) d.f1 d.f2) := ⟨by unfold stepL; rw [if_neg z0, if_pos z1]⟩
          rw [HST.out] at RND
          clear z0 z1
          go_wp2_with fail
          refine (rem_calls HL2.out HDD.out.1 HDD.out.2 (by have := HIK.out; omega) HG2.out HG.out.size).mono ?_
          rintro e w5 ⟨ev, rfl, hop⟩
          obtain ⟨⟨k, hk, hks⟩, hf5, hl5⟩ := hop
          have HL5 := Aside0.mk hl5
          have HF5 := Aside0.mk hf5
          have HKS := Aside0.mk hks
          have HE := Aside0.mk hk
          clear hk hks hf5 hl5
          go_wp2_with fail
          refine (one_calls HE.out).mono ?_
          rintro e w6 ⟨rfl, rfl⟩
          have HO5 : Aside0 (w6.ownsRow w0.heap.size 3 1 u5 i ((runL (ds.take i)).kinds.map (.int .i64))) := ⟨own_wf (ownsRow_fr HO.out HS1.out (fun _ _ h => h)) HF5.out⟩
          have HS5 : Aside0 (Same w0 w6) := ⟨wf_same (HS.out.trans HS1.out (fun _ _ h => h)) HF5.out (Nat.le_refl _)⟩
          have HRN : Aside0 (ReadG (w6.alloc (.cells #[.int .i64 k] 3)) (some ⟨w6.heap.size, 0, none⟩) 1 1 [.int .i64 k]) := ⟨read_newG (us := [.int .i64 k]) (by rfl) (by intro u hu; simp only [List.mem_cons, List.not_mem_nil, or_false] at hu; rcases hu with rfl; rfl)⟩
          go_wp2_with (first | (at_builtin; refine wpList_ownG HK3.out rfl _ _ rfl (v := u5) (xs := (runL (ds.take i)).kinds.map (.int .i64)) (ys := [.int .i64 k]) rfl (HO5.out.alloc _) (Nat.le_trans HS5.out.size (by simp)) rfl HRN.out (by have := HI.out; have := HD.out.len; omega) ?_; intro v' w7 ho hg hat; have HO7 := Aside0.mk ho; have HG7 := Aside0.mk hg; clear ho hg hat) | fail)
          go_roundg (ds.length - (i + 1))
          case measure => have := HI.out; have := HIK.out; omega
          case rel => exact RND.out k u5 v' w6 w7 HKS.out HL5.out HO5.out HS5.out HO7.out HG7.out
        · have y1 : (d.f0 == 1) = false := by simpa using z1
          have HST : Aside0 (stepL (runL (ds.take i)) d = ⟨(runL (ds.take i)).sub, (runL (ds.take i)).cnt, (runL (ds.take i)).kinds ++ [0], (runL (ds.take i)).clean⟩) := ⟨by unfold stepL; rw [if_neg z0, if_neg z1]⟩
          rw [HST.out] at RND
          clear z0 z1
          have HO5 : Aside0 (w2.ownsRow w0.heap.size 3 1 u5 i ((runL (ds.take i)).kinds.map (.int .i64))) := ⟨ownsRow_fr HO.out HS1.out (fun _ _ h => h)⟩
          have HS5 : Aside0 (Same w0 w2) := ⟨HS.out.trans HS1.out (fun _ _ h => h)⟩
          have HRN : Aside0 (ReadG (w2.alloc (.cells #[.int .i64 0] 3)) (some ⟨w2.heap.size, 0, none⟩) 1 1 [.int .i64 0]) := ⟨read_newG (us := [.int .i64 0]) (by rfl) (by intro u hu; simp only [List.mem_cons, List.not_mem_nil, or_false] at hu; rcases hu with rfl; rfl)⟩
          go_wp2_with (first | (at_builtin; refine wpList_ownG HK3.out rfl _ _ rfl (v := u5) (xs := (runL (ds.take i)).kinds.map (.int .i64)) (ys := [.int .i64 0]) rfl (HO5.out.alloc _) (Nat.le_trans HS5.out.size (by simp)) rfl HRN.out (by have := HI.out; have := HD.out.len; omega) ?_; intro v' w7 ho hg hat; have HO7 := Aside0.mk ho; have HG7 := Aside0.mk hg; clear ho hg hat) | fail)
          go_roundg (ds.length - (i + 1))
          case measure => have := HI.out; have := HIK.out; omega
          case rel => exact RND.out 0 u5 v' w2 w7 rfl (Li.mono HL2.out (by omega)) HO5.out HS5.out HO7.out HG7.out
    · have hie : i = ds.length := by have := HI.out; omega
      subst hie
      have i2 : decide ((ds.length : Int) < (ds.length : Int)) = false := decide_eq_false (by omega)
      rw [List.take_length] at HL HO
      have HPO : Aside0 (ListPost w0 ds (.returned (.tuple #[.pointer (some ⟨L, 0, none⟩), u5])) wr) := ⟨⟨L, u5, rfl, Li.mono HL.out (by have := HD.out.len; omega), HO.out⟩, HS.out⟩
      clear HL HO HS
      go_wp2
      refine bodyPost_ret (results_list (rs := [.tmp 2, .tmp 3]) rfl (by simp) (.tmp (.tmp .nil))) rfl ?_
      exact HPO.out
/-- ListKinds. -/
structure KindsPost (w0 : World) (ds : List S46) (e : Ending) (w' : World) : Prop where
  out : ∃ kv, e = .returned (.tuple #[kv, .int .i64 (runL ds).cnt]) ∧ w'.ownsRow w0.heap.size 3 1 kv ds.length ((runL ds).kinds.map (.int .i64))
  same : Same w0 w'
theorem run_cnt (ds : List S46) : 0 ≤ (runL ds).cnt ∧ (runL ds).cnt < 4294967296 := by
  have hw : ∀ z : Int, 0 ≤ IntKind.u32.wrap z ∧ IntKind.u32.wrap z < 4294967296 := fun z => by
    have : IntKind.u32.wrap z = z % 4294967296 := rfl
    omega
  have : ∀ (l : List S46) (st : LSt), 0 ≤ st.cnt ∧ st.cnt < 4294967296 → 0 ≤ (l.foldl stepL st).cnt ∧ (l.foldl stepL st).cnt < 4294967296 := by
    intro l
    induction l with
    | nil => intro st h; exact h
    | cons d l ih =>
      intro st h
      rw [List.foldl_cons]
      refine ih _ ?_
      unfold stepL putL remL
      repeat' split
      all_goals first | exact hw _ | exact h
  exact this ds st0 ⟨by decide, by decide⟩
theorem kinds_calls {w0 : World} {A0 : Option Addr} {c0 : Nat} {ds : List S46} (hT : Kd.C k46 w0 A0 ds.length ds) (hG : GlL w0) (hD : GoodD ds) : Calls Tryd.prog 13 #[.slice A0 ds.length c0] w0 (KindsPost w0 ds) := by
  have HC := Aside0.mk (list_calls (c0 := c0) hT hG hD)
  have HN := Aside0.mk (run_cnt ds)
  clear hT hG hD
  go_enter Tryd.func13, Tryd.ntmps13
  go_wp2_with fail
  refine HC.out.mono ?_
  rintro e w1 ⟨⟨L, kv, rfl, hl, ho⟩, hs⟩
  have HL := Aside0.mk hl
  have HO := Aside0.mk ho
  have HS := Aside0.mk hs
  clear hl ho hs HC
  go_wp2_with fail
  refine (count_calls HL.out).mono ?_
  rintro e w2 ⟨rfl, hf, -⟩
  have HP : Aside0 (KindsPost w0 ds (.returned (.tuple #[kv, .int .i64 (runL ds).cnt])) w2) := ⟨⟨kv, rfl, own_wf HO.out hf⟩, wf_same HS.out hf (Nat.le_refl _)⟩
  have hw : IntKind.i64.wrap (runL ds).cnt = (runL ds).cnt := by rw [IntKind.wrap_i64]; have := HN.out; omega
  clear hf
  go_wp2_with fail
  refine bodyPost_ret (results_list (rs := [.tmp 2, .tmp 3]) rfl (by simp) (.tmp (.tmp .nil))) rfl ?_
  exact HP.out
end
end Go.Proofs.YtimffhpnfdikoaaDoor.Ls
