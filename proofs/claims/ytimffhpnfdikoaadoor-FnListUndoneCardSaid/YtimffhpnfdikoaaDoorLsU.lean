/- The walks of spec.Twice and awakeList. The list and the specification's list, plainly: they have the same. The law FnListKinds, walked; a script as it is read. -/
import Derived.Test.YtimffhpnfdikoaaDoorLsR
import Derived.Deep.SlicePairs
namespace Go.Proofs.YtimffhpnfdikoaaDoor.Ls
open Go.RowKit Go.Maps Go.Proofs.YtimffhpnfdikoaaDoor.Bs Go.Proofs.YtimffhpnfdikoaaDoorW.PrintWords Go.Proofs.YtimffhpnfdikoaaDoorW.PrintLast Go.Proofs.YtimffhpnfdikoaaDoorW.PrintMore Go.Proofs.YtimffhpnfdikoaaDoor.GFnListKinds Go.Proofs.YtimffhpnfdikoaaDoor.PlFnListKinds
set_option linter.unusedVariables false
set_option linter.unusedSimpArgs false
theorem GoodD.take {ds : List S46} (h : GoodD ds) (i : Nat) : GoodD (ds.take i) := ⟨by rw [List.length_take]; have := h.len; omega, fun d hd => h.all d (List.mem_of_mem_take hd)⟩
/-- No put of what is there. -/
def Once (ds : List S46) (n : Nat) : Prop := ∀ i d, i < n → ds[i]? = some d → d.f0 = 0 → plN (runS (ds.take i)).l d.f1 d.f2 = none
structure TwicePost (w0 : World) (ds : List S46) (e : Ending) (w' : World) : Prop where
  out : ∃ r, e = .returned (.bool r) ∧ (r = false → Once ds ds.length)
  same : Same w0 w'
theorem Once.next {ds : List S46} {i : Nat} (h : Once ds i) (hd : ∀ d, ds[i]? = some d → d.f0 = 0 → plN (runS (ds.take i)).l d.f1 d.f2 = none) : Once ds (i + 1) := by
  intro j d hj hd' h0
  by_cases hji : j < i
  · exact h j d hji hd' h0
  · obtain rfl : j = i := by omega
    exact hd d hd' h0
section
set_option maxHeartbeats 8000000
set_option maxRecDepth 100000
theorem twice_calls {w0 : World} {A0 : Option Addr} {c0 : Nat} {ds : List S46} (hT : Kd.C k46 w0 A0 ds.length ds) (hc : ds.length ≤ c0) (hD : GoodD ds) : Calls Tryd.prog 11 #[.slice A0 ds.length c0] w0 (TwicePost w0 ds) := by
  have HT := Aside0.mk hT
  have HC := Aside0.mk hc
  have HD := Aside0.mk hD
  clear hT hD hc
  go_enter Tryd.func11, Tryd.ntmps11
  go_wp2_with fail
  go_loopg [3] ds.length (fun kq v3 wr => ∃ (i : Nat), v3 = .int .i64 (i : Int) ∧ Aside0 (kq + i = ds.length ∧ i ≤ ds.length) ∧ Aside0 (Once ds i) ∧ Aside0 (Same w0 wr))
  case atStart => exact ⟨0, rfl, ⟨by omega⟩, ⟨fun j d hj => by omega⟩, ⟨Fr.refl _ _⟩⟩
  case round =>
    obtain ⟨i, rfl, HI, HO, HS⟩ := hrel
    have i0 : (0 : Int) ≤ (i : Int) := by omega
    by_cases hlt : i < ds.length
    · have i1 : (i : Int) < (ds.length : Int) := by omega
      have i2 : decide ((i : Int) < (ds.length : Int)) = true := decide_eq_true i1
      have i3 : (i : Int) ≤ (ds.length : Int) := by omega
      have i4 : (ds.length : Int) ≤ (c0 : Int) := by have := HC.out; omega
      have i6 : (i : Int) ≤ (c0 : Int) := by omega
      have i5 : IntKind.i64.wrap ((i : Int) + 1) = ((i + 1 : Nat) : Int) := by rw [IntKind.wrap_i64]; have := HI.out; have := HD.out.len; omega
      obtain ⟨d, ht⟩ : ∃ d, ds[i]? = some d := ⟨_, List.getElem?_eq_getElem hlt⟩
      have HTI := Aside0.mk ht
      have HIK : Aside0 (i + 1 ≤ ds.length ∧ ds.length ≤ 1000 ∧ (ds.take i).length = i) := ⟨by have := HD.out.len; rw [List.length_take]; omega⟩
      have HTW := Aside0.mk (Kd.C_below HT.out (below_of_fr HS.out))
      have HTK : Aside0 (Calls Tryd.prog 12 #[.slice A0 i c0] wr (SpecPost wr (ds.take i))) := ⟨by have := spec_calls (c0 := c0) (Kd.C_take HTW.out (Nat.le_of_lt hlt)) (HD.out.take i); rw [HIK.out.2.2] at this; exact this⟩
      clear ht
      go_wp2_with fail
      refine HTK.out.mono ?_
      rintro e w1 ⟨⟨lv, kv, rfl, hl, hk⟩, hs⟩
      have HL := Aside0.mk hl
      have HS1 := Aside0.mk hs
      clear hl hk hs HTK
      go_upto_region 5 with (fail)
      obtain ⟨ad, rfl, t0, t1, t2⟩ := at_T46 (Kd.C_below HTW.out (below_of_fr HS1.out)) (i : Int) (by omega) (by omega)
      rw [Int.toNat_natCast, rd46_at HTI.out] at t0 t1 t2
      by_cases z0 : d.f0 = 0
      · have y0 : (d.f0 == 0) = true := by simpa using z0
        obtain ⟨A4, c4, rfl, hc4, hr4⟩ := read_own (w := w1) (W := w1) HL.out (e35_one _)
        have hsz := (run_sizes (ds.take i)).1
        have HSZ : Aside0 ((runS (ds.take i)).l.length ≤ 1000) := ⟨by have := HIK.out; omega⟩
        have HC4 := Aside0.mk hc4
        have HR4 := Aside0.mk hr4
        clear hc4 hr4 hsz
        refine region_tail 18 (by kernel_rfl) (by kernel_rfl) (fun wd hwd => ?_)
        have HWD : Aside0 (Same w1 wd) := ⟨by rw [hwd.out]; exact (Fr.refl _ _).drew⟩
        replace t0 := HWD.out.cell t0
        replace t1 := HWD.out.cell t1
        replace t2 := HWD.out.cell t2
        clear hwd
        simp only [List.take_succ_cons, List.take_zero, List.drop_succ_cons, List.drop_zero]
        repeat still_step
        refine wpStill_nil ?_
        go_wp2_with fail
        obtain ⟨kp, hkp⟩ := Ev.rounds (place_ev (runS (ds.take i)).l (by have := HSZ.out; omega) d.f1 d.f2)
        refine (spec_place.calls kp A4 c4 _ d.f1 d.f2 _ wd (kc35_of_rg (HR4.out.fr HWD.out (fun _ _ h => h)) (by have := HSZ.out; omega)) HC4.out hkp).mono ?_
        rintro e w3 ⟨rfl, hdr3⟩
        have HS3 : Aside0 (Same w0 w3) := ⟨HS.out.trans (HS1.out.trans (HWD.out.trans (fr_of_below hdr3.below) (fun _ _ h => h)) (fun _ _ h => h)) (fun _ _ h => h)⟩
        clear hdr3 hkp t0 t1 t2
        cases hp : plN (runS (ds.take i)).l d.f1 d.f2 with
        | none =>
          have HP := Aside0.mk hp
          have p1 : decide (plI none ≥ 0) = false := by decide
          clear hp
          go_wp2_with fail
          go_roundg (ds.length - (i + 1))
          case measure => have := HI.out; have := HIK.out; omega
          case rel => exact ⟨i + 1, rfl, ⟨by have := HIK.out; omega⟩, ⟨HO.out.next (fun d' hd' _ => by rw [HTI.out] at hd'; injection hd' with hd'; rw [← hd']; exact HP.out)⟩, HS3⟩
        | some n =>
          have p1 : decide (plI (some n) ≥ 0) = true := decide_eq_true (by show (n : Int) ≥ 0; omega)
          clear hp
          go_wp2_with fail
          go_ret
          exact ⟨⟨true, rfl, fun h => by cases h⟩, HS3.out⟩
      · have y0 : (d.f0 == 0) = false := by simpa using z0
        have HZ := Aside0.mk z0
        clear z0
        go_quiet (fail)
        have HS3 : Aside0 (Same w0 (w1.drewN nq)) := ⟨HS.out.trans (HS1.out.drewN nq) (fun _ _ h => h)⟩
        clear t0 t1 t2
        go_wp2_with fail
        go_roundg (ds.length - (i + 1))
        case measure => have := HI.out; have := HIK.out; omega
        case rel => exact ⟨i + 1, rfl, ⟨by have := HIK.out; omega⟩, ⟨HO.out.next (fun d' hd' h0 => by rw [HTI.out] at hd'; injection hd' with hd'; rw [← hd'] at h0; exact absurd h0 HZ.out)⟩, HS3⟩
    · have hie : i = ds.length := by have := HI.out; omega
      subst hie
      have i2 : decide ((ds.length : Int) < (ds.length : Int)) = false := decide_eq_false (by omega)
      go_wp2
      go_ret
      exact ⟨⟨false, rfl, fun _ => HO.out⟩, HS.out⟩
end
/-! ### awakeList -/
def oneD : List S46 := [⟨0, ⟨#[97, 46, 42]⟩, 3⟩]
theorem goodOne : GoodD oneD := ⟨by decide, fun d hd => by
  have : d = ⟨0, ⟨#[97, 46, 42]⟩, 3⟩ := by simpa [oneD] using hd
  subst this
  exact ⟨by decide, by decide⟩⟩
theorem kcOne (W : World) : Kd.C k46 (W.alloc (.cells #[.int .i64 0, .string ⟨#[97, 46, 42]⟩, .int .i64 3] 46)) (some ⟨W.heap.size, 0, none⟩) oneD.length oneD := by
  refine ⟨rfl, by decide, fun _ => ⟨_, rfl, fun j p hj => ?_⟩⟩
  rcases j with _ | j
  · injection hj with hj
    subst hj
    refine ⟨_, rfl, k46_mk _ _, fun i u hu => ?_⟩
    have hb := Blk.new W 46 [.int .i64 0, .string ⟨#[97, 46, 42]⟩, .int .i64 3]
    rw [Bs.add_at]
    exact hb.cell _ (by simpa using hu)
  · simp [oneD] at hj
theorem runOne : (runL oneD).cnt = 1 ∧ (runL oneD).kinds = [0] := by
  have h : okF false (tk ⟨#[97, 46, 42]⟩) = true := by decide
  have e : runL oneD = putL st0 ⟨#[97, 46, 42]⟩ 3 := rfl
  rw [e]
  unfold putL
  rw [if_pos h]
  exact ⟨rfl, rfl⟩
def AwPost (W : World) (en : Ending) (w' : World) : Prop := en = .returned (.bool true) ∧ Same W w'
set_option maxHeartbeats 4000000 in
set_option maxRecDepth 100000 in
theorem awake_calls {W : World} (hg : GlL W) : Calls Tryd.prog 9 #[] W (AwPost W) := by
  have hsa : Same W (W.alloc (.cells #[.int .i64 0, .string ⟨#[97, 46, 42]⟩, .int .i64 3] 46)) := (Fr.refl _ W).alloc _
  have P1 : Aside0 (Calls Tryd.prog 13 #[.slice (some ⟨W.heap.size, 0, none⟩) 1 1] (W.alloc (.cells #[.int .i64 0, .string ⟨#[97, 46, 42]⟩, .int .i64 3] 46)) (KindsPost (W.alloc (.cells #[.int .i64 0, .string ⟨#[97, 46, 42]⟩, .int .i64 3] 46)) oneD)) :=
    ⟨kinds_calls (c0 := 1) (kcOne W) (hg.fr hsa (fun h => h) (fun h => h)) goodOne⟩
  have HSA := Aside0.mk hsa
  clear hg hsa
  go_enter Tryd.func9, Tryd.ntmps9
  go_wp2_with fail
  refine P1.out.mono ?_
  rintro e w2 ⟨⟨kv, rfl, ho⟩, hs⟩
  rw [runOne.1]
  rw [runOne.2] at ho
  rw [show oneD.length = 1 from rfl] at ho
  obtain ⟨A, c, rfl, hc, hr⟩ := read_own (w := w2) (W := w2) ho (ints_one _)
  obtain ⟨ad, rfl, hcell⟩ := hr.read (by decide)
  have q0 := hcell 0 _ rfl
  rw [show (ad.add 0) = ad by unfold Addr.add; cases ad; split <;> simp_all] at q0
  have HS := Aside0.mk hs
  clear ho hs P1 hr hcell
  go_wp2
  go_ret
  exact ⟨rfl, HSA.out.trans HS.out (fun _ _ h => h)⟩
end Go.Proofs.YtimffhpnfdikoaaDoor.Ls
namespace Go.Proofs.YtimffhpnfdikoaaDoor.Ls
open Go.RowKit Go.Maps Go.Proofs.YtimffhpnfdikoaaDoor.Pl Go.Proofs.YtimffhpnfdikoaaDoor.Bs Go.Proofs.YtimffhpnfdikoaaDoorW.PrintWords Go.Proofs.YtimffhpnfdikoaaDoorW.PrintLast Go.Proofs.YtimffhpnfdikoaaDoorW.PrintMore Go.Proofs.YtimffhpnfdikoaaDoor.GFnListKinds Go.Proofs.YtimffhpnfdikoaaDoor.PlFnListKinds
set_option linter.unusedVariables false
set_option linter.unusedSimpArgs false
def jn : List (List UInt8) → List UInt8
  | [] => []
  | [x] => x
  | x :: y :: r => x ++ 46 :: jn (y :: r)
theorem toksA_ne (p l : List UInt8) : toksA p l ≠ [] := by
  intro h
  have := toksA_len l p
  rw [h] at this
  simp at this
theorem jn_toksA : ∀ (l p : List UInt8), jn (toksA p l) = p ++ l
  | [], p => by simp [toksA, jn]
  | c :: l, p => by
    by_cases h : c = 46
    · subst h
      rw [toksA_dot]
      obtain ⟨y, r, e⟩ := List.exists_cons_of_ne_nil (toksA_ne [] l)
      rw [e, jn, ← e, jn_toksA l []]
      simp
    · rw [toksA_other p h, jn_toksA l]
      simp
theorem map_ba_inj : ∀ {L M : List (List UInt8)}, L.map ba = M.map ba → L = M
  | [], [], _ => rfl
  | [], _ :: _, h => by simp at h
  | _ :: _, [], h => by simp at h
  | a :: L, b :: M, h => by
    rw [List.map_cons, List.map_cons] at h
    injection h with h1 h2
    rw [ba_inj.1 h1, map_ba_inj h2]
theorem tk_inj {s s' : ByteArray} (h : tk s = tk s') : s = s' := by
  have h1 := map_ba_inj h
  have h2 := congrArg jn h1
  unfold toks at h2
  rw [jn_toksA, jn_toksA, List.nil_append, List.nil_append] at h2
  rw [← ba_self s, ← ba_self s', h2]
theorem plN_at : ∀ {l : List S35} {s : ByteArray} {v : Int} {n : Nat}, plN l s v = some n → l[n]? = some ⟨s, v⟩
  | [], _, _, _, h => by cases h
  | e :: l, s, v, n, h => by
    unfold plN at h
    split at h
    · rename_i he
      injection h with h
      subst h
      obtain ⟨h1, h2⟩ := he
      cases e
      subst h1 h2
      rfl
    · cases hq : plN l s v with
      | none => rw [hq] at h; cases h
      | some m =>
        rw [hq] at h
        injection h with h
        have h : m + 1 = n := h
        subst h
        have := plN_at hq
        rwa [List.getElem?_cons_succ]
theorem plN_none : ∀ {l : List S35} {s : ByteArray} {v : Int}, plN l s v = none ↔ (⟨s, v⟩ : S35) ∉ l
  | [], _, _ => by simp [plN]
  | e :: l, s, v => by
    unfold plN
    split
    · rename_i he
      obtain ⟨h1, h2⟩ := he
      cases e
      subst h1 h2
      simp
    · rename_i he
      rw [Option.map_eq_none_iff, plN_none, List.mem_cons, not_or]
      constructor
      · intro h
        refine ⟨?_, h⟩
        rintro rfl
        exact he ⟨rfl, rfl⟩
      · exact fun h => h.2
/-- The two lists have the same. -/
structure Eqv (st : LSt) (ss : SSt) : Prop where
  kinds : st.kinds = ss.kinds
  cnt : st.cnt = (ss.l.length : Int)
  nodup : ss.l.Nodup
  sub : ∀ p v s, st.sub p v = some s ↔ (⟨s, v⟩ : S35) ∈ ss.l ∧ p = tk s
  ok : ∀ e ∈ ss.l, okF false (tk e.f0) = true
theorem wrap_u32 {z : Int} (h0 : 0 ≤ z) (h1 : z < 4294967296) : IntKind.u32.wrap z = z := by
  show z % 4294967296 = z
  omega
theorem Eqv.step {st : LSt} {ss : SSt} {d : S46} (h : Eqv st ss) (hd : d.f0 = 0 ∨ d.f0 = 1) (ho : d.f0 = 0 → plN ss.l d.f1 d.f2 = none) (hl : ss.l.length ≤ 1000) : Eqv (stepL st d) (stepS ss d) := by
  obtain ⟨hk, hc, hn, hs, hok⟩ := h
  rcases hd with h0 | h1
  · unfold stepL
    rw [if_pos h0]
    unfold putL
    by_cases hf : okF false (tk d.f1) = true
    · rw [if_pos hf]
      unfold stepS
      rw [if_pos ⟨h0, hf⟩, if_pos (ho h0)]
      have hni := plN_none.1 (ho h0)
      refine ⟨by rw [hk], ?_, ?_, fun p v s => ?_, fun e he => ?_⟩
      · show IntKind.u32.wrap (st.cnt + 1) = _
        rw [hc, wrap_u32 (by omega) (by omega), List.length_append]
        simp
      · refine List.nodup_append.2 ⟨hn, List.nodup_cons.2 ⟨by simp, List.nodup_nil⟩, ?_⟩
        intro a ha b hb e
        have : b = (⟨d.f1, d.f2⟩ : S35) := by simpa using hb
        rw [e, this] at ha
        exact hni ha
      · show setS st.sub (tk d.f1) (upd (st.sub (tk d.f1)) d.f2 d.f1) p v = some s ↔ _
        unfold setS
        by_cases hp : p = tk d.f1
        · rw [if_pos hp]
          unfold upd
          by_cases hv : v = d.f2
          · rw [if_pos hv]
            constructor
            · intro e
              injection e with e
              subst e hv hp
              exact ⟨by simp, rfl⟩
            · rintro ⟨_, e⟩
              rw [hp] at e
              rw [tk_inj e]
          · rw [if_neg hv, ← hp, hs]
            constructor
            · rintro ⟨e1, e2⟩
              exact ⟨List.mem_append_left _ e1, e2⟩
            · rintro ⟨e1, e2⟩
              rcases List.mem_append.1 e1 with e1 | e1
              · exact ⟨e1, e2⟩
              · have : (⟨s, v⟩ : S35) = ⟨d.f1, d.f2⟩ := by simpa using e1
                injection this with _ this
                exact absurd this hv
        · rw [if_neg hp, hs]
          constructor
          · rintro ⟨e1, e2⟩
            exact ⟨List.mem_append_left _ e1, e2⟩
          · rintro ⟨e1, e2⟩
            rcases List.mem_append.1 e1 with e1 | e1
            · exact ⟨e1, e2⟩
            · have : (⟨s, v⟩ : S35) = ⟨d.f1, d.f2⟩ := by simpa using e1
              injection this with this _
              rw [this] at e2
              exact absurd e2 hp
      · rcases List.mem_append.1 he with he | he
        · exact hok e he
        · have : e = (⟨d.f1, d.f2⟩ : S35) := by simpa using he
          rw [this]
          exact hf
    · rw [if_neg hf]
      unfold stepS
      rw [if_neg (fun e => hf e.2), ho h0]
      exact ⟨by rw [hk], hc, hn, hs, hok⟩
  · have h0 : d.f0 ≠ 0 := by omega
    unfold stepL
    rw [if_neg h0, if_pos h1]
    unfold stepS
    rw [if_neg (fun e => h0 e.1)]
    unfold remL
    cases hp : plN ss.l d.f1 d.f2 with
    | none =>
      have hni := plN_none.1 hp
      rw [if_neg]
      · exact ⟨by rw [hk], hc, hn, hs, hok⟩
      · rintro ⟨_, e⟩
        obtain ⟨s, e⟩ := Option.isSome_iff_exists.1 e
        obtain ⟨e1, e2⟩ := (hs _ _ _).1 e
        rw [tk_inj e2] at hni
        exact hni e1
    | some n =>
      have hat := plN_at hp
      have hmem := List.mem_of_getElem? hat
      obtain ⟨hlt, hge⟩ := List.getElem?_eq_some_iff.1 hat
      have hsome : st.sub (tk d.f1) d.f2 = some d.f1 := (hs _ _ _).2 ⟨hmem, rfl⟩
      rw [if_pos ⟨hok _ hmem, by rw [hsome]; rfl⟩]
      have hsplit : ss.l = ss.l.take n ++ ⟨d.f1, d.f2⟩ :: ss.l.drop (n + 1) := by
        conv => lhs; rw [← List.take_append_drop n ss.l, List.drop_eq_getElem_cons hlt, hge]
      have hn2 := hn
      rw [hsplit] at hn2
      obtain ⟨q1, q2, q3⟩ := List.nodup_append.1 hn2
      obtain ⟨q4, q5⟩ := List.nodup_cons.1 q2
      have hmm : ∀ e, e ∈ ss.l.take n ++ ss.l.drop (n + 1) ↔ e ∈ ss.l ∧ e ≠ (⟨d.f1, d.f2⟩ : S35) := by
        intro e
        constructor
        · intro he
          rcases List.mem_append.1 he with he | he
          · exact ⟨List.mem_of_mem_take he, fun e' => q3 e he e (by rw [e']; simp) rfl⟩
          · exact ⟨List.mem_of_mem_drop he, fun e' => q4 (by rw [← e']; exact he)⟩
        · rintro ⟨he, hne⟩
          rw [hsplit] at he
          rcases List.mem_append.1 he with he | he
          · exact List.mem_append_left _ he
          · rcases List.mem_cons.1 he with he | he
            · exact absurd he hne
            · exact List.mem_append_right _ he
      show Eqv _ (if d.f0 = 1 then _ else _)
      rw [if_pos h1]
      refine ⟨by rw [hk], ?_, ?_, fun p v s => ?_, fun e he => hok e ((hmm e).1 he).1⟩
      · show IntKind.u32.wrap (st.cnt - 1) = _
        rw [hc, wrap_u32 (by omega) (by omega), List.length_append, List.length_take, List.length_drop]
        omega
      · exact List.nodup_append.2 ⟨q1, q5, fun a ha b hb e => q3 a ha b (List.mem_cons_of_mem _ hb) e⟩
      · show setS st.sub (tk d.f1) (del (st.sub (tk d.f1)) d.f2) p v = some s ↔ _
        rw [hmm]
        unfold setS
        by_cases hp' : p = tk d.f1
        · rw [if_pos hp']
          unfold del
          by_cases hv : v = d.f2
          · rw [if_pos hv]
            constructor
            · intro e; cases e
            · rintro ⟨⟨e1, e2⟩, e3⟩
              rw [hp'] at e3
              exact absurd (by rw [tk_inj e3, hv]) e2
          · rw [if_neg hv, ← hp', hs]
            constructor
            · rintro ⟨e1, e2⟩
              exact ⟨⟨e1, fun e => by injection e with _ e; exact hv e⟩, e2⟩
            · rintro ⟨⟨e1, _⟩, e2⟩
              exact ⟨e1, e2⟩
        · rw [if_neg hp', hs]
          constructor
          · rintro ⟨e1, e2⟩
            exact ⟨⟨e1, fun e => by injection e with e _; rw [e] at e2; exact hp' e2⟩, e2⟩
          · rintro ⟨⟨e1, _⟩, e2⟩
            exact ⟨e1, e2⟩
theorem eqv_take {ds : List S46} (hl : ds.length ≤ 1000) (hd : ∀ d ∈ ds, d.f0 = 0 ∨ d.f0 = 1) (ho : Once ds ds.length) : ∀ i, i ≤ ds.length → Eqv (runL (ds.take i)) (runS (ds.take i))
  | 0, _ => by
    refine ⟨rfl, rfl, List.nodup_nil, fun p v s => ?_, fun e he => (by cases he)⟩
    constructor
    · intro e; cases e
    · rintro ⟨e, _⟩; cases e
  | i + 1, hi => by
    have ht : ds[i]? = some (ds[i]'hi) := List.getElem?_eq_getElem hi
    rw [runL_take ht, runS_take ht]
    refine (eqv_take hl hd ho i (by omega)).step (hd _ (List.getElem_mem hi)) (fun h0 => ho i _ hi ht h0) ?_
    have := (run_sizes (ds.take i)).1
    rw [List.length_take] at this
    omega
theorem eqv_run {ds : List S46} (hl : ds.length ≤ 1000) (hd : ∀ d ∈ ds, d.f0 = 0 ∨ d.f0 = 1) (ho : Once ds ds.length) : Eqv (runL ds) (runS ds) := by
  have := eqv_take hl hd ho ds.length (Nat.le_refl _)
  rwa [List.take_length] at this
end Go.Proofs.YtimffhpnfdikoaaDoor.Ls
namespace Go.Proofs.YtimffhpnfdikoaaDoor.Ls
open Go.RowKit Go.Maps Go.Deep Go.Proofs.YtimffhpnfdikoaaDoor.Bs Go.Proofs.YtimffhpnfdikoaaDoorW.PrintWords Go.Proofs.YtimffhpnfdikoaaDoorW.PrintLast Go.Proofs.YtimffhpnfdikoaaDoorW.PrintMore Go.Proofs.YtimffhpnfdikoaaDoor.GFnListKinds Go.Proofs.YtimffhpnfdikoaaDoor.PlFnListKinds
set_option linter.unusedVariables false
set_option linter.unusedSimpArgs false
set_option maxRecDepth 100000 in
theorem deeds_of_trod {H : Type} {enc : TypeId × Value → H} {W : World} {base : Nat} {sp : Nat → Bool} {held : Bool} {fuel : Nat} {a : Option Addr} {len cap : Nat} {x : DataW H × List MemPlace} (h : DataW.trod enc Tryd.prog W base sp held fuel 22 [.slice a len cap] = some x) :
    ∃ T : List S46, T.length = len ∧ T.length ≤ cap ∧ Kd.C k46 W a T.length T ∧ ∀ t ∈ T, (Lit.int .i64 t.f2).wf = true := by
  rcases open_slice (Tryd.underlying22) h with ⟨hcs, _⟩ | ⟨ad, l, c, m, n, D, Pl, hcs, hb, hl, hm, hmm, hx, hall⟩
  · injection hcs with hcs _
    injection hcs with e1 e2 e3
    subst e2
    exact ⟨[], rfl, Nat.zero_le _, ⟨rfl, Nat.zero_le _, fun h => absurd h (Nat.lt_irrefl 0)⟩, fun p hp => (by cases hp)⟩
  · injection hcs with hcs _
    injection hcs with e1 e2 e3
    subst e1 e2 e3
    have hlm : len ≤ m := by rw [hmm]; split <;> omega
    have ce : Tryd.prog.cellsOf 46 = 3 := by kernel_rfl
    have each : ∀ i, i < len → ∃ q : S46, (W.cell? (ad.add (i * 3)) = some (.int .i64 q.f0) ∧ W.cell? (ad.add (i * 3 + 1)) = some (.string q.f1) ∧ W.cell? (ad.add (i * 3 + 2)) = some (.int .i64 q.f2)) ∧ (Lit.int .i64 q.f2).wf = true := fun i hi => by
      obtain ⟨cs', h1, h2⟩ := hall i (by omega)
      rw [ce] at h1
      obtain ⟨_, hlen, hcell⟩ := World.cells?_some h1
      obtain ⟨xs, k, hk, hxy, _, hxl, hf⟩ := DataW.trod_struct Tryd.underlying46 h2
      have k3 : Tryd.prog.cellsOf 3 = 1 := by kernel_rfl
      have k9 : Tryd.prog.cellsOf 9 = 1 := by kernel_rfl
      match xs, hxl, cs', hlen with
      | [y0, y1, y2], _, [v0, v1, v2], _ =>
        have g0 : DataW.trod enc Tryd.prog W base sp held k 3 (([v0, v1, v2].drop 0).take (Tryd.prog.cellsOf 3)) = some y0 := hf 0 _ rfl
        have g1 : DataW.trod enc Tryd.prog W base sp held k 9 (([v0, v1, v2].drop 1).take (Tryd.prog.cellsOf 9)) = some y1 := hf 1 _ rfl
        have g2 : DataW.trod enc Tryd.prog W base sp held k 3 (([v0, v1, v2].drop 2).take (Tryd.prog.cellsOf 3)) = some y2 := hf 2 _ rfl
        rw [k3] at g0 g2
        rw [k9] at g1
        obtain ⟨z0, e0, -, -⟩ := DataW.trod_int (k := .i64) Tryd.underlying3 g0
        obtain ⟨z1, e1, -, -⟩ := DataW.trod_string Tryd.underlying9 g1
        obtain ⟨z2, e2, -, w2⟩ := DataW.trod_int (k := .i64) Tryd.underlying3 g2
        have q0 := hcell 0 (by omega)
        have q1 := hcell 1 (by omega)
        have q2 := hcell 2 (by omega)
        rw [Bs.add_add'] at q0 q1 q2
        injection e0 with e0 _
        injection e1 with e1 _
        injection e2 with e2 _
        subst e0 e1 e2
        exact ⟨⟨z0, z1, z2⟩, ⟨by simpa using q0, by simpa using q1, by simpa using q2⟩, w2⟩
    have : Inhabited S46 := ⟨z46⟩
    obtain ⟨f, hf⟩ := choose_lt (α := S46) each
    refine ⟨(List.range len).map f, by simp, by simpa using hl, ⟨rfl, by simp; unfold maxLen at hm; omega, fun h0 => ⟨ad, rfl, fun i q hq => ?_⟩⟩, fun p hp => ?_⟩
    · rw [List.getElem?_map] at hq
      have hi : i < len := by
        rcases Nat.lt_or_ge i len with h' | h'
        · exact h'
        · rw [List.getElem?_eq_none (by simpa using h')] at hq; cases hq
      rw [List.getElem?_range hi] at hq
      injection hq with hq
      subst hq
      obtain ⟨⟨h1, h2, h3⟩, -⟩ := hf i hi
      refine ⟨_, rfl, k46_mk W (f i), fun j u hu => ?_⟩
      show W.cell? (ad.add (i * 3 + j)) = some u
      rcases j with _ | _ | _ | j
      · injection hu with hu
        rw [← hu]
        exact h1
      · injection hu with hu
        rw [← hu]
        exact h2
      · injection hu with hu
        rw [← hu]
        exact h3
      · simp at hu
    · obtain ⟨i, hi, rfl⟩ := List.mem_map.1 hp
      exact (hf i (by simpa using hi)).2
theorem ints_C {w : World} {base n : Nat} {v : Value} {L : List Int} (h : w.ownsRow base 3 1 v n (L.map (.int .i64))) (hn : n = L.length) (hL : L.length ≤ 1000000) : ∃ A c, v = .slice A L.length c ∧ L.length ≤ c ∧ Kd.C (Kd.int .i64) w A L.length L := by
  subst hn
  obtain ⟨A, c, e, hc, hr⟩ := read_own (w := w) (W := w) h (ints_one L)
  refine ⟨A, c, e, hc, rfl, by omega, fun hn => ?_⟩
  obtain ⟨ad, e2, hcell⟩ := hr.read (by simpa using hn)
  refine ⟨ad, e2, fun j p hj => ⟨[.int .i64 p], rfl, rfl, fun i u hu => ?_⟩⟩
  show w.cell? (ad.add (j * 1 + i)) = some u
  match i with
  | 0 =>
    injection hu with hu
    subst hu
    rw [Nat.mul_one, Nat.add_zero]
    exact hcell _ _ (by rw [List.getElem?_map, hj]; rfl)
  | i + 1 => simp at hu
def LawPost (W : World) (en : Ending) (w' : World) : Prop := en = .returned (.bool true) ∧ Same W w'
/-- A script that is read, and what its checks say. -/
structure Scr (W : World) (A0 : Option Addr) (ds : List S46) : Prop where
  row : Kd.C k46 W A0 ds.length ds
  wf : ∀ d ∈ ds, (Lit.int .i64 d.f2).wf = true
  gl : GlL W
theorem Scr.fr {W w : World} {A0 : Option Addr} {ds : List S46} (h : Scr W A0 ds) (hf : Same W w) : Scr w A0 ds := ⟨Kd.C_below h.row (below_of_fr hf), h.wf, h.gl.fr hf (fun h => h) (fun h => h)⟩
theorem Scr.good {W : World} {A0 : Option Addr} {ds : List S46} (h : Scr W A0 ds) (hd : ds.length ≤ 40 ∧ ∀ d ∈ ds, deedB d) : GoodD ds := ⟨by omega, fun d hm => ⟨(hd.2 d hm).2.1, h.wf d hm⟩⟩
theorem kinds_same {ds : List S46} (hd : ds.length ≤ 40 ∧ ∀ d ∈ ds, deedB d) (ho : Once ds ds.length) : (runL ds).kinds = (runS ds).kinds ∧ (runL ds).cnt = ((runS ds).l.length : Int) := by
  have h := eqv_run (by omega) (fun d hm => (hd.2 d hm).1) ho
  exact ⟨h.kinds, h.cnt⟩
section
set_option maxHeartbeats 8000000
set_option maxRecDepth 100000
theorem kinds_law {W : World} {A0 : Option Addr} {c0 : Nat} {ds : List S46} (hS : Scr W A0 ds) (hc : ds.length ≤ c0) : Calls Tryd.prog 3 #[.slice A0 ds.length c0] W (LawPost W) := by
  have HS := Aside0.mk hS
  have HC := Aside0.mk hc
  obtain ⟨b5, he5, hb5⟩ := fits5_ev ds
  obtain ⟨k5, hk5⟩ := Ev.rounds he5
  obtain ⟨bd, hed, hbd⟩ := deeds_ev ds
  obtain ⟨kd, hkd⟩ := Ev.rounds hed
  have HK5 := Aside0.mk hk5
  have HKD := Aside0.mk hkd
  have HBD := Aside0.mk hbd
  clear hS hc he5 hb5 hk5 hed hkd hbd
  go_enter Tryd.func3, Tryd.ntmps3
  go_wp2_with fail
  refine (laws_zzFits5.calls k5 A0 c0 ds b5 W HS.out.row HC.out HK5.out).mono ?_
  rintro e w1 ⟨rfl, hf⟩
  have H1 : Aside0 (Same W w1) := ⟨fr_of_below hf⟩
  clear hf
  cases b5 with
  | false =>
    go_wp2
    go_ret
    exact ⟨rfl, H1.out⟩
  | true =>
    go_wp2_with fail
    refine (awake_calls (HS.out.fr H1.out).gl).mono ?_
    rintro e w2 ⟨rfl, hf⟩
    have H2 : Aside0 (Same W w2) := ⟨H1.out.trans hf (fun _ _ h => h)⟩
    clear hf H1
    go_wp2_with fail
    refine (laws_deeds.calls kd A0 c0 ds bd w2 (HS.out.fr H2.out).row HC.out HKD.out).mono ?_
    rintro e w3 ⟨rfl, hf⟩
    have H3 : Aside0 (Same W w3) := ⟨H2.out.trans (fr_of_below hf) (fun _ _ h => h)⟩
    clear hf H2
    cases bd with
    | false =>
      go_wp2
      go_ret
      exact ⟨rfl, H3.out⟩
    | true =>
      have HD := Aside0.mk (HBD.out rfl)
      have HG := Aside0.mk (HS.out.good HD.out)
      go_wp2_with fail
      refine (twice_calls (HS.out.fr H3.out).row HC.out HG.out).mono ?_
      rintro e w4 ⟨⟨r, rfl, hr⟩, hf⟩
      have H4 : Aside0 (Same W w4) := ⟨H3.out.trans hf (fun _ _ h => h)⟩
      have HR := Aside0.mk hr
      clear hf hr H3
      cases r with
      | true =>
        go_wp2
        go_ret
        exact ⟨rfl, H4.out⟩
      | false =>
        obtain ⟨q1, q2⟩ := kinds_same HD.out (HR.out rfl)
        have HQ := Aside0.mk (And.intro q1 q2)
        clear q1 q2
        go_wp2_with fail
        refine (spec_calls (HS.out.fr H4.out).row HG.out).mono ?_
        rintro e w5 ⟨⟨lv, kv, rfl, hl, hk⟩, hf⟩
        obtain ⟨A4, c4, rfl, hc4, hr4⟩ := read_own (w := w5) (W := w5) hl (e35_one _)
        have HK := Aside0.mk hk
        have H5 : Aside0 (Same W w5) := ⟨H4.out.trans hf (fun _ _ h => h)⟩
        clear hl hk hf hc4 hr4 H4
        go_wp2_with fail
        refine (kinds_calls (HS.out.fr H5.out).row (HS.out.fr H5.out).gl HG.out).mono ?_
        rintro e w6 ⟨⟨gv, rfl, hg⟩, hf⟩
        have hsz := run_sizes ds
        have hsz2 := runL_kinds ds
        have hk6 := ownsRow_fr HK.out hf (fun _ _ h => h)
        obtain ⟨Ag, cg, rfl, hcg, hCg⟩ := ints_C hg hsz2.symm (by have := HG.out.len; omega)
        obtain ⟨Ak, ck, rfl, hck, hCk⟩ := ints_C hk6 hsz.2.symm (by have := HG.out.len; omega)
        have H6 : Aside0 (Same W w6) := ⟨H5.out.trans hf (fun _ _ h => h)⟩
        obtain ⟨ks, hks⟩ := Ev.rounds (same_ev (runL ds).kinds (runS ds).kinds (by have := HG.out.len; omega))
        rw [decide_eq_true HQ.out.1] at hks
        have HCC := Aside0.mk (And.intro hCg (And.intro hcg (And.intro hCk (And.intro hck hks))))
        rw [HQ.out.2]
        clear hg hf hsz hsz2 hk6 hCg hCk hcg hck hks H5 HK
        go_wp2_with fail
        refine (laws_sameInts.calls ks Ag cg _ Ak ck _ true w6 HCC.out.1 HCC.out.2.1 HCC.out.2.2.1 HCC.out.2.2.2.1 HCC.out.2.2.2.2).mono ?_
        rintro e w7 ⟨rfl, hf⟩
        have H7 : Aside0 (Same W w7) := ⟨H6.out.trans (fr_of_below hf.below) (fun _ _ h => h)⟩
        clear hf
        go_wp2
        go_ret
        exact ⟨rfl, H7.out⟩
theorem kinds_row {W : World} {A0 : Option Addr} {c0 : Nat} {ds : List S46} (hT : Kd.C k46 W A0 ds.length ds) (hw : ∀ d ∈ ds, (Lit.int .i64 d.f2).wf = true) (hc : ds.length ≤ c0) (hG : GlL W) :
    Calls Tryd.prog 3 #[.slice A0 ds.length c0] W (fun e w' => e = .returned (.bool true) ∧ Below W.heap.size W w') := (kinds_law ⟨hT, hw, hG⟩ hc).mono (fun e w' h => ⟨h.1, below_of_fr h.2⟩)
end
end Go.Proofs.YtimffhpnfdikoaaDoor.Ls
