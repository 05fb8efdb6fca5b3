/- The walks of spec.Twice and awakeList. -/
import Derived.Test.YtimffhpnfdikoaaDoorLsR
namespace Go.Proofs.YtimffhpnfdikoaaDoor.Ls
open Go.RowKit Go.Maps Go.Proofs.YtimffhpnfdikoaaDoor.Bs Go.Proofs.YtimffhpnfdikoaaDoorW.PrintWords Go.Proofs.YtimffhpnfdikoaaDoorW.PrintLast Go.Proofs.YtimffhpnfdikoaaDoorW.PrintMore Go.Proofs.YtimffhpnfdikoaaDoor.GFnListKinds Go.Proofs.YtimffhpnfdikoaaDoor.PlFnListKinds
set_option linter.unusedVariables false
set_option linter.unusedSimpArgs false
theorem GoodD.take {ds : List S46} (h : GoodD ds) (i : Nat) : GoodD (ds.take i) := ⟨by rw [List.length_take]; have := h.len; omega, fun d hd => h.all d (List.mem_of_mem_take hd)⟩
/-- No put of what is there. -/
def Once (ds : List S46) (n : Nat) : Prop := ∀ i d, i < n → ds[i]? = some d → d.f0 = 0 → plN (runS (ds.take i)).l d.f1 d.f2 = none
structure TwicePost (w0 : World) (ds : List S46) (e : Ending) (w' : World) : Prop where
  out : ∃ r, e = .returned (.bool r) ∧ (r = false → Once ds ds.length)
  same : Same w0 w'
theorem Once.next {ds : List S46} {i : Nat} (h : Once ds i) (hd : ∀ d, ds[i]? = some d → d.f0 = 0 → plN (runS (ds.take i)).l d.f1 d.f2 = none) : Once ds (i + 1) := by
  intro j d hj hd' h0
  by_cases hji : j < i
  · exact h j d hji hd' h0
  · obtain rfl : j = i := by omega
    exact hd d hd' h0
section
set_option maxHeartbeats 8000000
set_option maxRecDepth 100000
theorem twice_calls {w0 : World} {A0 : Option Addr} {c0 : Nat} {ds : List S46} (hT : Kd.C k46 w0 A0 ds.length ds) (hc : ds.length ≤ c0) (hD : GoodD ds) : Calls Tryd.prog 11 #[.slice A0 ds.length c0] w0 (TwicePost w0 ds) := by
  have HT := Aside0.mk hT
  have HC := Aside0.mk hc
  have HD := Aside0.mk hD
  clear hT hD hc
  go_enter Tryd.func11, Tryd.ntmps11
  go_wp2_with fail
  go_loopg [3] ds.length (fun kq v3 wr => ∃ (i : Nat), v3 = .int .i64 (i : Int) ∧ Aside0 (kq + i = ds.length ∧ i ≤ ds.length) ∧ Aside0 (Once ds i) ∧ Aside0 (Same w0 wr))
  case atStart => exact ⟨0, rfl, ⟨by omega⟩, ⟨fun j d hj => by omega⟩, ⟨Fr.refl _ _⟩⟩
  case round =>
    obtain ⟨i, rfl, HI, HO, HS⟩ := hrel
    have i0 : (0 : Int) ≤ (i : Int) := by omega
    by_cases hlt : i < ds.length
    · have i1 : (i : Int) < (ds.length : Int) := by omega
      have i2 : decide ((i : Int) < (ds.length : Int)) = true := decide_eq_true i1
      have i3 : (i : Int) ≤ (ds.length : Int) := by omega
      have i4 : (ds.length : Int) ≤ (c0 : Int) := by have := HC.out; omega
      have i6 : (i : Int) ≤ (c0 : Int) := by omega
      have i5 : IntKind.i64.wrap ((i : Int) + 1) = ((i + 1 : Nat) : Int) := by rw [IntKind.wrap_i64]; have := HI.out; have := HD.out.len; omega
      obtain ⟨d, ht⟩ : ∃ d, ds[i]? = some d := ⟨_, List.getElem?_eq_getElem hlt⟩
      have HTI := Aside0.mk ht
      have HIK : Aside0 (i + 1 ≤ ds.length ∧ ds.length ≤ 1000 ∧ (ds.take i).length = i) := ⟨by have := HD.out.len; rw [List.length_take]; omega⟩
      have HTW := Aside0.mk (Kd.C_below HT.out (below_of_fr HS.out))
      have HTK : Aside0 (Calls Tryd.prog 12 #[.slice A0 i c0] wr (SpecPost wr (ds.take i))) := ⟨by have := spec_calls (c0 := c0) (Kd.C_take HTW.out (Nat.le_of_lt hlt)) (HD.out.take i); rw [HIK.out.2.2] at this; exact this⟩
      clear ht
      go_wp2_with fail
      refine HTK.out.mono ?_
      rintro e w1 ⟨⟨lv, kv, rfl, hl, hk⟩, hs⟩
      have HL := Aside0.mk hl
      have HS1 := Aside0.mk hs
      clear hl hk hs HTK
      go_upto_region 5 with (fail)
      obtain ⟨ad, rfl, t0, t1, t2⟩ := at_T46 (Kd.C_below HTW.out (below_of_fr HS1.out)) (i : Int) (by omega) (by omega)
      rw [Int.toNat_natCast, rd46_at HTI.out] at t0 t1 t2
      by_cases z0 : d.f0 = 0
      · have y0 : (d.f0 == 0) = true := by simpa using z0
        obtain ⟨A4, c4, rfl, hc4, hr4⟩ := read_own (w := w1) (W := w1) HL.out (e35_one _)
        have hsz := (run_sizes (ds.take i)).1
        have HSZ : Aside0 ((runS (ds.take i)).l.length ≤ 1000) := ⟨by have := HIK.out; omega⟩
        have HC4 := Aside0.mk hc4
        have HR4 := Aside0.mk hr4
        clear hc4 hr4 hsz
        refine region_tail 18 (by kernel_rfl) (by kernel_rfl) (fun wd hwd => ?_)
        have HWD : Aside0 (Same w1 wd) := ⟨by rw [hwd.out]; exact (Fr.refl _ _).drew⟩
        replace t0 := HWD.out.cell t0
        replace t1 := HWD.out.cell t1
        replace t2 := HWD.out.cell t2
        clear hwd
        simp only [List.take_succ_cons, List.take_zero, List.drop_succ_cons, List.drop_zero]
        repeat still_step
        refine wpStill_nil ?_
        go_wp2_with fail
        obtain ⟨kp, hkp⟩ := Ev.rounds (place_ev (runS (ds.take i)).l (by have := HSZ.out; omega) d.f1 d.f2)
        refine (spec_place.calls kp A4 c4 _ d.f1 d.f2 _ wd (kc35_of_rg (HR4.out.fr HWD.out (fun _ _ h => h)) (by have := HSZ.out; omega)) HC4.out hkp).mono ?_
        rintro e w3 ⟨rfl, hdr3⟩
        have HS3 : Aside0 (Same w0 w3) := ⟨HS.out.trans (HS1.out.trans (HWD.out.trans (fr_of_below hdr3.below) (fun _ _ h => h)) (fun _ _ h => h)) (fun _ _ h => h)⟩
        clear hdr3 hkp t0 t1 t2
        cases hp : plN (runS (ds.take i)).l d.f1 d.f2 with
        | none =>
          have HP := Aside0.mk hp
          have p1 : decide (plI none ≥ 0) = false := by decide
          clear hp
          go_wp2_with fail
          go_roundg (ds.length - (i + 1))
          case measure => have := HI.out; have := HIK.out; omega
          case rel => exact ⟨i + 1, rfl, ⟨by have := HIK.out; omega⟩, ⟨HO.out.next (fun d' hd' _ => by rw [HTI.out] at hd'; injection hd' with hd'; rw [← hd']; exact HP.out)⟩, HS3⟩
        | some n =>
          have p1 : decide (plI (some n) ≥ 0) = true := decide_eq_true (by show (n : Int) ≥ 0; omega)
          clear hp
          go_wp2_with fail
          go_ret
          exact ⟨⟨true, rfl, fun h => by cases h⟩, HS3.out⟩
      · have y0 : (d.f0 == 0) = false := by simpa using z0
        have HZ := Aside0.mk z0
        clear z0
        go_quiet (fail)
        have HS3 : Aside0 (Same w0 (w1.drewN nq)) := ⟨HS.out.trans (HS1.out.drewN nq) (fun _ _ h => h)⟩
        clear t0 t1 t2
        go_wp2_with fail
        go_roundg (ds.length - (i + 1))
        case measure => have := HI.out; have := HIK.out; omega
        case rel => exact ⟨i + 1, rfl, ⟨by have := HIK.out; omega⟩, ⟨HO.out.next (fun d' hd' h0 => by rw [HTI.out] at hd'; injection hd' with hd'; rw [← hd'] at h0; exact absurd h0 HZ.out)⟩, HS3⟩
    · have hie : i = ds.length := by have := HI.out; omega
      subst hie
      have i2 : decide ((ds.length : Int) < (ds.length : Int)) = false := decide_eq_false (by omega)
      go_wp2
      go_ret
      exact ⟨⟨false, rfl, fun _ => HO.out⟩, HS.out⟩
end
/-! ### awakeList -/
def oneD : List S46 := [⟨0, ⟨#[97, 46, 42]⟩, 3⟩]
theorem goodOne : GoodD oneD := ⟨by decide, fun d hd => by
  have : d = ⟨0, ⟨#[97, 46, 42]⟩, 3⟩ := by simpa [oneD] using hd
  subst this
  exact ⟨by decide, by decide⟩⟩
theorem kcOne (W : World) : Kd.C k46 (W.alloc (.cells #[.int .i64 0, .string ⟨#[97, 46, 42]⟩, .int .i64 3] 46)) (some ⟨W.heap.size, 0, none⟩) oneD.length oneD := by
  refine ⟨rfl, by decide, fun _ => ⟨_, rfl, fun j p hj => ?_⟩⟩
  rcases j with _ | j
  · injection hj with hj
    subst hj
    refine ⟨_, rfl, k46_mk _ _, fun i u hu => ?_⟩
    have hb := Blk.new W 46 [.int .i64 0, .string ⟨#[97, 46, 42]⟩, .int .i64 3]
    rw [Bs.add_at]
    exact hb.cell _ (by simpa using hu)
  · simp [oneD] at hj
theorem runOne : (runL oneD).cnt = 1 ∧ (runL oneD).kinds = [0] := by
  have h : okF false (tk ⟨#[97, 46, 42]⟩) = true := by decide
  have e : runL oneD = putL st0 ⟨#[97, 46, 42]⟩ 3 := rfl
  rw [e]
  unfold putL
  rw [if_pos h]
  exact ⟨rfl, rfl⟩
def AwPost (W : World) (en : Ending) (w' : World) : Prop := en = .returned (.bool true) ∧ Same W w'
set_option maxHeartbeats 4000000 in
set_option maxRecDepth 100000 in
theorem awake_calls {W : World} (hg : GlL W) : Calls Tryd.prog 9 #[] W (AwPost W) := by
  have hsa : Same W (W.alloc (.cells #[.int .i64 0, .string ⟨#[97, 46, 42]⟩, .int .i64 3] 46)) := (Fr.refl _ W).alloc _
  have P1 : Aside0 (Calls Tryd.prog 13 #[.slice (some ⟨W.heap.size, 0, none⟩) 1 1] (W.alloc (.cells #[.int .i64 0, .string ⟨#[97, 46, 42]⟩, .int .i64 3] 46)) (KindsPost (W.alloc (.cells #[.int .i64 0, .string ⟨#[97, 46, 42]⟩, .int .i64 3] 46)) oneD)) :=
    ⟨kinds_calls (c0 := 1) (kcOne W) (hg.fr hsa (fun h => h) (fun h => h)) goodOne⟩
  have HSA := Aside0.mk hsa
  clear hg hsa
  go_enter Tryd.func9, Tryd.ntmps9
  go_wp2_with fail
  refine P1.out.mono ?_
  rintro e w2 ⟨⟨kv, rfl, ho⟩, hs⟩
  rw [runOne.1]
  rw [runOne.2] at ho
  rw [show oneD.length = 1 from rfl] at ho
  obtain ⟨A, c, rfl, hc, hr⟩ := read_own (w := w2) (W := w2) ho (ints_one _)
  obtain ⟨ad, rfl, hcell⟩ := hr.read (by decide)
  have q0 := hcell 0 _ rfl
  rw [show (ad.add 0) = ad by unfold Addr.add; cases ad; split <;> simp_all] at q0
  have HS := Aside0.mk hs
  clear ho hs P1 hr hcell
  go_wp2
  go_ret
  exact ⟨rfl, HSA.out.trans HS.out (fun _ _ h => h)⟩
end Go.Proofs.YtimffhpnfdikoaaDoor.Ls
