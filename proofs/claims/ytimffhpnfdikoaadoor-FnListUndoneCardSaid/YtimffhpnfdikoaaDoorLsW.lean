/- The walk of laws.listed; MatchesFullWildcard. The law FnListFull, walked. -/
import Derived.Test.YtimffhpnfdikoaaDoorLsU
import Derived.Test.YtimffhpnfdikoaaDoorPlListB
namespace Go.Proofs.YtimffhpnfdikoaaDoor.Ls
open Go.RowKit Go.Maps Go.Proofs.YtimffhpnfdikoaaDoor.Pl Go.Proofs.YtimffhpnfdikoaaDoor.Bs Go.Proofs.YtimffhpnfdikoaaDoorW.PrintWords Go.Proofs.YtimffhpnfdikoaaDoorW.PrintLast Go.Proofs.YtimffhpnfdikoaaDoorW.PrintMore Go.Proofs.YtimffhpnfdikoaaDoor.GFnListKinds Go.Proofs.YtimffhpnfdikoaaDoor.PlFnListKinds
set_option linter.unusedVariables false
set_option linter.unusedSimpArgs false
/-- All puts are of subjects. -/
def Puts (ds : List S46) (n : Nat) : Prop := ∀ i d, i < n → ds[i]? = some d → d.f0 = 0 → validB d.f1.data.toList = true
theorem Puts.next {ds : List S46} {i : Nat} (h : Puts ds i) (hd : ∀ d, ds[i]? = some d → d.f0 = 0 → validB d.f1.data.toList = true) : Puts ds (i + 1) := by
  intro j d hj hd' h0
  by_cases hji : j < i
  · exact h j d hji hd' h0
  · obtain rfl : j = i := by omega
    exact hd d hd' h0
theorem valid_ok {s : ByteArray} (h : validB s.data.toList = true) : okF false (tk s) = true := by
  unfold validB at h
  rw [Bool.and_eq_true] at h
  unfold tk
  rw [(okF_formed _).1]
  exact h.1
theorem valid_evs (s : ByteArray) (hs : s.size ≤ 1000) : Ev (fun k => spec_Valid.f k s) (validB s.data.toList) := Valid_ev s.data.toList (by show s.size < _; omega)
/-- What a script is that something is said of. -/
structure Good (ds : List S46) : Prop where
  deeds : ds.length ≤ 40 ∧ ∀ d ∈ ds, deedB d
  once : Once ds ds.length
  puts : Puts ds ds.length
theorem Good.eqv {ds : List S46} (h : Good ds) : Eqv (runL ds) (runS ds) := eqv_run (by have := h.deeds.1; omega) (fun d hm => (h.deeds.2 d hm).1) h.once
theorem Good.clean {ds : List S46} (h : Good ds) : (runL ds).clean = true := by
  have : ∀ i, i ≤ ds.length → (runL (ds.take i)).clean = true := by
    intro i
    induction i with
    | zero => intro _; rfl
    | succ i ih =>
      intro hi
      have ht : ds[i]? = some (ds[i]'hi) := List.getElem?_eq_getElem hi
      rw [runL_take ht]
      have h1 := ih (by omega)
      unfold stepL
      split
      · rename_i h0
        unfold putL
        rw [if_pos (valid_ok (h.puts i _ hi ht h0))]
        exact h1
      · split
        · unfold remL
          split <;> exact h1
        · exact h1
  have := this ds.length (Nat.le_refl _)
  rwa [List.take_length] at this
structure LdPost (w0 : World) (ds : List S46) (e : Ending) (w' : World) : Prop where
  out : ∃ lv b, e = .returned (.tuple #[lv, .bool b]) ∧ (b = true → Good ds ∧ w'.ownsRow w0.heap.size 35 2 lv (runS ds).l.length (e35 (runS ds).l))
  same : Same w0 w'
section
set_option maxHeartbeats 8000000
set_option maxRecDepth 100000
theorem listed_calls {W : World} {A0 : Option Addr} {c0 : Nat} {ds : List S46} (hS : Scr W A0 ds) (hc : ds.length ≤ c0) : Calls Tryd.prog 15 #[.slice A0 ds.length c0] W (LdPost W ds) := by
  have HS := Aside0.mk hS
  have HC := Aside0.mk hc
  obtain ⟨bd, hed, hbd⟩ := deeds_ev ds
  obtain ⟨kd, hkd⟩ := Ev.rounds hed
  have HKD := Aside0.mk hkd
  have HBD := Aside0.mk hbd
  clear hS hc hed hkd hbd
  go_enter Tryd.func15, Tryd.ntmps15
  go_wp2_with fail
  refine (laws_deeds.calls kd A0 c0 ds bd W HS.out.row HC.out HKD.out).mono ?_
  rintro e w3 ⟨rfl, hf⟩
  have H3 : Aside0 (Same W w3) := ⟨fr_of_below hf⟩
  clear hf
  cases bd with
  | false =>
    go_wp2_with fail
    refine bodyPost_ret (results_list (rs := [.tmp 2, .tmp 3]) rfl (by simp) (.tmp (.tmp .nil))) rfl ?_
    exact ⟨⟨_, false, rfl, fun h => by cases h⟩, H3.out⟩
  | true =>
    have HD := Aside0.mk (HBD.out rfl)
    have HG := Aside0.mk (HS.out.good HD.out)
    go_wp2_with fail
    refine (twice_calls (HS.out.fr H3.out).row HC.out HG.out).mono ?_
    rintro e w4 ⟨⟨r, rfl, hr⟩, hf⟩
    have H4 : Aside0 (Same W w4) := ⟨H3.out.trans hf (fun _ _ h => h)⟩
    have HR := Aside0.mk hr
    clear hf hr H3
    cases r with
    | true =>
      go_wp2_with fail
      refine bodyPost_ret (results_list (rs := [.tmp 2, .tmp 3]) rfl (by simp) (.tmp (.tmp .nil))) rfl ?_
      exact ⟨⟨_, false, rfl, fun h => by cases h⟩, H4.out⟩
    | false =>
      have HO := Aside0.mk (HR.out rfl)
      clear HR
      go_wp2_with fail
      go_loopg [4] ds.length (fun kq v4 wr => ∃ (i : Nat), v4 = .int .i64 (i : Int) ∧ Aside0 (kq + i = ds.length ∧ i ≤ ds.length) ∧ Aside0 (Puts ds i) ∧ Aside0 (Same W wr))
      case atStart => exact ⟨0, rfl, ⟨by omega⟩, ⟨fun j d hj => by omega⟩, H4⟩
      case round =>
        clear H4
        obtain ⟨i, rfl, HI, HP, HSW⟩ := hrel
        have i0 : (0 : Int) ≤ (i : Int) := by omega
        by_cases hlt : i < ds.length
        · have i1 : (i : Int) < (ds.length : Int) := by omega
          have i2 : decide ((i : Int) < (ds.length : Int)) = true := decide_eq_true i1
          have i5 : IntKind.i64.wrap ((i : Int) + 1) = ((i + 1 : Nat) : Int) := by rw [IntKind.wrap_i64]; have := HI.out; have := HD.out.1; omega
          obtain ⟨d, ht⟩ : ∃ d, ds[i]? = some d := ⟨_, List.getElem?_eq_getElem hlt⟩
          have HTI := Aside0.mk ht
          have HIK : Aside0 (i + 1 ≤ ds.length) := ⟨hlt⟩
          have HDD := Aside0.mk (HD.out.2 d (List.mem_of_getElem? ht))
          obtain ⟨ad, rfl, t0, t1, t2⟩ := at_T46 (HS.out.fr HSW.out).row (i : Int) (by omega) (by omega)
          rw [Int.toNat_natCast, rd46_at HTI.out] at t0 t1 t2
          clear ht
          by_cases z0 : d.f0 = 0
          · have y0 : (d.f0 == 0) = true := by simpa using z0
            obtain ⟨kv, hkv⟩ := Ev.rounds (valid_evs d.f1 (by have := HDD.out.2.1; omega))
            have HKV := Aside0.mk hkv
            clear z0 hkv
            go_wp2_with fail
            refine (spec_Valid.calls kv d.f1 _ wr HKV.out).mono ?_
            rintro e w5 ⟨rfl, hf⟩
            have H5 : Aside0 (Same W w5) := ⟨HSW.out.trans (fr_of_below hf) (fun _ _ h => h)⟩
            clear hf t0 t1 t2
            cases hv : validB d.f1.data.toList with
            | false =>
              go_wp2_with fail
              refine bodyPost_ret (results_list (rs := [.tmp 2, .tmp 3]) rfl (by simp) (.tmp (.tmp .nil))) rfl ?_
              exact ⟨⟨_, false, rfl, fun h => by cases h⟩, H5.out⟩
            | true =>
              have HV := Aside0.mk hv
              clear hv
              go_wp2_with fail
              go_roundg (ds.length - (i + 1))
              case measure => have := HI.out; have := HIK.out; omega
              case rel => exact ⟨i + 1, rfl, ⟨by have := HIK.out; omega⟩, ⟨HP.out.next (fun d' hd' _ => by rw [HTI.out] at hd'; injection hd' with hd'; rw [← hd']; exact HV.out)⟩, H5⟩
          · have y0 : (d.f0 == 0) = false := by simpa using z0
            have HZ := Aside0.mk z0
            clear z0
            go_wp2_with fail
            go_roundg (ds.length - (i + 1))
            case measure => have := HI.out; have := HIK.out; omega
            case rel => exact ⟨i + 1, rfl, ⟨by have := HIK.out; omega⟩, ⟨HP.out.next (fun d' hd' h0 => by rw [HTI.out] at hd'; injection hd' with hd'; rw [← hd'] at h0; exact absurd h0 HZ.out)⟩, HSW⟩
        · have hie : i = ds.length := by have := HI.out; omega
          subst hie
          have i2 : decide ((ds.length : Int) < (ds.length : Int)) = false := decide_eq_false (by omega)
          go_wp2_with fail
          refine (spec_calls (HS.out.fr HSW.out).row HG.out).mono ?_
          rintro e w5 ⟨⟨lv, kv, rfl, hl, hk⟩, hf⟩
          have HPO : Aside0 (LdPost W ds (.returned (.tuple #[lv, .bool true])) w5) := ⟨⟨lv, true, rfl, fun _ => ⟨⟨HD.out, HO.out, HP.out⟩, ownsRow_low hl HSW.out.size⟩⟩, HSW.out.trans hf (fun _ _ h => h)⟩
          clear hl hk hf
          go_wp2_with fail
          refine bodyPost_ret (results_list (rs := [.tmp 2, .tmp 3]) rfl (by simp) (.tmp (.tmp .nil))) rfl ?_
          exact HPO.out
end
/-! ### MatchesFullWildcard -/
def FullPost (w : World) (B L K : Nat) (sub : Path → Int → Option ByteArray) (ex : Prop) (cnt : Int) (e : Ending) (w' : World) : Prop := ∃ nd : Pm, e = .returned (.bool (nd [full]).isSome) ∧ (∀ p, nd p = none → ∀ v, sub p v = none) ∧ (ex → Live nd sub (fun _ => False)) ∧ Fr (WF B w) w w'
set_option maxHeartbeats 4000000 in
set_option maxRecDepth 100000 in
theorem full_calls {w : World} {B L K : Nat} {sub : Path → Int → Option ByteArray} {ex : Prop} {cnt : Int} (h : Li w B L K sub ex cnt) : Calls Tryd.prog 36 #[.pointer (some ⟨L, 0, none⟩)] w (FullPost w B L K sub ex cnt) := by
  obtain ⟨nd, lv, hX⟩ := h
  obtain ⟨xr, hxr, hh⟩ := hX.head
  have HX := Aside0.mk hX
  have HR := Aside0.mk hxr
  have HH := Aside0.mk hh
  clear hX hxr hh
  go_enter_defers Tryd.func36, Tryd.ntmps36
  go_wp2_with fail
  refine (rlock_L HH.out).mono ?_
  rintro e w1 ⟨rfl, hb1, hf1⟩
  have c6 := hb1.cell 6 rfl
  have HB1 := Aside0.mk hb1
  have HF1 := Aside0.mk hf1
  have HX1 : Aside0 (Lx w1 B L K sub (fun _ => False) ex 0 1 cnt nd lv) := ⟨HX.out.turn (fun x hx => by rw [HR.out] at hx; injection hx with hx; subst hx; exact hb1) hf1⟩
  obtain ⟨-, -, hB, -⟩ := HX1.out.tri.lev [] xr HR.out
  have d2 := hB.cell 2 rfl
  have HP : Aside0 (∀ w2, Blk w2 L 81 (hdr 0 0 (.pointer (some ⟨xr.1, 0, none⟩)) cnt) → Fr (fun k => k = L) w1 w2 → FullPost w B L K sub ex cnt (.returned (.bool (nd [full]).isSome)) w2) := ⟨fun w2 _ hf => ⟨nd, rfl, HX.out.out, HX.out.live, HX.out.frL (HF1.out.trans hf (fun _ _ h => h))⟩⟩
  rw [ptrA_eq] at d2
  have hk : kid nd [] full = (nd [full]).map Prod.fst := rfl
  rw [hk] at d2
  clear hb1 hf1 hB hk
  cases hn : nd [full] with
  | none =>
    rw [hn] at d2
    rw [hn] at HP
    simp only [Option.map_none] at d2
    clear hn
    go_wp2_with fail
    refine leaves_cons (f := 52) (args := #[.pointer (some ⟨L, 0, none⟩)]) (by simp) (by simp [go_sem]) ?_
    refine (runlock_D HB1.out .returning).mono ?_
    rintro e u' w2 ⟨rfl, rfl, hb2, hf2⟩
    refine ⟨_, results_tmp rfl _ _ _, ?_⟩
    exact HP.out w2 hb2 hf2
  | some y =>
    rw [hn] at d2
    rw [hn] at HP
    simp only [Option.map_some] at d2
    clear hn
    go_wp2_with fail
    refine leaves_cons (f := 52) (args := #[.pointer (some ⟨L, 0, none⟩)]) (by simp) (by simp [go_sem]) ?_
    refine (runlock_D HB1.out .returning).mono ?_
    rintro e u' w2 ⟨rfl, rfl, hb2, hf2⟩
    refine ⟨_, results_tmp rfl _ _ _, ?_⟩
    exact HP.out w2 hb2 hf2
end Go.Proofs.YtimffhpnfdikoaaDoor.Ls
namespace Go.Proofs.YtimffhpnfdikoaaDoor.Ls
open Go.RowKit Go.Maps Go.Proofs.YtimffhpnfdikoaaDoor.Pl Go.Proofs.YtimffhpnfdikoaaDoor.Bs Go.Proofs.YtimffhpnfdikoaaDoorW.PrintWords Go.Proofs.YtimffhpnfdikoaaDoorW.PrintLast Go.Proofs.YtimffhpnfdikoaaDoorW.PrintMore Go.Proofs.YtimffhpnfdikoaaDoor.GFnListKinds Go.Proofs.YtimffhpnfdikoaaDoor.PlFnListKinds
set_option linter.unusedVariables false
set_option linter.unusedSimpArgs false
def anyFull : List S35 → Bool
  | [] => false
  | e :: l => decide (e.f0 = full) || anyFull l
theorem anyFull_iff : ∀ {l : List S35}, anyFull l = true ↔ ∃ e ∈ l, e.f0 = full
  | [] => by simp [anyFull]
  | e :: l => by
    rw [anyFull, Bool.or_eq_true, anyFull_iff]
    simp
theorem anyFull_take {l : List S35} {i : Nat} {e : S35} (h : l[i]? = some e) : anyFull (l.take (i + 1)) = (anyFull (l.take i) || decide (e.f0 = full)) := by
  obtain ⟨hi, rfl⟩ := List.getElem?_eq_some_iff.1 h
  rw [List.take_add_one, List.getElem?_eq_getElem hi, Option.toList_some]
  have app : ∀ (a b : List S35), anyFull (a ++ b) = (anyFull a || anyFull b) := by
    intro a b
    induction a with
    | nil => simp [anyFull]
    | cons x a ih => rw [List.cons_append, anyFull, anyFull, ih, Bool.or_assoc]
  rw [app]
  simp [anyFull]
theorem beq_full (s : ByteArray) : (s.toList == [62]) = decide (s = full) := by
  rw [Bool.eq_iff_iff, beq_iff_eq, decide_eq_true_iff, ← bytes_eq]
  exact Iff.of_eq (by rw [show full.toList = [62] from ba_toList [62]])
theorem tk_full : tk full = [full] := by decide
theorem okF_true_nil {r : List ByteArray} (h : okF true r = true) : r = [] := by
  cases r with
  | nil => rfl
  | cons t r =>
    unfold okF at h
    rw [if_pos (.inr rfl)] at h
    cases h
theorem full_iff {ds : List S46} (hg : Good ds) {nd : Pm} (ho : ∀ p, nd p = none → ∀ v, (runL ds).sub p v = none) (hl : (runL ds).clean = true → Live nd (runL ds).sub (fun _ => False)) : (nd [full]).isSome = anyFull (runS ds).l := by
  have he := hg.eqv
  rw [Bool.eq_iff_iff, anyFull_iff]
  constructor
  · intro h
    obtain ⟨y, hy⟩ := Option.isSome_iff_exists.1 h
    rcases hl hg.clean _ _ hy with e | ⟨r, v, s, hs⟩
    · exact e.elim
    · obtain ⟨h1, h2⟩ := (he.sub _ _ _).1 hs
      have hok := he.ok _ h1
      rw [← h2] at hok
      have hr : r = [] := by
        have e : okF false ([full] ++ r) = okF true r := by
          show okF false (full :: r) = _
          conv => lhs; unfold okF
          rw [if_neg (by decide)]
          rfl
        rw [e] at hok
        exact okF_true_nil hok
      subst hr
      refine ⟨_, h1, ?_⟩
      exact (tk_inj (s := full) (s' := s) (by rw [tk_full]; exact h2)).symm
  · rintro ⟨e, h1, h2⟩
    have hs : (runL ds).sub [full] e.f1 = some full := (he.sub _ _ _).2 ⟨by rw [← h2]; exact h1, tk_full.symm⟩
    cases hn : nd [full] with
    | none =>
      rw [ho _ hn] at hs
      cases hs
    | some y => rfl
structure LFullPost (w0 : World) (ds : List S46) (e : Ending) (w' : World) : Prop where
  out : Good ds → e = .returned (.bool (anyFull (runS ds).l))
  ret : ∃ b, e = .returned (.bool b)
  same : Same w0 w'
section
set_option maxHeartbeats 8000000
set_option maxRecDepth 100000
theorem lfull_calls {w0 : World} {A0 : Option Addr} {c0 : Nat} {ds : List S46} (hT : Kd.C k46 w0 A0 ds.length ds) (hG : GlL w0) (hD : GoodD ds) : Calls Tryd.prog 16 #[.slice A0 ds.length c0] w0 (LFullPost w0 ds) := by
  have HC := Aside0.mk (list_calls (c0 := c0) hT hG hD)
  clear hT hG hD
  go_enter Tryd.func16, Tryd.ntmps16
  go_wp2_with fail
  refine HC.out.mono ?_
  rintro e w1 ⟨⟨L, kv, rfl, hl, ho⟩, hs⟩
  have HL := Aside0.mk hl
  have HS := Aside0.mk hs
  clear hl ho hs HC
  go_wp2_with fail
  refine (full_calls HL.out).mono ?_
  rintro e w2 ⟨nd, rfl, h1, h2, hf⟩
  have HP : Aside0 (LFullPost w0 ds (.returned (.bool (nd [full]).isSome)) w2) := ⟨⟨fun hg => by rw [full_iff hg h1 h2], ⟨_, rfl⟩, wf_same HS.out hf (Nat.le_refl _)⟩⟩
  clear h1 h2 hf
  go_wp2_with fail
  go_ret
  exact HP.out
theorem rd35_at {L : List S35} {j : Nat} {x : S35} (h : L[j]? = some x) : rd_T35 L (j : Int) = x := by
  unfold rd_T35
  rw [Int.toNat_natCast, List.getD_eq_getElem?_getD, h]
  rfl
theorem full_law {W : World} {A0 : Option Addr} {c0 : Nat} {ds : List S46} (hS : Scr W A0 ds) (hc : ds.length ≤ c0) : Calls Tryd.prog 4 #[.slice A0 ds.length c0] W (LawPost W) := by
  have HS := Aside0.mk hS
  have HC := Aside0.mk hc
  obtain ⟨b5, he5, hb5⟩ := fits5_ev ds
  obtain ⟨k5, hk5⟩ := Ev.rounds he5
  have HK5 := Aside0.mk hk5
  clear hS hc he5 hb5 hk5
  go_enter Tryd.func4, Tryd.ntmps4
  go_wp2_with fail
  refine (laws_zzFits5.calls k5 A0 c0 ds b5 W HS.out.row HC.out HK5.out).mono ?_
  rintro e w1 ⟨rfl, hf⟩
  have H1 : Aside0 (Same W w1) := ⟨fr_of_below hf⟩
  clear hf
  cases b5 with
  | false =>
    go_wp2
    go_ret
    exact ⟨rfl, H1.out⟩
  | true =>
    go_wp2_with fail
    refine (awake_calls (HS.out.fr H1.out).gl).mono ?_
    rintro e w2 ⟨rfl, hf⟩
    have H2 : Aside0 (Same W w2) := ⟨H1.out.trans hf (fun _ _ h => h)⟩
    clear hf H1
    go_wp2_with fail
    refine (listed_calls (HS.out.fr H2.out) HC.out).mono ?_
    rintro e w3 ⟨⟨lv, b, rfl, hb⟩, hf⟩
    have H3 : Aside0 (Same W w3) := ⟨H2.out.trans hf (fun _ _ h => h)⟩
    have HB := Aside0.mk hb
    clear hf hb H2
    cases b with
    | false =>
      go_wp2
      go_ret
      exact ⟨rfl, H3.out⟩
    | true =>
      obtain ⟨hgd, hrow⟩ := HB.out rfl
      have HG := Aside0.mk hgd
      obtain ⟨A4, c4, rfl, hc4, hr4⟩ := read_own (w := w3) (W := w3) hrow (e35_one _)
      have hsz := (run_sizes ds).1
      have HSZ : Aside0 ((runS ds).l.length ≤ 40) := ⟨by have := hgd.deeds.1; omega⟩
      have HKC := Aside0.mk (kc35_of_rg hr4 (by have := HSZ.out; omega))
      clear hgd hrow hc4 hr4 hsz HB
      go_wp2_with fail
      go_loopg [5, 6] (runS ds).l.length (fun kq v5 v6 wr => ∃ (i : Nat), v6 = .int .i64 (i : Int) ∧ v5 = .bool (anyFull ((runS ds).l.take i)) ∧ Aside0 (kq + i = (runS ds).l.length ∧ i ≤ (runS ds).l.length) ∧ Aside0 (Same w3 wr))
      case atStart => exact ⟨0, rfl, rfl, ⟨by omega⟩, ⟨Fr.refl _ _⟩⟩
      case round =>
        obtain ⟨i, rfl, rfl, HI, HSW⟩ := hrel
        have i0 : (0 : Int) ≤ (i : Int) := by omega
        by_cases hlt : i < (runS ds).l.length
        · have i1 : (i : Int) < ((runS ds).l.length : Int) := by omega
          have i2 : decide ((i : Int) < ((runS ds).l.length : Int)) = true := decide_eq_true i1
          have i5 : IntKind.i64.wrap ((i : Int) + 1) = ((i + 1 : Nat) : Int) := by rw [IntKind.wrap_i64]; have := HI.out; have := HSZ.out; omega
          obtain ⟨d, ht⟩ : ∃ d, (runS ds).l[i]? = some d := ⟨_, List.getElem?_eq_getElem hlt⟩
          have HTI := Aside0.mk ht
          have HIK : Aside0 (i + 1 ≤ (runS ds).l.length) := ⟨hlt⟩
          obtain ⟨ad, rfl, t0, t1⟩ := at_T35 (Kd.C_below HKC.out (below_of_fr HSW.out)) (i : Int) (by omega) (by omega)
          rw [Int.toNat_natCast, rd35_at HTI.out] at t0 t1
          clear ht
          have hat := anyFull_take HTI.out
          cases hb : anyFull ((runS ds).l.take i) with
          | true =>
            rw [hb, Bool.true_or] at hat
            have HAT := Aside0.mk hat
            clear hat hb
            go_wp2_with fail
            go_roundg ((runS ds).l.length - (i + 1))
            case measure => have := HI.out; have := HIK.out; omega
            case rel => exact ⟨i + 1, rfl, by rw [HAT.out], ⟨by have := HIK.out; omega⟩, HSW⟩
          | false =>
            rw [hb, Bool.false_or] at hat
            have HAT := Aside0.mk hat
            clear hat hb
            go_wp2_with fail
            go_roundg ((runS ds).l.length - (i + 1))
            case measure => have := HI.out; have := HIK.out; omega
            case rel => exact ⟨i + 1, rfl, by rw [HAT.out, beq_full], ⟨by have := HIK.out; omega⟩, HSW⟩
        · have hie : i = (runS ds).l.length := by have := HI.out; omega
          subst hie
          have i2 : decide (((runS ds).l.length : Int) < ((runS ds).l.length : Int)) = false := decide_eq_false (by omega)
          rw [List.take_length]
          have H4 : Aside0 (Same W wr) := ⟨H3.out.trans HSW.out (fun _ _ h => h)⟩
          go_wp2_with fail
          refine (lfull_calls (HS.out.fr H4.out).row (HS.out.fr H4.out).gl (HS.out.good HG.out.deeds)).mono ?_
          rintro e w5 ⟨hout, -, hf⟩
          have he := hout HG.out
          subst he
          have H5 : Aside0 (Same W w5) := ⟨H4.out.trans hf (fun _ _ h => h)⟩
          clear hout hf
          go_wp2_with fail
          go_ret
          exact ⟨by simp, H5.out⟩
theorem full_row {W : World} {A0 : Option Addr} {c0 : Nat} {ds : List S46} (hT : Kd.C k46 W A0 ds.length ds) (hw : ∀ d ∈ ds, (Lit.int .i64 d.f2).wf = true) (hc : ds.length ≤ c0) (hG : GlL W) :
    Calls Tryd.prog 4 #[.slice A0 ds.length c0] W (fun e w' => e = .returned (.bool true) ∧ Below W.heap.size W w') := (full_law ⟨hT, hw, hG⟩ hc).mono (fun e w' h => ⟨h.1, below_of_fr h.2⟩)
end
end Go.Proofs.YtimffhpnfdikoaaDoor.Ls
