/- A tree walked upward, a function called with each number. -/
import Derived.Test.YtebgaedalbdhaaaDoorAvC
namespace Go.Proofs.YtebgaedalbdhaaaDoor.Av
open Go.RowKit Go.Proofs.YtebgaedalbdhaaaDoorW.PrintWords Go.Proofs.YtebgaedalbdhaaaDoorW.PrintLast Go.Proofs.YtebgaedalbdhaaaDoorW.PrintMore
set_option linter.unusedVariables false
set_option linter.unusedSimpArgs false

def IterPost (cont : List Int → Int → Bool) (I : List Int → World → Prop) (done : List Int) (xs : List Int) (e : Ending) (w' : World) : Prop :=
  e = .returned (.bool (run cont done xs).2) ∧ I (run cont done xs).1 w'
theorem and_pred_lt {b : Nat} (h : b ≠ 0) : b &&& (b - 1) < b := by have := @Nat.and_le_right b (b - 1); omega
theorem run_true {cont : List Int → Int → Bool} : ∀ {xs done : List Int}, (run cont done xs).2 = true → (run cont done xs).1 = done ++ xs
  | [], done, _ => (List.append_nil done).symm
  | x :: xs, done, h => by
    rw [run] at h ⊢
    split at h
    · rename_i hc
      rw [if_pos hc, run_true h, List.append_assoc]
      rfl
    · cases h
/-- On the way: what the rest of the walk answers, and where in the whole list it stands. -/
def Way (cont : List Int → Int → Bool) (tot rest : List Int) (RES : List Int × Bool) (D X : List Int) : Prop := RES = run cont D X ∧ tot = D ++ (X ++ rest)
section
variable {cont : List Int → Int → Bool} {tot rest : List Int} {RES : List Int × Bool} {D X : List Int} {x : Int}
theorem Way.here (h : Way cont tot rest RES D (x :: X)) : ∃ r, tot = D ++ x :: r := ⟨_, h.2⟩
theorem Way.stop (h : Way cont tot rest RES D (x :: X)) (hc : cont D x = false) : RES = (D ++ [x], false) := by
  rw [h.1, run, hc, if_neg (by decide)]
theorem Way.next (h : Way cont tot rest RES D (x :: X)) (hc : cont D x = true) : Way cont tot rest RES (D ++ [x]) X := by
  refine ⟨?_, ?_⟩
  · rw [h.1, run, if_pos hc]
  · rw [h.2, List.append_assoc]; rfl
end
set_option maxHeartbeats 8000000 in
set_option maxRecDepth 100000 in
theorem iter_calls (f : FuncId) (cap : Array Value) (hcall : ∀ vs W, (callFunc f vs).run Tryd.prog W = .ok (.enter f vs) W) (cont : List Int → Int → Bool) (tot : List Int) (I : List Int → World → Prop)
    (hcb : ∀ done x W, (∃ r, tot = done ++ x :: r) → I done W → Calls Tryd.prog f (#[.int .u64 x] ++ cap) W fun e w' => e = .returned (.bool (cont done x)) ∧ I (done ++ [x]) w')
    (hdrew : ∀ done W, I done W → TabAt W) :
    ∀ (t : T), t.wf → (∀ done W, I done W → Lies W t) → ∀ rest done w, tot = done ++ (t.nums ++ rest) → I done w → Calls Tryd.prog 60 #[.pointer (ptrA t.ptr), .func (.func f) #[] cap] w (IterPost cont I done t.nums) := by
  intro t
  induction t with
  | nil =>
    intro _ _ rest done w _ hI
    have HI := Aside0.mk hI
    clear hI
    show Calls Tryd.prog 60 #[.pointer none, .func (.func f) #[] cap] w _
    go_enter Tryd.func60, Tryd.ntmps60
    go_wp2
    go_ret
    exact ⟨rfl, HI.out⟩
  | node b x s l r ihl ihr =>
    intro hwf hL rest done w htot hI
    have HTOT := Aside0.mk htot
    clear htot
    obtain ⟨hwl, hnw, hwr⟩ := T.wf_node.1 hwf
    have HI := Aside0.mk hI
    have HN := Aside0.mk (fun done W (h : I done W) => (hL done W h).1)
    have IHL := Aside0.mk (ihl hwl (fun done W h => (hL done W h).2.1))
    have IHR := Aside0.mk (ihr hwr (fun done W h => (hL done W h).2.2))
    have HCB := Aside0.mk hcb
    have HCALL := Aside0.mk hcall
    have HTAB := Aside0.mk hdrew
    have hx0 : 0 ≤ x := hnw.1
    have hx1 : x + 2048 < 18446744073709551616 := hnw.2.1
    have HS := Aside0.mk hnw.2.2
    obtain ⟨RES, hRES⟩ : ∃ RES, RES = run cont done (T.node b x s l r).nums := ⟨_, rfl⟩
    have hpost : ∀ e w', (e = .returned (.bool RES.2) ∧ I RES.1 w') → IterPost cont I done (T.node b x s l r).nums e w' := fun e w' h => by unfold IterPost; rw [← hRES]; exact h
    have HPOST := Aside0.mk hpost
    have hR : RES = (if (run cont done l.nums).2 then run cont (run cont done l.nums).1 (nodeFrom x s 0 ++ r.nums) else run cont done l.nums) := by
      rw [hRES, T.nums, List.append_assoc, run_append]
    have HR := Aside0.mk hR
    have f33 := (HN.out done w hI).cl
    clear hI hL hwf hwl hnw hwr ihl ihr hcb hcall hdrew hpost hR hRES
    show Calls Tryd.prog 60 #[.pointer (some ⟨b, 0, none⟩), .func (.func f) #[] cap] w _
    go_enter Tryd.func60, Tryd.ntmps60
    go_wp2_with fail
    refine (IHL.out (nodeFrom x s 0 ++ r.nums ++ rest) done w (by rw [HTOT.out, T.nums]; simp only [List.append_assoc]) HI.out).mono ?_
    rintro e w1 ⟨rfl, hI1⟩
    clear f33
    have HI1 := Aside0.mk hI1
    clear hI1
    obtain ⟨D1, hD1⟩ : ∃ D1, D1 = (run cont done l.nums).1 := ⟨_, rfl⟩
    rw [← hD1] at HI1 HR
    cases hb1 : (run cont done l.nums).2 with
    | false =>
      rw [hb1, if_neg (by decide)] at HR
      have h2 : RES.2 = false := by rw [HR.out]; exact hb1
      have H2 := Aside0.mk h2
      have h3 : RES.1 = D1 := by rw [HR.out, hD1]
      have H3 := Aside0.mk h3
      clear h2 h3 hb1 hD1
      go_wp2
      go_ret
      exact HPOST.out _ _ ⟨by rw [H2.out]; rfl, by rw [H3.out]; exact HI1.out⟩
    | true =>
      rw [hb1, if_pos rfl] at HR
      have HW : Aside0 (Way cont tot rest RES D1 (nodeFrom x s 0 ++ r.nums)) := ⟨HR.out, by rw [hD1, run_true hb1, HTOT.out, T.nums]; simp only [List.append_assoc]⟩
      clear hb1 hD1 HI HR HTOT
      have NA := Aside0.mk (HN.out D1 w1 HI1.out)
      go_upto_block 0 with (refine wpList_load_mid rfl 76 (.tmp 23) rfl b 1 rfl _ _ NA.out.rowAt Tryd.underlying76 rfl NA.out.len76 ?_)
      have HA := Aside0.mk (index76 HS.out.1)
      obtain ⟨A, hA⟩ : ∃ A, A = (s.map (Value.int .u64)).toArray := ⟨_, rfl⟩
      rw [← hA] at HA ⊢
      clear hA NA
      go_wp2
      go_loopg [25] 32 (fun k v25 w' => ∃ i : Nat, i ≤ 32 ∧ v25 = .int .i64 i ∧ Aside0 (32 - i ≤ k ∧ ∃ D, I D w' ∧ Way cont tot rest RES D (nodeFrom x s i ++ r.nums)))
      case atStart => exact ⟨0, by omega, rfl, ⟨Nat.le_refl _, D1, HI1.out, HW.out⟩⟩
      case round =>
        obtain ⟨i, hi, rfl, HU⟩ := hrel
        obtain ⟨hk, D, hID, hRD⟩ := HU.out
        have HK := Aside0.mk hk
        have HID := Aside0.mk hID
        have HRD := Aside0.mk hRD
        clear HU hk hID hRD HW HI1
        by_cases hlt : i < 32
        · have hix := HA.out i hlt wr
          have f0 := (HN.out D wr HID.out).c0
          have HR2 := HRD.out
          rw [nodeFrom_step x s hlt, List.append_assoc] at HR2
          replace HR2 := Aside0.mk HR2
          have hm : s.getD i 0 ∈ s := by
            have h32 := HS.out.1
            rw [List.getD_eq_getElem?_getD, List.getElem?_eq_getElem (by omega)]
            exact List.getElem_mem _
          have hw := HS.out.2 _ hm
          clear hm
          obtain ⟨v, hv⟩ : ∃ v : Nat, s.getD i 0 = (v : Int) := ⟨(s.getD i 0).toNat, by omega⟩
          rw [hv] at hix hw
          rw [hv, Int.toNat_natCast] at HR2
          have hv1 : v < 18446744073709551616 := by omega
          clear hv hw
          have ew : IntKind.u64.wrap (i : Int) = i := by rw [IntKind.wrap_u64]; omega
          go_wp2_with (refine wpList_index rfl 76 (.tmp 24) (.tmp 25) rfl rfl rfl hix ?_)
          clear f0 hix
          go_loopg [7] v (fun k v7 w' => ∃ u : Nat, v7 = .int .u64 u ∧ u < 18446744073709551616 ∧ Aside0 (u ≤ k ∧ ∃ D, I D w' ∧ Way cont tot rest RES D (wordNums (x + (i : Int) * 64) u ++ (nodeFrom x s (i + 1) ++ r.nums))))
          case atStart => exact ⟨v, rfl, hv1, ⟨Nat.le_refl _, D, HID.out, HR2.out⟩⟩
          case round =>
            obtain ⟨u, rfl, hu1, HU⟩ := hrel
            obtain ⟨hk2, D2, hID2, hRD2⟩ := HU.out
            have HK2 := Aside0.mk hk2
            have HID2 := Aside0.mk hID2
            have HRD2 := Aside0.mk hRD2
            clear HU hk2 hID2 hRD2 HR2 HID HRD hv1
            by_cases hz : u = 0
            · subst hz
              have h2 := HRD2.out
              rw [wordNums_zero, List.nil_append] at h2
              replace h2 := Aside0.mk h2
              go_wp2
              go_roundg (32 - (i + 1))
              case measure => have := HK.out; omega
              case rel => exact ⟨i + 1, by omega, by go_num, ⟨Nat.le_refl _, D2, HID2.out, h2.out⟩⟩
            · have hne : ((u : Int) != 0) = true := by simp; omega
              have h2 := HRD2.out
              rw [wordNums_step _ hz, List.cons_append] at h2
              have ctz := (Lib.lowest_bit 64 u hz hu1).2
              obtain ⟨c, hc⟩ : ∃ c, c = Lib.ctz 64 u := ⟨_, rfl⟩
              have TZ := Aside0.mk (tz_calls (w := wr) u hz hu1 (HTAB.out D2 wr HID2.out))
              rw [← hc] at h2 ctz TZ
              replace h2 := Aside0.mk h2
              have HZ := Aside0.mk hz
              clear hc hz
              go_wp2_with fail
              refine TZ.out.mono ?_
              rintro e w' ⟨rfl, rfl⟩
              clear TZ
              go_wp2_with (refine wpList_callf rfl _ rfl (.tmp 39) rfl rfl rfl HCALL.out ?_)
              refine (HCB.out D2 _ wr h2.out.here HID2.out).mono ?_
              rintro e w' ⟨rfl, hI2⟩
              have HI2 := Aside0.mk hI2
              clear hI2
              dsimp only
              cases hcont : cont D2 (x + (i : Int) * 64 + (c : Int)) with
              | false =>
                have h3 : RES.2 = false := by rw [h2.out.stop hcont]
                have h4 : RES.1 = D2 ++ [x + (i : Int) * 64 + (c : Int)] := by rw [h2.out.stop hcont]
                clear hcont
                have H3 := Aside0.mk h3
                have H4 := Aside0.mk h4
                clear h3 h4
                go_wp2
                go_ret
                exact HPOST.out _ _ ⟨by rw [H3.out]; rfl, by rw [H4.out]; exact HI2.out⟩
              | true =>
                replace h2 := Aside0.mk (h2.out.next hcont)
                clear hcont
                have em : bits .and .u64 (u : Int) ((u : Int) - 1) = ((u &&& (u - 1) : Nat) : Int) := by
                  have e1 : (u : Int) - 1 = ((u - 1 : Nat) : Int) := by have := HZ.out; omega
                  rw [e1, u64_and_nat _ _ hu1 (by omega)]
                have hu0 : 1 ≤ (u : Int) := by have := HZ.out; omega
                have hlt2 := and_pred_lt HZ.out
                obtain ⟨m, hm⟩ : ∃ m, m = u &&& (u - 1) := ⟨_, rfl⟩
                rw [← hm] at em h2 hlt2
                clear hm
                go_wp2
                go_roundg m
                case measure => have := HK2.out; omega
                case rel => exact ⟨m, rfl, by omega, ⟨Nat.le_refl _, _, HI2.out, h2.out⟩⟩
        · obtain rfl : i = 32 := by omega
          have h2 := HRD.out
          rw [nodeFrom_end, List.nil_append] at h2
          have H2 := Aside0.mk h2
          have f34 := (HN.out D wr HID.out).cr
          clear h2 HRD
          go_wp2_with fail
          refine (IHR.out rest D wr H2.out.2 HID.out).mono ?_
          rintro e w3 ⟨rfl, hI3⟩
          rw [← H2.out.1] at hI3 ⊢
          have HI3 := Aside0.mk hI3
          clear hI3 f34
          cases hb2 : RES.2 with
          | false =>
            have HB2 := Aside0.mk hb2
            clear hb2
            go_wp2
            go_ret
            exact HPOST.out _ _ ⟨by rw [HB2.out]; rfl, HI3.out⟩
          | true =>
            have HB2 := Aside0.mk hb2
            clear hb2
            go_wp2
            go_ret
            exact HPOST.out _ _ ⟨by rw [HB2.out]; rfl, HI3.out⟩
end Go.Proofs.YtebgaedalbdhaaaDoor.Av
