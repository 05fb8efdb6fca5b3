/- impl.TopicSubject, impl.FilterSubject, laws.awakeTopic, by hand. -/
import Derived.Test.YtgbdjinanflhaaaDoorMqB
import Derived.Lib.SlBytesConst
namespace Go.Proofs.YtgbdjinanflhaaaDoor.Mq
open Go.RowKit Go.Proofs.YtgbdjinanflhaaaDoorW.PrintWords Go.Proofs.YtgbdjinanflhaaaDoorW.PrintLast Go.Proofs.YtgbdjinanflhaaaDoorW.PrintMore
set_option linter.unusedVariables false
set_option linter.unusedSimpArgs false

theorem row_Sl {w W : World} {v : Value} {n : Nat} {xs : List Int} (h : Bs.RowG w W 5 1 v n (iC xs)) : Sl W v xs := own_C h.own
theorem copied_calls {w : World} {X : Option Addr} {n c : Nat} {l : List Int} (hR : Kd.C (Kd.int .u8) w X n l) (hc : n ≤ c) (hn : n ≤ 100000) :
    Calls Tryd.prog 17 #[.slice X n c] w fun e w' => ∃ A cc, e = .returned (.slice A n cc) ∧ n ≤ cc ∧ Kd.C (Kd.int .u8) w' A n l ∧ Below w.heap.size w w' := by
  obtain ⟨i0, hK⟩ := elem5
  have K5 := Aside0.mk hK
  have HN := Aside0.mk hn
  have HL : Aside0 (l.length = n) := ⟨hR.1⟩
  have HRW := Aside0.mk (Bs.row_g0 (e := 5) (size := 1) (Bs.Fr.refl _ w))
  have HRD : Aside0 (∀ W, Bs.Fr (fun _ => False) w W → Bs.ReadG W X n 1 (iC l)) := ⟨fun W hf => read_C (Kd.C_below hR (Bs.below_of_fr hf))⟩
  clear hR hc hn hK
  go_enter Tryd.func17, Tryd.ntmps17
  go_wp2_with (at_builtin; refine Bs.wpList_rowG K5.out rfl (.tmp 3) (.tmp 4) rfl (w2 := w) (n := 0) (xs := []) (m := n) (ys := iC l) rfl HRW.out rfl (HRD.out _) (by have := HN.out; omega) (fun v1 w5 q1 q2 q3 => ?_); rw [Nat.zero_add, List.nil_append] at q1; have HQ := Aside0.mk q1; clear q1 q2 q3 HRW HRD)
  go_ret
  obtain ⟨A, cc, rfl, hcc, hC⟩ := (row_Sl HQ.out).ex
  have hl := HL.out
  subst hl
  exact ⟨A, cc, rfl, hcc, hC, Bs.below_of_fr HQ.out.fr⟩
theorem one_nil (w : World) : Calls Tryd.prog 18 #[.nilIface] w fun e w' => e = .returned (.int .i64 0) ∧ w = w' := by
  go_enter Tryd.func18, Tryd.ntmps18
  go_wp2
  go_ret
  exact ⟨rfl, rfl⟩
theorem one_err (t : TypeId) (v : Value) (w : World) : Calls Tryd.prog 18 #[.iface t v] w fun e w' => e = .returned (.int .i64 1) ∧ w = w' := by
  go_enter Tryd.func18, Tryd.ntmps18
  go_wp2
  go_ret
  exact ⟨rfl, rfl⟩
def TsPost (w : World) (R : Option (List Int)) (e : Ending) (w' : World) : Prop := Below w.heap.size w w' ∧
  match R with
  | none => e = .returned (.tuple #[.slice none 0 0, .int .i64 1])
  | some out => ∃ v, e = .returned (.tuple #[v, .int .i64 0]) ∧ Sl w' v out
theorem Sl.string {w : World} {v : Value} {xs : List Int} (h : Sl w v xs) : (convert 23 9 v).run Tryd.prog w = .ok (.string (strOfNums xs)) w := by
  obtain ⟨A, c, rfl, -, hC⟩ := h.ex
  exact Kd.C_string Tryd.underlying23 Tryd.underlying5 Tryd.underlying9 hC

theorem topic1_calls {w1 : World} {X : Option Addr} {n c : Nat} {R : Option (List Int)} (h : Calls Tryd.prog 31 #[.slice X n c, .bool false] w1 (CvPost w1 R)) : Calls Tryd.prog 26 #[.slice X n c] w1 (CvPost w1 R) := by
  have H := Aside0.mk h
  clear h
  cases R with
  | none =>
    go_enter Tryd.func26, Tryd.ntmps26
    go_wp2_with fail
    refine H.out.mono ?_
    rintro e w2 ⟨hb, t, v, rfl⟩
    have HB := Aside0.mk hb
    clear hb
    go_wp2
    refine bodyPost_ret (results_list (rs := [.tmp 2, .tmp 3]) rfl (by simp) (.tmp (.tmp .nil))) rfl ?_
    exact ⟨HB.out, _, _, rfl⟩
  | some out =>
    go_enter Tryd.func26, Tryd.ntmps26
    go_wp2_with fail
    refine H.out.mono ?_
    rintro e w2 ⟨hb, v, rfl, hs⟩
    have HB := Aside0.mk hb
    have HS := Aside0.mk hs
    clear hb hs
    go_wp2
    refine bodyPost_ret (results_list (rs := [.tmp 2, .tmp 3]) rfl (by simp) (.tmp (.tmp .nil))) rfl ?_
    exact ⟨HB.out, _, rfl, HS.out⟩
theorem topic2_calls {w1 : World} {X : Option Addr} {n c : Nat} {R : Option (List Int)} (h : Calls Tryd.prog 26 #[.slice X n c] w1 (CvPost w1 R)) : Calls Tryd.prog 16 #[.slice X n c] w1 (CvPost w1 R) := by
  have H := Aside0.mk h
  clear h
  cases R with
  | none =>
    go_enter Tryd.func16, Tryd.ntmps16
    go_wp2_with fail
    refine H.out.mono ?_
    rintro e w2 ⟨hb, t, v, rfl⟩
    have HB := Aside0.mk hb
    clear hb
    go_wp2
    refine bodyPost_ret (results_list (rs := [.tmp 2, .tmp 3]) rfl (by simp) (.tmp (.tmp .nil))) rfl ?_
    exact ⟨HB.out, _, _, rfl⟩
  | some out =>
    go_enter Tryd.func16, Tryd.ntmps16
    go_wp2_with fail
    refine H.out.mono ?_
    rintro e w2 ⟨hb, v, rfl, hs⟩
    have HB := Aside0.mk hb
    have HS := Aside0.mk hs
    clear hb hs
    go_wp2
    refine bodyPost_ret (results_list (rs := [.tmp 2, .tmp 3]) rfl (by simp) (.tmp (.tmp .nil))) rfl ?_
    exact ⟨HB.out, _, rfl, HS.out⟩
set_option maxHeartbeats 4000000 in
set_option maxRecDepth 100000 in
theorem topic_calls {w : World} {X : Option Addr} {n c : Nat} {l : List Int} {R : Option (List Int)} {t0 : TypeId} {u0 : Value} (hR : Kd.C (Kd.int .u8) w X n l) (hc : n ≤ c) (hn : n ≤ 100000) (hG : w.cell? ⟨0, 0, none⟩ = some (.iface t0 u0)) (h : cv false l 0 [] false = some R) :
    Calls Tryd.prog 7 #[.slice X n c] w (TsPost w R) := by
  obtain rfl : l.length = n := hR.1
  have HC := Aside0.mk (copied_calls hR hc hn)
  have HK : Aside0 (∀ W A cc, Below w.heap.size w W → Kd.C (Kd.int .u8) W A l.length l → l.length ≤ cc → Calls Tryd.prog 16 #[.slice A l.length cc] W (CvPost W R)) := ⟨fun W A cc hb hC hcc => topic2_calls (topic1_calls (cv_calls hC hcc hn ((hb.cell (World.block_lt_of_cell? w _ hG)).trans hG) h))⟩
  clear hR hc hn hG h
  go_enter Tryd.func7, Tryd.ntmps7
  go_wp2_with fail
  refine HC.out.mono ?_
  rintro e w1 ⟨A, cc, rfl, hcc, hC, hb⟩
  have HB := Aside0.mk hb
  have H2 := Aside0.mk (HK.out w1 A cc hb hC hcc)
  clear hb hC hcc HC HK
  cases R with
  | none =>
    go_wp2_with fail
    refine H2.out.mono ?_
    rintro e w2 ⟨hb, t, v, rfl⟩
    have HB2 := Aside0.mk (below_step HB.out hb)
    clear hb
    go_wp2_with fail
    refine (one_err t v w2).mono ?_
    rintro e w' ⟨rfl, hw⟩
    subst hw
    go_wp2
    refine bodyPost_ret (results_list (rs := [.tmp 2, .tmp 3]) rfl (by simp) (.tmp (.tmp .nil))) rfl ?_
    exact ⟨HB2.out, rfl⟩
  | some out =>
    go_wp2_with fail
    refine H2.out.mono ?_
    rintro e w2 ⟨hb, v, rfl, hs⟩
    have HB2 := Aside0.mk (below_step HB.out hb)
    have HS := Aside0.mk hs
    clear hb hs
    go_wp2_with fail
    refine (one_nil w2).mono ?_
    rintro e w' ⟨rfl, hw⟩
    subst hw
    go_wp2
    refine bodyPost_ret (results_list (rs := [.tmp 2, .tmp 3]) rfl (by simp) (.tmp (.tmp .nil))) rfl ?_
    exact ⟨HB2.out, _, rfl, HS.out⟩

theorem filter1_calls {w1 : World} {X : Option Addr} {n c : Nat} {R : Option (List Int)} (h : Calls Tryd.prog 31 #[.slice X n c, .bool true] w1 (CvPost w1 R)) : Calls Tryd.prog 28 #[.slice X n c] w1 (CvPost w1 R) := by
  have H := Aside0.mk h
  clear h
  cases R with
  | none =>
    go_enter Tryd.func28, Tryd.ntmps28
    go_wp2_with fail
    refine H.out.mono ?_
    rintro e w2 ⟨hb, t, v, rfl⟩
    have HB := Aside0.mk hb
    clear hb
    go_wp2
    refine bodyPost_ret (results_list (rs := [.tmp 2, .tmp 3]) rfl (by simp) (.tmp (.tmp .nil))) rfl ?_
    exact ⟨HB.out, _, _, rfl⟩
  | some out =>
    go_enter Tryd.func28, Tryd.ntmps28
    go_wp2_with fail
    refine H.out.mono ?_
    rintro e w2 ⟨hb, v, rfl, hs⟩
    have HB := Aside0.mk hb
    have HS := Aside0.mk hs
    clear hb hs
    go_wp2
    refine bodyPost_ret (results_list (rs := [.tmp 2, .tmp 3]) rfl (by simp) (.tmp (.tmp .nil))) rfl ?_
    exact ⟨HB.out, _, rfl, HS.out⟩
theorem filter2_calls {w1 : World} {X : Option Addr} {n c : Nat} {R : Option (List Int)} (h : Calls Tryd.prog 28 #[.slice X n c] w1 (CvPost w1 R)) : Calls Tryd.prog 22 #[.slice X n c] w1 (CvPost w1 R) := by
  have H := Aside0.mk h
  clear h
  cases R with
  | none =>
    go_enter Tryd.func22, Tryd.ntmps22
    go_wp2_with fail
    refine H.out.mono ?_
    rintro e w2 ⟨hb, t, v, rfl⟩
    have HB := Aside0.mk hb
    clear hb
    go_wp2
    refine bodyPost_ret (results_list (rs := [.tmp 2, .tmp 3]) rfl (by simp) (.tmp (.tmp .nil))) rfl ?_
    exact ⟨HB.out, _, _, rfl⟩
  | some out =>
    go_enter Tryd.func22, Tryd.ntmps22
    go_wp2_with fail
    refine H.out.mono ?_
    rintro e w2 ⟨hb, v, rfl, hs⟩
    have HB := Aside0.mk hb
    have HS := Aside0.mk hs
    clear hb hs
    go_wp2
    refine bodyPost_ret (results_list (rs := [.tmp 2, .tmp 3]) rfl (by simp) (.tmp (.tmp .nil))) rfl ?_
    exact ⟨HB.out, _, rfl, HS.out⟩
set_option maxHeartbeats 4000000 in
set_option maxRecDepth 100000 in
theorem filter_calls {w : World} {X : Option Addr} {n c : Nat} {l : List Int} {R : Option (List Int)} {t0 : TypeId} {u0 : Value} (hR : Kd.C (Kd.int .u8) w X n l) (hc : n ≤ c) (hn : n ≤ 100000) (hG : w.cell? ⟨0, 0, none⟩ = some (.iface t0 u0)) (h : cv true l 0 [] false = some R) :
    Calls Tryd.prog 11 #[.slice X n c] w (TsPost w R) := by
  obtain rfl : l.length = n := hR.1
  have HC := Aside0.mk (copied_calls hR hc hn)
  have HK : Aside0 (∀ W A cc, Below w.heap.size w W → Kd.C (Kd.int .u8) W A l.length l → l.length ≤ cc → Calls Tryd.prog 22 #[.slice A l.length cc] W (CvPost W R)) := ⟨fun W A cc hb hC hcc => filter2_calls (filter1_calls (cv_calls hC hcc hn ((hb.cell (World.block_lt_of_cell? w _ hG)).trans hG) h))⟩
  clear hR hc hn hG h
  go_enter Tryd.func11, Tryd.ntmps11
  go_wp2_with fail
  refine HC.out.mono ?_
  rintro e w1 ⟨A, cc, rfl, hcc, hC, hb⟩
  have HB := Aside0.mk hb
  have H2 := Aside0.mk (HK.out w1 A cc hb hC hcc)
  clear hb hC hcc HC HK
  cases R with
  | none =>
    go_wp2_with fail
    refine H2.out.mono ?_
    rintro e w2 ⟨hb, t, v, rfl⟩
    have HB2 := Aside0.mk (below_step HB.out hb)
    clear hb
    go_wp2_with fail
    refine (one_err t v w2).mono ?_
    rintro e w' ⟨rfl, hw⟩
    subst hw
    go_wp2
    refine bodyPost_ret (results_list (rs := [.tmp 2, .tmp 3]) rfl (by simp) (.tmp (.tmp .nil))) rfl ?_
    exact ⟨HB2.out, rfl⟩
  | some out =>
    go_wp2_with fail
    refine H2.out.mono ?_
    rintro e w2 ⟨hb, v, rfl, hs⟩
    have HB2 := Aside0.mk (below_step HB.out hb)
    have HS := Aside0.mk hs
    clear hb hs
    go_wp2_with fail
    refine (one_nil w2).mono ?_
    rintro e w' ⟨rfl, hw⟩
    subst hw
    go_wp2
    refine bodyPost_ret (results_list (rs := [.tmp 2, .tmp 3]) rfl (by simp) (.tmp (.tmp .nil))) rfl ?_
    exact ⟨HB2.out, _, rfl, HS.out⟩

def aw : List Int := [97, 47, 98]
theorem aw_cv : cv false aw 0 [] false = some (some [97, 46, 98]) := by decide +kernel
theorem aw_C (W : World) : Kd.C (Kd.int .u8) (W.alloc (.cells (iC aw).toArray 5 (3, 4))) (some ⟨W.heap.size, 0, none⟩) 3 aw := by
  refine ⟨rfl, by omega, fun _ => ⟨_, rfl, fun j p hj => ⟨[.int .u8 p], rfl, rfl, fun i u hu => ?_⟩⟩⟩
  cases i with
  | succ i => simp at hu
  | zero =>
    simp only [List.getElem?_cons_zero, Option.some.injEq] at hu
    subst hu
    have e1 : j * (Kd.int .u8).sz + 0 = j := Nat.mul_one j
    rw [e1, Bs.add_at, World.cell?_alloc_mark, List.getElem?_toArray, iC, List.getElem?_map, hj]
    rfl
/-- What the variable holds. -/
structure GlM (w : World) : Prop where
  var : ∃ t v, w.cell? ⟨0, 0, none⟩ = some (.iface t v)
theorem GlM.below {w w1 : World} (h : GlM w) (hb : Below w.heap.size w w1) : GlM w1 := by
  obtain ⟨t, v, h⟩ := h.var
  exact ⟨t, v, (hb.cell (World.block_lt_of_cell? w _ h)).trans h⟩
set_option maxHeartbeats 4000000 in
set_option maxRecDepth 100000 in
theorem awake_calls {w : World} (hG : GlM w) : Calls Tryd.prog 6 #[] w fun e w' => e = .returned (.bool true) ∧ Below w.heap.size w w' := by
  have kc := Lib.run_convert_bytes_const (P := Tryd.prog) w 23 5 (iC aw).toArray 3 3 Tryd.underlying23 Tryd.underlying5
  obtain ⟨t, v, hg⟩ := (hG.below (below_alloc (Below.refl _ _) (.cells (iC aw).toArray 5 (3, 4)))).var
  have H := Aside0.mk (topic_calls (aw_C w) (Nat.le_refl 3) (by omega) hg aw_cv)
  have HB := Aside0.mk (below_alloc (Below.refl w.heap.size w) (.cells (iC aw).toArray 5 (3, 4)))
  have eaz : (iC aw).toArray.size = 3 := rfl
  have eaw : (iC aw).toArray = #[.int .u8 97, .int .u8 47, .int .u8 98] := rfl
  rw [eaz] at kc
  rw [eaw] at kc H HB
  clear eaw eaz hG hg
  go_enter Tryd.func6, Tryd.ntmps6
  go_wp2_with fail
  refine H.out.mono ?_
  rintro e w2 ⟨hb, v, rfl, hs⟩
  have HB2 := Aside0.mk (below_step HB.out hb)
  have hst := hs.string
  rw [show strOfNums [97, 46, 98] = (⟨#[97, 46, 98]⟩ : ByteArray) by decide +kernel] at hst
  clear hb hs kc
  go_wp2
  go_ret
  exact ⟨by first | rfl | simp, HB2.out⟩
end Go.Proofs.YtgbdjinanflhaaaDoor.Mq
