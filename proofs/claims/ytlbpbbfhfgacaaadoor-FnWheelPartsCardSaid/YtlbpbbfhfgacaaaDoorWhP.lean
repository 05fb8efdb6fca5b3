/- impl.WheelRun, impl.WheelNext, laws.awakeWheel. -/
import Derived.Test.YtlbpbbfhfgacaaaDoorWhO
namespace Go.Proofs.YtlbpbbfhfgacaaaDoor.Wh
open Go.RowKit Go.Maps Go.Proofs.YtlbpbbfhfgacaaaDoor.Bs Go.Proofs.YtlbpbbfhfgacaaaDoorW.PrintWords Go.Proofs.YtlbpbbfhfgacaaaDoorW.PrintLast Go.Proofs.YtlbpbbfhfgacaaaDoorW.PrintMore Go.Proofs.YtlbpbbfhfgacaaaDoor.GFnWheelParts
set_option linter.unusedVariables false
set_option linter.unusedSimpArgs false
def RunPost (w0 : World) (T : List S30) (en : Ending) (w' : World) : Prop := ∃ v As cnt L, en = .returned (.tuple #[v, .int .i64 cnt]) ∧ OutRow w' w0.heap.size v As T ∧ As.length = T.length ∧ Cnt L (fAt T) cnt T.length ∧ Same w0 w'
set_option maxHeartbeats 4000000 in
set_option maxRecDepth 100000 in
theorem run_calls {w0 : World} {A0 : Option Addr} {c0 : Nat} {T : List S30} (h0 : 0 < w0.heap.size) (hT : Kd.C k30 w0 A0 T.length T) (hg : Gl w0) (hR : GoodR T) : Calls Tryd.prog 7 #[.slice A0 T.length c0] w0 (RunPost w0 T) := by
  have P1 : Aside0 (∀ (W : World) hw, Same w0 W → Wheel W w0.heap.size hw 0 (fun _ => none) 0 False → Calls Tryd.prog 15 #[.pointer (some ⟨hw, 0, none⟩), .slice A0 T.length c0] W (TurnPost w0 hw T False)) := ⟨fun W hw hs hwh => turn_calls h0 hs hwh hT hg hR (fun h => h.elim)⟩
  have HR := Aside0.mk hR
  clear h0 hT hg hR
  go_enter Tryd.func7, Tryd.ntmps7
  go_wp2_with fail
  refine newWheel_calls.mono ?_
  rintro e w1 ⟨hw, rfl, hwh, hs1⟩
  have P2 := Aside0.mk (P1.out w1 hw hs1 (hwh.weak (fun h => h.elim)))
  clear hwh hs1 P1
  go_wp2_with fail
  refine P2.out.mono ?_
  rintro e w2 ⟨⟨v, As, rfl, hO, hl⟩, ⟨cnt, L, hwh, hc⟩, hs⟩
  have HO := Aside0.mk (And.intro hO hl)
  have HC := Aside0.mk hc
  have HS := Aside0.mk hs
  have P3 := Aside0.mk (count_calls hwh)
  have hb : cnt = (L.length : Int) ∧ L.length ≤ 100 := ⟨hc.cnt, Nat.le_trans hc.le HR.out.1⟩
  have hcw : IntKind.i64.wrap cnt = cnt := by rw [IntKind.wrap_i64]; omega
  have hcw2 : wrap64 cnt = cnt := Pl.w64 (by omega) (by omega)
  have c0_ : 0 ≤ cnt := by omega
  have c1_ : cnt ≤ 100 := by omega
  clear hO hl hc hs hwh P2 hb
  go_wp2_with fail
  refine P3.out.mono ?_
  rintro e w3 ⟨rfl, e3⟩
  subst w3
  go_wp2
  refine bodyPost_ret (results_list (rs := [.tmp 2, .tmp 3]) rfl (by simp) (.tmp (.tmp .nil))) rfl ?_
  exact ⟨v, As, cnt, L, by first | rfl | (rw [hcw]; rfl) | (rw [hcw2]; rfl), HO.out.1, HO.out.2, HC.out, HS.out⟩
def WNextPost (w0 : World) (T : List S30) (before : Int) (en : Ending) (w' : World) : Prop := ∃ r, en = .returned (.int .i64 r) ∧ NextIs (fAt T) before r ∧ Same w0 w'
set_option maxHeartbeats 4000000 in
set_option maxRecDepth 100000 in
theorem wnext_calls {w0 : World} {A0 : Option Addr} {c0 : Nat} {T : List S30} {before : Int} (h0 : 0 < w0.heap.size) (hT : Kd.C k30 w0 A0 T.length T) (hg : Gl w0) (hR : GoodR T) (hst : ∀ t ∈ T, t.f0 ≠ 1 ∧ t.f0 ≠ 2) (hb : before < 2 ^ 62) :
    Calls Tryd.prog 11 #[.slice A0 T.length c0, .int .i64 before] w0 (WNextPost w0 T before) := by
  have P1 : Aside0 (∀ (W : World) hw, Same w0 W → Wheel W w0.heap.size hw 0 (fun _ => none) 0 True → Calls Tryd.prog 15 #[.pointer (some ⟨hw, 0, none⟩), .slice A0 T.length c0] W (TurnPost w0 hw T True)) := ⟨fun W hw hs hwh => turn_calls h0 hs hwh hT hg hR (fun _ => hst)⟩
  clear h0 hT hg hR hst
  go_enter Tryd.func11, Tryd.ntmps11
  go_wp2_with fail
  refine newWheel_calls.mono ?_
  rintro e w1 ⟨hw, rfl, hwh, hs1⟩
  have P2 := Aside0.mk (P1.out w1 hw hs1 hwh)
  clear hwh hs1 P1
  go_wp2_with fail
  refine P2.out.mono ?_
  rintro e w2 ⟨⟨v, As, rfl, hO, hl⟩, ⟨cnt, L, hwh, hc⟩, hs⟩
  have HS := Aside0.mk hs
  have P3 := Aside0.mk (next_calls hwh hb)
  clear hO hl hc hs hwh P2
  go_wp2_with fail
  refine P3.out.mono ?_
  rintro e w3 ⟨r, rfl, hr, e3⟩
  subst w3
  have HR := Aside0.mk hr
  clear hr
  go_wp2
  go_ret
  exact ⟨r, rfl, HR.out, HS.out⟩
theorem cnt_one {L : List S42} {s e cnt : Int} {n : Nat} (h : Cnt L (upd (fun _ => none) s e) cnt n) : cnt = 1 := by
  have h1 : (⟨s, e⟩ : S42) ∈ L := (h.rep.mem s e).1 (by simp [upd])
  have h2 : (L.map S42.f0).length ≤ [s].length := nodup_len h.rep.nd (fun z hz => by
    obtain ⟨x, hx, rfl⟩ := List.mem_map.1 hz
    have := (h.rep.mem x.f0 x.f1).2 hx
    unfold upd at this
    split at this
    · simp; assumption
    · cases this)
  have h3 := List.length_pos_of_mem h1
  rw [List.length_map] at h2
  have := h.cnt
  simp at h2
  omega
def one7 : List S30 := [⟨0, 7, 1099511627776, 0, false⟩]
theorem good7 : GoodR one7 := by
  refine ⟨by decide, fun i t h => ?_⟩
  rcases i with _ | i
  · injection h with h
    subst h
    exact ⟨by decide, fun _ => ⟨by decide, by decide, rfl⟩, fun h => by rcases h with h | h <;> cases h⟩
  · simp [one7] at h
theorem kc7 (W : World) : Kd.C k30 (W.alloc (.cells #[.int .i64 0, .int .u64 7, .int .i64 1099511627776, .int .i64 0, .bool false] 30)) (some ⟨W.heap.size, 0, none⟩) one7.length one7 := by
  refine ⟨rfl, by decide, fun _ => ⟨_, rfl, fun j p hj => ?_⟩⟩
  rcases j with _ | j
  · injection hj with hj
    subst hj
    refine ⟨_, rfl, k30_mk _ _, fun i u hu => ?_⟩
    have hb := Blk.new W 30 [.int .i64 0, .int .u64 7, .int .i64 1099511627776, .int .i64 0, .bool false]
    rw [Bs.add_at]
    exact hb.cell _ (by simpa using hu)
  · simp [one7] at hj
def AwakePost (W : World) (en : Ending) (w' : World) : Prop := en = .returned (.bool true) ∧ Same W w'
set_option maxHeartbeats 4000000 in
set_option maxRecDepth 100000 in
theorem awake_calls {W : World} (h0 : 0 < W.heap.size) (hg : Gl W) : Calls Tryd.prog 6 #[] W (AwakePost W) := by
  have hsa : Same W (W.alloc (.cells #[.int .i64 0, .int .u64 7, .int .i64 1099511627776, .int .i64 0, .bool false] 30)) := (Fr.refl _ W).alloc _
  have P1 : Aside0 (Calls Tryd.prog 7 #[.slice (some ⟨W.heap.size, 0, none⟩) 1 1] (W.alloc (.cells #[.int .i64 0, .int .u64 7, .int .i64 1099511627776, .int .i64 0, .bool false] 30)) (RunPost (W.alloc (.cells #[.int .i64 0, .int .u64 7, .int .i64 1099511627776, .int .i64 0, .bool false] 30)) one7)) :=
    ⟨run_calls (c0 := 1) (Nat.lt_of_lt_of_le h0 hsa.size) (kc7 W) (hg.fr hsa (fun h => h)) good7⟩
  have HSA := Aside0.mk hsa
  clear h0 hg hsa
  go_enter Tryd.func6, Tryd.ntmps6
  go_wp2_with fail
  refine P1.out.mono ?_
  rintro e w2 ⟨v, As, cnt, L, rfl, hO, hl, hc, hs⟩
  have hc1 : cnt = 1 := cnt_one (s := 7) (e := 1099511627776) hc
  obtain ⟨A, c, rfl, -, -⟩ := read_own (w := w2) (W := w2) hO.row hO.one
  have hl1 : As.length = 1 := hl
  have HS := Aside0.mk hs
  subst hc1
  rw [hl1]
  clear hO hl hc hs P1 hl1
  go_wp2
  go_ret
  exact ⟨rfl, HSA.out.trans HS.out (fun _ _ h => h)⟩
end Go.Proofs.YtlbpbbfhfgacaaaDoor.Wh
