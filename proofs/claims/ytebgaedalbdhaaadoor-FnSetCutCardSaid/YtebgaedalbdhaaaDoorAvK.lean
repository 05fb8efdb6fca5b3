/- Sets that are made: impl.set, impl.SetRun, impl.SetExists. -/
import Derived.Test.YtebgaedalbdhaaaDoorAvJ
namespace Go.Proofs.YtebgaedalbdhaaaDoor.Av
open Go.RowKit Go.Proofs.YtebgaedalbdhaaaDoorW.PrintWords Go.Proofs.YtebgaedalbdhaaaDoorW.PrintLast Go.Proofs.YtebgaedalbdhaaaDoorW.PrintMore
set_option linter.unusedVariables false
set_option linter.unusedSimpArgs false

/-- A set of its own, that no one else holds. -/
structure SetNew (w w1 : World) (g : Nat) (mn : Option Int) (L : List Int) (m : Nat) (t : T) (sz nd : Int) : Prop where
  is : SetIs w1 g t sz nd
  rep : Rep t sz nd L m
  len : (t.flat.length : Int) ≤ nd
  safe : Safe mn t
  low : ∀ k, k = g ∨ k ∈ t.ids → w.heap.size ≤ k
  fr : Fr (fun _ => False) w w1
  tight : L = [] → t = .nil
theorem rep_nil : Rep .nil 0 0 [] 0 := ⟨rfl, .nil, rfl, by omega, by omega, Nat.le_refl _⟩
theorem set_blank (w : World) : SetAt (w.alloc (.cells #[.pointer none, .int .i64 0, .int .i64 0, .bool false] 63)) w.heap.size none 0 0 false := ⟨heap_alloc_new w _⟩
theorem setIs_blank {w : World} {g : Nat} (h : SetAt w g none 0 0 false) : SetIs w g .nil 0 0 := ⟨h, trivial, .nil, (fun h => by cases h), fun p hp => by cases hp⟩
theorem build63 (w : World) : (Instr.build 63 #[]).run Tryd.prog w = .ok (.agg #[.pointer none, .int .i64 0, .int .i64 0, .bool false]) w := by kernel_rfl
def RunPost (w : World) (acts : List Deed) (e : Ending) (w' : World) : Prop :=
  ∃ v, e = .returned v ∧ w'.ownsRow w.heap.size 4 1 v acts.length ((wases [] acts).map Value.bool) ∧ Fr (fun _ => False) w w'
def MadePost (w : World) (acts : List Deed) (e : Ending) (w' : World) : Prop :=
  ∃ g t sz nd, e = .returned (.pointer (some ⟨g, 0, none⟩)) ∧ SetNew w w' g none (plays [] acts) acts.length t sz nd
theorem fits_none (q : Int) : Fits none q := fun _ h => by cases h
theorem made_new {w wr : World} {acts : List Deed} {v : Value} (hf0 : Fr (fun _ => False) w wr) {g : Nat} (hg : w.heap.size ≤ g) (hg1 : g < wr.heap.size) {w1 : World} (h : CInv wr w1 g none [] 0 .nil acts acts.length v) :
    ∃ t sz nd, SetNew w w1 g none (plays [] acts) acts.length t sz nd ∧ w1.ownsRow w.heap.size 4 1 v acts.length ((wases [] acts).map Value.bool) := by
  obtain ⟨t, sz, nd, h⟩ := h
  unfold CIn at h
  rw [List.take_length, Nat.zero_add] at h
  have hs := hf0.size
  refine ⟨t, sz, nd, ⟨h.is, h.rep, h.len, h.safe, ?_, hf0.trans h.fr ?_, h.tight rfl⟩, ?_⟩
  · rintro k (rfl | hk)
    · exact hg
    · rcases h.ids k hk with hk | hk
      · cases hk
      · omega
  · rintro k hk (rfl | hk2)
    · omega
    · cases hk2
  · have ho := h.own
    rw [wases_len] at ho
    refine ⟨by simpa using wases_len acts [], ?_⟩
    rcases ho.2 with hx | ⟨gg, cap, cur, e, hb, rest⟩
    · exact .inl hx
    · exact .inr ⟨gg, cap, cur, e, by omega, rest⟩
theorem acts_apart {w : World} {A : Option Addr} {acts : List Deed} (h : ActsR w A acts) : 0 < acts.length → ∀ ad, A = some ad → ad.block ≠ w.heap.size ∧ ad.block ∉ T.nil.ids := by
  intro h0 ad hA
  refine ⟨?_, fun h => by cases h⟩
  obtain ⟨ad2, e, hc⟩ := h h0
  rw [hA] at e
  injection e with e
  subst e
  obtain ⟨c1, -⟩ := hc 0 _ (List.getElem?_eq_getElem h0)
  have := World.block_lt_of_cell? w _ c1
  intro hb
  rw [show (ad.add (0 * 2)).block = ad.block by unfold Addr.add; split <;> rfl] at this
  omega
set_option maxHeartbeats 4000000 in
set_option maxRecDepth 100000 in
theorem made_calls {w : World} {A : Option Addr} {acts : List Deed} {c : Nat} (hA : ActsR w A acts) (hok : ∀ a ∈ acts, okDeed none a) (hn : acts.length ≤ 1000) :
    Calls Tryd.prog 30 #[.slice A acts.length c] w (MadePost w acts) := by
  have HA := Aside0.mk hA
  have HOK := Aside0.mk hok
  clear hA hok
  go_enter Tryd.func30, Tryd.ntmps30
  go_wp2_with fail
  have HF := Aside0.mk ((Fr.refl (fun _ => False) w).alloc (.cells #[.pointer none, .int .i64 0, .int .i64 0, .bool false] 63))
  refine (change_calls none [] 0 (setIs_blank (set_blank w)) rep_nil (Int.le_refl _) (.inl (fun p hp => by cases hp)) (HA.out.fr HF.out (fun _ _ h => h)) (acts_apart HA.out) HOK.out hn (by omega) (Nat.zero_le _)).mono ?_
  rintro e w1 ⟨v, rfl, hc⟩
  have HC := Aside0.mk (made_new HF.out (Nat.le_refl _) (by simp) hc)
  clear hc
  go_wp2
  go_ret
  obtain ⟨t, sz, nd, h, -⟩ := HC.out
  exact ⟨_, t, sz, nd, rfl, h⟩
set_option maxHeartbeats 4000000 in
set_option maxRecDepth 100000 in
theorem setRun_calls {w : World} {A : Option Addr} {acts : List Deed} {c : Nat} (hA : ActsR w A acts) (hok : ∀ a ∈ acts, okDeed none a) (hn : acts.length ≤ 1000) :
    Calls Tryd.prog 17 #[.slice A acts.length c] w (RunPost w acts) := by
  have HA := Aside0.mk hA
  have HOK := Aside0.mk hok
  clear hA hok
  go_enter Tryd.func17, Tryd.ntmps17
  go_wp2_with fail
  have HF := Aside0.mk ((Fr.refl (fun _ => False) w).alloc (.cells #[.pointer none, .int .i64 0, .int .i64 0, .bool false] 63))
  refine (change_calls none [] 0 (setIs_blank (set_blank w)) rep_nil (Int.le_refl _) (.inl (fun p hp => by cases hp)) (HA.out.fr HF.out (fun _ _ h => h)) (acts_apart HA.out) HOK.out hn (by omega) (Nat.zero_le _)).mono ?_
  rintro e w1 ⟨v, rfl, hc⟩
  have HC := Aside0.mk (made_new HF.out (Nat.le_refl _) (by simp) hc)
  clear hc
  go_wp2
  go_ret
  obtain ⟨t, sz, nd, h, ho⟩ := HC.out
  exact ⟨_, rfl, ho, h.fr⟩
set_option maxHeartbeats 4000000 in
set_option maxRecDepth 100000 in
theorem setExists_calls (q : Int) (hq0 : 0 ≤ q) (hq1 : q + 2048 < 18446744073709551616) {w : World} {A : Option Addr} {acts : List Deed} {c : Nat} (hA : ActsR w A acts) (hok : ∀ a ∈ acts, okDeed none a) (hn : acts.length ≤ 1000) :
    Calls Tryd.prog 15 #[.slice A acts.length c, .int .u64 q] w fun e w' => e = .returned (.bool (decide (q ∈ plays [] acts))) ∧ Fr (fun _ => False) w w' := by
  have HA := Aside0.mk hA
  have HOK := Aside0.mk hok
  clear hA hok
  go_enter Tryd.func15, Tryd.ntmps15
  go_wp2_with fail
  refine (made_calls HA.out HOK.out hn).mono ?_
  rintro e w1 ⟨g, t, sz, nd, rfl, h⟩
  have H := Aside0.mk h
  clear h
  go_wp2_with fail
  refine (sexists q hq0 hq1 H.out.is).mono ?_
  rintro e w2 ⟨rfl, hw⟩
  subst w2
  go_wp2
  go_ret
  exact ⟨by rw [H.out.rep.has H.out.is.wf]; rfl, H.out.fr⟩
end Go.Proofs.YtebgaedalbdhaaaDoor.Av
