/- A wheel's Update, Count, GetNextExpiration; impl.one. -/
import Derived.Test.YtlbpbbfhfgacaaaDoorWhD
namespace Go.Proofs.YtlbpbbfhfgacaaaDoor.Wh
open Go.RowKit Go.Maps Go.Proofs.YtlbpbbfhfgacaaaDoor.Bs Go.Proofs.YtlbpbbfhfgacaaaDoorW.PrintWords Go.Proofs.YtlbpbbfhfgacaaaDoorW.PrintLast Go.Proofs.YtlbpbbfhfgacaaaDoorW.PrintMore
set_option linter.unusedVariables false
set_option linter.unusedSimpArgs false
inductive UpdRes (W : World) (B hw K : Nat) (f : Fm) (s e n cnt : Int) : Value → World → Prop
  | found {w' : World} : f s = some e → Wheel w' B hw (K + 1) (upd f s n) (IntKind.u64.wrap (IntKind.u64.wrap (cnt - 1) + 1)) False → Fr (WF B W) W w' → UpdRes W B hw K f s e n cnt .nilIface w'
  | lacks (t : TypeId) (a : Addr) : f s = none → UpdRes W B hw K f s e n cnt (.iface t (.pointer (some a))) W
def UpdPost (W : World) (B hw K : Nat) (f : Fm) (s e n cnt : Int) (en : Ending) (w' : World) : Prop := ∃ v, en = .returned v ∧ UpdRes W B hw K f s e n cnt v w'
set_option maxHeartbeats 4000000 in
set_option maxRecDepth 100000 in
theorem update_calls {W : World} {B hw K : Nat} {f : Fm} {cnt s e n : Int} {ex : Prop} (h : Wheel W B hw K f cnt ex) (hs : U64 s) (he0 : 0 ≤ e) (he1 : e < 2 ^ 62) (hn0 : 0 ≤ n) (hn1 : n < 2 ^ 62) (hf : ∀ c, f s = some c → c = e) (hg : Gl W) (hK : K < 100000) (hB : B ≤ W.heap.size) :
    Calls Tryd.prog 25 #[.pointer (some ⟨hw, 0, none⟩), .int .u64 s, .int .i64 e, .int .i64 n] W (UpdPost W B hw K f s e n cnt) := by
  have P1 : Aside0 (Calls Tryd.prog 24 #[.pointer (some ⟨hw, 0, none⟩), .int .u64 s, .int .i64 e] W (RemPost W B hw K f s e cnt)) := ⟨remove_calls h hs he0 he1 hf hg⟩
  have HB := Aside0.mk hB
  clear h hf hg hB
  go_enter Tryd.func25, Tryd.ntmps25
  go_wp2_with fail
  refine P1.out.mono ?_
  rintro en w1 ⟨v, rfl, hv⟩
  cases hv with
  | lacks t a hno =>
    go_wp2
    go_ret
    exact ⟨_, rfl, .lacks t a hno⟩
  | found h1 h2 h3 =>
    have P2 : Aside0 (Calls Tryd.prog 23 #[.pointer (some ⟨hw, 0, none⟩), .int .u64 s, .int .i64 n] w1 (AddPost w1 B hw K (del f s) s n (IntKind.u64.wrap (cnt - 1)) False)) :=
      ⟨add_calls h2 hs hn0 hn1 (by simp [del]) hK (by have := HB.out; have := h3.size; omega)⟩
    have H1 := Aside0.mk h1
    have H3 := Aside0.mk h3
    clear h1 h2 h3
    go_wp2_with fail
    refine P2.out.mono ?_
    rintro en w2 ⟨rfl, h4, h5⟩
    go_wp2
    go_ret
    refine ⟨_, rfl, .found H1.out ?_ (wf_trans H3.out h5)⟩
    have : upd (del f s) s n = upd f s n := by
      funext z
      unfold upd del
      split <;> rfl
    rw [this] at h4
    exact h4
def CountPost (W : World) (c : Int) (en : Ending) (w' : World) : Prop := en = .returned (.int .u64 c) ∧ w' = W
set_option maxRecDepth 100000 in
theorem count_calls {W : World} {B hw K : Nat} {f : Fm} {cnt : Int} {ex : Prop} (h : Wheel W B hw K f cnt ex) : Calls Tryd.prog 16 #[.pointer (some ⟨hw, 0, none⟩)] W (CountPost W cnt) := by
  obtain ⟨A, sl, low, lo, hW, hE⟩ := h.ex
  have c2 := hW.hd.cell 2 rfl
  clear h hW hE
  go_enter Tryd.func16, Tryd.ntmps16
  go_wp2
  go_ret
  exact ⟨rfl, rfl⟩
/-- The least time below a bound. -/
def NextIs (f : Fm) (before r : Int) : Prop := (r = maxI ∧ ∀ s e, f s = some e → before ≤ e) ∨ (r < before ∧ (∃ s, f s = some r) ∧ ∀ s e, f s = some e → r ≤ e)
def NextPost (W : World) (f : Fm) (before : Int) (en : Ending) (w' : World) : Prop := ∃ r, en = .returned (.int .i64 r) ∧ NextIs f before r ∧ w' = W
set_option maxRecDepth 100000 in
theorem next_calls {W : World} {B hw K : Nat} {f : Fm} {cnt before : Int} (h : Wheel W B hw K f cnt True) (hb : before < 2 ^ 62) : Calls Tryd.prog 21 #[.pointer (some ⟨hw, 0, none⟩), .int .i64 before] W (NextPost W f before) := by
  obtain ⟨A, sl, low, lo, hW, hE⟩ := h.ex
  have HW := Aside0.mk hW
  have HE := Aside0.mk (hE trivial)
  have c1 := hW.hd.cell 1 rfl
  clear h hW hE
  go_enter Tryd.func21, Tryd.ntmps21
  by_cases hl : lo < before
  · have hl1 : decide (lo < before) = true := decide_eq_true hl
    go_wp2
    go_ret
    refine ⟨lo, rfl, .inr ⟨hl, ?_, fun s e he => HW.out.lo he⟩, rfl⟩
    rcases HE.out.hi with h | ⟨h, _⟩
    · exact h
    · have : maxI = 9223372036854775807 := rfl
      omega
  · have hl1 : decide (lo < before) = false := decide_eq_false hl
    go_wp2
    go_ret
    exact ⟨maxI, rfl, .inl ⟨rfl, fun s e he => Int.le_trans (by omega) (HW.out.lo he)⟩, rfl⟩
def OnePost (W : World) (en : Ending) (w' : World) : Prop := ∃ k, en = .returned (.int .i64 k) ∧ w' = W
set_option maxRecDepth 100000 in
theorem one_nil {W : World} : Calls Tryd.prog 22 #[.nilIface] W (OnePost W) := by
  go_enter Tryd.func22, Tryd.ntmps22
  go_wp2
  go_ret
  exact ⟨_, rfl, rfl⟩
set_option maxRecDepth 100000 in
theorem one_err {W : World} (t : TypeId) (a : Addr) : Calls Tryd.prog 22 #[.iface t (.pointer (some a))] W (OnePost W) := by
  go_enter Tryd.func22, Tryd.ntmps22
  go_wp2
  go_ret
  exact ⟨_, rfl, rfl⟩
end Go.Proofs.YtlbpbbfhfgacaaaDoor.Wh
