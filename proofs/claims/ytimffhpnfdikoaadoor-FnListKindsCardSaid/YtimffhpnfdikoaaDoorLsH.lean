/- A list's nodes: whether one is empty, a subject taken from one, one pruned. -/
import Derived.Test.YtimffhpnfdikoaaDoorLsG
import Derived.Deep.Cut
import Derived.OwnWalk
namespace Go.Proofs.YtimffhpnfdikoaaDoor.Ls
open Go.RowKit Go.Maps Go.Proofs.YtimffhpnfdikoaaDoor.Bs Go.Proofs.YtimffhpnfdikoaaDoorW.PrintWords Go.Proofs.YtimffhpnfdikoaaDoorW.PrintLast Go.Proofs.YtimffhpnfdikoaaDoorW.PrintMore
set_option linter.unusedVariables false
set_option linter.unusedSimpArgs false
section
variable {w w' : World} {B L K : Nat} {nd lv : Pm} {sub : Path → Int → Option ByteArray} {E : Path → Prop} {ex : Prop} {a c cnt : Int}
theorem kid_none {p : Path} {t : ByteArray} : kid nd p t = none ↔ nd (p ++ [t]) = none := by unfold kid; cases nd (p ++ [t]) <;> simp
theorem no_kids {p : Path} : (∀ u, nd (p ++ [u]) = none) ↔ (∀ u, kids nd p u = none) ∧ kid nd p star = none ∧ kid nd p full = none := by
  constructor
  · intro h
    refine ⟨fun u => ?_, kid_none.2 (h _), kid_none.2 (h _)⟩
    unfold kids
    rw [kid_none.2 (h u)]
    split <;> rfl
  · rintro ⟨h1, h2, h3⟩ u
    rw [← kid_none]
    by_cases hs : u = star
    · rw [hs]; exact h2
    · by_cases hf : u = full
      · rw [hf]; exact h3
      · have := h1 u
        unfold kids at this
        rw [if_neg (by rintro (e | e); exact hs e; exact hf e)] at this
        cases hk : kid nd p u with
        | none => rfl
        | some x => rw [hk] at this; cases this
def NumPost (w : World) (nd : Pm) (p : Path) (e : Ending) (w' : World) : Prop := ∃ n : Int, e = .returned (.int .i64 n) ∧ w' = w ∧ (n = 0 ↔ ∀ u, nd (p ++ [u]) = none)
set_option maxHeartbeats 2000000 in
set_option maxRecDepth 100000 in
theorem numNodes_calls (h : Tri w B K nd lv sub) {p : Path} {y : Nat × Nat} (hy : lv p = some y) (hK : K < 1000000) : Calls Tryd.prog 91 #[.pointer (some ⟨y.1, 0, none⟩)] w (NumPost w nd p) := by
  obtain ⟨-, -, hB, hM⟩ := h.lev p y hy
  have HM := Aside0.mk hM
  have c0 := hB.cell 0 rfl
  have c1 := hB.cell 1 rfl
  have c2 := hB.cell 2 rfl
  clear h hy hB hM
  go_enter Tryd.func91, Tryd.ntmps91
  go_upto_region 3 with (fail)
  go_upto_region 4 with (first | (at_len; refine wpList_mp_len rfl _ rfl rfl HM.out ?_; intro n hn hle) | fail)
  have e1 : IntKind.i64.wrap ((n : Int) + 1) = (n : Int) + 1 := by rw [IntKind.wrap_i64]; omega
  have e2 : IntKind.i64.wrap ((n : Int) + 1 + 1) = (n : Int) + 1 + 1 := by rw [IntKind.wrap_i64]; omega
  have HN := Aside0.mk hn
  clear hn
  cases hs : kid nd p star with
  | none =>
    cases hf : kid nd p full with
    | none =>
      simp only [hs, hf, ptrA] at c1 c2
      go_wp2
      go_ret
      refine ⟨_, rfl, rfl, ?_⟩
      rw [no_kids, hs, hf]
      have := HN.out
      constructor
      · intro h; exact ⟨this.1 (by omega), rfl, rfl⟩
      · intro h; have := this.2 h.1; omega
    | some z =>
      simp only [hs, hf, ptrA] at c1 c2
      go_wp2
      go_ret
      refine ⟨_, rfl, rfl, ?_⟩
      rw [no_kids, hs, hf]
      constructor
      · intro h; omega
      · intro h; cases h.2.2
  | some z1 =>
    cases hf : kid nd p full with
    | none =>
      simp only [hs, hf, ptrA] at c1 c2
      go_wp2
      go_ret
      refine ⟨_, rfl, rfl, ?_⟩
      rw [no_kids, hs, hf]
      constructor
      · intro h; omega
      · intro h; cases h.2.1
    | some z =>
      simp only [hs, hf, ptrA] at c1 c2
      go_wp2
      go_ret
      refine ⟨_, rfl, rfl, ?_⟩
      rw [no_kids, hs, hf]
      constructor
      · intro h; omega
      · intro h; cases h.2.1
def EmptyPost (w : World) (nd : Pm) (sub : Path → Int → Option ByteArray) (p : Path) (e : Ending) (w' : World) : Prop := ∃ b : Bool, e = .returned (.bool b) ∧ w' = w ∧ (b = true ↔ (∀ v, sub p v = none) ∧ ∀ u, nd (p ++ [u]) = none)
set_option maxHeartbeats 4000000 in
set_option maxRecDepth 100000 in
theorem isEmpty_calls (h : Tri w B K nd lv sub) {p : Path} {x : Nat × Nat} (hx : nd p = some x) (hK : K < 1000000) : Calls Tryd.prog 84 #[.pointer (some ⟨x.1, 0, none⟩)] w (EmptyPost w nd sub p) := by
  obtain ⟨-, -, hB, hM⟩ := h.node p x hx
  have HM := Aside0.mk hM
  have HT := Aside0.mk h
  have c0 := hB.cell 0 rfl
  have c1 := hB.cell 1 rfl
  clear h hx hB hM
  by_cases hz : ∀ v, sub p v = none
  · have HZ := Aside0.mk hz
    clear hz
    cases hl : lv p with
    | none =>
      simp only [hl, Option.map_none, ptrA] at c0
      go_enter Tryd.func84, Tryd.ntmps84
      go_upto_region 1 with (fail)
      go_wp2_with (first | (at_len; refine wpList_mp_len rfl _ rfl rfl HM.out ?_; intro n hn hle; obtain rfl : n = 0 := hn.2 HZ.out; clear hn hle) | fail)
      go_ret
      refine ⟨true, rfl, rfl, ?_⟩
      simp only [true_iff]
      refine ⟨HZ.out, fun u => ?_⟩
      cases hu : nd (p ++ [u]) with
      | none => rfl
      | some z =>
        obtain ⟨y, hy⟩ := HT.out.up p u z hu
        rw [hl] at hy
        cases hy
    | some y =>
      simp only [hl, Option.map_some, ptrA] at c0
      have HL := Aside0.mk hl
      clear hl
      go_enter Tryd.func84, Tryd.ntmps84
      go_upto_region 1 with (fail)
      go_wp2_with (first | (at_len; refine wpList_mp_len rfl _ rfl rfl HM.out ?_; intro n hn hle; obtain rfl : n = 0 := hn.2 HZ.out; clear hn hle) | fail)
      refine (numNodes_calls HT.out HL.out hK).mono ?_
      rintro e w1 ⟨n, rfl, e1, hn⟩
      subst w1
      by_cases h0 : n = 0
      · subst h0
        have HN := Aside0.mk hn
        clear hn
        go_wp2
        go_ret
        exact ⟨true, rfl, rfl, by simp only [true_iff]; exact ⟨HZ.out, HN.out.1 trivial⟩⟩
      · have HN := Aside0.mk hn
        clear hn
        have e2 : (n == 0) = false := by simpa using h0
        go_wp2
        go_ret
        refine ⟨false, rfl, rfl, ?_⟩
        simp only [Bool.false_eq_true, false_iff]
        exact fun h => h0 (HN.out.2 h.2)
  · have HZ := Aside0.mk hz
    clear hz
    go_enter Tryd.func84, Tryd.ntmps84
    go_upto_region 1 with (fail)
    go_wp2_with (first | (at_len; refine wpList_mp_len rfl _ rfl rfl HM.out ?_; intro n hn hle; have e2 : ((n : Int) == 0) = false := (by simp only [beq_eq_false_iff_ne, ne_eq]; exact fun h => HZ.out (hn.1 (by omega))); clear hn hle) | fail)
    go_ret
    refine ⟨false, rfl, rfl, ?_⟩
    simp only [Bool.false_eq_true, false_iff]
    exact fun h => HZ.out h.1
def FoundPost (w : World) (B K : Nat) (nd lv : Pm) (sub : Path → Int → Option ByteArray) (p : Path) (x : Nat × Nat) (v : Int) (e : Ending) (w' : World) : Prop := e = .returned (.bool (sub p v).isSome) ∧ Mp VS w' x.2 K (del (sub p) v) ∧ Fr (fun k => k = x.2) w w'
set_option maxHeartbeats 4000000 in
set_option maxRecDepth 100000 in
theorem fromNode_calls (h : Tri w B K nd lv sub) {p : Path} {x : Nat × Nat} (hx : nd p = some x) {v : Int} (hv : (Lit.int .i64 v).wf = true) {s : Value} : Calls Tryd.prog 83 #[s, .pointer (some ⟨x.1, 0, none⟩), .int .i64 v] w (FoundPost w B K nd lv sub p x v) := by
  obtain ⟨-, -, hB, hM⟩ := h.node p x hx
  have HM := Aside0.mk hM
  have HV := Aside0.mk hv
  have c1 := hB.cell 1 rfl
  clear h hx hB hM hv
  cases hs : sub p v with
  | none =>
    have HS := Aside0.mk hs
    clear hs
    go_enter Tryd.func83, Tryd.ntmps83
    go_upto_region 3 with (fail)
    go_upto_region 4 with (first | (at_lookup; refine wpList_mp_lookok rfl _ _ rfl rfl HM.out HV.out rfl ?_; rw [HS.out]) | fail)
    go_wp2_with fail
    go_ret
    refine ⟨by rw [HS.out]; rfl, HM.out.congr (fun z => ?_), Fr.refl _ _⟩
    unfold del
    split
    · subst_vars
      exact HS.out.symm
    · rfl
  | some b =>
    have HS := Aside0.mk hs
    clear hs
    go_enter Tryd.func83, Tryd.ntmps83
    go_upto_region 3 with (fail)
    go_upto_region 4 with (first | (at_lookup; refine wpList_mp_lookok rfl _ _ rfl rfl HM.out HV.out rfl ?_; rw [HS.out]) | fail)
    go_upto_region 6 with (first | (at_delete; refine wpList_mp_delete rfl _ _ rfl rfl HM.out HV.out rfl ?_; intro w8 hM8 hf8) | fail)
    have H8 := Aside0.mk hM8
    have HF := Aside0.mk hf8
    clear hM8 hf8
    go_wp2
    go_ret
    exact ⟨by rw [HS.out]; rfl, H8.out, HF.out⟩
theorem fromNil_calls {s : Value} {v : Int} : Calls Tryd.prog 83 #[s, .pointer none, .int .i64 v] w (fun e w' => e = .returned (.bool false) ∧ w' = w) := by
  go_enter Tryd.func83, Tryd.ntmps83
  go_wp2
  go_ret
  exact ⟨rfl, rfl⟩
end
end Go.Proofs.YtimffhpnfdikoaaDoor.Ls
