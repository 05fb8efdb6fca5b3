/- A list's small functions: a new node, a new level, a new list, the kind of an error. A list's nodes: whether one is empty, a subject taken from one, one pruned. A list's node is pruned. A put into a list: what its steps make of the whole. -/
import Derived.Test.YtimffhpnfdikoaaDoorLsF
import Derived.Deep.Cut
import Derived.OwnWalk
import Derived.LaidEqlPtr
namespace Go.Proofs.YtimffhpnfdikoaaDoor.Ls
open Go.RowKit Go.Maps Go.Proofs.YtimffhpnfdikoaaDoor.Bs Go.Proofs.YtimffhpnfdikoaaDoorW.PrintWords Go.Proofs.YtimffhpnfdikoaaDoorW.PrintLast Go.Proofs.YtimffhpnfdikoaaDoorW.PrintMore
set_option linter.unusedVariables false
set_option linter.unusedSimpArgs false
set_option maxRecDepth 100000 in
theorem newNode_calls {W : World} : Calls Tryd.prog 62 #[] W (fun en w' => en = .returned (.pointer (some ⟨W.heap.size + 1, 0, none⟩)) ∧ Blk w' (W.heap.size + 1) 95 [.pointer none, .map (some W.heap.size)] ∧ Mp VS w' W.heap.size 0 (fun _ => none) ∧ Same W w' ∧ W.heap.size + 1 < w'.heap.size) := by
  have hmm := @run_makeMap Tryd.prog
  go_enter Tryd.func62, Tryd.ntmps62
  go_wp2
  go_ret
  have h1 := Blk.new (W.alloc (.map #[] 0)) 95 [.pointer none, .map (some W.heap.size)]
  have e1 : (W.alloc (.map #[] 0)).heap.size = W.heap.size + 1 := by simp
  rw [e1] at h1
  exact ⟨rfl, h1, (Mp.made VS W).fr ((Fr.refl (fun _ => False) _).alloc _) (fun h => h), ((Fr.refl _ W).alloc _).alloc _, h1.lt⟩
set_option maxRecDepth 100000 in
theorem newLevel_calls {W : World} : Calls Tryd.prog 58 #[] W (fun en w' => en = .returned (.pointer (some ⟨W.heap.size + 1, 0, none⟩)) ∧ Blk w' (W.heap.size + 1) 85 [.map (some W.heap.size), .pointer none, .pointer none] ∧ Mp VN w' W.heap.size 0 (fun _ => none) ∧ Same W w' ∧ W.heap.size + 1 < w'.heap.size) := by
  have hmm := @run_makeMap Tryd.prog
  go_enter Tryd.func58, Tryd.ntmps58
  go_wp2
  go_ret
  have h1 := Blk.new (W.alloc (.map #[] 0)) 85 [.map (some W.heap.size), .pointer none, .pointer none]
  have e1 : (W.alloc (.map #[] 0)).heap.size = W.heap.size + 1 := by simp
  rw [e1] at h1
  exact ⟨rfl, h1, (Mp.made VN W).fr ((Fr.refl (fun _ => False) _).alloc _) (fun h => h), ((Fr.refl _ W).alloc _).alloc _, h1.lt⟩
set_option maxRecDepth 100000 in
/-- A new list: nothing lies in it. -/
theorem newList_calls {W : World} : Calls Tryd.prog 47 #[] W (fun en w' => ∃ L, en = .returned (.pointer (some ⟨L, 0, none⟩)) ∧ Li w' W.heap.size L 0 (fun _ _ => none) True 0 ∧ Same W w') := by
  go_enter Tryd.func47, Tryd.ntmps47
  go_wp2_with fail
  refine newLevel_calls.mono ?_
  rintro e w1 ⟨rfl, hL, hM, hS, hs⟩
  have hz := Aside0.mk hL
  have hm := Aside0.mk hM
  have HS := Aside0.mk hS
  have hsz := Aside0.mk hs
  clear hL hM hS hs
  go_wp2_with fail
  go_ret
  have h1 := hz.out
  have h2 := hm.out
  have h3 := HS.out
  have h4 := hsz.out
  have hb := Blk.new w1 81 (hdr 0 0 (.pointer (some ⟨W.heap.size + 1, 0, none⟩)) 0)
  have hf : Same w1 (w1.alloc (.cells (hdr 0 0 (.pointer (some ⟨W.heap.size + 1, 0, none⟩)) 0).toArray 81)) := (Fr.refl _ w1).alloc _
  refine ⟨w1.heap.size, rfl, ⟨fun _ => none, fun p => if p = [] then some (W.heap.size + 1, W.heap.size) else none, ?_⟩, h3.trans hf (fun _ _ h => h)⟩
  have k0 : ∀ p u, kid (fun _ => none) p u = none := fun _ _ => rfl
  have one : ∀ p (x : Nat × Nat), (fun p : Path => if p = [] then some (W.heap.size + 1, W.heap.size) else none) p = some x → p = [] ∧ x = (W.heap.size + 1, W.heap.size) := fun p x hx => by
    dsimp only at hx
    split at hx
    · injection hx with hx
      exact ⟨by assumption, hx.symm⟩
    · cases hx
  have s1 := hf.size
  refine ⟨by omega, Nat.le_trans (by omega : W.heap.size ≤ w1.heap.size) s1, ⟨fun p x hx => ?_, (fun p x hx => by cases hx), fun p q x y hx hy _ => (one p x hx).1.trans (one q y hy).1.symm, (fun p q x y hx => by cases hx), (fun p q x y hx hy => by cases hy), (fun p t x hx => by cases hx), fun p x hp hx => absurd (one p x hx).1 hp, rfl⟩, ⟨_, if_pos rfl, hb⟩, fun _ _ _ => rfl, (fun _ q y hq => by cases hq)⟩
  obtain ⟨rfl, rfl⟩ := one p x hx
  refine ⟨by omega, by omega, h1.fr hf (fun h => h), (h2.fr hf (fun h => h)).congr (fun u => ?_)⟩
  unfold kids
  rw [k0]
  split <;> rfl
/-- The kind of an error: nil 0, else 1. -/
inductive IsErr : Int → Value → Prop
  | nil : IsErr 0 .nilIface
  | err (t : TypeId) (a : Addr) : IsErr 1 (.iface t (.pointer (some a)))
theorem one_calls {W : World} {k : Int} {v : Value} (h : IsErr k v) : Calls Tryd.prog 48 #[v] W (fun en w' => en = .returned (.int .i64 k) ∧ w' = W) := by
  cases h with
  | nil =>
    go_enter Tryd.func48, Tryd.ntmps48
    go_wp2
    go_ret
    exact ⟨rfl, rfl⟩
  | err t a =>
    go_enter Tryd.func48, Tryd.ntmps48
    go_wp2
    go_ret
    exact ⟨rfl, rfl⟩
end Go.Proofs.YtimffhpnfdikoaaDoor.Ls
namespace Go.Proofs.YtimffhpnfdikoaaDoor.Ls
open Go.RowKit Go.Maps Go.Proofs.YtimffhpnfdikoaaDoor.Bs Go.Proofs.YtimffhpnfdikoaaDoorW.PrintWords Go.Proofs.YtimffhpnfdikoaaDoorW.PrintLast Go.Proofs.YtimffhpnfdikoaaDoorW.PrintMore
set_option linter.unusedVariables false
set_option linter.unusedSimpArgs false
section
variable {w w' : World} {B L K : Nat} {nd lv : Pm} {sub : Path → Int → Option ByteArray} {E : Path → Prop} {ex : Prop} {a c cnt : Int}
theorem kid_none {p : Path} {t : ByteArray} : kid nd p t = none ↔ nd (p ++ [t]) = none := by unfold kid; cases nd (p ++ [t]) <;> simp
theorem no_kids {p : Path} : (∀ u, nd (p ++ [u]) = none) ↔ (∀ u, kids nd p u = none) ∧ kid nd p star = none ∧ kid nd p full = none := by
  constructor
  · intro h
    refine ⟨fun u => ?_, kid_none.2 (h _), kid_none.2 (h _)⟩
    unfold kids
    rw [kid_none.2 (h u)]
    split <;> rfl
  · rintro ⟨h1, h2, h3⟩ u
    rw [← kid_none]
    by_cases hs : u = star
    · rw [hs]; exact h2
    · by_cases hf : u = full
      · rw [hf]; exact h3
      · have := h1 u
        unfold kids at this
        rw [if_neg (by rintro (e | e); exact hs e; exact hf e)] at this
        cases hk : kid nd p u with
        | none => rfl
        | some x => rw [hk] at this; cases this
def NumPost (w : World) (nd : Pm) (p : Path) (e : Ending) (w' : World) : Prop := ∃ n : Int, e = .returned (.int .i64 n) ∧ w' = w ∧ (n = 0 ↔ ∀ u, nd (p ++ [u]) = none)
set_option maxHeartbeats 2000000 in
set_option maxRecDepth 100000 in
theorem numNodes_calls (h : Tri w B K nd lv sub) {p : Path} {y : Nat × Nat} (hy : lv p = some y) (hK : K < 1000000) : Calls Tryd.prog 91 #[.pointer (some ⟨y.1, 0, none⟩)] w (NumPost w nd p) := by
  obtain ⟨-, -, hB, hM⟩ := h.lev p y hy
  have HM := Aside0.mk hM
  have c0 := hB.cell 0 rfl
  have c1 := hB.cell 1 rfl
  have c2 := hB.cell 2 rfl
  clear h hy hB hM
  go_enter Tryd.func91, Tryd.ntmps91
  go_upto_region 3 with (fail)
  go_upto_region 4 with (first | (at_len; refine wpList_mp_len rfl _ rfl rfl HM.out ?_; intro n hn hle) | fail)
  have e1 : IntKind.i64.wrap ((n : Int) + 1) = (n : Int) + 1 := by rw [IntKind.wrap_i64]; omega
  have e2 : IntKind.i64.wrap ((n : Int) + 1 + 1) = (n : Int) + 1 + 1 := by rw [IntKind.wrap_i64]; omega
  have HN := Aside0.mk hn
  clear hn
  cases hs : kid nd p star with
  | none =>
    cases hf : kid nd p full with
    | none =>
      simp only [hs, hf, ptrA] at c1 c2
      go_wp2
      go_ret
      refine ⟨_, rfl, rfl, ?_⟩
      rw [no_kids, hs, hf]
      have := HN.out
      constructor
      · intro h; exact ⟨this.1 (by omega), rfl, rfl⟩
      · intro h; have := this.2 h.1; omega
    | some z =>
      simp only [hs, hf, ptrA] at c1 c2
      go_wp2
      go_ret
      refine ⟨_, rfl, rfl, ?_⟩
      rw [no_kids, hs, hf]
      constructor
      · intro h; omega
      · intro h; cases h.2.2
  | some z1 =>
    cases hf : kid nd p full with
    | none =>
      simp only [hs, hf, ptrA] at c1 c2
      go_wp2
      go_ret
      refine ⟨_, rfl, rfl, ?_⟩
      rw [no_kids, hs, hf]
      constructor
      · intro h; omega
      · intro h; cases h.2.1
    | some z =>
      simp only [hs, hf, ptrA] at c1 c2
      go_wp2
      go_ret
      refine ⟨_, rfl, rfl, ?_⟩
      rw [no_kids, hs, hf]
      constructor
      · intro h; omega
      · intro h; cases h.2.1
def EmptyPost (w : World) (nd : Pm) (sub : Path → Int → Option ByteArray) (p : Path) (e : Ending) (w' : World) : Prop := ∃ b : Bool, e = .returned (.bool b) ∧ w' = w ∧ (b = true ↔ (∀ v, sub p v = none) ∧ ∀ u, nd (p ++ [u]) = none)
set_option maxHeartbeats 4000000 in
set_option maxRecDepth 100000 in
theorem isEmpty_calls (h : Tri w B K nd lv sub) {p : Path} {x : Nat × Nat} (hx : nd p = some x) (hK : K < 1000000) : Calls Tryd.prog 84 #[.pointer (some ⟨x.1, 0, none⟩)] w (EmptyPost w nd sub p) := by
  obtain ⟨-, -, hB, hM⟩ := h.node p x hx
  have HM := Aside0.mk hM
  have HT := Aside0.mk h
  have c0 := hB.cell 0 rfl
  have c1 := hB.cell 1 rfl
  clear h hx hB hM
  by_cases hz : ∀ v, sub p v = none
  · have HZ := Aside0.mk hz
    clear hz
    cases hl : lv p with
    | none =>
      simp only [hl, Option.map_none, ptrA] at c0
      go_enter Tryd.func84, Tryd.ntmps84
      go_upto_region 1 with (fail)
      go_wp2_with (first | (at_len; refine wpList_mp_len rfl _ rfl rfl HM.out ?_; intro n hn hle; obtain rfl : n = 0 := hn.2 HZ.out; clear hn hle) | fail)
      go_ret
      refine ⟨true, rfl, rfl, ?_⟩
      simp only [true_iff]
      refine ⟨HZ.out, fun u => ?_⟩
      cases hu : nd (p ++ [u]) with
      | none => rfl
      | some z =>
        obtain ⟨y, hy⟩ := HT.out.up p u z hu
        rw [hl] at hy
        cases hy
    | some y =>
      simp only [hl, Option.map_some, ptrA] at c0
      have HL := Aside0.mk hl
      clear hl
      go_enter Tryd.func84, Tryd.ntmps84
      go_upto_region 1 with (fail)
      go_wp2_with (first | (at_len; refine wpList_mp_len rfl _ rfl rfl HM.out ?_; intro n hn hle; obtain rfl : n = 0 := hn.2 HZ.out; clear hn hle) | fail)
      refine (numNodes_calls HT.out HL.out hK).mono ?_
      rintro e w1 ⟨n, rfl, e1, hn⟩
      subst w1
      by_cases h0 : n = 0
      · subst h0
        have HN := Aside0.mk hn
        clear hn
        go_wp2
        go_ret
        exact ⟨true, rfl, rfl, by simp only [true_iff]; exact ⟨HZ.out, HN.out.1 trivial⟩⟩
      · have HN := Aside0.mk hn
        clear hn
        have e2 : (n == 0) = false := by simpa using h0
        go_wp2
        go_ret
        refine ⟨false, rfl, rfl, ?_⟩
        simp only [Bool.false_eq_true, false_iff]
        exact fun h => h0 (HN.out.2 h.2)
  · have HZ := Aside0.mk hz
    clear hz
    go_enter Tryd.func84, Tryd.ntmps84
    go_upto_region 1 with (fail)
    go_wp2_with (first | (at_len; refine wpList_mp_len rfl _ rfl rfl HM.out ?_; intro n hn hle; have e2 : ((n : Int) == 0) = false := (by simp only [beq_eq_false_iff_ne, ne_eq]; exact fun h => HZ.out (hn.1 (by omega))); clear hn hle) | fail)
    go_ret
    refine ⟨false, rfl, rfl, ?_⟩
    simp only [Bool.false_eq_true, false_iff]
    exact fun h => HZ.out h.1
def FoundPost (w : World) (B K : Nat) (nd lv : Pm) (sub : Path → Int → Option ByteArray) (p : Path) (x : Nat × Nat) (v : Int) (e : Ending) (w' : World) : Prop := e = .returned (.bool (sub p v).isSome) ∧ Mp VS w' x.2 K (del (sub p) v) ∧ Fr (fun k => k = x.2) w w'
set_option maxHeartbeats 4000000 in
set_option maxRecDepth 100000 in
theorem fromNode_calls (h : Tri w B K nd lv sub) {p : Path} {x : Nat × Nat} (hx : nd p = some x) {v : Int} (hv : (Lit.int .i64 v).wf = true) {s : Value} : Calls Tryd.prog 83 #[s, .pointer (some ⟨x.1, 0, none⟩), .int .i64 v] w (FoundPost w B K nd lv sub p x v) := by
  obtain ⟨-, -, hB, hM⟩ := h.node p x hx
  have HM := Aside0.mk hM
  have HV := Aside0.mk hv
  have c1 := hB.cell 1 rfl
  clear h hx hB hM hv
  cases hs : sub p v with
  | none =>
    have HS := Aside0.mk hs
    clear hs
    go_enter Tryd.func83, Tryd.ntmps83
    go_upto_region 3 with (fail)
    go_upto_region 4 with (first | (at_lookup; refine wpList_mp_lookok rfl _ _ rfl rfl HM.out HV.out rfl ?_; rw [HS.out]) | fail)
    go_wp2_with fail
    go_ret
    refine ⟨by rw [HS.out]; rfl, HM.out.congr (fun z => ?_), Fr.refl _ _⟩
    unfold del
    split
    · subst_vars
      exact HS.out.symm
    · rfl
  | some b =>
    have HS := Aside0.mk hs
    clear hs
    go_enter Tryd.func83, Tryd.ntmps83
    go_upto_region 3 with (fail)
    go_upto_region 4 with (first | (at_lookup; refine wpList_mp_lookok rfl _ _ rfl rfl HM.out HV.out rfl ?_; rw [HS.out]) | fail)
    go_upto_region 6 with (first | (at_delete; refine wpList_mp_delete rfl _ _ rfl rfl HM.out HV.out rfl ?_; intro w8 hM8 hf8) | fail)
    have H8 := Aside0.mk hM8
    have HF := Aside0.mk hf8
    clear hM8 hf8
    go_wp2
    go_ret
    exact ⟨by rw [HS.out]; rfl, H8.out, HF.out⟩
theorem fromNil_calls {s : Value} {v : Int} : Calls Tryd.prog 83 #[s, .pointer none, .int .i64 v] w (fun e w' => e = .returned (.bool false) ∧ w' = w) := by
  go_enter Tryd.func83, Tryd.ntmps83
  go_wp2
  go_ret
  exact ⟨rfl, rfl⟩
end
end Go.Proofs.YtimffhpnfdikoaaDoor.Ls
namespace Go.Proofs.YtimffhpnfdikoaaDoor.Ls
open Go.RowKit Go.Maps Go.Proofs.YtimffhpnfdikoaaDoor.Bs Go.Proofs.YtimffhpnfdikoaaDoorW.PrintWords Go.Proofs.YtimffhpnfdikoaaDoorW.PrintLast Go.Proofs.YtimffhpnfdikoaaDoorW.PrintMore
set_option linter.unusedVariables false
set_option linter.unusedSimpArgs false
section
variable {w w' : World} {B L K : Nat} {nd lv : Pm} {sub : Path → Int → Option ByteArray} {E : Path → Prop} {ex : Prop} {a c cnt : Int}
theorem inf95 : (Tryd.prog.info? 95).map (fun i => i.size) = some 2 := by kernel_rfl
theorem under83 : Tryd.prog.underlying 83 = some (.pointer 95) := Tryd.underlying83
set_option maxRecDepth 100000 in
theorem eql_self (w : World) (g : Nat) : (binOp .eql 83 (.pointer (some ⟨g, 0, none⟩)) (.pointer (some ⟨g, 0, none⟩))).run Tryd.prog w = .ok (.bool true) w := by
  obtain ⟨i, hi, hc⟩ := Option.map_eq_some_iff.1 inf95
  exact run_eql_ptr_same w _ under83 hi
set_option maxRecDepth 100000 in
theorem eql_other {w : World} {g b : Nat} (hne : g ≠ b) {cs cs' : List Value} (h1 : Blk w g 95 cs) (h2 : Blk w b 95 cs') : (binOp .eql 83 (.pointer (some ⟨g, 0, none⟩)) (.pointer (some ⟨b, 0, none⟩))).run Tryd.prog w = .ok (.bool false) w := by
  obtain ⟨i, hi, hc⟩ := Option.map_eq_some_iff.1 inf95
  refine run_eql_ptr_other w (a := ⟨g, 0, none⟩) (b := ⟨b, 0, none⟩) under83 hi (by rw [hc]; decide) (fun e => ?_) h1.blk h2.blk
  injection e with e
  exact hne e
structure PrunePost (w : World) (nd : Pm) (K : Nat) (p : Path) (t : ByteArray) (x : Nat × Nat) (e : Ending) (w' : World) : Prop where
  ret : e = .returned (.tuple #[])
  lev : Blk w' x.1 85 [.map (some x.2), ptrA (kid (del nd (p ++ [t])) p star), ptrA (kid (del nd (p ++ [t])) p full)]
  map : Mp VN w' x.2 K (kids (del nd (p ++ [t])) p)
  fr : Fr (fun k => k = x.1 ∨ k = x.2) w w'
theorem star_full : star ≠ full := by decide
set_option maxRecDepth 100000 in
theorem kid_ne (h : Tri w B K nd lv sub) {p : Path} {t u : ByteArray} {y : Nat × Nat} (hy : nd (p ++ [t]) = some y) (hu : u ≠ t) {z : Nat} (hz : kid nd p u = some z) : (binOp .eql 83 (.pointer (some ⟨y.1, 0, none⟩)) (.pointer (some ⟨z, 0, none⟩))).run Tryd.prog w = .ok (.bool false) w := by
  unfold kid at hz
  cases hq : nd (p ++ [u]) with
  | none => rw [hq] at hz; cases hz
  | some q =>
    rw [hq] at hz
    injection hz with hz
    subst hz
    obtain ⟨-, -, b1, -⟩ := h.node _ _ hy
    obtain ⟨-, -, b2, -⟩ := h.node _ _ hq
    refine eql_other (fun e => ?_) b1 b2
    have := h.ninj _ _ _ _ hy hq (.inl e)
    have := List.append_inj_right' this rfl
    injection this with this
    exact hu this.symm
set_option maxHeartbeats 4000000 in
set_option maxRecDepth 100000 in
theorem prune_calls (h : Tri w B K nd lv sub) {p : Path} {t : ByteArray} {x y : Nat × Nat} (hx : lv p = some x) (hy : nd (p ++ [t]) = some y) (ht : t.size ≤ maxLen) : Calls Tryd.prog 85 #[.pointer (some ⟨x.1, 0, none⟩), .pointer (some ⟨y.1, 0, none⟩), .string t] w (PrunePost w nd K p t x) := by
  obtain ⟨-, -, hB, hM⟩ := h.lev p x hx
  have HM := Aside0.mk hM
  have HB := Aside0.mk hB
  have HT := Aside0.mk ht
  have HN : Aside0 (∀ u, u ≠ t → ∀ z, kid nd p u = some z → (binOp .eql 83 (.pointer (some ⟨y.1, 0, none⟩)) (.pointer (some ⟨z, 0, none⟩))).run Tryd.prog w = .ok (.bool false) w) := ⟨fun u hu z hz => kid_ne h hy hu hz⟩
  have hself := eql_self w y.1
  have hk : kid nd p t = some y.1 := by unfold kid; rw [hy]; rfl
  have HK := Aside0.mk hk
  have c0 := hB.cell 0 rfl
  have c1 := hB.cell 1 rfl
  have c2 := hB.cell 2 rfl
  have z1 := hB.free 1
  have z2 := hB.free 2
  have hne : x.1 ≠ x.2 := map_ne hB hM
  have HNE := Aside0.mk hne
  clear h hx hy hB hM ht hne
  by_cases hf : t = full
  · subst hf
    simp only [hk, ptrA] at c2
    clear hk
    go_enter Tryd.func85, Tryd.ntmps85
    go_wp2_with fail
    go_end0
    have hb := HB.out.set 2 (by simp) (.pointer none)
    have hf := fr_set1 (F := fun k => k = x.1 ∨ k = x.2) (o := 2) (Fr.refl _ w) (.inl rfl) (.pointer none)
    refine ⟨rfl, ?_, ?_, hf⟩
    · rw [kid_gone, kid_kept _ star_full]
      exact hb
    · exact (HM.out.fr (fr_set1 (F := fun k => k = x.1) (o := 2) (Fr.refl _ w) rfl (.pointer none)) (fun e => HNE.out e.symm)).congr (kids_unsign p (.inr rfl))
  · have hfu := HN.out full (fun e => hf e.symm)
    by_cases hs : t = star
    · subst hs
      simp only [hk, ptrA] at c1
      clear hk
      have fin : PrunePost w nd K p star x (.returned (.tuple #[])) (w.setCell ⟨x.1, 1, none⟩ (.pointer none)) := by
        have hb := HB.out.set 1 (by simp) (.pointer none)
        have hf := fr_set1 (F := fun k => k = x.1 ∨ k = x.2) (o := 1) (Fr.refl _ w) (.inl rfl) (.pointer none)
        refine ⟨rfl, ?_, ?_, hf⟩
        · rw [kid_gone, kid_kept _ (fun e => star_full e.symm)]
          exact hb
        · exact (HM.out.fr (fr_set1 (F := fun k => k = x.1) (o := 1) (Fr.refl _ w) rfl (.pointer none)) (fun e => HNE.out e.symm)).congr (kids_unsign p (.inl rfl))
      have FIN := Aside0.mk fin
      clear fin
      cases hz : kid nd p full with
      | none =>
        simp only [hz, ptrA] at c2
        clear hz hfu
        go_enter Tryd.func85, Tryd.ntmps85
        go_wp2_with fail
        go_end0
        exact FIN.out
      | some z =>
        simp only [hz, ptrA] at c2
        have hyz := hfu z hz
        clear hz hfu
        go_enter Tryd.func85, Tryd.ntmps85
        go_wp2_with fail
        go_end0
        exact FIN.out
    · have hsu := HN.out star (fun e => hs e.symm)
      have fin : ∀ w8, Mp VN w8 x.2 K (del (kids nd p) t) → Fr (fun k => k = x.2) w w8 → PrunePost w nd K p t x (.returned (.tuple #[])) w8 := fun w8 hM8 hf8 => by
        refine ⟨rfl, ?_, hM8.congr (kids_rem p hs hf), hf8.mono (fun k h => .inr h)⟩
        rw [kid_kept _ (fun e => hf e.symm), kid_kept _ (fun e => hs e.symm)]
        exact HB.out.fr hf8 HNE.out
      have FIN := Aside0.mk fin
      clear fin hk hf hs
      cases hz : kid nd p full with
      | none =>
        simp only [hz, ptrA] at c2
        clear hz hfu
        cases hq : kid nd p star with
        | none =>
          simp only [hq, ptrA] at c1
          clear hq hsu
          go_enter Tryd.func85, Tryd.ntmps85
          go_wp2_with (first | (at_delete; refine wpList_mp_delete rfl _ _ rfl rfl HM.out HT.out rfl ?_; intro w8 hM8 hf8; have HZ := Aside0.mk (And.intro hM8 hf8); clear hM8 hf8) | fail)
          go_end0
          exact FIN.out _ HZ.out.1 HZ.out.2
        | some q =>
          simp only [hq, ptrA] at c1
          have hyq := hsu q hq
          clear hq hsu
          go_enter Tryd.func85, Tryd.ntmps85
          go_wp2_with (first | (at_delete; refine wpList_mp_delete rfl _ _ rfl rfl HM.out HT.out rfl ?_; intro w8 hM8 hf8; have HZ := Aside0.mk (And.intro hM8 hf8); clear hM8 hf8) | fail)
          go_end0
          exact FIN.out _ HZ.out.1 HZ.out.2
      | some z =>
        simp only [hz, ptrA] at c2
        have hyz := hfu z hz
        clear hz hfu
        cases hq : kid nd p star with
        | none =>
          simp only [hq, ptrA] at c1
          clear hq hsu
          go_enter Tryd.func85, Tryd.ntmps85
          go_wp2_with (first | (at_delete; refine wpList_mp_delete rfl _ _ rfl rfl HM.out HT.out rfl ?_; intro w8 hM8 hf8; have HZ := Aside0.mk (And.intro hM8 hf8); clear hM8 hf8) | fail)
          go_end0
          exact FIN.out _ HZ.out.1 HZ.out.2
        | some q =>
          simp only [hq, ptrA] at c1
          have hyq := hsu q hq
          clear hq hsu
          go_enter Tryd.func85, Tryd.ntmps85
          go_wp2_with (first | (at_delete; refine wpList_mp_delete rfl _ _ rfl rfl HM.out HT.out rfl ?_; intro w8 hM8 hf8; have HZ := Aside0.mk (And.intro hM8 hf8); clear hM8 hf8) | fail)
          go_end0
          exact FIN.out _ HZ.out.1 HZ.out.2
end
end Go.Proofs.YtimffhpnfdikoaaDoor.Ls
namespace Go.Proofs.YtimffhpnfdikoaaDoor.Ls
open Go.RowKit Go.Maps Go.Proofs.YtimffhpnfdikoaaDoor.Bs Go.Proofs.YtimffhpnfdikoaaDoorW.PrintWords Go.Proofs.YtimffhpnfdikoaaDoorW.PrintLast Go.Proofs.YtimffhpnfdikoaaDoorW.PrintMore
set_option linter.unusedVariables false
set_option linter.unusedSimpArgs false
/-- Tokens that are a subject's, or a filter's. -/
def okF : Bool → List ByteArray → Bool
  | _, [] => true
  | sf, t :: r => if t.size = 0 ∨ sf = true then false else okF (decide (t = full)) r
section
variable {w w2 w3 : World} {B L K : Nat} {nd lv : Pm} {sub : Path → Int → Option ByteArray} {E : Path → Prop} {ex : Prop} {a c cnt : Int}
theorem Lx.wfLev (h : Lx w B L K sub E ex a c cnt nd lv) {p : Path} {x : Nat × Nat} (hx : lv p = some x) : WF B w x.1 ∧ WF B w x.2 := by
  obtain ⟨b1, b2, hB, hM⟩ := h.tri.lev p x hx
  exact ⟨⟨b1, Blk.wk hB (.inr (.inl rfl))⟩, ⟨b2, Mp.wk hM⟩⟩
theorem Lx.wfNode (h : Lx w B L K sub E ex a c cnt nd lv) {p : Path} {x : Nat × Nat} (hx : nd p = some x) : WF B w x.1 ∧ WF B w x.2 := by
  obtain ⟨b1, b2, hB, hM⟩ := h.tri.node p x hx
  exact ⟨⟨b1, Blk.wk hB (.inr (.inr rfl))⟩, ⟨b2, Mp.wk hM⟩⟩
theorem Lx.putMap (h : Lx w B L K sub E ex a c cnt nd lv) {p : Path} {t : ByteArray} {x y : Nat × Nat} (hx : lv p = some x) (hn : nd (p ++ [t]) = none) (h1 : w.heap.size ≤ y.1) (h2 : w.heap.size ≤ y.2) (hS : Same w w2)
    (hN : Blk w2 y.1 95 [.pointer none, .map (some y.2)]) (hM : Mp VS w2 y.2 0 (fun _ => none)) (t1 : t ≠ star) (t2 : t ≠ full) (hU : Mp VN w3 x.2 (K + 1) (upd (kids nd p) t (some y.1))) (hF : Fr (fun k => k = x.2) w2 w3) :
    Lx w3 B L (K + 1) sub (fun q => E q ∨ q = p ++ [t]) ex a c cnt (upd nd (p ++ [t]) y) lv ∧ Fr (WF B w) w w3 := by
  obtain ⟨b1, b2, hB, hMx⟩ := h.tri.lev p x hx
  have l1 := hB.lt
  have l2 := hMx.lt
  have hf : Fr (fun k => k = x.1 ∨ k = x.2) w w3 := (hS.mono (fun _ h => h.elim)).trans hF (fun k _ hk => .inr hk)
  refine ⟨h.newNode hx hn hf h1 h2 (hN.fr hF (by omega)) ((hM.fr hF (by omega)).mono (Nat.zero_le _)) ?_ (hU.congr (kids_put p y t1 t2)), fr_wf hf (fun k _ hk => ?_)⟩
  · rw [kid_other p y (fun e => t1 e.symm), kid_other p y (fun e => t2 e.symm)]
    exact (hB.fr hS (fun h => h)).fr hF (map_ne hB hMx)
  · rcases hk with rfl | rfl
    · exact (h.wfLev hx).1
    · exact (h.wfLev hx).2
theorem Lx.putSign (h : Lx w B L K sub E ex a c cnt nd lv) {p : Path} {t : ByteArray} {x y : Nat × Nat} (hx : lv p = some x) (hn : nd (p ++ [t]) = none) (h1 : w.heap.size ≤ y.1) (h2 : w.heap.size ≤ y.2) (hS : Same w w2)
    (hN : Blk w2 y.1 95 [.pointer none, .map (some y.2)]) (hM : Mp VS w2 y.2 0 (fun _ => none)) {o : Nat} (ht : (t = star ∧ o = 1) ∨ (t = full ∧ o = 2)) :
    Lx (w2.setCell ⟨x.1, o, none⟩ (.pointer (some ⟨y.1, 0, none⟩))) B L (K + 1) sub (fun q => E q ∨ q = p ++ [t]) ex a c cnt (upd nd (p ++ [t]) y) lv ∧ Fr (WF B w) w (w2.setCell ⟨x.1, o, none⟩ (.pointer (some ⟨y.1, 0, none⟩))) := by
  obtain ⟨b1, b2, hB, hMx⟩ := h.tri.lev p x hx
  have l1 := hB.lt
  have l2 := hMx.lt
  have hF : Fr (fun k => k = x.1) w2 (w2.setCell ⟨x.1, o, none⟩ (.pointer (some ⟨y.1, 0, none⟩))) := fr_set1 (F := fun k => k = x.1) (Fr.refl _ _) rfl _
  have hf : Fr (fun k => k = x.1 ∨ k = x.2) w (w2.setCell ⟨x.1, o, none⟩ (.pointer (some ⟨y.1, 0, none⟩))) := (hS.mono (fun _ h => h.elim)).trans hF (fun k _ hk => .inl hk)
  refine ⟨h.newNode hx hn hf h1 h2 (hN.fr hF (by omega)) ((hM.fr hF (by omega)).mono (Nat.zero_le _)) ?_ ((((hMx.fr hS (fun h => h)).fr hF (fun e => map_ne hB hMx e.symm)).mono (Nat.le_succ _)).congr (kids_sign p y (ht.imp And.left And.left))), fr_wf hf (fun k _ hk => ?_)⟩
  · have hb := hB.fr hS (fun h => h)
    rcases ht with ⟨rfl, rfl⟩ | ⟨rfl, rfl⟩
    · rw [kid_same, kid_other p y (fun e => star_full e.symm)]
      exact hb.set 1 (by simp) _
    · rw [kid_same, kid_other p y star_full]
      exact hb.set 2 (by simp) _
  · rcases hk with rfl | rfl
    · exact (h.wfLev hx).1
    · exact (h.wfLev hx).2
theorem Lx.putLevel (h : Lx w B L K sub E ex a c cnt nd lv) {q : Path} {x y : Nat × Nat} (hx : nd q = some x) (hn : lv q = none) (h1 : w.heap.size ≤ y.1) (h2 : w.heap.size ≤ y.2) (hS : Same w w2)
    (hL : Blk w2 y.1 85 [.map (some y.2), .pointer none, .pointer none]) (hM : Mp VN w2 y.2 0 (fun _ => none)) :
    Lx (w2.setCell ⟨x.1, 0, none⟩ (.pointer (some ⟨y.1, 0, none⟩))) B L K sub E ex a c cnt nd (upd lv q y) ∧ Fr (WF B w) w (w2.setCell ⟨x.1, 0, none⟩ (.pointer (some ⟨y.1, 0, none⟩))) := by
  obtain ⟨b1, b2, hB, hMx⟩ := h.tri.node q x hx
  have l1 := hB.lt
  have l2 := hMx.lt
  have hF : Fr (fun k => k = x.1) w2 (w2.setCell ⟨x.1, 0, none⟩ (.pointer (some ⟨y.1, 0, none⟩))) := fr_set1 (F := fun k => k = x.1) (Fr.refl _ _) rfl _
  have hf : Fr (fun k => k = x.1) w (w2.setCell ⟨x.1, 0, none⟩ (.pointer (some ⟨y.1, 0, none⟩))) := (hS.mono (fun _ h => h.elim)).trans hF (fun k _ hk => hk)
  refine ⟨h.newLevel hx hn hf h1 h2 (hL.fr hF (by omega)) ((hM.fr hF (by omega)).mono (Nat.zero_le _)) ?_, fr_wf hf (fun k _ hk => ?_)⟩
  · have := (hB.fr hS (fun h => h)).set 0 (by simp) (.pointer (some ⟨y.1, 0, none⟩))
    rw [hn] at this
    exact this
  · subst hk
    exact (h.wfNode hx).1
/-- The subject is laid down, the list counts it. -/
theorem live_put {T : Path} {v : Int} {s : ByteArray} (h : Live nd sub (fun q => q <+: T)) : Live nd (setS sub T (upd (sub T) v s)) (fun _ => False) := by
  intro q y hq
  right
  rcases h q y hq with ⟨r, e⟩ | ⟨r, v', s', e⟩
  · refine ⟨r, v, s, ?_⟩
    unfold setS
    rw [if_pos e]
    unfold upd
    rw [if_pos rfl]
  · by_cases hT : q ++ r = T
    · by_cases hv : v' = v
      · refine ⟨r, v, s, ?_⟩
        unfold setS
        rw [if_pos hT]
        unfold upd
        rw [if_pos rfl]
      · refine ⟨r, v', s', ?_⟩
        unfold setS
        rw [if_pos hT]
        unfold upd
        rw [if_neg hv, ← hT]
        exact e
    · refine ⟨r, v', s', ?_⟩
      unfold setS
      rw [if_neg hT]
      exact e
theorem pre_snoc {p q : Path} {t : ByteArray} : q <+: p ++ [t] ↔ q <+: p ∨ q = p ++ [t] := by
  constructor
  · rintro ⟨r, e⟩
    rcases List.eq_nil_or_concat r with rfl | ⟨r', u, rfl⟩
    · exact .inr (by simpa using e)
    · rw [List.concat_eq_append, ← List.append_assoc] at e
      exact .inl ⟨r', List.append_inj_left' e rfl⟩
  · rintro (h | h)
    · exact h.trans (List.prefix_append _ _)
    · rw [h]
      exact List.prefix_refl _
end
/-- A put on its way: i tokens are behind it. -/
structure InS (W1 : World) (B L K : Nat) (sub : Path → Int → Option ByteArray) (ex : Prop) (cnt : Int) (T : Path) (i : Nat) (sf : Bool) (vn : Value) (x : Nat × Nat) (nd lv : Pm) (w : World) : Prop where
  lx : Lx w B L (K + i) sub (fun q => q <+: T.take i) ex 1 low30 cnt nd lv
  lev : lv (T.take i) = some x
  node : 0 < i → ∃ y, nd (T.take i) = some y ∧ vn = .pointer (some ⟨y.1, 0, none⟩)
  ok : okF false T = okF sf (T.drop i)
  fr : Fr (WF B W1) W1 w
structure InsPost (W : World) (B L K : Nat) (sub : Path → Int → Option ByteArray) (ex : Prop) (cnt : Int) (T : Path) (s : ByteArray) (v : Int) (e : Ending) (w' : World) : Prop where
  fr : Fr (WF B W) W w'
  ok : okF false T = true → e = .returned .nilIface ∧ Li w' B L (K + T.length + 1) (setS sub T (upd (sub T) v s)) ex (IntKind.u32.wrap (cnt + 1))
  bad : okF false T = false → (∃ t0 a0, e = .returned (.iface t0 (.pointer (some a0)))) ∧ Li w' B L (K + T.length + 1) sub False cnt
section
variable {W1 w w2 w3 : World} {B L K i : Nat} {nd lv : Pm} {sub : Path → Int → Option ByteArray} {ex : Prop} {cnt : Int} {T : Path} {sf : Bool} {vn : Value} {x : Nat × Nat} {t : ByteArray}
theorem take_snoc (ht : T[i]? = some t) : T.take (i + 1) = T.take i ++ [t] := by
  obtain ⟨h, rfl⟩ := List.getElem?_eq_some_iff.1 ht
  rw [List.take_add_one, List.getElem?_eq_getElem h]
  rfl
theorem drop_cons (ht : T[i]? = some t) : T.drop i = t :: T.drop (i + 1) := by
  obtain ⟨h, rfl⟩ := List.getElem?_eq_some_iff.1 ht
  exact List.drop_eq_getElem_cons h
theorem InS.bad (h : InS W1 B L K sub ex cnt T i sf vn x nd lv w) (ht : T[i]? = some t) (hb : t.size = 0 ∨ sf = true) : okF false T = false := by
  rw [h.ok, drop_cons ht]
  unfold okF
  rw [if_pos hb]
/-- The round's end. -/
theorem InS.next (h : InS W1 B L K sub ex cnt T i sf vn x nd lv w) (ht : T[i]? = some t) (hb : ¬ (t.size = 0 ∨ sf = true)) {nd' lv' : Pm} {y z : Nat × Nat} (hX : Lx w3 B L (K + (i + 1)) sub (fun q => q <+: T.take i ∨ q = T.take i ++ [t]) ex 1 low30 cnt nd' lv') (hy : nd' (T.take i ++ [t]) = some y) (hz : lv' (T.take i ++ [t]) = some z)
    (hF : Fr (WF B W1) W1 w3) : InS W1 B L K sub ex cnt T (i + 1) (decide (t = full)) (.pointer (some ⟨y.1, 0, none⟩)) z nd' lv' w3 := by
  refine ⟨hX.congrE (fun h => ⟨h, fun q hq => ?_⟩), ?_, fun _ => ⟨y, ?_, rfl⟩, ?_, hF⟩
  · rw [take_snoc ht]
    exact pre_snoc.2 hq
  · rw [take_snoc ht]; exact hz
  · rw [take_snoc ht]; exact hy
  · rw [h.ok, drop_cons ht]
    conv => lhs; unfold okF
    rw [if_neg hb]
end
end Go.Proofs.YtimffhpnfdikoaaDoor.Ls
