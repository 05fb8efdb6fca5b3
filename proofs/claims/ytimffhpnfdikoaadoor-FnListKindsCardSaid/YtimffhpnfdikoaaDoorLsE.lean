/- A list of interest in memory: its head and its lock, and the whole. -/
import Derived.Test.YtimffhpnfdikoaaDoorLsD
import Derived.Test.YtimffhpnfdikoaaDoorLocks
import Derived.Conc.RwLoneW
namespace Go.Proofs.YtimffhpnfdikoaaDoor.Ls
open Go.RowKit Go.Maps Go.Proofs.YtimffhpnfdikoaaDoor.Bs Go.Proofs.YtimffhpnfdikoaaDoorW.PrintWords Go.Proofs.YtimffhpnfdikoaaDoorW.PrintLast Go.Proofs.YtimffhpnfdikoaaDoorW.PrintMore
set_option linter.unusedVariables false
set_option linter.unusedSimpArgs false
/-- The kinds of blocks that a list is made of. -/
def WK (w : World) (k : Nat) : Prop := (∃ es c, w.heap[k]? = some (.map es c)) ∨ ∃ cs T z, w.heap[k]? = some (.cells cs T z) ∧ (T = 81 ∨ T = 85 ∨ T = 95)
def WF (B : Nat) (w : World) (k : Nat) : Prop := B ≤ k ∧ WK w k
theorem wf_trans {B : Nat} {w w1 w2 : World} (h : Fr (WF B w) w w1) (h2 : Fr (WF B w1) w1 w2) : Fr (WF B w) w w2 := by
  refine h.trans h2 (fun k hk hf => ?_)
  by_cases hn : WF B w k
  · exact hn
  · have e := h.block k hk hn
    refine ⟨hf.1, ?_⟩
    have h3 := hf.2
    unfold WK at h3 ⊢
    rw [e] at h3
    exact h3
theorem not_wk {w : World} {k : Nat} {T : TypeId} {cs : Array Value} {z : Nat × Nat} (h : w.heap[k]? = some (.cells cs T z)) (h1 : T ≠ 81) (h2 : T ≠ 85) (h3 : T ≠ 95) : ¬ WK w k := by
  rintro (⟨es, c, e⟩ | ⟨cs', T', z', e, hT⟩)
  · rw [h] at e; cases e
  · rw [h] at e
    injection e with e
    injection e with _ e _
    subst e
    rcases hT with hT | hT | hT
    · exact h1 hT
    · exact h2 hT
    · exact h3 hT
theorem Blk.not_wk {w : World} {k : Nat} {T : TypeId} {cs : List Value} (h : Blk w k T cs) (h1 : T ≠ 81) (h2 : T ≠ 85) (h3 : T ≠ 95) : ¬ WK w k := Ls.not_wk h.blk h1 h2 h3
theorem Blk.wk {w : World} {k : Nat} {T : TypeId} {cs : List Value} (h : Blk w k T cs) (hT : T = 81 ∨ T = 85 ∨ T = 95) : WK w k := .inr ⟨_, T, _, h.blk, hT⟩
theorem Mp.wk {kt et mt : TypeId} {κ β : Type} {V : KV kt et mt κ β} {w : World} {M K : Nat} {m : κ → Option β} (h : Mp V w M K m) : WK w M := .inl h.blk
theorem fr_wf {B : Nat} {w w1 : World} {F : Nat → Prop} (h : Fr F w w1) (hF : ∀ k, k < w.heap.size → F k → WF B w k) : Fr (WF B w) w w1 := ⟨h.os, h.tape, h.output, h.size, fun k hk hn => h.block k hk (fun hf => hn (hF k hk hf))⟩
theorem same_wf {B : Nat} {w w1 : World} (h : Same w w1) : Fr (WF B w) w w1 := fr_wf h (fun _ _ h => h.elim)
theorem fr_set1 {F : Nat → Prop} {w w1 : World} (h : Fr F w w1) {b o : Nat} (hb : F b) (u : Value) : Fr F w (w1.setCell ⟨b, o, none⟩ u) := h.set (p := ⟨b, o, none⟩) (.inl hb) u
/-! ### the head -/
def hdr (a c : Int) (r : Value) (n : Int) : List Value := [.int .i32 a, .int .u32 0, .int .u32 0, .int .u32 0, .int .i32 c, .int .i32 0, r, .int .u32 n]
abbrev low30 : Int := -1073741824
def HdPost (W : World) (L : Nat) (a c : Int) (r : Value) (n : Int) (e : Ending) (w' : World) : Prop := e = .returned (.tuple #[]) ∧ Blk w' L 81 (hdr a c r n) ∧ Fr (fun k => k = L) W w'
section
variable {w : World} {L : Nat} {r : Value} {n : Int}
theorem up1 : wrap32 (0 + 1) = 1 := by kernel_rfl
theorem down1 : wrap32 (1 + -1) = 0 := by kernel_rfl
theorem lock_L (h : Blk w L 81 (hdr 0 0 r n)) : Calls Tryd.prog 59 #[.pointer (some ⟨L, 0, none⟩)] w (HdPost w L 1 low30 r n) := by
  refine (Go.RwLone.wlock_free Tryd.rwWLib L 0 (.int .u32 0) (.int .u32 0) w (h.cell 0 rfl) (h.cell 2 rfl) (h.cell 3 rfl) (h.cell 4 rfl) (h.free _) (h.free _)).mono ?_
  rintro e w' ⟨rfl, rfl⟩
  exact ⟨rfl, (h.set 0 (by simp [hdr]) _).set 4 (by simp [hdr]) _, fr_set1 (F := fun k => k = L) (fr_set1 (F := fun k => k = L) (Fr.refl _ _) rfl _) rfl _⟩
theorem unlock_L (h : Blk w L 81 (hdr 1 low30 r n)) : Calls Tryd.prog 61 #[.pointer (some ⟨L, 0, none⟩)] w (HdPost w L 0 0 r n) := by
  refine (Go.RwLone.wunlock_held Tryd.rwWLib L 0 (.int .u32 0) (.int .u32 0) w (h.cell 0 rfl) (h.cell 2 rfl) (h.cell 3 rfl) (h.cell 4 rfl) (h.free _) (h.free _)).mono ?_
  rintro e w' ⟨rfl, rfl⟩
  exact ⟨rfl, (h.set 4 (by simp [hdr]) _).set 0 (by simp [hdr]) _, fr_set1 (F := fun k => k = L) (fr_set1 (F := fun k => k = L) (Fr.refl _ _) rfl _) rfl _⟩
theorem unlock_D (h : Blk w L 81 (hdr 1 low30 r n)) (u : FrameMode) : CallsD Tryd.prog 61 #[.pointer (some ⟨L, 0, none⟩)] u w fun e u' w' => u' = u ∧ HdPost w L 0 0 r n e w' := by
  refine (Go.RwLone.wunlock_deferred Tryd.rwWLib L 0 (.int .u32 0) (.int .u32 0) u w (h.cell 0 rfl) (h.cell 2 rfl) (h.cell 3 rfl) (h.cell 4 rfl) (h.free _) (h.free _)).mono ?_
  rintro e u' w' ⟨hu, rfl, rfl⟩
  exact ⟨hu, rfl, (h.set 4 (by simp [hdr]) _).set 0 (by simp [hdr]) _, fr_set1 (F := fun k => k = L) (fr_set1 (F := fun k => k = L) (Fr.refl _ _) rfl _) rfl _⟩
theorem rlock_L (h : Blk w L 81 (hdr 0 0 r n)) : Calls Tryd.prog 51 #[.pointer (some ⟨L, 0, none⟩)] w (HdPost w L 0 1 r n) := by
  refine (Go.RwLone.rlock_open Tryd.rwRLib L 0 0 (.int .i32 0) (.int .u32 0) w (h.cell 0 rfl) (h.cell 3 rfl) (h.cell 4 rfl) (h.free _) (by rw [up1]; decide)).mono ?_
  rintro e w' ⟨rfl, rfl⟩
  rw [up1]
  exact ⟨rfl, h.set 4 (by simp [hdr]) _, fr_set1 (F := fun k => k = L) (Fr.refl _ _) rfl _⟩
theorem runlock_D (h : Blk w L 81 (hdr 0 1 r n)) (u : FrameMode) : CallsD Tryd.prog 52 #[.pointer (some ⟨L, 0, none⟩)] u w fun e u' w' => u' = u ∧ HdPost w L 0 0 r n e w' := by
  refine (Go.RwLone.runlock_deferred Tryd.rwRLib L 0 1 (.int .i32 0) (.int .u32 0) u w (h.cell 0 rfl) (h.cell 2 rfl) (h.cell 4 rfl) (h.free _) (by rw [down1]; decide)).mono ?_
  rintro e u' w' ⟨hu, rfl, rfl⟩
  rw [down1]
  exact ⟨hu, rfl, h.set 4 (by simp [hdr]) _, fr_set1 (F := fun k => k = L) (Fr.refl _ _) rfl _⟩
end
/-! ### the whole -/
def Live (nd : Pm) (sub : Path → Int → Option ByteArray) (E : Path → Prop) : Prop := ∀ q y, nd q = some y → E q ∨ ∃ r v s, sub (q ++ r) v = some s
structure Lx (w : World) (B L K : Nat) (sub : Path → Int → Option ByteArray) (E : Path → Prop) (ex : Prop) (a c cnt : Int) (nd lv : Pm) : Prop where
  base : B ≤ L
  size : B ≤ w.heap.size
  tri : Tri w B K nd lv sub
  head : ∃ x, lv [] = some x ∧ Blk w L 81 (hdr a c (.pointer (some ⟨x.1, 0, none⟩)) cnt)
  out : ∀ p, nd p = none → ∀ v, sub p v = none
  live : ex → Live nd sub E
section
variable {w w' : World} {B L K : Nat} {sub : Path → Int → Option ByteArray} {E : Path → Prop} {ex : Prop} {a c cnt : Int} {nd lv : Pm}
theorem Tri.head (h : Tri w B K nd lv sub) {cs0 : List Value} (hh : Blk w L 81 cs0) (hf : Fr (fun k => k = L) w w') : Tri w' B K nd lv sub := by
  refine ⟨fun p x hp => ?_, fun p x hp => ?_, h.linj, h.ninj, h.cross, h.up, h.lvnd, h.nonil⟩
  · obtain ⟨h1, h2, h3, h4⟩ := h.lev p x hp
    exact ⟨h1, h2, h3.fr hf (blk_ne h3 hh (by decide)), h4.fr hf (fun e => map_ne hh h4 e.symm)⟩
  · obtain ⟨h1, h2, h3, h4⟩ := h.node p x hp
    exact ⟨h1, h2, h3.fr hf (blk_ne h3 hh (by decide)), h4.fr hf (fun e => map_ne hh h4 e.symm)⟩
theorem Tri.far {F : Nat → Prop} (h : Tri w B K nd lv sub) (hf : Fr F w w') (hF : ∀ k, WF B w k → ¬ F k) : Tri w' B K nd lv sub := by
  refine ⟨fun p x hp => ?_, fun p x hp => ?_, h.linj, h.ninj, h.cross, h.up, h.lvnd, h.nonil⟩
  · obtain ⟨h1, h2, h3, h4⟩ := h.lev p x hp
    exact ⟨h1, h2, h3.fr hf (hF _ ⟨h1, Blk.wk h3 (.inr (.inl rfl))⟩), h4.fr hf (hF _ ⟨h2, Mp.wk h4⟩)⟩
  · obtain ⟨h1, h2, h3, h4⟩ := h.node p x hp
    exact ⟨h1, h2, h3.fr hf (hF _ ⟨h1, Blk.wk h3 (.inr (.inr rfl))⟩), h4.fr hf (hF _ ⟨h2, Mp.wk h4⟩)⟩
theorem Lx.turn (h : Lx w B L K sub E ex a c cnt nd lv) {a' c' cnt' : Int} (hd : ∀ x : Nat × Nat, lv [] = some x → Blk w' L 81 (hdr a' c' (.pointer (some ⟨x.1, 0, none⟩)) cnt')) (hf : Fr (fun k => k = L) w w') : Lx w' B L K sub E ex a' c' cnt' nd lv := by
  obtain ⟨x, hx, hh⟩ := h.head
  have := h.size
  have := hf.size
  exact ⟨h.base, by omega, h.tri.head hh hf, ⟨x, hx, hd x hx⟩, h.out, h.live⟩
theorem Lx.fr {F : Nat → Prop} (h : Lx w B L K sub E ex a c cnt nd lv) (hf : Fr F w w') (hF : ∀ k, WF B w k → ¬ F k) : Lx w' B L K sub E ex a c cnt nd lv := by
  obtain ⟨x, hx, hh⟩ := h.head
  have := h.size
  have := hf.size
  exact ⟨h.base, by omega, h.tri.far hf hF, ⟨x, hx, hh.fr hf (hF _ ⟨h.base, Blk.wk hh (.inl rfl)⟩)⟩, h.out, h.live⟩
theorem Lx.wfL (h : Lx w B L K sub E ex a c cnt nd lv) : WF B w L := by
  obtain ⟨x, hx, hh⟩ := h.head
  exact ⟨h.base, Blk.wk hh (.inl rfl)⟩
theorem Lx.frL (h : Lx w B L K sub E ex a c cnt nd lv) (hf : Fr (fun k => k = L) w w') : Fr (WF B w) w w' := fr_wf hf (fun k _ hk => by subst hk; exact h.wfL)
end
/-- A list at rest. -/
def Li (w : World) (B L K : Nat) (sub : Path → Int → Option ByteArray) (ex : Prop) (cnt : Int) : Prop := ∃ nd lv, Lx w B L K sub (fun _ => False) ex 0 0 cnt nd lv
theorem Li.fr {w w' : World} {B L K : Nat} {sub : Path → Int → Option ByteArray} {ex : Prop} {cnt : Int} {F : Nat → Prop} (h : Li w B L K sub ex cnt) (hf : Fr F w w') (hF : ∀ k, WF B w k → ¬ F k) : Li w' B L K sub ex cnt := by
  obtain ⟨nd, lv, h⟩ := h
  exact ⟨nd, lv, h.fr hf hF⟩
end Go.Proofs.YtimffhpnfdikoaaDoor.Ls
