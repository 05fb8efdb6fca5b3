/- A wheel's Remove, Update, Count, GetNextExpiration. -/
import Derived.Test.YtlbpbbfhfgacaaaDoorWhC
namespace Go.Proofs.YtlbpbbfhfgacaaaDoor.Wh
open Go.RowKit Go.Maps Go.Proofs.YtlbpbbfhfgacaaaDoor.Bs Go.Proofs.YtlbpbbfhfgacaaaDoorW.PrintWords Go.Proofs.YtlbpbbfhfgacaaaDoorW.PrintLast Go.Proofs.YtlbpbbfhfgacaaaDoorW.PrintMore
set_option linter.unusedVariables false
set_option linter.unusedSimpArgs false
section
variable {w w' w1 w2 : World} {B A K hw : Nat} {sl : Nat → Option (Nat × Nat)} {low : Nat → Int} {f : Fm}
theorem Slots.apart {cs0 : List Value} (h : Slots w B A K sl low f) (hh : Blk w hw 54 cs0) {p : Nat} (hp : p < 4096) {x : Nat × Nat} (hx : sl p = some x) : A ≠ x.1 ∧ A ≠ x.2 ∧ A ≠ hw ∧ hw ≠ x.1 ∧ hw ≠ x.2 ∧ x.1 ≠ x.2 := by
  obtain ⟨-, -, hS, hM⟩ := h.slot _ x hp hx
  obtain ⟨cs, hb, _⟩ := h.arr
  exact ⟨blk_ne hb hS (by decide), map_ne hb hM, blk_ne hb hh (by decide), blk_ne hh hS (by decide), map_ne hh hM, map_ne hS hM⟩
theorem Slots.remap {cs0 : List Value} {F : Nat → Prop} (h : Slots w B A K sl low f) (hh : Blk w hw 54 cs0) {p : Nat} (hp : p < 4096) {x : Nat × Nat} (hx : sl p = some x) {f' : Fm} {l : Int} (hq : ∀ q, q ≠ p → ∀ s, part f' q s = part f q s)
    (hM : Mp w1 x.2 K (part f' p)) (hF : Fr F w w1) (hFk : ∀ k, F k → (k = x.2 ∨ k = x.1 ∨ k = hw) ∨ ¬ WK w k) (hS : Blk w1 x.1 67 [.map (some x.2), .int .i64 l]) (hl : ∀ s e, f' s = some e → pos e = p → l ≤ e ∧ 0 ≤ e ∧ e < 2 ^ 62) :
    Slots w1 B A K (setAt sl p (some x)) (setAt low p l) f' := by
  obtain ⟨b1, b2, hS0, hM0⟩ := h.slot _ x hp hx
  obtain ⟨a1, a2, a3, -⟩ := h.apart hh hp hx
  refine h.turn hh hp (some x) l f' (Nat.le_refl _) hF (fun k hk => ?_) hq ?_ (fun y hy => ?_) (fun h => by cases h) (fun z c hz hpc => (hl z c hz hpc).1) (fun z c hz hpc => (hl z c hz hpc).2)
  · rcases hFk k hk with (hk | hk | hk) | hk
    · exact .inr (.inr (.inl ⟨x, hx, .inr hk⟩))
    · exact .inr (.inr (.inl ⟨x, hx, .inl hk⟩))
    · exact .inr (.inl hk)
    · exact .inr (.inr (.inr hk))
  · obtain ⟨cs, hb, hl, hc⟩ := h.arr
    refine ⟨cs, hb.fr hF (fun h => by
      rcases hFk _ h with (h | h | h) | h
      · exact a2 h
      · exact a1 h
      · exact a3 h
      · exact h (.inr ⟨_, _, _, hb.blk, .inr (.inl rfl)⟩)), hl, fun q hq => ?_⟩
    rw [hc q hq]
    unfold setAt
    split
    · subst_vars
      rw [hx]
    · rfl
  · injection hy with hy
    subst hy
    exact ⟨b1, b2, hS, hM, .inl hx⟩
theorem Slots.niled {cs0 : List Value} {F : Nat → Prop} (h : Slots w B A K sl low f) (hh : Blk w hw 54 cs0) {p : Nat} (hp : p < 4096) {x : Nat × Nat} (hx : sl p = some x) {f' : Fm} (l : Int) (hq : ∀ q, q ≠ p → ∀ s, part f' q s = part f q s)
    (he : ∀ s, part f' p s = none) (hF : Fr F w w1) (hFk : ∀ k, F k → (k = x.2 ∨ k = x.1 ∨ k = hw) ∨ ¬ WK w k) : Slots (w1.setCell ⟨A, p, none⟩ (.pointer none)) B A K (setAt sl p none) (setAt low p l) f' := by
  obtain ⟨a1, a2, a3, -⟩ := h.apart hh hp hx
  have hA : WK w A := by
    obtain ⟨cs, hb, _⟩ := h.arr
    exact .inr ⟨_, _, _, hb.blk, .inr (.inl rfl)⟩
  have hF2 : Fr (fun k => k = A ∨ F k) w (w1.setCell ⟨A, p, none⟩ (.pointer none)) := fr_set1 (F := fun k => k = A ∨ F k) (hF.mono (fun _ h => .inr h)) (.inl rfl) _
  refine h.turn hh hp none l f' (Nat.le_refl _) hF2 (fun k hk => ?_) hq (h.put hp (hF.mono (fun k hk e => ?_)) none) (fun y hy => by cases hy) (fun _ => he) (fun z c hz hpc => ?_) (fun z c hz hpc => ?_)
  · rcases hk with hk | hk
    · exact .inl hk
    · rcases hFk k hk with (hk | hk | hk) | hk
      · exact .inr (.inr (.inl ⟨x, hx, .inr hk⟩))
      · exact .inr (.inr (.inl ⟨x, hx, .inl hk⟩))
      · exact .inr (.inl hk)
      · exact .inr (.inr (.inr hk))
  · subst e
    rcases hFk _ hk with (hk | hk | hk) | hk
    · exact a2 hk
    · exact a1 hk
    · exact a3 hk
    · exact hk hA
  · exact absurd hpc (part_none.1 (he z) c hz)
  · exact absurd hpc (part_none.1 (he z) c hz)
theorem part_del (s : Int) (p : Nat) : ∀ x, part (del f s) p x = del (part f p) s x := by
  intro x
  unfold part del
  by_cases hx : x = s
  · simp [hx]
  · simp [hx]
theorem part_del_ne {s e : Int} (hf : f s = some e) {q : Nat} (hq : q ≠ pos e) : ∀ x, part (del f s) q x = part f q x := by
  intro x
  rw [part_del]
  unfold del
  by_cases hx : x = s
  · subst hx
    rw [if_pos rfl]
    exact (part_none.2 (fun c hc => by rw [hf] at hc; injection hc with hc; subst hc; exact fun h => hq h.symm)).symm
  · rw [if_neg hx]
end
/-- The error that the package lays. -/
def Gl (w : World) : Prop := ∃ t a, w.cell? ⟨0, 0, none⟩ = some (.iface t (.pointer (some a)))
theorem Gl.fr {F : Nat → Prop} {w w' : World} (h : Gl w) (hf : Fr F w w') (h0 : ¬ F 0) : Gl w' := by
  obtain ⟨t, a, hc⟩ := h
  exact ⟨t, a, (World.cell?_of_block (hf.block 0 (World.block_lt_of_cell? w _ hc) h0)).trans hc⟩
inductive RemRes (W : World) (B hw K : Nat) (f : Fm) (s e cnt : Int) : Value → World → Prop
  | found {w' : World} : f s = some e → Wheel w' B hw K (del f s) (IntKind.u64.wrap (cnt - 1)) False → Fr (WF B W) W w' → RemRes W B hw K f s e cnt .nilIface w'
  | lacks (t : TypeId) (a : Addr) : f s = none → RemRes W B hw K f s e cnt (.iface t (.pointer (some a))) W
def RemPost (W : World) (B hw K : Nat) (f : Fm) (s e cnt : Int) (en : Ending) (w' : World) : Prop := ∃ v, en = .returned v ∧ RemRes W B hw K f s e cnt v w'
set_option maxHeartbeats 4000000 in
set_option maxRecDepth 100000 in
theorem remove_calls {W : World} {B hw K : Nat} {f : Fm} {cnt s e : Int} {ex : Prop} (h : Wheel W B hw K f cnt ex) (hs : U64 s) (he0 : 0 ≤ e) (he1 : e < 2 ^ 62) (hf : ∀ c, f s = some c → c = e) (hg : Gl W) :
    Calls Tryd.prog 24 #[.pointer (some ⟨hw, 0, none⟩), .int .u64 s, .int .i64 e] W (RemPost W B hw K f s e cnt) := by
  obtain ⟨A, sl, low, lo, hW, hE⟩ := h.ex
  have HW := Aside0.mk hW
  have HF := Aside0.mk hf
  clear h hW hE hf
  obtain ⟨p, hp⟩ : ∃ p, pos e = p := ⟨_, rfl⟩
  have hp4 : p < 4096 := by rw [← hp]; exact pos_lt e
  have HP := Aside0.mk hp
  have i0 : 0 ≤ (p : Int) := by omega
  have i1 : (p : Int) < 4096 := by omega
  have ii : p < 4096 := hp4
  have P1 : Aside0 (∀ Q v, Calls Tryd.prog 28 #[v, .int .i64 e] Q (PosPost Q e)) := ⟨fun Q v => position_calls he0 he1⟩
  have c0 := HW.out.hd.cell 0 rfl
  have c2 := HW.out.hd.cell 2 rfl
  have ca := HW.out.slots.ptr hp4
  obtain ⟨gt, ga, gc⟩ := hg
  clear hp
  go_enter Tryd.func24, Tryd.ntmps24
  go_wp2_with fail
  refine (P1.out _ _).mono ?_
  rintro en w1 ⟨rfl, e1⟩
  subst w1
  rw [HP.out]
  cases hx : sl p with
  | none =>
    simp only [hx, ptrV] at ca
    go_wp2
    go_ret
    refine ⟨_, rfl, .lacks gt ga ?_⟩
    cases hfs : f s with
    | none => rfl
    | some c =>
      obtain ⟨y, hy⟩ := HW.out.slots.seat hfs
      rw [HF.out c hfs, HP.out, hx] at hy
      cases hy
  | some x =>
    simp only [hx, ptrV] at ca
    obtain ⟨b1, b2, hS, hM⟩ := HW.out.slots.slot p x hp4 hx
    have HS := Aside0.mk hS
    have HM := Aside0.mk hM
    have HX := Aside0.mk hx
    have d0 := hS.cell 0 rfl
    clear hS hM b1 b2 hx
    cases hfs : f s with
    | none =>
      have HPN : Aside0 ((part f p s).isSome = false) := ⟨by
        have : part f p s = none := part_none.2 (fun e he => by rw [hfs] at he; cases he)
        rw [this]
        rfl⟩
      go_upto_region 6 with (first | (at_lookup; refine wpList_mp_lookup rfl _ _ rfl rfl HM.out hs rfl ?_; intro c hc; rw [HPN.out]) | fail)
      go_wp2
      go_ret
      exact ⟨_, rfl, .lacks gt ga hfs⟩
    | some c =>
      obtain rfl := HF.out c hfs
      have HPN : Aside0 ((part f p s).isSome = true) := ⟨by
        rw [part_some.2 ⟨hfs, HP.out⟩]
        rfl⟩
      go_upto_region 6 with (first | (at_lookup; refine wpList_mp_lookup rfl _ _ rfl rfl HM.out hs rfl ?_; intro c2 hc2; rw [HPN.out]) | fail)
      have HFS := Aside0.mk hfs
      clear hfs
      go_upto_region 9 with (first | (at_delete; refine wpList_mp_delete rfl _ _ rfl rfl HM.out hs rfl ?_; intro w8 hM8 hf8) | fail)
      have HM8 := Aside0.mk hM8
      have HF8 := Aside0.mk hf8
      have HH8 := Aside0.mk (HW.out.hd.fr hf8 (fun e => map_ne HW.out.hd HM.out e))
      have HS8 := Aside0.mk (HS.out.fr hf8 (fun e => map_ne HS.out HM.out e))
      replace c2 := HH8.out.cell 2 rfl
      have f2 := HH8.out.free 2
      clear c0 ca d0 hM8 hf8 gc
      go_upto_region 10 with (fail)
      have g1 := Aside0.mk (fr_set1 (F := fun k => k = hw) (o := 2) (Fr.refl _ w8) rfl (.int .u64 (IntKind.u64.wrap (cnt - 1))))
      have g2 : Aside0 (Blk (w8.setCell ⟨hw, 2, none⟩ (.int .u64 (IntKind.u64.wrap (cnt - 1)))) hw 54 (hdCells A lo (IntKind.u64.wrap (cnt - 1)))) := ⟨HH8.out.set 2 (by simp [hdCells]) _⟩
      generalize w8.setCell ⟨hw, 2, none⟩ (.int .u64 (IntKind.u64.wrap (cnt - 1))) = w9 at g1 g2 ⊢
      have HM9 := Aside0.mk (HM8.out.fr g1.out (fun e => map_ne HH8.out HM8.out e.symm))
      have HS9 := Aside0.mk (HS8.out.fr g1.out (fun e => blk_ne HS8.out HH8.out (by decide) e))
      have HFR : Aside0 (Fr (fun k => k = x.2 ∨ k = x.1 ∨ k = hw) W w9) := ⟨(HF8.out.mono (fun _ h => .inl h)).trans g1.out (fun _ _ h => .inr (.inr h))⟩
      have HWF : Aside0 (∀ k, (k = x.2 ∨ k = x.1 ∨ k = hw) → WF B W k) := ⟨fun k hk => by
        obtain ⟨b1, b2, hS, hM⟩ := HW.out.slots.slot p x hp4 HX.out
        rcases hk with hk | hk | hk
        · subst hk
          exact ⟨b2, .inl hM.blk⟩
        · subst hk
          exact ⟨b1, .inr ⟨_, _, _, hS.blk, .inr (.inr rfl)⟩⟩
        · subst hk
          exact ⟨HW.out.bh, .inr ⟨_, _, _, HW.out.hd.blk, .inl rfl⟩⟩⟩
      have HQ : Aside0 (∀ q, q ≠ p → ∀ z, part (del f s) q z = part f q z) := ⟨fun q hq => part_del_ne HFS.out (by rw [HP.out]; exact hq)⟩
      have HAC : Aside0 (w9.cell? ⟨A, p, none⟩ = some (.pointer (some ⟨x.1, 0, none⟩)) ∧ w9.frozen? ⟨A, p, none⟩ = false) := ⟨by
        obtain ⟨a1, a2, a3, -⟩ := HW.out.slots.apart HW.out.hd hp4 HX.out
        have hn : ¬ (A = x.2 ∨ A = x.1 ∨ A = hw) := fun h => by
          rcases h with h | h | h
          · exact a2 h
          · exact a1 h
          · exact a3 h
        obtain ⟨cs, hb, hl, hc⟩ := HW.out.slots.arr
        have hb9 := hb.fr HFR.out hn
        refine ⟨hb9.cell p ?_, hb9.free p⟩
        rw [hc p hp4, HX.out]
        rfl⟩
      have d0 := HS9.out.cell 0 rfl
      have c0 := g2.out.cell 0 rfl
      obtain ⟨ca, fa⟩ := HAC.out
      clear c2 f2 HAC
      go_upto_if 53 with (first | (at_len; refine wpList_mp_len rfl _ rfl rfl HM9.out ?_; intro n hn hnK) | fail)
      have HNN := Aside0.mk hn
      clear hn
      have HQF : ∀ {w' : World} {sl' : Nat → Option (Nat × Nat)}, Slots w' B A K sl' (setAt low p (low p)) (del f s) → Blk w' hw 54 (hdCells A lo (IntKind.u64.wrap (cnt - 1))) → Fr (WF B W) W w' → (∀ q y, q < 4096 → sl' q = some y → ∃ z, sl q = some z) → RemRes W B hw K f s c cnt .nilIface w' := fun {w' sl'} h1 h2 h3 h4 => by
        refine .found HFS.out ⟨A, sl', _, lo, ⟨HW.out.bh, h2, h1, fun q y hq hy => ?_, HW.out.lom⟩, fun h => h.elim⟩ h3
        obtain ⟨z, hz⟩ := h4 q y hq hy
        have := HW.out.lolow q z hq hz
        unfold setAt
        split
        · subst_vars
          exact this
        · exact this
      have HQF := Aside0.mk @HQF
      have hsz0 : (n : Int) = 0 ∨ (n : Int) ≠ 0 := by omega
      rcases hsz0 with hn0 | hn0
      · have b0 : ((n : Int) == 0) = true := by simpa using hn0
        rw [b0]
        go_wp2
        go_ret
        have hem : ∀ z, part (del f s) p z = none := fun z => by
          rw [part_del]
          exact HNN.out.1 (by omega) z
        have r1 := HW.out.slots.niled HW.out.hd hp4 HX.out (low p) HQ.out hem HFR.out (fun _ h => .inl h)
        refine ⟨_, rfl, HQF.out r1 (g2.out.far (p := ⟨A, p, none⟩) (fun h => ?_) _) (fr_set1 (F := WF B W) (HFR.out.mono HWF.out) ?_ _) (fun q y hq hy => ?_)⟩
        · exact (HW.out.slots.apart HW.out.hd hp4 HX.out).2.2.1 h.symm
        · obtain ⟨cs, hb, _⟩ := HW.out.slots.arr
          exact ⟨HW.out.slots.base, .inr ⟨_, _, _, hb.blk, .inr (.inl rfl)⟩⟩
        · unfold setAt at hy
          split at hy
          · cases hy
          · exact ⟨y, hy⟩
      · have b0 : ((n : Int) == 0) = false := by simpa using hn0
        rw [b0]
        go_wp2
        go_ret
        have r1 := HW.out.slots.remap HW.out.hd hp4 HX.out (f' := del f s) (l := low p) HQ.out (HM9.out.congr (part_del s p)) HFR.out (fun _ h => .inl h) HS9.out (fun z c hz hpc => by
          have hz' : f z = some c := by
            unfold del at hz
            split at hz
            · cases hz
            · exact hz
          have h1 := HW.out.slots.low z c hz'
          rw [hpc] at h1
          exact ⟨h1, HW.out.slots.rng z c hz'⟩)
        refine ⟨_, rfl, HQF.out r1 g2.out (HFR.out.mono HWF.out) (fun q y hq hy => ?_)⟩
        unfold setAt at hy
        split at hy
        · subst_vars
          exact ⟨x, HX.out⟩
        · exact ⟨y, hy⟩
end Go.Proofs.YtlbpbbfhfgacaaaDoor.Wh
