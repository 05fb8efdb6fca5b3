/- A wheel's Add, Remove, Update, Count, GetNextExpiration. -/
import Derived.Test.YtlbpbbfhfgacaaaDoorWhB
import Derived.Deep.Cut
namespace Go.Proofs.YtlbpbbfhfgacaaaDoor.Wh
open Go.RowKit Go.Maps Go.Proofs.YtlbpbbfhfgacaaaDoor.Bs Go.Proofs.YtlbpbbfhfgacaaaDoorW.PrintWords Go.Proofs.YtlbpbbfhfgacaaaDoorW.PrintLast Go.Proofs.YtlbpbbfhfgacaaaDoorW.PrintMore
set_option linter.unusedVariables false
set_option linter.unusedSimpArgs false

theorem i64_ok {e : Int} (h0 : 0 ≤ e) (h1 : e < 2 ^ 62) : I64 e := by
  have m : IntKind.i64.min = -9223372036854775808 ∧ IntKind.i64.max = 9223372036854775807 := by decide
  simp only [I64, Lit.wf, Bool.and_eq_true, decide_eq_true_eq, m.1, m.2]
  omega
theorem fr_set1 {F : Nat → Prop} {w w1 : World} (h : Fr F w w1) {b o : Nat} (hb : F b) (u : Value) : Fr F w (w1.setCell ⟨b, o, none⟩ u) := h.set (p := ⟨b, o, none⟩) (.inl hb) u
section
variable {w w' w1 w2 : World} {B A K hw : Nat} {sl : Nat → Option (Nat × Nat)} {low : Nat → Int} {f : Fm}
/-- Only the wheel's head is turned. -/
theorem Slots.head {cs0 : List Value} (h : Slots w B A K sl low f) (hh : Blk w hw 54 cs0) (hf : Fr (fun k => k = hw) w w') : Slots w' B A K sl low f := by
  obtain ⟨cs, hb, hl, hc⟩ := h.arr
  refine ⟨⟨cs, hb.fr hf (fun e => blk_ne hb hh (by decide) e), hl, hc⟩, fun p x hp hx => ?_, h.inj, h.empty, h.low, h.rng, h.base⟩
  obtain ⟨h1, h2, h3, h4⟩ := h.slot p x hp hx
  exact ⟨h1, h2, h3.fr hf (fun e => blk_ne h3 hh (by decide) e), h4.fr hf (fun e => map_ne hh h4 e.symm)⟩
theorem Slots.put (h : Slots w B A K sl low f) {p : Nat} (hp : p < 4096) (hf : Fr (fun k => k ≠ A) w w2) (x : Option (Nat × Nat)) :
    ∃ cs, Blk (w2.setCell ⟨A, p, none⟩ (ptrV x)) A 62 cs ∧ cs.length = 4096 ∧ ∀ q, q < 4096 → cs[q]? = some (ptrV (setAt sl p x q)) := by
  obtain ⟨cs, hb, hl, hc⟩ := h.arr
  refine ⟨cs.set p (ptrV x), (hb.fr hf (fun e => e rfl)).set p (by omega) _, by simpa using hl, fun q hq => ?_⟩
  unfold setAt
  rw [List.getElem?_set]
  by_cases hqp : p = q
  · subst hqp
    rw [if_pos rfl, if_pos (by omega), if_pos rfl]
  · rw [if_neg hqp, if_neg (fun e => hqp e.symm)]
    exact hc q hq
theorem Slots.fresh {cs0 : List Value} (h : Slots w B A K sl low f) (hh : Blk w hw 54 cs0) {p : Nat} (hp : p < 4096) (hx : sl p = none) {S M : Nat} (hf : Same w w2) (hS : Blk w2 S 67 [.map (some M), .int .i64 maxI]) (hM : Mp w2 M 0 (fun _ => none)) (h1 : w.heap.size ≤ S) (h2 : w.heap.size ≤ M)
    (hB : B ≤ w.heap.size) : Slots (w2.setCell ⟨A, p, none⟩ (ptrV (some (S, M)))) B A K (setAt sl p (some (S, M))) (setAt low p maxI) f := by
  have hA : A < w.heap.size := by
    obtain ⟨cs, hb, hl, hc⟩ := h.arr
    exact hb.lt
  have hf2 : Fr (fun k => k = A) w (w2.setCell ⟨A, p, none⟩ (ptrV (some (S, M)))) := fr_set1 (F := fun k => k = A) (hf.mono (fun _ h => h.elim)) rfl _
  have hf3 : Fr (fun k => k = A) w2 (w2.setCell ⟨A, p, none⟩ (ptrV (some (S, M)))) := fr_set1 (F := fun k => k = A) (Fr.refl _ _) rfl _
  refine h.turn hh hp (some (S, M)) maxI f (Nat.le_refl _) hf2 (fun k hk => .inl hk) (fun _ _ _ => rfl) (h.put hp (hf.mono (fun _ h => h.elim)) _) (fun y hy => ?_) (fun h => by cases h) (fun s e he hpe => ?_) (fun s e he _ => h.rng s e he)
  · injection hy with hy
    subst hy
    refine ⟨by show B ≤ S; omega, by show B ≤ M; omega, hS.fr hf3 (by show S ≠ A; omega), ((hM.fr hf3 (by show M ≠ A; omega)).mono (Nat.zero_le _)).congr (fun s => ?_), .inr ⟨h1, h2⟩⟩
    exact h.empty p hp hx s
  · have h3 := h.empty p hp hx s
    rw [part_some.2 ⟨he, hpe⟩] at h3
    cases h3
theorem part_upd {s e : Int} (hf : f s = none) : ∀ x, part (upd f s e) (pos e) x = upd (part f (pos e)) s e x := by
  intro x
  unfold part upd
  by_cases hx : x = s
  · simp [hx]
  · simp [hx]
theorem part_upd_ne {s e : Int} (hf : f s = none) {q : Nat} (hq : q ≠ pos e) : ∀ x, part (upd f s e) q x = part f q x := by
  intro x
  unfold part upd
  by_cases hx : x = s
  · have hq2 : ¬ pos e = q := fun h => hq h.symm
    simp [hx, hf, hq2]
  · simp [hx]
theorem Slots.added {cs0 : List Value} (h : Slots w B A K sl low f) (hh : Blk w hw 54 cs0) {s e l : Int} (hf : f s = none) (he : 0 ≤ e ∧ e < 2 ^ 62) {x : Nat × Nat} (hx : sl (pos e) = some x)
    (hM : Mp w1 x.2 (K + 1) (upd (part f (pos e)) s e)) (h1 : Fr (fun k => k = x.2) w w1) (h2 : Fr (fun k => k = x.1 ∨ k = hw) w1 w2) (hS : Blk w2 x.1 67 [.map (some x.2), .int .i64 l]) (hl : l ≤ e) (hl2 : l ≤ low (pos e)) :
    Slots w2 B A (K + 1) (setAt sl (pos e) (some x)) (setAt low (pos e) l) (upd f s e) := by
  obtain ⟨b1, b2, hS0, hM0⟩ := h.slot _ x (pos_lt e) hx
  have hA : A ≠ x.1 ∧ A ≠ x.2 ∧ A ≠ hw := by
    obtain ⟨cs, hb, _⟩ := h.arr
    exact ⟨blk_ne hb hS0 (by decide), map_ne hb hM0, blk_ne hb hh (by decide)⟩
  have hF : Fr (fun k => k = x.2 ∨ k = x.1 ∨ k = hw) w w2 := (h1.mono (fun _ h => .inl h)).trans h2 (fun _ _ h => .inr h)
  refine h.turn hh (pos_lt e) (some x) l (upd f s e) (Nat.le_succ _) hF (fun k hk => ?_) (fun q hq => part_upd_ne hf hq) ?_ (fun y hy => ?_) (fun h => by cases h) (fun z c hz hpc => ?_) (fun z c hz hpc => ?_)
  · rcases hk with hk | hk | hk
    · exact .inr (.inr (.inl ⟨x, hx, .inr hk⟩))
    · exact .inr (.inr (.inl ⟨x, hx, .inl hk⟩))
    · exact .inr (.inl hk)
  · obtain ⟨cs, hb, hl, hc⟩ := h.arr
    refine ⟨cs, hb.fr hF (fun h => by rcases h with h | h | h; exact hA.2.1 h; exact hA.1 h; exact hA.2.2 h), hl, fun q hq => ?_⟩
    rw [hc q hq]
    unfold setAt
    split
    · subst_vars
      rw [hx]
    · rfl
  · injection hy with hy
    subst hy
    refine ⟨b1, b2, hS, (hM.fr h2 (fun h => ?_)).congr (part_upd hf), .inl hx⟩
    rcases h with h | h
    · exact map_ne hS0 hM0 h.symm
    · exact map_ne hh hM0 h.symm
  · unfold upd at hz
    split at hz
    · injection hz with hz
      omega
    · have := h.low z c hz
      rw [hpc] at this
      omega
  · unfold upd at hz
    split at hz
    · injection hz with hz
      omega
    · exact h.rng z c hz
end
def AddPost (W : World) (B hw K : Nat) (f : Fm) (s e cnt : Int) (ex : Prop) (en : Ending) (w' : World) : Prop :=
  en = .returned .nilIface ∧ Wheel w' B hw (K + 1) (upd f s e) (IntKind.u64.wrap (cnt + 1)) ex ∧ Fr (WF B W) W w'
set_option maxHeartbeats 4000000 in
set_option maxRecDepth 100000 in
theorem add_calls {W : World} {B hw K : Nat} {f : Fm} {cnt s e : Int} {ex : Prop} (h : Wheel W B hw K f cnt ex) (hs : U64 s) (he0 : 0 ≤ e) (he1 : e < 2 ^ 62) (hf : f s = none) (hK : K < 100000) (hB : B ≤ W.heap.size) :
    Calls Tryd.prog 23 #[.pointer (some ⟨hw, 0, none⟩), .int .u64 s, .int .i64 e] W (AddPost W B hw K f s e cnt ex) := by
  obtain ⟨A, sl, low, lo, hW, hE⟩ := h.ex
  have HW := Aside0.mk hW
  have HE := Aside0.mk hE
  have HF := Aside0.mk hf
  have HB := Aside0.mk hB
  clear h hW hE hf hB
  obtain ⟨p, hp⟩ : ∃ p, pos e = p := ⟨_, rfl⟩
  have hp4 : p < 4096 := by rw [← hp]; exact pos_lt e
  have HP := Aside0.mk hp
  have i0 : 0 ≤ (p : Int) := by omega
  have i1 : (p : Int) < 4096 := by omega
  have ii : p < 4096 := hp4
  have P1 : Aside0 (∀ Q v, Calls Tryd.prog 28 #[v, .int .i64 e] Q (PosPost Q e)) := ⟨fun Q v => position_calls he0 he1⟩
  have c0 := HW.out.hd.cell 0 rfl
  have c1 := HW.out.hd.cell 1 rfl
  have c2 := HW.out.hd.cell 2 rfl
  have ca := HW.out.slots.ptr hp4
  have fa := HW.out.slots.afree p
  have fh := HW.out.hd.free 2
  clear hp
  go_enter Tryd.func23, Tryd.ntmps23
  go_wp2_with fail
  refine (P1.out _ _).mono ?_
  rintro en w1 ⟨rfl, e1⟩
  subst w1
  rw [HP.out]
  go_upto_region 2 with (fail)
  go_cut [20] from 10 (fun v20 wc => v20 = .bool (sl p).isNone ∧ wc = W)
  case first =>
    cases hx : sl p with
    | none =>
      simp only [hx, ptrV] at ca
      go_wp2
      go_meet
      case rel => exact ⟨by rw [hx]; rfl, rfl⟩
    | some x =>
      simp only [hx, ptrV] at ca
      go_wp2
      go_meet
      case rel => exact ⟨by rw [hx]; rfl, rfl⟩
  case rest =>
    obtain ⟨e1, e2⟩ := hcut
    subst u20
    subst wc
    go_upto_if 20 with (fail)
    go_cut [] from 10 (fun wc => ∃ x sl1 low1, Blk wc hw 54 (hdCells A lo cnt) ∧ Slots wc B A K sl1 low1 f ∧ sl1 p = some x ∧ (∀ q y, q < 4096 → sl1 q = some y → lo ≤ low1 q) ∧ (ex → ∀ q y, q < 4096 → sl1 q = some y → (∃ z, part f q z = some (low1 q)) ∨ (q = p ∧ low1 q = maxI)) ∧ Fr (WF B W) W wc)
    case first =>
      cases hx : sl p with
      | none =>
        have b20 : (sl p).isNone = true := by rw [hx]; rfl
        simp only [Option.isNone_none]
        simp only [hx, ptrV] at ca
        go_upto_region 3 with (fail)
        have HF0 := Aside0.mk (Fr.refl (fun _ => False) W)
        have HN : Aside0 (∀ w', Fr (fun k => k = A) W w' → Fr (fun k => k = A) W w' ∧ w'.cell? ⟨hw, 0, none⟩ = some (.slice (some ⟨A, 0, none⟩) 4096 4096)) := ⟨fun w' hf => ⟨hf, (HW.out.hd.fr hf (fun e => by
          obtain ⟨cs, hb, _⟩ := HW.out.slots.arr
          exact blk_ne hb HW.out.hd (by decide) e.symm)).cell 0 rfl⟩⟩
        have HA : Aside0 (∀ w2, Same W w2 → w2.frozen? ⟨A, p, none⟩ = false ∧ w2.cell? ⟨A, p, none⟩ = some (.pointer none)) := ⟨fun w2 hf => by
          obtain ⟨cs, hb, _⟩ := HW.out.slots.arr
          exact ⟨(hb.fr hf (fun h => h)).free p, hf.cell ca⟩⟩
        go_region_held3 (fun w' => Fr (fun k => k = A) W w' ∧ w'.cell? ⟨hw, 0, none⟩ = some (.slice (some ⟨A, 0, none⟩) 4096 4096)) (first | exact HN.out _ (HF0.out.drew.mono (fun _ h => h.elim)) | exact HN.out _ ((HF0.out.drew.trans hf2 (fun _ _ h => h)).mono (fun _ h => h.elim)) | exact HN.out _ (fr_set1 (F := fun k => k = A) ((HF0.out.drew.trans hf2 (fun _ _ h => h)).mono (fun _ h => h.elim)) rfl _))
          (first | (go_at_call 29; refine newSlot_calls.mono ?_; rintro e2 w2 ⟨rfl, hS2, hM2, hf2, hz2⟩; obtain ⟨fa2, ca2⟩ := HA.out w2 (HF0.out.drew.trans hf2 (fun _ _ h => h))))
        have hf3 : Same W w2 := HF0.out.drew.trans hf2 (fun _ _ h => h)
        go_wp2
        go_meet
        case rel =>
          have h1 := HW.out.slots.fresh HW.out.hd hp4 hx hf3 hS2 hM2 (Nat.le_succ _) (Nat.le_refl _) HB.out
          refine ⟨_, _, _, (HN.out _ (fr_set1 (F := fun k => k = A) (hf3.mono (fun _ h => h.elim)) rfl _)).1 |> fun h => HW.out.hd.fr h (fun e => ?_), h1, by unfold setAt; rw [if_pos rfl], fun q y hq hy => ?_, fun hex q y hq hy => ?_, ?_⟩
          · obtain ⟨cs, hb, _⟩ := HW.out.slots.arr
            exact blk_ne hb HW.out.hd (by decide) e.symm
          · unfold setAt at hy ⊢
            split
            · exact HW.out.lom
            · rename_i hqp
              rw [if_neg hqp] at hy
              exact HW.out.lolow q y hq hy
          · unfold setAt at hy ⊢
            by_cases hqp : q = p
            · exact .inr ⟨hqp, by rw [if_pos hqp]⟩
            · rw [if_neg hqp] at hy ⊢
              exact .inl ((HE.out hex).at_ q y hq hy)
          · refine (HN.out _ (fr_set1 (F := fun k => k = A) (hf3.mono (fun _ h => h.elim)) rfl _)).1.mono (fun k hk => ?_)
            subst hk
            obtain ⟨cs, hb, _⟩ := HW.out.slots.arr
            exact ⟨HW.out.slots.base, .inr ⟨_, _, _, hb.blk, .inr (.inl rfl)⟩⟩
      | some x =>
        simp only [Option.isNone_some]
        simp only [hx, ptrV] at ca
        go_wp2
        go_meet
        case rel => exact ⟨x, sl, low, HW.out.hd, HW.out.slots, hx, HW.out.lolow, fun he q y hq hy => .inl ((HE.out he).at_ q y hq hy), Fr.refl _ _⟩
    case rest =>
      obtain ⟨x, sl1, low1, h1, h2, h3, h4, h5, h6⟩ := hcut
      clear c0 c1 c2 ca fa fh
      have H1 := Aside0.mk h1
      have H2 := Aside0.mk h2
      have H3 := Aside0.mk h3
      have H45 := Aside0.mk (And.intro h4 h5)
      have H6 := Aside0.mk h6
      obtain ⟨b1, b2, hS, hM⟩ := h2.slot p x hp4 h3
      have HS := Aside0.mk hS
      have HM := Aside0.mk hM
      have HPN : Aside0 ((part f p s).isSome = false) := ⟨by
        have : part f p s = none := part_none.2 (fun e he => by rw [HF.out] at he; cases he)
        rw [this]
        rfl⟩
      have HI : Aside0 (I64 e) := ⟨i64_ok he0 he1⟩
      have c0 := h1.cell 0 rfl
      have c1 := h1.cell 1 rfl
      have c2 := h1.cell 2 rfl
      have ca := h2.ptr hp4
      rw [h3] at ca
      simp only [ptrV] at ca
      have d0 := hS.cell 0 rfl
      have d1 := hS.cell 1 rfl
      have fh := h1.free 2
      clear h1 h2 h3 h4 h5 h6 hS hM b1 b2
      go_upto_region 5 with (first | (at_lookup; refine wpList_mp_lookup rfl _ _ rfl rfl HM.out hs rfl ?_; intro c hc; rw [HPN.out]) | fail)
      go_upto_region 7 with (fail)
      have H7 : Aside0 (Blk (wc.setCell ⟨hw, 2, none⟩ (.int .u64 (IntKind.u64.wrap (cnt + 1)))) hw 54 (hdCells A lo (IntKind.u64.wrap (cnt + 1))) ∧ Fr (fun k => k = hw) wc (wc.setCell ⟨hw, 2, none⟩ (.int .u64 (IntKind.u64.wrap (cnt + 1))))) :=
        ⟨H1.out.set 2 (by simp [hdCells]) _, fr_set1 (F := fun k => k = hw) (Fr.refl _ _) rfl _⟩
      generalize wc.setCell ⟨hw, 2, none⟩ (.int .u64 (IntKind.u64.wrap (cnt + 1))) = w7 at H7 ⊢
      have HS7 := Aside0.mk (H2.out.head H1.out H7.out.2)
      have HF7 : Aside0 (Fr (WF B W) W w7) := ⟨H6.out.trans H7.out.2 (fun k hk e => by
        subst e
        refine ⟨HW.out.bh, ?_⟩
        exact .inr ⟨_, _, _, HW.out.hd.blk, .inl rfl⟩)⟩
      have H17 := Aside0.mk H7.out.1
      clear c0 c1 c2 ca d0 d1 fh hc H1 H2 HS HM H6 H7
      obtain ⟨b1, b2, hS, hM⟩ := HS7.out.slot p x hp4 H3.out
      have HS := Aside0.mk hS
      have HM := Aside0.mk hM
      have c0 := H17.out.cell 0 rfl
      have ca := HS7.out.ptr hp4
      rw [H3.out] at ca
      simp only [ptrV] at ca
      have d0 := hS.cell 0 rfl
      clear hS hM b1 b2
      go_upto_region 8 with (first | (at_mapUpdate; refine wpList_mp_update rfl _ _ _ rfl rfl HM.out (by omega) hs HI.out rfl rfl ?_; intro w8 hM8 hf8) | fail)
      have HM8 := Aside0.mk hM8
      have HF8 := Aside0.mk hf8
      have hS8 := HS.out.fr hf8 (fun e => map_ne HS.out HM.out e)
      have hH8 := H17.out.fr hf8 (fun e => map_ne H17.out HM.out e)
      have HS8 := Aside0.mk hS8
      have HH8 := Aside0.mk hH8
      replace c0 := hH8.cell 0 rfl
      have c1 := hH8.cell 1 rfl
      replace ca : w8.cell? ⟨A, p, none⟩ = some (.pointer (some ⟨x.1, 0, none⟩)) := by
        obtain ⟨cs, hb, _⟩ := HS7.out.arr
        exact (World.cell?_of_block (hf8.block A hb.lt (fun e => map_ne hb HM.out e))).trans ca
      replace d0 := hS8.cell 0 rfl
      have d1 := hS8.cell 1 rfl
      have fs := hS8.free 1
      clear hM8 hf8 hS8 hH8
      have HFIN : Aside0 (∀ w9 l lo', Fr (fun k => k = x.1 ∨ k = hw) w8 w9 → Blk w9 x.1 67 [.map (some x.2), .int .i64 l] → Blk w9 hw 54 (hdCells A lo' (IntKind.u64.wrap (cnt + 1))) →
          ((l = e ∧ e ≤ low1 p) ∨ (l = low1 p ∧ low1 p ≤ e)) → ((lo' = e ∧ e ≤ lo ∧ l = e) ∨ (lo' = lo ∧ lo ≤ l)) → AddPost W B hw K f s e cnt ex (.returned .nilIface) w9) := ⟨fun w9 l lo' g1 g2 g3 g4 g5 => by
        obtain ⟨q1, q2⟩ := H45.out
        have hp' := HP.out
        have hx3 := H3.out
        have r1 : Slots w9 B A (K + 1) (setAt sl1 p (some x)) (setAt low1 p l) (upd f s e) := by
          have := HS7.out.added (w1 := w8) (w2 := w9) (s := s) (e := e) (l := l) H17.out HF.out ⟨he0, he1⟩ (x := x) (by rw [hp']; exact hx3) (by rw [hp']; exact HM8.out) HF8.out g1 g2 (by omega) (by rw [hp']; omega)
          rw [hp'] at this
          exact this
        have hlo : lo ≤ low1 p := q1 p x hp4 hx3
        refine ⟨rfl, ⟨A, setAt sl1 p (some x), setAt low1 p l, lo', ⟨HW.out.bh, g3, r1, fun q y hq hy => ?_, by have := HW.out.lom; omega⟩, fun hex => ⟨?_, fun q y hq hy => ?_⟩⟩, ?_⟩
        · unfold setAt at hy ⊢
          by_cases hqp : q = p
          · rw [if_pos hqp]
            omega
          · rw [if_neg hqp] at hy ⊢
            have := q1 q y hq hy
            omega
        · rcases g5 with ⟨g5, g6, g7⟩ | ⟨g5, g6⟩
          · exact .inl ⟨s, by rw [g5]; simp [upd]⟩
          · rcases (HE.out hex).hi with ⟨z, hz⟩ | ⟨hz, hz2⟩
            · exact .inl ⟨z, by
                have hzs : z ≠ s := by
                  rintro rfl
                  rw [HF.out] at hz
                  cases hz
                rw [g5]
                simpa [upd, hzs] using hz⟩
            · exfalso
              have : maxI = 9223372036854775807 := rfl
              omega
        · unfold setAt at hy ⊢
          by_cases hqp : q = p
          · subst hqp
            rw [if_pos rfl]
            rcases g4 with ⟨g4, g6⟩ | ⟨g4, g6⟩
            · exact ⟨s, part_some.2 ⟨by simp [upd, g4], by rw [g4]; exact hp'⟩⟩
            · rcases q2 hex q x hq hx3 with ⟨z, hz⟩ | ⟨_, hz⟩
              · obtain ⟨z1, z2⟩ := part_some.1 hz
                refine ⟨z, part_some.2 ⟨?_, by rw [g4]; exact z2⟩⟩
                have hzs : z ≠ s := by
                  rintro rfl
                  rw [HF.out] at z1
                  cases z1
                rw [g4]
                simpa [upd, hzs] using z1
              · exfalso
                have : maxI = 9223372036854775807 := rfl
                omega
          · rw [if_neg hqp] at hy ⊢
            rcases q2 hex q y hq hy with ⟨z, hz⟩ | ⟨hz, _⟩
            · exact ⟨z, by rw [← hp'] at hqp; rw [part_upd_ne HF.out hqp]; exact hz⟩
            · exact absurd hz hqp
        · obtain ⟨b1, b2, hS, hM⟩ := HS7.out.slot p x hp4 hx3
          refine wf_trans (wf_trans HF7.out (HF8.out.mono (fun k hk => ?_))) (g1.mono (fun k hk => ?_))
          · subst hk
            exact ⟨b2, .inl hM.blk⟩
          · rcases hk with hk | hk
            · subst hk
              exact ⟨b1, .inr ⟨_, _, _, HS8.out.blk, .inr (.inr rfl)⟩⟩
            · subst hk
              exact ⟨HW.out.bh, .inr ⟨_, _, _, HH8.out.blk, .inl rfl⟩⟩⟩
      by_cases hl : e < low1 p
      · have hl1 : decide (e < low1 p) = true := decide_eq_true hl
        go_upto_region 10 with (fail)
        have g1 := Aside0.mk (fr_set1 (F := fun k => k = x.1 ∨ k = hw) (o := 1) (Fr.refl _ w8) (.inl rfl) (.int .i64 e))
        have g2 : Aside0 (Blk (w8.setCell ⟨x.1, 1, none⟩ (.int .i64 e)) x.1 67 [.map (some x.2), .int .i64 e]) := ⟨HS8.out.set 1 (by simp) _⟩
        have g3 : Aside0 (Blk (w8.setCell ⟨x.1, 1, none⟩ (.int .i64 e)) hw 54 (hdCells A lo (IntKind.u64.wrap (cnt + 1)))) := ⟨HH8.out.far (p := ⟨x.1, 1, none⟩) (fun h => blk_ne HS8.out HH8.out (by decide) h.symm) _⟩
        generalize w8.setCell ⟨x.1, 1, none⟩ (.int .i64 e) = w9 at g1 g2 g3 ⊢
        have e1 := g3.out.cell 1 rfl
        have f1 := g3.out.free 1
        clear c0 c1 ca d0 d1 fs
        by_cases hl2 : e < lo
        · have hl3 : decide (e < lo) = true := decide_eq_true hl2
          go_wp2
          go_ret
          refine HFIN.out _ e e (fr_set1 g1.out (.inr rfl) _) (g2.out.far (p := ⟨hw, 1, none⟩) (fun h => blk_ne g2.out g3.out (by decide) h) _) (g3.out.set 1 (by simp [hdCells]) _) (.inl ⟨rfl, by omega⟩) (.inl ⟨rfl, by omega, rfl⟩)
        · have hl3 : decide (e < lo) = false := decide_eq_false hl2
          go_wp2
          go_ret
          exact HFIN.out _ e lo g1.out g2.out g3.out (.inl ⟨rfl, by omega⟩) (.inr ⟨rfl, by omega⟩)
      · have hl1 : decide (e < low1 p) = false := decide_eq_false hl
        have hlo := Aside0.mk (H45.out.1 p x hp4 H3.out)
        go_wp2
        go_ret
        exact HFIN.out _ (low1 p) lo (Fr.refl _ _) HS8.out HH8.out (.inr ⟨rfl, by omega⟩) (.inr ⟨rfl, hlo.out⟩)
end Go.Proofs.YtlbpbbfhfgacaaaDoor.Wh
