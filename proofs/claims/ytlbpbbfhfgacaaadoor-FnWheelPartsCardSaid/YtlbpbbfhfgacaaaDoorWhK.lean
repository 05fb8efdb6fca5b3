/- Rows of tasks; spec.Wheel. -/
import Derived.Test.YtlbpbbfhfgacaaaDoorWhJ
import Derived.Test.YtlbpbbfhfgacaaaDoorWhF
import Derived.Deep.RegionLaw
namespace Go.Proofs.YtlbpbbfhfgacaaaDoor.Wh
open Go.RowKit Go.Maps Go.Proofs.YtlbpbbfhfgacaaaDoor.Bs Go.Proofs.YtlbpbbfhfgacaaaDoorW.PrintWords Go.Proofs.YtlbpbbfhfgacaaaDoorW.PrintLast Go.Proofs.YtlbpbbfhfgacaaaDoorW.PrintMore Go.Proofs.YtlbpbbfhfgacaaaDoor.GFnWheelParts
set_option linter.unusedVariables false
set_option linter.unusedSimpArgs false
def pr (x : S42) : Int × Int := (x.f0, x.f1)
def tcS (L : List S42) : List Value := tcells (L.map pr)
theorem tcS_cons (x : S42) (L : List S42) : tcS (x :: L) = [.int .u64 x.f0, .int .i64 x.f1] ++ tcS L := rfl
theorem tcS_snoc (L : List S42) (x : S42) : tcS (L ++ [x]) = tcS L ++ [.int .u64 x.f0, .int .i64 x.f1] := by simp [tcS, tcells, pr]
theorem tcS_get : ∀ {L : List S42} {j : Nat} {x : S42}, L[j]? = some x → (tcS L)[j * 2]? = some (.int .u64 x.f0) ∧ (tcS L)[j * 2 + 1]? = some (.int .i64 x.f1)
  | [], _, _, h => by simp at h
  | y :: r, 0, x, h => by
    injection h with h
    subst h
    exact ⟨rfl, rfl⟩
  | y :: r, j + 1, x, h => by
    have := tcS_get (L := r) (j := j) (x := x) (by simpa using h)
    rw [tcS_cons, Nat.succ_mul]
    exact this
def OT (w : World) (base : Nat) (v : Value) (L : List S42) : Prop := w.ownsRow base 42 2 v L.length (tcS L)
theorem tcS_one (L : List S42) : ∀ u ∈ tcS L, u.oneCell' = true := tcells_one _
theorem ot_C {w : World} {base : Nat} {v : Value} {L : List S42} (h : OT w base v L) (hL : L.length ≤ 1000000) : ∃ A c, v = .slice A L.length c ∧ L.length ≤ c ∧ Kd.C k42 w A L.length L := by
  obtain ⟨A, c, e, hc, hr⟩ := read_own (w := w) (W := w) h (tcS_one L)
  refine ⟨A, c, e, hc, rfl, by omega, fun hn => ?_⟩
  obtain ⟨ad, e2, hcell⟩ := hr.read (by rw [hr.len]; omega)
  refine ⟨ad, e2, fun j p hj => ⟨[.int .u64 p.f0, .int .i64 p.f1], rfl, k42_mk w p, fun i u hu => ?_⟩⟩
  obtain ⟨g1, g2⟩ := tcS_get hj
  show w.cell? (ad.add (j * 2 + i)) = some u
  rcases i with _ | _ | i
  · injection hu with hu
    rw [← hu]
    exact hcell _ _ g1
  · injection hu with hu
    rw [← hu]
    exact hcell _ _ g2
  · simp at hu
theorem reps_flat {α : Type} {R : α → List Value → Prop} {enc : α → List Value} {sz : Nat} (hR : ∀ p c, R p c → c = enc p) : ∀ (ps : List α) (cs : List Value), Reps R sz ps cs → cs = ps.flatMap enc
  | [], cs, h => by
    have := h.1
    simp at this
    simpa using this
  | p :: r, cs, h => by
    have h0 := hR p _ (h.2 0 p rfl)
    rw [Nat.zero_mul, List.drop_zero] at h0
    have ih := reps_flat (sz := sz) hR r (cs.drop sz) ⟨by rw [List.length_drop, h.1, List.length_cons, Nat.succ_mul]; omega, fun j q hq => by
      have := h.2 (j + 1) q (by simpa using hq)
      rw [List.drop_drop]
      rw [Nat.succ_mul, Nat.add_comm] at this
      exact this⟩
    rw [List.flatMap_cons, ← h0, ← ih, List.take_append_drop]
theorem ot_R {w : World} {base : Nat} {ok : Nat → Prop} {v : Value} {L : List S42} (h : Kd.R k42 42 w base ok v L) : OT w base v L := by
  obtain ⟨-, inner, ho, hr⟩ := h
  have e := reps_flat (enc := fun x : S42 => [.int .u64 x.f0, .int .i64 x.f1]) (fun p c hp => k42_openM hp) L inner hr
  have e2 : inner = tcS L := by
    rw [e]
    unfold tcS tcells
    rw [List.flatMap_map]
    rfl
  rw [e2] at ho
  exact ho
theorem ot_fr {F : Nat → Prop} {w w1 : World} {base : Nat} {v : Value} {L : List S42} (h : OT w base v L) (hf : Fr F w w1) (hn : ∀ k, v.ownBlock = some k → ¬ F k) : OT w1 base v L := ownsRow_fr h hf hn
theorem ot_low {w : World} {base base2 : Nat} {v : Value} {L : List S42} (h : OT w base v L) (hb : base2 ≤ base) : OT w base2 v L := ownsRow_low h hb
theorem ot_nil (w : World) (base : Nat) : OT w base (.slice none 0 0) [] := ⟨rfl, .inl ⟨rfl, rfl⟩⟩
theorem drawn_same {w w' : World} (h : Drawn0 w w') : Same w w' := by
  obtain ⟨n, rfl⟩ := h
  exact (Fr.refl _ w).drewN n
def Px (t : S30) (x : S42) : Bool := !(decide (x.f1 ≤ t.f2) && !kp t.f4 x.f0)
theorem gone_step {L : List S42} {f : Fm} {t : S30} (h : Rep L f) (ht : t.f0 = 3) : Rep (L.filter (Px t)) (stepF f t) := by
  unfold stepF
  rw [if_neg (by omega), if_neg (by omega), if_neg (by omega), if_pos ht]
  exact h.filter t.f2 t.f4
structure Mid2 (W wr wc : World) (i ab : Nat) (f : Fm) (t : S30) (v4 : Value) : Prop where
  tasks : ∃ L, OT wc W.heap.size v4 L ∧ Rep L (stepF f t) ∧ L.length ≤ i + 1
  ans : ∃ k A n c, Blk wc ab 33 [.int .i64 k, .slice A n c]
  fr : Same wr wc
structure Op3 (w4 wn : World) (ab : Nat) (t : S30) (L : List S42) (j mb : Nat) (vS vX : Value) (m : Nat) (cs : List Value) : Prop where
  stay : OT wn w4.heap.size vS ((L.take j).filter (Px t))
  ans : Blk wn ab 33 [.int .i64 0, vX]
  row : wn.ownsRow w4.heap.size 42 2 vX m cs
  mj : m ≤ mb
  one : ∀ u ∈ cs, u.oneCell' = true
  ap : ∀ k, vS.ownBlock = some k → vX.ownBlock ≠ some k
  fr : Fr (fun b => b = ab) w4 wn
  abl : ab < w4.heap.size
section
variable {w4 wn w' : World} {ab j mb m : Nat} {t : S30} {L : List S42} {vS vX v' : Value} {cs : List Value} {x : S42}
theorem Op3.same (h : Op3 w4 wn ab t L j mb vS vX m cs) (hs : Same wn w') : Op3 w4 w' ab t L j mb vS vX m cs :=
  ⟨ot_fr h.stay hs (fun _ _ h => h), h.ans.fr hs (fun h => h), ownsRow_fr h.row hs (fun _ _ h => h), h.mj, h.one, h.ap, h.fr.trans hs (fun _ _ h => h.elim), h.abl⟩
theorem Op3.more (h : Op3 w4 wn ab t L j mb vS vX m cs) {mb' : Nat} (hm : mb ≤ mb') : Op3 w4 wn ab t L j mb' vS vX m cs := ⟨h.stay, h.ans, h.row, Nat.le_trans h.mj hm, h.one, h.ap, h.fr, h.abl⟩
theorem Op3.skip (h : Op3 w4 wn ab t L j mb vS vX m cs) (hx : L[j]? = some x) (hp : Px t x = false) : Op3 w4 wn ab t L (j + 1) mb vS vX m cs := by
  have e : (L.take (j + 1)).filter (Px t) = (L.take j).filter (Px t) := by
    rw [List.take_add_one, hx]
    simp [hp]
  exact ⟨by rw [e]; exact h.stay, h.ans, h.row, h.mj, h.one, h.ap, h.fr, h.abl⟩
theorem Op3.push (h : Op3 w4 wn ab t L j mb vS vX m cs) (hx : L[j]? = some x) (hp : Px t x = true) {o : Obj} (hg : (wn.alloc o).grownBy w' vS.ownBlock)
    (ho : w'.ownsRow w4.heap.size 42 2 v' (((L.take j).filter (Px t)).length + 1) (tcS ((L.take j).filter (Px t)) ++ [.int .u64 x.f0, .int .i64 x.f1])) (hat : v'.ownBlock = vS.ownBlock ∨ v'.ownBlock = some (wn.alloc o).heap.size) : Op3 w4 w' ab t L (j + 1) mb v' vX m cs := by
  have e : (L.take (j + 1)).filter (Px t) = (L.take j).filter (Px t) ++ [x] := by
    rw [List.take_add_one, hx]
    simp [hp]
  have hf : Fr (fun k => vS.ownBlock = some k) wn w' := (((Fr.refl (fun _ => False) wn).alloc o).mono (fun _ h => h.elim)).trans (Fr.grown hg) (fun _ _ h => h)
  refine ⟨?_, h.ans.fr hf (fun e1 => ?_), ownsRow_fr h.row hf (fun k hk e1 => h.ap k e1 hk), h.mj, h.one, fun k hk hv => ?_, h.fr.trans hf (fun k hk e1 => ?_), h.abl⟩
  · rw [e]
    show w'.ownsRow w4.heap.size 42 2 v' _ _
    rw [List.length_append, tcS_snoc]
    exact ho
  · obtain ⟨cs', z, hc⟩ := own_type h.stay e1
    rw [h.ans.blk] at hc
    cases hc
  · have hlt := (own_base h.row hv).2
    rcases hat with hat | hat
    · exact h.ap k (by rw [← hat]; exact hk) hv
    · rw [hk] at hat
      injection hat with hat
      have : (wn.alloc o).heap.size = wn.heap.size + 1 := by simp
      omega
  · have := (own_base h.stay e1).1
    omega
theorem Op3.expired (h : Op3 w4 wn ab t L j mb vS vX m cs) {o : Obj} {us : List Value} (hg : (wn.alloc o).grownBy w' vX.ownBlock) (hu : ∀ u ∈ us, u.oneCell' = true)
    (ho : w'.ownsRow w4.heap.size 42 2 v' (m + 1) (cs ++ us)) (hat : v'.ownBlock = vX.ownBlock ∨ v'.ownBlock = some (wn.alloc o).heap.size) : Op3 w4 (w'.setCell ⟨ab, 1, none⟩ v') ab t L j (mb + 1) vS v' (m + 1) (cs ++ us) := by
  have hf : Fr (fun k => vX.ownBlock = some k) wn w' := (((Fr.refl (fun _ => False) wn).alloc o).mono (fun _ h => h.elim)).trans (Fr.grown hg) (fun _ _ h => h)
  have hA : Blk w' ab 33 [.int .i64 0, vX] := h.ans.fr hf (fun e1 => by
    obtain ⟨cs', z, hc⟩ := own_type h.row e1
    rw [h.ans.blk] at hc
    cases hc)
  have hf2 := fr_set1 (F := fun k => k = ab) (o := 1) (Fr.refl _ w') rfl v'
  have hst : OT w' w4.heap.size vS ((L.take j).filter (Px t)) := ot_fr h.stay hf (fun k hk e1 => h.ap k hk e1)
  have hno : ∀ {v2 : Value} {n2 : Nat} {xs2 : List Value}, w'.ownsRow w4.heap.size 42 2 v2 n2 xs2 → ∀ k, v2.ownBlock = some k → ¬ k = ab := fun {v2 n2 xs2} h2 k hk e1 => by
    obtain ⟨cs', z, hc⟩ := own_type h2 hk
    rw [e1, hA.blk] at hc
    cases hc
  refine ⟨ot_fr hst hf2 (hno hst), hA.set 1 (by simp) v', ownsRow_fr ho hf2 (hno ho), Nat.succ_le_succ h.mj, fun u hu2 => ?_, fun k hk hv => ?_, (h.fr.trans hf (fun k hk e1 => ?_)).trans hf2 (fun _ _ h => h), h.abl⟩
  · rcases List.mem_append.1 hu2 with h1 | h1
    · exact h.one u h1
    · exact hu u h1
  · have hlt := (own_base h.stay hk).2
    rcases hat with hat | hat
    · exact h.ap k hk (by rw [← hat]; exact hv)
    · rw [hv] at hat
      injection hat with hat
      have : (wn.alloc o).heap.size = wn.heap.size + 1 := by simp
      omega
  · have := (own_base h.row e1).1
    omega
end
theorem info33b : (Tryd.prog.info? 33).map (fun i => (i.zero, i.size, i.bytes)) = some (some (.agg #[(.int .i64 0), (.slice none 0 0)]), 2, 32) := by kernel_rfl
theorem ek33 : ∃ i, ElemK Tryd.prog 25 33 i (.agg #[(.int .i64 0), (.slice none 0 0)]) 2 32 := elem_of Tryd.underlying25 info33b (by decide) (by decide) (by decide)
theorem px_late {t : S30} {x : S42} (h : ¬ x.f1 ≤ t.f2) : Px t x = true := by simp [Px, h]
theorem px_even {t : S30} {x : S42} (h : x.f1 ≤ t.f2) (ho : t.f4 = false) : Px t x = false := by simp [Px, h, kp, ho]
theorem step_nn {f : Fm} {t : S30} (hf : ∀ s e, f s = some e → 0 ≤ s) (ht : 0 ≤ t.f1) : ∀ s e, stepF f t s = some e → 0 ≤ s := by
  have hu : ∀ c s e, upd f t.f1 c s = some e → 0 ≤ s := fun c s e h => by
    unfold upd at h
    split at h
    · rename_i hs
      rw [hs]
      exact ht
    · exact hf s e h
  have hd : ∀ s e, del f t.f1 s = some e → 0 ≤ s := fun s e h => by
    unfold del at h
    split at h
    · cases h
    · exact hf s e h
  intro s e h
  unfold stepF at h
  repeat' split at h
  · exact hu _ s e h
  · exact hd s e h
  · exact hf s e h
  · exact hu _ s e h
  · exact hf s e h
  · exact hf s e (gone_some.1 h).1
  · exact hf s e h
theorem fold_nn : ∀ (T : List S30) (f : Fm), (∀ s e, f s = some e → 0 ≤ s) → (∀ t ∈ T, 0 ≤ t.f1) → ∀ s e, T.foldl stepF f s = some e → 0 ≤ s
  | [], f, hf, _ => hf
  | t :: r, f, hf, ht => fold_nn r (stepF f t) (step_nn hf (ht t (by simp))) (fun u hu => ht u (by simp [hu]))
theorem fAt_nn {T : List S30} (ht : ∀ t ∈ T, 0 ≤ t.f1) {s e : Int} (h : fAt T s = some e) : 0 ≤ s := fold_nn T _ (fun _ _ h => by cases h) ht s e h
theorem px_odd {t : S30} {x : S42} (h : x.f1 ≤ t.f2) (ho : t.f4 = true) (h0 : 0 ≤ x.f0) : Px t x = (x.f0.tmod 2 == 1) := by
  rw [Int.tmod_eq_emod_of_nonneg h0]
  have : x.f0 % 2 = 0 ∨ x.f0 % 2 = 1 := by omega
  rcases this with h1 | h1 <;> simp [Px, h, kp, ho, h1]
def WheelPost (W : World) (T : List S30) (en : Ending) (w' : World) : Prop := ∃ v L v2, en = .returned (.tuple #[v, v2]) ∧ OT w' W.heap.size v L ∧ Rep L (fAt T) ∧ L.length ≤ T.length ∧ Same W w'
theorem take_drop_le {L : List S42} {i : Nat} (hi : i < L.length) : (L.take i ++ L.drop (i + 1)).length + 1 = L.length := by
  rw [List.length_append, List.length_take, List.length_drop]
  omega
theorem take_mid_le {L : List S42} {i : Nat} (x : S42) (hi : i ≤ L.length) : (L.take i ++ [x] ++ L.drop i).length = L.length + 1 := by
  rw [List.length_append, List.length_append, List.length_take, List.length_drop, List.length_singleton]
  omega
set_option maxHeartbeats 8000000 in
set_option maxRecDepth 100000 in
theorem wheel_calls {W : World} {A0 : Option Addr} {c0 : Nat} {T : List S30} (hT : Kd.C k30 W A0 T.length T) (hc0 : T.length ≤ c0) (hn : T.length ≤ 40) (hu : ∀ t ∈ T, 0 ≤ t.f1) :
    Calls Tryd.prog 10 #[.slice A0 T.length c0] W (WheelPost W T) := by
  obtain ⟨i42, hK42⟩ := ek42
  obtain ⟨i33, hK33⟩ := ek33
  have HK42 := Aside0.mk hK42
  have HK33 := Aside0.mk hK33
  clear hK42 hK33
  have HT := Aside0.mk hT
  have HN := Aside0.mk hn
  have HC := Aside0.mk hc0
  have HU := Aside0.mk hu
  clear hT hn hc0 hu
  go_enter Tryd.func10, Tryd.ntmps10
  go_wp2
  go_loopg [4, 5, 6] T.length (fun kq v4 v5 v6 wr => ∃ (i : Nat) (L : List S42) (n : Nat) (cs : List Value), v6 = .int .i64 (i : Int) ∧ Aside0 (kq + i = T.length ∧ i ≤ T.length) ∧ Aside0 (OT wr W.heap.size v4 L ∧ Rep L (fAt (T.take i)) ∧ L.length ≤ i) ∧ Aside0 (wr.ownsRow W.heap.size 33 2 v5 n cs ∧ n ≤ i ∧ ∀ u ∈ cs, u.oneCell' = true) ∧ Aside0 (Same W wr))
  case atStart => exact ⟨0, [], 0, [], rfl, ⟨by omega⟩, ⟨ot_nil _ _, rep_nil, Nat.le_refl _⟩, ⟨⟨rfl, .inl ⟨rfl, rfl⟩⟩, Nat.le_refl _, fun _ h => by cases h⟩, ⟨Fr.refl _ _⟩⟩
  case round =>
    obtain ⟨i, L, n, cs, rfl, HI, HL, HO, HS⟩ := hrel
    obtain ⟨A, c, rfl, hlc, hC⟩ := ot_C HL.out.1 (by have := HL.out.2.2; have := HI.out.2; have := HN.out; omega)
    obtain ⟨A5, c5, rfl, hlc5, -⟩ := read_own (w := wr) (W := wr) HO.out.1 HO.out.2.2
    have HCL := Aside0.mk hC
    have HCA := Aside0.mk hlc
    clear hC hlc hlc5
    have i0 : 0 ≤ (i : Int) := by omega
    by_cases hlt : i < T.length
    · have i1 : (i : Int) < (T.length : Int) := by omega
      have i2 : decide ((i : Int) < (T.length : Int)) = true := decide_eq_true i1
      obtain ⟨ad, rfl, t0, t1, t2, t3, t4⟩ := at_T30 (Kd.C_below HT.out (below_of_fr HS.out)) (i : Int) (by omega) (by omega)
      rw [Int.toNat_natCast] at t0 t1 t2 t3 t4
      have hti := List.getElem?_eq_getElem hlt
      rw [rd30_at hti] at t0 t1 t2 t3 t4
      generalize T[i] = t at t0 t1 t2 t3 t4 hti
      have HTI := Aside0.mk hti
      clear hti
      go_upto_region 7 with (fail)
      have HB1 : Aside0 (Blk (wr.alloc (.cells #[.int .i64 t.f0, .int .u64 t.f1, .int .i64 t.f2, .int .i64 t.f3, .bool t.f4] 30)) wr.heap.size 30 [.int .i64 t.f0, .int .u64 t.f1, .int .i64 t.f2, .int .i64 t.f3, .bool t.f4]) := ⟨Blk.new _ _ _⟩
      have HS1 : Aside0 (Same wr (wr.alloc (.cells #[.int .i64 t.f0, .int .u64 t.f1, .int .i64 t.f2, .int .i64 t.f3, .bool t.f4] 30))) := ⟨(Fr.refl _ _).alloc _⟩
      generalize wr.alloc (.cells #[.int .i64 t.f0, .int .u64 t.f1, .int .i64 t.f2, .int .i64 t.f3, .bool t.f4] 30) = w1 at HB1 HS1 ⊢
      generalize htb : wr.heap.size = tb at HB1 ⊢
      clear t0 t1 t2 t3 t4 htb
      have hL1000 : L.length ≤ 1000 := by have := HL.out.2.2; have := HI.out.2; have := HN.out; omega
      obtain ⟨ks, r, hsf, hsi⟩ := seat_f t.f1 hL1000
      have PS : Aside0 (Calls Tryd.prog 18 #[.slice A L.length c, .int .u64 t.f1] w1 (fun e w' => e = .returned (.int .i64 r) ∧ Drawn0 w1 w')) := ⟨spec_seat.calls ks A c L t.f1 r w1 (Kd.C_below HCL.out (below_of_fr HS1.out)) HCA.out hsf⟩
      have HSE := Aside0.mk (HL.out.2.1.seat hsi)
      have d1 := HB1.out.cell 1 rfl
      clear hsf hsi
      go_wp2_with fail
      refine PS.out.mono ?_
      rintro e w2 ⟨rfl, hdr⟩
      have HB2 := Aside0.mk (HB1.out.fr (drawn_same hdr) (fun h => h))
      have HS2 : Aside0 (Same wr w2) := ⟨HS1.out.trans (drawn_same hdr) (fun _ _ h => h)⟩
      have HCL2 := Aside0.mk (Kd.C_below HCL.out (below_of_fr HS2.out))
      clear hdr PS HB1 HS1 d1
      go_upto_region 8 with (fail)
      generalize hff : fAt (T.take i) = f at HL HSE
      have HFF := Aside0.mk hff
      clear hff
      go_cut [9, 22] from 136 (fun v9 v22 wc => v9 = .bool (decide (f t.f1 = some t.f2)) ∧ Same w2 wc)
      case first =>
        have d2 := HB2.out.cell 2 rfl
        rcases HSE.out with ⟨j, x, hr, hx, hxs, hfx⟩ | ⟨hr, hno⟩
        · subst hr
          have hjl := (List.getElem?_eq_some_iff.1 hx).1
          have j0 : (0 : Int) ≤ (j : Int) := by omega
          have j1 : (j : Int) < (L.length : Int) := by omega
          have j2 : decide (0 ≤ (j : Int)) = true := decide_eq_true j0
          have j3 : decide ((j : Int) ≥ 0) = true := decide_eq_true j0
          obtain ⟨ad2, e2, x0, x1⟩ := at_T42 HCL2.out (j : Int) j0 j1
          subst e2
          rw [Int.toNat_natCast, rd_at hx] at x0 x1
          have hb : (x.f1 == t.f2) = decide (f t.f1 = some t.f2) := by
            rw [hfx]
            by_cases h : x.f1 = t.f2 <;> simp [h]
          have HBB := Aside0.mk hb
          clear hb hfx
          go_quiet (fail)
          go_wp2
          go_meet
          case rel => exact ⟨by rw [← HBB.out], by first | exact (Fr.refl _ _) | exact (Fr.refl _ _).drew | exact (Fr.refl _ _).drewN _⟩
        · subst hr
          have j2 : decide ((0 : Int) ≤ -1) = false := by decide
          have j3 : decide ((-1 : Int) ≥ 0) = false := by decide
          have hb : decide (f t.f1 = some t.f2) = false := decide_eq_false (by rw [hno]; intro h; cases h)
          have HBB := Aside0.mk hb
          clear hb hno
          go_quiet (fail)
          go_wp2
          go_meet
          case rel => exact ⟨by rw [HBB.out], by first | exact (Fr.refl _ _) | exact (Fr.refl _ _).drew | exact (Fr.refl _ _).drewN _⟩
      case rest =>
        obtain ⟨e9, hs9⟩ := hcut
        subst u9
        have HS3 : Aside0 (Same wr wc) := ⟨HS2.out.trans hs9 (fun _ _ h => h)⟩
        have HB3 := Aside0.mk (HB2.out.fr hs9 (fun h => h))
        clear hs9 HS2 HB2 HCL2
        go_upto_region 10 with (fail)
        have HB4 : Aside0 (Blk (wc.alloc (.cells #[.int .i64 0, .slice none 0 0] 33)) tb 30 [.int .i64 t.f0, .int .u64 t.f1, .int .i64 t.f2, .int .i64 t.f3, .bool t.f4]) := ⟨HB3.out.alloc _⟩
        have HS4 : Aside0 (Same wr (wc.alloc (.cells #[.int .i64 0, .slice none 0 0] 33))) := ⟨HS3.out.alloc _⟩
        have HA4 : Aside0 (Blk (wc.alloc (.cells #[.int .i64 0, .slice none 0 0] 33)) wc.heap.size 33 [.int .i64 0, .slice none 0 0]) := ⟨Blk.new _ _ _⟩
        generalize wc.alloc (.cells #[.int .i64 0, .slice none 0 0] 33) = w4 at HB4 HS4 HA4 ⊢
        have HAB : Aside0 (wr.heap.size ≤ wc.heap.size) := ⟨HS3.out.size⟩
        generalize wc.heap.size = ab at HA4 HAB ⊢
        clear HS3 HB3
        have d0 := HB4.out.cell 0 rfl
        go_cut [41] from 136 (fun v41 wx => v41 = .int .i64 t.f0 ∧ wx = w4)
        case first =>
          go_wp2
          go_meet
          case rel => exact ⟨rfl, rfl⟩
        case rest =>
          obtain ⟨e41, ex⟩ := hcut
          subst u41
          subst wc
          go_step
          have HCL4 := Aside0.mk (Kd.C_below HCL.out (below_of_fr HS4.out))
          have HLN : Aside0 (L.length ≤ i ∧ L.length ≤ 1000) := ⟨HL.out.2.2, hL1000⟩
          have HBS : Aside0 (W.heap.size ≤ w4.heap.size) := ⟨Nat.le_trans HS.out.size HS4.out.size⟩
          have HPUT : Aside0 (∀ (B : World) (base : Nat) (v : Value) (M : List S42) (e : Int), Same wr B → OT B base v M → M.length ≤ 1000 → ∃ A' c' M' j, v = .slice A' M.length c' ∧ j ≤ M.length ∧ M' = M.take j ++ [⟨t.f1, e⟩] ++ M.drop j ∧
              Calls Tryd.prog 20 #[.slice A' M.length c', .agg #[.int .u64 t.f1, .int .i64 e]] B (fun en w' => ∃ v0, en = .returned v0 ∧ OT w' B.heap.size v0 M' ∧ Same B w')) := ⟨fun B base v M e hsb hot hM => by
            obtain ⟨A', c', e1, hc', hC'⟩ := ot_C hot (by omega)
            obtain ⟨kp_, j, hj, hpf⟩ := put_f (L := M) t.f1 e hM
            exact ⟨A', c', _, j, e1, hj, rfl, (spec_put.calls kp_ A' c' M t.f1 e _ B hC' hc' hpf).mono (fun en w' ⟨v0, h1, h2, h3⟩ => ⟨v0, h1, ot_R h2, fr_of_below h3⟩)⟩⟩
          have HFIN : Aside0 (∀ wx v M, OT wx w4.heap.size v M → Rep M (stepF f t) → M.length ≤ i + 1 → Same w4 wx → Aside0 (Mid2 W wr wx i ab f t v)) := ⟨fun wx v M h1 h2 h3 h4 => ⟨⟨⟨M, ot_low h1 HBS.out, h2, h3⟩, ⟨0, none, 0, 0, HA4.out.fr h4 (fun h => h)⟩, HS4.out.trans h4 (fun _ _ h => h)⟩⟩⟩
          have HOLD : Aside0 (stepF f t = f → ∀ wx k, Fr (fun b => b = ab) w4 wx → Blk wx ab 33 [.int .i64 k, .slice none 0 0] → wr.heap.size ≤ ab → Aside0 (Mid2 W wr wx i ab f t (.slice A L.length c))) := ⟨fun hst wx k h4 h5 h6 => by
            have hsm : Same wr wx := HS4.out.trans h4 (fun b hb e => by omega)
            exact ⟨⟨L, ot_fr HL.out.1 hsm (fun _ _ h => h), by rw [hst]; exact HL.out.2.1, by have := HL.out.2.2; omega⟩, ⟨k, none, 0, 0, h5⟩, hsm⟩⟩
          go_cut [4, 9] from 136 (fun v4 v9 wx => Aside0 (Mid2 W wr wx i ab f t v4))
          case first =>
            have d1 := HB4.out.cell 1 rfl
            have d2 := HB4.out.cell 2 rfl
            have d3 := HB4.out.cell 3 rfl
            have g0 := HA4.out.cell 0 rfl
            have gf := HA4.out.free 0
            by_cases z0 : t.f0 = 0
            · have y0 : (t.f0 == 0) = true := by simpa using z0
              have HST : Aside0 (stepF f t = upd f t.f1 t.f2) := ⟨by unfold stepF; rw [if_pos z0]⟩
              clear z0
              rcases HSE.out with ⟨j, x, hr, hx, hxs, hfx⟩ | ⟨hr, hno⟩
              · subst hr
                have hjl := (List.getElem?_eq_some_iff.1 hx).1
                have j0 : (0 : Int) ≤ (j : Int) := by omega
                have j2 : decide (0 ≤ (j : Int)) = true := decide_eq_true j0
                have j3 : decide ((j : Int) ≥ 0) = true := decide_eq_true j0
                obtain ⟨M0, hM0⟩ : ∃ M0, L.take j ++ L.drop (j + 1) = M0 := ⟨_, rfl⟩
                have PW : Aside0 (Calls Tryd.prog 19 #[.slice A L.length c, .int .i64 (j : Int)] w4 (fun e w' => ∃ v0, e = .returned v0 ∧ OT w' w4.heap.size v0 M0 ∧ Same w4 w')) := ⟨(spec_without.calls A c L (j : Int) M0 w4 HCL4.out HCA.out (by rw [← hM0]; exact without_f hjl hL1000)).mono (fun e w' ⟨v0, h1, h2, h3⟩ => ⟨v0, h1, ot_R h2, fr_of_below h3⟩)⟩
                have HREP : Aside0 (Rep M0 (del f t.f1)) := ⟨by
                  have h := HL.out.2.1
                  rw [split_at hx] at h
                  have h2 := h.cut
                  rw [hxs, hM0] at h2
                  exact h2⟩
                have HLE : Aside0 (M0.length + 1 = L.length) := ⟨by rw [← hM0]; exact take_drop_le hjl⟩
                clear hM0
                clear hx hxs hfx hjl
                go_wp2_with fail
                refine PW.out.mono ?_
                rintro e w5 ⟨v5, rfl, hR5, hb5⟩
                have HS5 := Aside0.mk hb5
                obtain ⟨A', c', M', j', rfl, hj', hM', hcall⟩ := HPUT.out w5 _ v5 _ t.f2 (HS4.out.trans HS5.out (fun _ _ h => h)) hR5 (by have := HLE.out; omega)
                have HJ := Aside0.mk (And.intro hj' hM')
                have PP := Aside0.mk hcall
                have HB5 := Aside0.mk (HB4.out.fr HS5.out (fun h => h))
                replace d1 := HB5.out.cell 1 rfl
                replace d2 := HB5.out.cell 2 rfl
                clear hR5 hb5 hj' hM' hcall d0 d3 g0 gf PW
                go_wp2_with fail
                refine PP.out.mono ?_
                rintro e w6 ⟨v6, rfl, hO6, hs6⟩
                have HO6 := Aside0.mk hO6
                have HS6 := Aside0.mk hs6
                clear hO6 hs6 PP
                go_wp2
                go_meet
                case rel =>
                  refine HFIN.out _ _ M' (ot_low HO6.out HS5.out.size) ?_ ?_ (HS5.out.trans HS6.out (fun _ _ h => h))
                  · rw [HST.out, HJ.out.2, ← upd_del]
                    refine Rep.put ?_ (by simp [del])
                    rw [List.take_append_drop]
                    exact HREP.out
                  · rw [HJ.out.2, take_mid_le _ HJ.out.1]
                    have := HLE.out
                    have := HLN.out.1
                    omega
              · subst hr
                have j2 : decide ((0 : Int) ≤ -1) = false := by decide
                have j3 : decide ((-1 : Int) ≥ 0) = false := by decide
                obtain ⟨A', c', M', j', e5, hj', hM', hcall⟩ := HPUT.out w4 _ _ _ t.f2 HS4.out (ot_fr HL.out.1 HS4.out (fun _ _ h => h)) hL1000
                injection e5 with e5 _ e6
                subst e5
                subst e6
                have HJ := Aside0.mk (And.intro hj' hM')
                have PP := Aside0.mk hcall
                have HNO := Aside0.mk hno
                clear hj' hM' hcall hno d0 d3 g0 gf
                go_wp2_with fail
                refine PP.out.mono ?_
                rintro e w6 ⟨v6, rfl, hO6, hs6⟩
                have HO6 := Aside0.mk hO6
                have HS6 := Aside0.mk hs6
                clear hO6 hs6 PP
                go_wp2
                go_meet
                case rel =>
                  refine HFIN.out _ _ M' HO6.out ?_ ?_ HS6.out
                  · rw [HST.out, HJ.out.2]
                    refine Rep.put ?_ HNO.out
                    rw [List.take_append_drop]
                    exact HL.out.2.1
                  · rw [HJ.out.2, take_mid_le _ HJ.out.1]
                    have := HLN.out.1
                    omega
            · have y0 : (t.f0 == 0) = false := by simpa using z0
              by_cases z1 : t.f0 = 1
              · have y1 : (t.f0 == 1) = true := by simpa using z1
                by_cases hth : f t.f1 = some t.f2
                · have HST : Aside0 (stepF f t = del f t.f1) := ⟨by unfold stepF; rw [if_neg z0, if_pos z1, if_pos hth]⟩
                  have b9 : decide (f t.f1 = some t.f2) = true := decide_eq_true hth
                  rw [b9]
                  rcases HSE.out with ⟨j, x, hr, hx, hxs, hfx⟩ | ⟨hr, hno⟩
                  · subst hr
                    have hjl := (List.getElem?_eq_some_iff.1 hx).1
                    obtain ⟨M0, hM0⟩ : ∃ M0, L.take j ++ L.drop (j + 1) = M0 := ⟨_, rfl⟩
                    have PW : Aside0 (Calls Tryd.prog 19 #[.slice A L.length c, .int .i64 (j : Int)] w4 (fun e w' => ∃ v0, e = .returned v0 ∧ OT w' w4.heap.size v0 M0 ∧ Same w4 w')) := ⟨(spec_without.calls A c L (j : Int) M0 w4 HCL4.out HCA.out (by rw [← hM0]; exact without_f hjl hL1000)).mono (fun e w' ⟨v0, h1, h2, h3⟩ => ⟨v0, h1, ot_R h2, fr_of_below h3⟩)⟩
                    have HREP : Aside0 (Rep M0 (del f t.f1)) := ⟨by
                      have h := HL.out.2.1
                      rw [split_at hx] at h
                      have h2 := h.cut
                      rw [hxs, hM0] at h2
                      exact h2⟩
                    have HLE : Aside0 (M0.length + 1 = L.length) := ⟨by rw [← hM0]; exact take_drop_le hjl⟩
                    clear hM0 hx hxs hfx hjl d1 d2 d3 g0 gf z0 z1 hth b9
                    go_wp2_with fail
                    refine PW.out.mono ?_
                    rintro e w5 ⟨v5, rfl, hR5, hb5⟩
                    have HO5 := Aside0.mk hR5
                    have HS5 := Aside0.mk hb5
                    clear hR5 hb5 PW
                    go_wp2
                    go_meet
                    case rel =>
                      refine HFIN.out _ _ M0 HO5.out (by rw [HST.out]; exact HREP.out) ?_ HS5.out
                      have := HLE.out
                      have := HLN.out.1
                      omega
                  · rw [hno] at hth
                    cases hth
                · have HST : Aside0 (stepF f t = f) := ⟨by unfold stepF; rw [if_neg z0, if_pos z1, if_neg hth]⟩
                  have b9 : decide (f t.f1 = some t.f2) = false := decide_eq_false hth
                  rw [b9]
                  clear hth b9 d1 d2 d3 z0 z1
                  go_wp2
                  go_meet
                  case rel => exact HOLD.out HST.out _ 1 (fr_set1 (F := fun b => b = ab) (Fr.refl _ w4) rfl _) (HA4.out.set 0 (by simp) _) HAB.out
              · have y1 : (t.f0 == 1) = false := by simpa using z1
                by_cases z2 : t.f0 = 2
                · have y2 : (t.f0 == 2) = true := by simpa using z2
                  by_cases hth : f t.f1 = some t.f2
                  · have HST : Aside0 (stepF f t = upd f t.f1 t.f3) := ⟨by unfold stepF; rw [if_neg z0, if_neg z1, if_pos z2, if_pos hth]⟩
                    have b9 : decide (f t.f1 = some t.f2) = true := decide_eq_true hth
                    rw [b9]
                    rcases HSE.out with ⟨j, x, hr, hx, hxs, hfx⟩ | ⟨hr, hno⟩
                    · subst hr
                      have hjl := (List.getElem?_eq_some_iff.1 hx).1
                      obtain ⟨M0, hM0⟩ : ∃ M0, L.take j ++ L.drop (j + 1) = M0 := ⟨_, rfl⟩
                      have PW : Aside0 (∀ B, Same wr B → Calls Tryd.prog 19 #[.slice A L.length c, .int .i64 (j : Int)] B (fun e w' => ∃ v0, e = .returned v0 ∧ OT w' B.heap.size v0 M0 ∧ Same B w')) := ⟨fun B hB => (spec_without.calls A c L (j : Int) M0 B (Kd.C_below HCL.out (below_of_fr hB)) HCA.out (by rw [← hM0]; exact without_f hjl hL1000)).mono (fun e w' ⟨v0, h1, h2, h3⟩ => ⟨v0, h1, ot_R h2, fr_of_below h3⟩)⟩
                      have HREP : Aside0 (Rep M0 (del f t.f1)) := ⟨by
                        have h := HL.out.2.1
                        rw [split_at hx] at h
                        have h2 := h.cut
                        rw [hxs, hM0] at h2
                        exact h2⟩
                      have HLE : Aside0 (M0.length + 1 = L.length) := ⟨by rw [← hM0]; exact take_drop_le hjl⟩
                      have HLE2 : Aside0 (M0.length ≤ 1000) := ⟨by have := HLE.out; omega⟩
                      clear hM0 hx hxs hfx hjl d2 g0 gf z0 z1 z2 hth b9
                      have HSS : Aside0 (∀ B B' : World, (Same w4 B ∧ B.cell? ⟨tb, 1, none⟩ = some (.int .u64 t.f1) ∧ B.cell? ⟨tb, 3, none⟩ = some (.int .i64 t.f3)) → Same B B' → (Same w4 B' ∧ B'.cell? ⟨tb, 1, none⟩ = some (.int .u64 t.f1) ∧ B'.cell? ⟨tb, 3, none⟩ = some (.int .i64 t.f3))) := ⟨fun B B' h hb => ⟨h.1.trans hb (fun _ _ h => h), hb.cell h.2.1, hb.cell h.2.2⟩⟩
                      have hS0 : Same w4 w4.drew ∧ w4.drew.cell? ⟨tb, 1, none⟩ = some (.int .u64 t.f1) ∧ w4.drew.cell? ⟨tb, 3, none⟩ = some (.int .i64 t.f3) := ⟨(Fr.refl _ w4).drew, d1, d3⟩
                      go_upto_region 21 with (fail)
                      go_region_held3 (fun B => Same w4 B ∧ B.cell? ⟨tb, 1, none⟩ = some (.int .u64 t.f1) ∧ B.cell? ⟨tb, 3, none⟩ = some (.int .i64 t.f3)) (first | exact hS0 | exact hS6 | exact hS5)
                        (first
                          | (go_at_call 19; refine (PW.out _ (HS4.out.trans (show Same w4 _ by first | exact hS0.1 | (have hh := hS; exact hh.1)) (fun _ _ h => h))).mono ?_; rintro e w5 ⟨v5, rfl, hO5, hb5⟩; have hS5 := HSS.out _ _ (by first | exact hS0 | exact hS) hb5; obtain ⟨A', c', M', j', rfl, hj', hM', hcall⟩ := HPUT.out w5 _ v5 _ t.f3 (HS4.out.trans hS5.1 (fun _ _ h => h)) hO5 HLE2.out; have HJ := Aside0.mk (And.intro hj' hM'); clear hj' hM')
                          | (go_at_call 20; refine hcall.mono ?_; rintro e w6 ⟨v6, rfl, hO6, hb6⟩; have hS6 := HSS.out _ _ hS5 hb6))
                      have HO6 := Aside0.mk hO6
                      have HS6 := Aside0.mk hS6
                      have HB5 := Aside0.mk hS5
                      clear hO6 hS6 hO5 hS5 hcall hb5 hb6
                      go_wp2
                      go_meet
                      case rel =>
                        refine HFIN.out _ _ M' (ot_low HO6.out HB5.out.1.size) ?_ ?_ HS6.out.1
                        · rw [HST.out, HJ.out.2, ← upd_del]
                          refine Rep.put ?_ (by simp [del])
                          rw [List.take_append_drop]
                          exact HREP.out
                        · rw [HJ.out.2, take_mid_le _ HJ.out.1]
                          have := HLE.out
                          have := HLN.out.1
                          omega
                    · rw [hno] at hth
                      cases hth
                  · have HST : Aside0 (stepF f t = f) := ⟨by unfold stepF; rw [if_neg z0, if_neg z1, if_pos z2, if_neg hth]⟩
                    have b9 : decide (f t.f1 = some t.f2) = false := decide_eq_false hth
                    rw [b9]
                    clear hth b9 d1 d2 d3 z0 z1 z2
                    go_wp2
                    go_meet
                    case rel => exact HOLD.out HST.out _ 1 (fr_set1 (F := fun b => b = ab) (Fr.refl _ w4) rfl _) (HA4.out.set 0 (by simp) _) HAB.out
                · have y2 : (t.f0 == 2) = false := by simpa using z2
                  by_cases z3 : t.f0 = 3
                  · have y3 : (t.f0 == 3) = true := by simpa using z3
                    have HST := Aside0.mk (gone_step HL.out.2.1 z3)
                    have HO3 : Aside0 (Op3 w4 w4 ab t L 0 0 (.slice none 0 0) (.slice none 0 0) 0 []) := ⟨⟨ot_nil _ _, HA4.out, ⟨rfl, .inl ⟨rfl, rfl⟩⟩, Nat.le_refl _, fun _ h => (by cases h), fun k h => (by cases h), Fr.refl _ _, HA4.out.lt⟩⟩
                    clear d1 d2 d3 z0 z1 z2 z3 g0 gf
                    obtain ⟨wo, hwo⟩ : ∃ wo, wo = wr := ⟨_, rfl⟩
                    subst hwo
                    go_wp2
                    go_loopg [11, 12] L.length (fun kq v11 v12 wn => ∃ (j m : Nat) (AX : Option Addr) (cX : Nat) (csX : List Value), v12 = .int .i64 (j : Int) ∧ Aside0 (kq + j = L.length ∧ j ≤ L.length) ∧ Aside0 (Op3 w4 wn ab t L j j v11 (.slice AX m cX) m csX))
                    case atStart => exact ⟨0, 0, none, 0, [], rfl, ⟨by omega⟩, HO3⟩
                    case round =>
                      clear HO3
                      obtain ⟨j, m, AX, cX, csX, rfl, HJ, HO3⟩ := hrel
                      have j0 : (0 : Int) ≤ (j : Int) := by omega
                      by_cases hjl : j < L.length
                      · have j1 : (j : Int) < (L.length : Int) := by omega
                        have j2 : decide ((j : Int) < (L.length : Int)) = true := decide_eq_true j1
                        obtain ⟨x, hx⟩ : ∃ x, L[j]? = some x := ⟨_, List.getElem?_eq_getElem hjl⟩
                        have hsm : Same wo wr := HS4.out.trans HO3.out.fr (fun b hb e => by have := HAB.out; omega)
                        obtain ⟨ad2, e2, x0, x1⟩ := at_T42 (Kd.C_below HCL.out (below_of_fr hsm)) (j : Int) j0 j1
                        subst e2
                        rw [Int.toNat_natCast, rd_at hx] at x0 x1
                        have HX := Aside0.mk hx
                        have HX0 : Aside0 (0 ≤ x.f0) := ⟨by
                          have h1 := (HL.out.2.1.mem x.f0 x.f1).2 (List.mem_of_getElem? hx)
                          rw [← HFF.out] at h1
                          exact fAt_nn (fun t ht => HU.out t (List.mem_of_mem_take ht)) h1⟩
                        have HXC : Aside0 (∀ wx : World, Fr (fun b => b = ab) w4 wx → (wx.cell? (ad2.add (j * 2)) = some (.int .u64 x.f0) ∧ wx.cell? ⟨(ad2.add (j * 2)).block, (ad2.add (j * 2)).off + 1, none⟩ = some (.int .i64 x.f1)) ∧ wx.cell? ⟨tb, 2, none⟩ = some (.int .i64 t.f2) ∧ wx.cell? ⟨tb, 4, none⟩ = some (.bool t.f4)) := ⟨fun wx hfr => by
                          have hsm : Same wo wx := HS4.out.trans hfr (fun b hb e => by have := HAB.out; omega)
                          obtain ⟨ad3, e3, y0, y1⟩ := at_T42 (Kd.C_below HCL.out (below_of_fr hsm)) (j : Int) j0 j1
                          injection e3 with e3
                          subst e3
                          rw [Int.toNat_natCast, rd_at HX.out] at y0 y1
                          have hb := HB4.out.fr hfr (fun e => blk_ne HB4.out HA4.out (by decide) e)
                          exact ⟨⟨y0, y1⟩, hb.cell 2 rfl, hb.cell 4 rfl⟩⟩
                        have d2 := (HXC.out wr HO3.out.fr).2.1
                        have g1 := HO3.out.ans.cell 1 rfl
                        have gf := HO3.out.ans.free 1
                        clear hx hsm
                        go_upto_region 28 with (fail)
                        go_quiet (fail)
                        have HOQ := Aside0.mk (HO3.out.same ((Fr.refl _ wr).drewN nq))
                        generalize wr.drewN nq = w28 at HOQ ⊢
                        clear HO3 d2 g1 gf x0 x1
                        go_upto_if 91 with (fail)
                        go_cut [91] from 136 (fun v91 wx => ∃ (m : Nat) (AX : Option Addr) (cX : Nat) (csX : List Value), Aside0 (Op3 w4 wx ab t L j (j + 1) u11 (.slice AX m cX) m csX))
                        case first =>
                          by_cases hle : x.f1 ≤ t.f2
                          · have hle1 : decide (x.f1 ≤ t.f2) = true := decide_eq_true hle
                            rw [hle1]
                            obtain ⟨⟨x0, x1⟩, d2, -⟩ := HXC.out w28 HOQ.out.fr
                            have g1 := HOQ.out.ans.cell 1 rfl
                            have gf := HOQ.out.ans.free 1
                            go_upto_region 29 with (fail)
                            have hRN : ReadG (w28.drew.alloc (.cells #[.int .u64 x.f0, .int .i64 x.f1] 42)) (some ⟨w28.heap.size, 0, none⟩) 1 2 [.int .u64 x.f0, .int .i64 x.f1] := read_newG (us := [.int .u64 x.f0, .int .i64 x.f1]) (by rfl) (by intro u hu; simp only [List.mem_cons, List.not_mem_nil, or_false] at hu; rcases hu with rfl | rfl <;> rfl)
                            have HRN := Aside0.mk hRN
                            have HRW : Aside0 ((w28.drew.alloc (.cells #[.int .u64 x.f0, .int .i64 x.f1] 42)).ownsRow w4.heap.size 42 2 (.slice AX m cX) m csX ∧ w4.heap.size ≤ (w28.drew.alloc (.cells #[.int .u64 x.f0, .int .i64 x.f1] 42)).heap.size ∧ m + 1 ≤ 1000000) := ⟨((HOQ.out.same ((Fr.refl _ _).drew.alloc _)).row), by have := HOQ.out.fr.size; simp; omega, by have := HOQ.out.mj; omega⟩
                            have HONE : Aside0 (∀ u ∈ csX ++ [.int .u64 x.f0, .int .i64 x.f1], u.oneCell' = true) := ⟨fun u hu => by
                              rcases List.mem_append.1 hu with h1 | h1
                              · exact HOQ.out.one u h1
                              · simp only [List.mem_cons, List.not_mem_nil, or_false] at h1
                                rcases h1 with rfl | rfl <;> rfl⟩
                            have HGB : Aside0 (∀ w5, (w28.drew.alloc (.cells #[.int .u64 x.f0, .int .i64 x.f1] 42)).grownBy w5 (Value.slice AX m cX).ownBlock → Blk w5 ab 33 [.int .i64 0, .slice AX m cX]) := ⟨fun w5 hg =>
                              (HOQ.out.ans.drew.alloc _).fr (Fr.grown hg) (fun e1 => by
                                obtain ⟨cs', z, hc⟩ := own_type HOQ.out.row e1
                                rw [HOQ.out.ans.blk] at hc
                                cases hc)⟩
                            have hq1 : (w28.drew.alloc (.cells #[.int .u64 x.f0, .int .i64 x.f1] 42)).cell? ⟨ab, 1, none⟩ = some (.slice AX m cX) := (HOQ.out.ans.drew.alloc _).cell 1 rfl
                            have hq2 : (w28.alloc (.cells #[.int .u64 x.f0, .int .i64 x.f1] 42)).cell? ⟨ab, 1, none⟩ = some (.slice AX m cX) := (HOQ.out.ans.alloc _).cell 1 rfl
                            have hq3 : (w28.alloc (.cells #[.int .u64 x.f0, .int .i64 x.f1] 42)).drew.cell? ⟨ab, 1, none⟩ = some (.slice AX m cX) := (HOQ.out.ans.alloc _).drew.cell 1 rfl
                            clear hRN
                            go_region_law (first | (refine step_ownG HK42.out rfl (.tmp 93) (.tmp 98) rfl (v := .slice AX m cX) (by rfl) HRW.out.1 HRW.out.2.1 (by rfl) HRN.out HRW.out.2.2 ?_; intro v' w5 ho hg hat; obtain ⟨A', c', hv', hl', -⟩ := read_own (w := w5) (W := w5) ho HONE.out; subst hv'; have hb5 := HGB.out w5 hg; have q1 := hb5.cell 1 rfl; have q2 := hb5.free 1))
                            all_goals (
                              have hg2 : (w28.drew.alloc (.cells #[.int .u64 x.f0, .int .i64 x.f1] 42)).grownBy w5 (Value.slice AX m cX).ownBlock := hg
                              have hat2 : (Value.slice A' (m + 1) c').ownBlock = (Value.slice AX m cX).ownBlock ∨ (Value.slice A' (m + 1) c').ownBlock = some (w28.drew.alloc (.cells #[.int .u64 x.f0, .int .i64 x.f1] 42)).heap.size := hat
                              have HFO := Aside0.mk ((HOQ.out.same (Fr.refl _ w28).drew).expired hg2 (by intro u hu; simp only [List.mem_cons, List.not_mem_nil, or_false] at hu; rcases hu with rfl | rfl <;> rfl) ho hat2)
                              clear hg2 hat2 hg hat ho hb5 q1 q2 hq1 hq2 hq3
                              go_wp2
                              go_meet
                              case rel => exact ⟨m + 1, A', c', _, HFO⟩)
                          · have hle1 : decide (x.f1 ≤ t.f2) = false := decide_eq_false hle
                            rw [hle1]
                            go_wp2
                            go_meet
                            case rel => exact ⟨m, AX, cX, csX, ⟨HOQ.out.more (Nat.le_succ _)⟩⟩
                        case rest =>
                          clear HOQ
                          obtain ⟨m, AX, cX, csX, HO3⟩ := hcut
                          obtain ⟨⟨x0, x1⟩, d2, d4⟩ := HXC.out wc HO3.out.fr
                          go_upto_region 30 with (fail)
                          obtain ⟨w30, hw30⟩ : ∃ w30, w30 = wc := ⟨_, rfl⟩
                          subst hw30
                          go_cut [121] from 136 (fun v121 wx => v121 = .bool (Px t x) ∧ Same w30 wx)
                          case first =>
                            by_cases hle : x.f1 ≤ t.f2
                            · have hle1 : decide (x.f1 > t.f2) = false := decide_eq_false (by omega)
                              have hle2 : decide (t.f2 < x.f1) = false := decide_eq_false (by omega)
                              cases ho : t.f4 with
                              | false =>
                                have HP := Aside0.mk (px_even hle ho)
                                rw [ho] at d4
                                clear ho
                                go_quiet (fail)
                                go_wp2
                                go_meet
                                case rel => exact ⟨by rw [HP.out], by first | exact (Fr.refl _ _) | exact (Fr.refl _ _).drew | exact (Fr.refl _ _).drewN _⟩
                              | true =>
                                have HP := Aside0.mk (px_odd hle ho HX0.out)
                                rw [ho] at d4
                                clear ho
                                go_quiet (fail)
                                go_wp2
                                go_meet
                                case rel => exact ⟨by rw [HP.out], by first | exact (Fr.refl _ _) | exact (Fr.refl _ _).drew | exact (Fr.refl _ _).drewN _⟩
                            · have hle1 : decide (x.f1 > t.f2) = true := decide_eq_true (by omega)
                              have hle2 : decide (t.f2 < x.f1) = true := decide_eq_true (by omega)
                              have HP := Aside0.mk (px_late hle)
                              go_quiet (fail)
                              go_wp2
                              go_meet
                              case rel => exact ⟨by rw [HP.out], by first | exact (Fr.refl _ _) | exact (Fr.refl _ _).drew | exact (Fr.refl _ _).drewN _⟩
                          case rest =>
                            obtain ⟨e121, hs30⟩ := hcut
                            subst u121
                            have HO31 := Aside0.mk (HO3.out.same hs30)
                            have HJ1 : Aside0 (j + 1 ≤ L.length) := ⟨hjl⟩
                            clear HO3 hs30 x0 x1 d2 d4
                            cases hp : Px t x with
                            | false =>
                              have HP := Aside0.mk hp
                              clear hp
                              go_wp2
                              go_roundg (L.length - (j + 1))
                              case measure => have := HJ.out; omega
                              case rel => exact ⟨j + 1, m, AX, cX, csX, rfl, ⟨by have := HJ1.out; omega⟩, ⟨HO31.out.skip HX.out HP.out⟩⟩
                            | true =>
                              have HP := Aside0.mk hp
                              clear hp
                              obtain ⟨⟨x0, x1⟩, -, -⟩ := HXC.out wc HO31.out.fr
                              have HRN : Aside0 (ReadG (wc.alloc (.cells #[.int .u64 x.f0, .int .i64 x.f1] 42)) (some ⟨wc.heap.size, 0, none⟩) 1 2 [.int .u64 x.f0, .int .i64 x.f1]) := ⟨read_newG (us := [.int .u64 x.f0, .int .i64 x.f1]) (by rfl) (by intro u hu; simp only [List.mem_cons, List.not_mem_nil, or_false] at hu; rcases hu with rfl | rfl <;> rfl)⟩
                              have HRW : Aside0 ((wc.alloc (.cells #[.int .u64 x.f0, .int .i64 x.f1] 42)).ownsRow w4.heap.size 42 2 u11 ((L.take j).filter (Px t)).length (tcS ((L.take j).filter (Px t))) ∧ w4.heap.size ≤ (wc.alloc (.cells #[.int .u64 x.f0, .int .i64 x.f1] 42)).heap.size ∧ ((L.take j).filter (Px t)).length + 1 ≤ 1000000) :=
                                ⟨HO31.out.stay.alloc _, by have := HO31.out.fr.size; simp; omega, by
                                  have h1 := List.length_filter_le (Px t) (L.take j)
                                  rw [List.length_take] at h1
                                  omega⟩
                              generalize hcnt : ((L.take j).filter (Px t)).length = nst at HRW
                              have HCN := Aside0.mk hcnt
                              clear hcnt
                              go_upto_region 27 with (first | (at_builtin; refine wpList_ownG HK42.out rfl _ _ rfl (v := u11) (xs := tcS ((L.take j).filter (Px t))) (ys := [.int .u64 x.f0, .int .i64 x.f1]) rfl HRW.out.1 HRW.out.2.1 rfl HRN.out HRW.out.2.2 ?_; intro v' w6 ho hg hat) | fail)
                              have HFO : Aside0 (Op3 w4 w6 ab t L (j + 1) (j + 1) v' (.slice AX m cX) m csX) := ⟨HO31.out.push HX.out HP.out hg (by rw [HCN.out]; exact ho) hat⟩
                              clear ho hg hat x0 x1
                              go_wp2
                              go_roundg (L.length - (j + 1))
                              case measure => have := HJ.out; omega
                              case rel => exact ⟨j + 1, m, AX, cX, csX, rfl, ⟨by have := HJ1.out; omega⟩, HFO⟩
                      · have j1 : ¬ (j : Int) < (L.length : Int) := by omega
                        have hjL : j = L.length := by have := HJ.out.2; omega
                        have HJL := Aside0.mk hjL
                        clear hjL
                        go_wp2
                        go_meet
                        case rel =>
                          have hst := HO3.out.stay
                          rw [HJL.out, List.take_length] at hst
                          exact ⟨⟨_, ot_low hst HBS.out, HST.out, Nat.le_trans (List.length_filter_le _ _) (by have := HLN.out.1; omega)⟩, ⟨0, AX, m, cX, HO3.out.ans⟩, HS4.out.trans HO3.out.fr (fun b hb e => by have := HAB.out; omega)⟩
                  · have y3 : (t.f0 == 3) = false := by simpa using z3
                    have HST : Aside0 (stepF f t = f) := ⟨by unfold stepF; rw [if_neg z0, if_neg z1, if_neg z2, if_neg z3]⟩
                    clear d1 d2 d3 z0 z1 z2 z3
                    go_wp2
                    go_meet
                    case rel => exact HOLD.out HST.out _ 0 (Fr.refl _ w4) HA4.out HAB.out
          case rest =>
            have HM2 := hcut
            clear hcut HFIN HOLD HPUT HCL4 HSE HCL HB4 HS4 HA4 d0
            obtain ⟨k, AX, nX, cX, hA⟩ := HM2.out.ans
            have HA5 := Aside0.mk hA
            have a0 := hA.cell 0 rfl
            have a1 := hA.cell 1 rfl
            have HRN : Aside0 (ReadG (wc.alloc (.cells #[.int .i64 k, .slice AX nX cX] 33)) (some ⟨wc.heap.size, 0, none⟩) 1 2 [.int .i64 k, .slice AX nX cX]) := ⟨read_newG (us := [.int .i64 k, .slice AX nX cX]) (by rfl) (by intro u hu; simp only [List.mem_cons, List.not_mem_nil, or_false] at hu; rcases hu with rfl | rfl <;> rfl)⟩
            have HRW : Aside0 ((wc.alloc (.cells #[.int .i64 k, .slice AX nX cX] 33)).ownsRow W.heap.size 33 2 (.slice A5 n c5) n cs ∧ W.heap.size ≤ (wc.alloc (.cells #[.int .i64 k, .slice AX nX cX] 33)).heap.size ∧ n + 1 ≤ 1000000) :=
              ⟨(ownsRow_fr HO.out.1 HM2.out.fr (fun _ _ h => h)).alloc _, by have := HM2.out.fr.size; have := HS.out.size; simp; omega, by have := HO.out.2.1; have := HI.out.2; have := HN.out; omega⟩
            clear hA
            go_upto_region 5 with (first | (at_builtin; refine wpList_ownG HK33.out rfl _ _ rfl (v := .slice A5 n c5) (xs := cs) (ys := [.int .i64 k, .slice AX nX cX]) rfl HRW.out.1 HRW.out.2.1 rfl HRN.out HRW.out.2.2 ?_; intro v' w6 ho hg hat) | fail)
            have HF6 : Aside0 (Fr (fun b => (Value.slice A5 n c5).ownBlock = some b) wr w6) := ⟨((HM2.out.fr.alloc _).mono (fun _ h => h.elim)).trans (Fr.grown hg) (fun _ _ h => h)⟩
            have HO6 := Aside0.mk ho
            have HG6 := Aside0.mk hg
            clear ho hg hat a0 a1
            go_wp2
            go_roundg (T.length - (i + 1))
            case measure => have := HI.out; omega
            case rel =>
              obtain ⟨M, h1, h2, h3⟩ := HM2.out.tasks
              refine ⟨i + 1, M, n + 1, _, by rw [w64n (by have := HI.out.2; have := HN.out; omega)], ⟨by have := HI.out; omega⟩, ⟨?_, ?_, h3⟩, ⟨HO6.out, Nat.succ_le_succ HO.out.2.1, fun u hu => ?_⟩, ⟨?_⟩⟩
              · have hgr : (wc.alloc (.cells #[.int .i64 k, .slice AX nX cX] 33)).grownBy w6 (Value.slice A5 n c5).ownBlock := HG6.out
                refine ownsRow_fr (h1.alloc _) (Fr.grown hgr) (fun b hb e => ?_)
                obtain ⟨c1, z1, hc1⟩ := own_type h1 hb
                obtain ⟨c2, z2, hc2⟩ := own_type (ownsRow_fr HO.out.1 HM2.out.fr (fun _ _ h => h)) e
                rw [hc1] at hc2
                cases hc2
              · rw [fAt_take HTI.out, HFF.out]
                exact h2
              · rcases List.mem_append.1 hu with h4 | h4
                · exact HO.out.2.2 u h4
                · simp only [List.mem_cons, List.not_mem_nil, or_false] at h4
                  rcases h4 with rfl | rfl <;> rfl
              · refine HS.out.trans HF6.out (fun b hb e => ?_)
                have := (own_base HO.out.1 e).1
                omega
    · have hiT : i = T.length := by have := HI.out.2; omega
      have i1 : ¬ (i : Int) < (T.length : Int) := by omega
      have i2 : decide ((i : Int) < (T.length : Int)) = false := decide_eq_false i1
      have HIT := Aside0.mk hiT
      clear hiT
      go_wp2
      refine bodyPost_ret (results_list (rs := [.tmp 2, .tmp 3]) rfl (by simp) (.tmp (.tmp .nil))) rfl ?_
      refine ⟨_, L, _, rfl, HL.out.1, ?_, ?_, HS.out⟩
      · have := HL.out.2.1
        rw [HIT.out, List.take_length] at this
        exact this
      · have := HL.out.2.2
        have := HIT.out
        omega
end Go.Proofs.YtlbpbbfhfgacaaaDoor.Wh
