/- An expiry: the states of its loops, and what one round makes of them. -/
import Derived.Test.YtlbpbbfhfgacaaaDoorWhG
namespace Go.Proofs.YtlbpbbfhfgacaaaDoor.Wh
open Go.RowKit Go.Maps Go.Proofs.YtlbpbbfhfgacaaaDoor.Bs Go.Proofs.YtlbpbbfhfgacaaaDoorW.PrintWords Go.Proofs.YtlbpbbfhfgacaaaDoorW.PrintLast Go.Proofs.YtlbpbbfhfgacaaaDoorW.PrintMore
set_option linter.unusedVariables false
set_option linter.unusedSimpArgs false
structure Cx where
  w0 : World
  B : Nat
  hw : Nat
  A : Nat
  K : Nat
  base : Nat
  ab : Nat
  tb : Nat
  f : Fm
  ts : Int
  lo : Int
  c0 : Int
  odd : Bool
  ots : List Value
  ex : Prop
def T42 (w : World) (k : Nat) : Prop := ∃ cs z, w.heap[k]? = some (.cells cs 42 z)
def cq (c : Cx) (X : List (Int × Int)) : Int := IntKind.u64.wrap (c.c0 - (dels c.odd X : Int))
structure Out (c : Cx) (w : World) (sl : Nat → Option (Nat × Nat)) (low : Nat → Int) (X : List (Int × Int)) (q : Nat) (gl : Int) : Prop where
  hd : Blk w c.hw 54 (hdCells c.A c.lo (cq c X))
  bh : c.B ≤ c.hw
  slots : Slots w c.B c.A c.K sl low (fq c.f c.ts c.odd q)
  ans : ∃ v, Ans w c.base c.ab X v
  tb : Blk w c.tb 30 c.ots
  xs : Xs c.f c.ts q (fun _ => true) X
  glm : gl ≤ maxI
  gl1 : ∀ p x, p < q → sl p = some x → gl ≤ low p
  gl2 : c.ex → ((∃ s, fq c.f c.ts c.odd q s = some gl) ∧ pos gl < q) ∨ (gl = maxI ∧ ∀ s e, fq c.f c.ts c.odd q s = some e → q ≤ pos e)
  at_ : c.ex → ∀ p x, p < 4096 → sl p = some x → ∃ s, part (fq c.f c.ts c.odd q) p s = some (low p)
  fr : Fr (fun k => WF c.B c.w0 k ∨ k = c.ab) c.w0 w
  bs : c.base = c.w0.heap.size
structure Mid (c : Cx) (w1 w : World) (M S : Nat) (l0 cnt : Int) (X : List (Int × Int)) : Prop where
  hd : Blk w c.hw 54 (hdCells c.A c.lo cnt)
  sb : Blk w S 67 [.map (some M), .int .i64 l0]
  ans : ∃ v, Ans w c.base c.ab X v
  tb : Blk w c.tb 30 c.ots
  fr : Fr (fun k => k = M ∨ k = c.hw ∨ k = c.ab ∨ (c.base ≤ k ∧ T42 w1 k)) w1 w
  bs : c.base ≤ w1.heap.size
section
variable {c : Cx} {w w' w1 : World} {sl : Nat → Option (Nat × Nat)} {low : Nat → Int} {X : List (Int × Int)} {q : Nat} {gl : Int} {M S r n K : Nat} {l0 cnt : Int} {lf : Int → Bool} {m : Fm}
theorem Ans.fr {base ab : Nat} {v : Value} {F : Nat → Prop} (h : Ans w base ab X v) (hf : Fr F w w') (h1 : ¬ F ab) (h2 : ∀ k, v.ownBlock = some k → ¬ F k) : Ans w' base ab X v := by
  obtain ⟨k, hk⟩ := h.blk
  exact ⟨⟨k, hk.fr hf h1⟩, ownsRow_fr h.row hf h2⟩
theorem Ans.cells {base ab : Nat} {v : Value} (h : Ans w base ab X v) {k : Nat} (hk : v.ownBlock = some k) : ∃ cs z, w.heap[k]? = some (.cells cs 42 z) := own_type h.row hk
theorem blk_iter {b r : Nat} {T : TypeId} {cs : List Value} (h : Blk w b T cs) (hr : ∃ a b c d, w.heap[r]? = some (.mapIter a b c d)) : b ≠ r := by
  rintro rfl
  obtain ⟨a, b, c, d, e⟩ := hr
  rw [h.blk] at e
  cases e
theorem blk_map {b r : Nat} {T : TypeId} {cs : List Value} (h : Blk w b T cs) (hr : ∃ a b, w.heap[r]? = some (.map a b)) : b ≠ r := by
  rintro rfl
  obtain ⟨a, b, e⟩ := hr
  rw [h.blk] at e
  cases e
theorem Mid.iter (h : Mid c w1 w M S l0 cnt X) (hf : Fr (fun k => k = r) w w') (hr : ∃ a b c d, w.heap[r]? = some (.mapIter a b c d)) (hr1 : w1.heap.size ≤ r) : Mid c w1 w' M S l0 cnt X := by
  obtain ⟨v, ha⟩ := h.ans
  obtain ⟨k, hk⟩ := ha.blk
  refine ⟨h.hd.fr hf (blk_iter h.hd hr), h.sb.fr hf (blk_iter h.sb hr), ⟨v, ha.fr hf (blk_iter hk hr) (fun k hk e => ?_)⟩, h.tb.fr hf (blk_iter h.tb hr), h.fr.trans hf (fun k hk e => ?_), h.bs⟩
  · obtain ⟨cs, z, hc⟩ := ha.cells hk
    obtain ⟨a, b, c, d, hi⟩ := hr
    rw [e, hi] at hc
    cases hc
  · exact absurd e (Nat.ne_of_lt (Nat.lt_of_lt_of_le hk hr1))
theorem Mid.mapw (h : Mid c w1 w M S l0 cnt X) (hf : Fr (fun k => k = M) w w') (hr : ∃ a b, w.heap[M]? = some (.map a b)) : Mid c w1 w' M S l0 cnt X := by
  obtain ⟨v, ha⟩ := h.ans
  obtain ⟨k, hk⟩ := ha.blk
  refine ⟨h.hd.fr hf (blk_map h.hd hr), h.sb.fr hf (blk_map h.sb hr), ⟨v, ha.fr hf (blk_map hk hr) (fun k hk e => ?_)⟩, h.tb.fr hf (blk_map h.tb hr), h.fr.trans hf (fun k hk e => .inl e), h.bs⟩
  obtain ⟨cs, z, hc⟩ := ha.cells hk
  obtain ⟨a, b, hi⟩ := hr
  rw [e, hi] at hc
  cases hc
theorem Mid.cb (h : Mid c w1 w M S l0 cnt X) {v : Value} {s e : Int} {odd : Bool} {en : Ending} (ha : Ans w c.base c.ab X v) (hp : CbPost w c.base c.ab X v s e odd en w') : Mid c w1 w' M S l0 cnt (X ++ [(s, e)]) := by
  obtain ⟨k0, hk0⟩ := ha.blk
  have hn : ∀ {b : Nat} {T : TypeId} {cs : List Value}, Blk w b T cs → T ≠ 33 → T ≠ 42 → ¬ (b = c.ab ∨ v.ownBlock = some b) := fun {b T cs} hb h1 h2 hh => by
    rcases hh with hh | hh
    · exact blk_ne hb hk0 h1 hh
    · obtain ⟨cs', z, hc⟩ := ha.cells hh
      rw [hb.blk] at hc
      injection hc with hc
      injection hc with _ hc _
      exact h2 hc
  refine ⟨h.hd.fr hp.fr (hn h.hd (by decide) (by decide)), h.sb.fr hp.fr (hn h.sb (by decide) (by decide)), hp.ans, h.tb.fr hp.fr (hn h.tb (by decide) (by decide)), ?_, h.bs⟩
  refine ⟨hp.fr.os.trans h.fr.os, hp.fr.tape.trans h.fr.tape, hp.fr.output.trans h.fr.output, Nat.le_trans h.fr.size hp.fr.size, fun k hk hnk => ?_⟩
  have e1 := h.fr.block k hk hnk
  refine (hp.fr.block k (Nat.lt_of_lt_of_le hk h.fr.size) (fun hh => ?_)).trans e1
  rcases hh with hh | hh
  · exact hnk (.inr (.inr (.inl hh)))
  · obtain ⟨cs, z, hc⟩ := ha.cells hh
    rw [e1] at hc
    exact hnk (.inr (.inr (.inr ⟨(own_base ha.row hh).1, cs, z, hc⟩)))
theorem Mid.count (h : Mid c w1 w M S l0 cnt X) (cnt' : Int) : Mid c w1 (w.setCell ⟨c.hw, 2, none⟩ (.int .u64 cnt')) M S l0 cnt' X := by
  obtain ⟨v, ha⟩ := h.ans
  obtain ⟨k, hk⟩ := ha.blk
  have hf := fr_set1 (F := fun k => k = c.hw) (o := 2) (Fr.refl _ w) rfl (.int .u64 cnt')
  refine ⟨h.hd.set 2 (by simp [hdCells]) _, h.sb.fr hf (blk_ne h.sb h.hd (by decide)), ⟨v, ha.fr hf (blk_ne hk h.hd (by decide)) (fun k hk e => ?_)⟩, h.tb.fr hf (blk_ne h.tb h.hd (by decide)), h.fr.trans hf (fun k hk e => .inr (.inl e)), h.bs⟩
  obtain ⟨cs, z, hc⟩ := ha.cells hk
  rw [e, h.hd.blk] at hc
  cases hc
theorem mr_cb (h : Mr w M r K m lf n) {base ab : Nat} {v : Value} {s e : Int} {odd : Bool} {en : Ending} (ha : Ans w base ab X v) (hp : CbPost w base ab X v s e odd en w') : Mr w' M r K m lf n := by
  obtain ⟨k0, hk0⟩ := ha.blk
  refine h.fr hp.fr (fun hh => ?_) (fun hh => ?_)
  · rcases hh with hh | hh
    · exact blk_map hk0 h.mp.blk hh.symm
    · obtain ⟨cs, z, hc⟩ := ha.cells hh
      obtain ⟨a, b, hi⟩ := h.mp.blk
      rw [hi] at hc
      cases hc
  · rcases hh with hh | hh
    · exact blk_iter hk0 h.iter hh.symm
    · obtain ⟨cs, z, hc⟩ := ha.cells hh
      obtain ⟨a, b, c, d, hi⟩ := h.iter
      rw [hi] at hc
      cases hc
theorem mr_count {hw : Nat} {cs0 : List Value} (h : Mr w M r K m lf n) (hh : Blk w hw 54 cs0) (u : Value) : Mr (w.setCell ⟨hw, 2, none⟩ u) M r K m lf n :=
  h.fr (fr_set1 (F := fun k => k = hw) (o := 2) (Fr.refl _ w) rfl u) (fun e => blk_map hh h.mp.blk e.symm) (fun e => blk_iter hh h.iter e.symm)
theorem Mr.congr (h : Mr w M r K m lf n) {m' : Fm} (e : ∀ s, m' s = m s) : Mr w M r K m' lf n := by
  rw [show m' = m from funext e]
  exact h
/-- The loop over slot q's map, in block M, is under way. -/
structure Inn (c : Cx) (w1 w : World) (M S r : Nat) (l0 : Int) (q : Nat) (lf : Int → Bool) (n : Nat) (X : List (Int × Int)) (slow : Int) : Prop where
  mid : Mid c w1 w M S l0 (cq c X) X
  mr : Mr w M r c.K (mi c.f c.ts c.odd q lf) lf n
  xs : Xs c.f c.ts q lf X
  sw : Sw (mi c.f c.ts c.odd q lf) lf slow
  fresh : w1.heap.size ≤ r
theorem Out.bare (h : Out c w sl low X q gl) (hq : q < 4096) (hx : sl q = none) : Out c w sl low X (q + 1) gl := by
  have hno : ∀ s e, c.f s = some e → pos e = q → False := fun s e he hp => by
    have := h.slots.empty q hq hx s
    rw [part_q.2 ⟨he, hp⟩] at this
    cases this
  have e1 : fq c.f c.ts c.odd (q + 1) = fq c.f c.ts c.odd q := fq_skip (fun s e he hp => (hno s e he hp).elim)
  refine ⟨h.hd, h.bh, by rw [e1]; exact h.slots, h.ans, h.tb, h.xs.skip (fun s e he hp => (hno s e he hp).elim), h.glm, fun p x hp hx' => ?_, fun hex => ?_, fun hex => by rw [e1]; exact h.at_ hex, h.fr, h.bs⟩
  · have hpq : p ≠ q := by
      rintro rfl
      rw [hx] at hx'
      cases hx'
    exact h.gl1 p x (by omega) hx'
  · rw [e1]
    refine (h.gl2 hex).imp (fun hh => ⟨hh.1, by omega⟩) (fun hh => ⟨hh.1, fun s e he => ?_⟩)
    have h1 := hh.2 s e he
    have h2 : pos e ≠ q := fun hp => hno s e (fq_some.1 he).1 hp
    omega
theorem Out.late (h : Out c w sl low X q gl) (hq : q < 4096) {x : Nat × Nat} (hx : sl q = some x) (hl : c.ts < low q) : Out c w sl low X (q + 1) (if low q < gl then low q else gl) := by
  have hno : ∀ s e, c.f s = some e → pos e = q → c.ts < e := fun s e he hp => by
    have h1 := part_some.1 (part_q.2 ⟨he, hp⟩ : part (fq c.f c.ts c.odd q) q s = some e)
    have h2 := h.slots.low s e h1.1
    rw [hp] at h2
    omega
  have e1 : fq c.f c.ts c.odd (q + 1) = fq c.f c.ts c.odd q := fq_skip hno
  refine ⟨h.hd, h.bh, by rw [e1]; exact h.slots, h.ans, h.tb, h.xs.skip hno, by have := h.glm; split <;> omega, fun p y hp hy => ?_, fun hex => ?_, fun hex => by rw [e1]; exact h.at_ hex, h.fr, h.bs⟩
  · by_cases hpq : p = q
    · subst hpq
      split <;> omega
    · have := h.gl1 p y (by omega) hy
      split <;> omega
  · rw [e1]
    obtain ⟨s, hs⟩ := h.at_ hex q x hq hx
    obtain ⟨hs1, hs2⟩ := part_some.1 hs
    split
    · exact .inl ⟨⟨s, hs1⟩, by omega⟩
    · rename_i hlt
      rcases h.gl2 hex with hh | ⟨hh, _⟩
      · exact .inl ⟨hh.1, by omega⟩
      · have := (h.slots.rng s _ hs1).2
        have hm : maxI = 9223372036854775807 := rfl
        omega
theorem Out.enter (h : Out c w1 sl low X q gl) (hq : q < 4096) {x : Nat × Nat} (hx : sl q = some x) (hf : Same w1 w) (hr1 : w1.heap.size ≤ r) (hm : Mr w x.2 r c.K (part (fq c.f c.ts c.odd q) q) (fun s => (part (fq c.f c.ts c.odd q) q s).isSome) n) :
    Inn c w1 w x.2 x.1 r (low q) q (fun s => (part (fq c.f c.ts c.odd q) q s).isSome) n X maxI := by
  obtain ⟨b1, b2, hS, hM⟩ := h.slots.slot q x hq hx
  obtain ⟨v, ha⟩ := h.ans
  have e1 : mi c.f c.ts c.odd q (fun s => (part (fq c.f c.ts c.odd q) q s).isSome) = part (fq c.f c.ts c.odd q) q := funext mi_start
  refine ⟨⟨h.hd.fr hf (fun h => h), hS.fr hf (fun h => h), ⟨v, ha.fr hf (fun h => h) (fun _ _ h => h)⟩, h.tb.fr hf (fun h => h), hf.mono (fun _ h => h.elim), by rw [h.bs]; exact h.fr.size⟩, by rw [e1]; exact hm, h.xs.start, ?_, hr1⟩
  rw [e1]
  exact Sw.start _
/-- What the loop over a slot has turned is of the wheel's own, or no wheel's. -/
theorem Out.turned (h : Out c w1 sl low X q gl) (hq : q < 4096) {x : Nat × Nat} (hx : sl q = some x) : ∀ k, (k = x.2 ∨ k = c.hw ∨ k = c.ab ∨ (c.base ≤ k ∧ T42 w1 k)) → (k = x.2 ∨ k = x.1 ∨ k = c.hw) ∨ ¬ WK w1 k := by
  intro k hk
  rcases hk with hk | hk | hk | ⟨-, cs, z, hk⟩
  · exact .inl (.inl hk)
  · exact .inl (.inr (.inr hk))
  · obtain ⟨v, ha⟩ := h.ans
    obtain ⟨k0, hk0⟩ := ha.blk
    subst hk
    exact .inr (not_wk hk0.blk (by decide) (by decide) (by decide))
  · exact .inr (not_wk hk (by decide) (by decide) (by decide))
theorem Out.frame (h : Out c w1 sl low X q gl) (hq : q < 4096) {x : Nat × Nat} (hx : sl q = some x) {F : Nat → Prop} (hf : Fr F w1 w) (hF : ∀ k, F k → (k = x.2 ∨ k = c.hw ∨ k = c.ab ∨ (c.base ≤ k ∧ T42 w1 k)) ∨ (c.B ≤ k ∧ WK w1 k)) : Fr (fun k => WF c.B c.w0 k ∨ k = c.ab) c.w0 w := by
  obtain ⟨b1, b2, hS, hM⟩ := h.slots.slot q x hq hx
  refine ⟨hf.os.trans h.fr.os, hf.tape.trans h.fr.tape, hf.output.trans h.fr.output, Nat.le_trans h.fr.size hf.size, fun k hk hn => ?_⟩
  have e1 := h.fr.block k hk hn
  refine (hf.block k (Nat.lt_of_lt_of_le hk h.fr.size) (fun hh => ?_)).trans e1
  have key : c.B ≤ k → WK w1 k → False := fun h1 h2 => hn (.inl ⟨h1, by
    unfold WK at h2 ⊢
    rw [e1] at h2
    exact h2⟩)
  rcases hF k hh with (h1 | h1 | h1 | ⟨h1, _⟩) | ⟨h1, h2⟩
  · exact key (by rw [h1]; exact b2) (by rw [h1]; exact .inl hM.blk)
  · exact key (by rw [h1]; exact h.bh) (by rw [h1]; exact .inr ⟨_, _, _, h.hd.blk, .inl rfl⟩)
  · exact hn (.inr h1)
  · have := h.bs
    omega
  · exact key h1 h2
theorem Out.rest (h : Out c w1 sl low X q gl) (hq : q < 4096) {x : Nat × Nat} (hx : sl q = some x) {X' : List (Int × Int)} {slow : Int} (hi : Inn c w1 w x.2 x.1 r (low q) q lf n X' slow) (hlf : ∀ s, lf s = false) {s0 e0 : Int} (hne : mi c.f c.ts c.odd q lf s0 = some e0) :
    Out c (w.setCell ⟨x.1, 1, none⟩ (.int .i64 slow)) (setAt sl q (some x)) (setAt low q slow) X' (q + 1) (if slow < gl then slow else gl) := by
  obtain ⟨v, ha⟩ := hi.mid.ans
  obtain ⟨k0, hk0⟩ := ha.blk
  have hf := fr_set1 (F := fun k => k = x.1) (o := 1) (Fr.refl _ w) rfl (.int .i64 slow)
  have hf2 : Fr (fun k => (k = x.2 ∨ k = c.hw ∨ k = c.ab ∨ (c.base ≤ k ∧ T42 w1 k)) ∨ k = x.1) w1 (w.setCell ⟨x.1, 1, none⟩ (.int .i64 slow)) := (hi.mid.fr.mono (fun _ h => .inl h)).trans hf (fun _ _ h => .inr h)
  have hsat : ∃ s, mi c.f c.ts c.odd q lf s = some slow := by
    rcases hi.sw.at_ with ⟨s, -, hs⟩ | ⟨_, hs⟩
    · exact ⟨s, hs⟩
    · rw [hs s0 (hlf s0)] at hne
      cases hne
  obtain ⟨s1, hs1⟩ := hsat
  have hs1' : fq c.f c.ts c.odd (q + 1) s1 = some slow ∧ pos slow = q := part_some.1 ((mi_end hlf s1).trans hs1)
  have hrange : ∀ s e, fq c.f c.ts c.odd (q + 1) s = some e → 0 ≤ e ∧ e < 2 ^ 62 := fun s e he => h.slots.rng s e (fq_some.2 ⟨(fq_some.1 he).1, fun hh => (fq_some.1 he).2 ⟨by omega, hh.2⟩⟩)
  have hsl := h.slots.remap (w1 := w.setCell ⟨x.1, 1, none⟩ (.int .i64 slow)) h.hd hq hx (f' := fq c.f c.ts c.odd (q + 1)) (l := slow) (fun p hp => fq_other hp) ((hi.mr.mp.fr hf (fun e => map_ne hi.mid.sb hi.mr.mp e.symm)).congr (mi_end hlf)) hf2 (fun k hk => by
      rcases hk with hk | hk
      · exact h.turned hq hx k hk
      · exact .inl (.inr (.inl hk))) (hi.mid.sb.set 1 (by simp) _) (fun s e he hp => ⟨hi.sw.le s e (hlf s) (by rw [← mi_end hlf]; exact part_some.2 ⟨he, hp⟩), hrange s e he⟩)
  refine ⟨hi.mid.hd.fr hf (blk_ne hi.mid.hd hi.mid.sb (by decide)), h.bh, hsl, ⟨v, ha.fr hf (blk_ne hk0 hi.mid.sb (by decide)) (fun k hk e => ?_)⟩, hi.mid.tb.fr hf (blk_ne hi.mid.tb hi.mid.sb (by decide)), hi.xs.done hlf, by have := h.glm; have := hi.sw.max; split <;> omega, fun p y hp hy => ?_, fun hex => ?_, fun hex p y hp hy => ?_, h.frame hq hx hf2 (fun k hk => ?_), h.bs⟩
  · obtain ⟨cs, z, hc⟩ := ha.cells hk
    rw [e, hi.mid.sb.blk] at hc
    cases hc
  · unfold setAt at hy ⊢
    by_cases hpq : p = q
    · rw [if_pos hpq]
      split <;> omega
    · rw [if_neg hpq] at hy ⊢
      have := h.gl1 p y (by omega) hy
      split <;> omega
  · split
    · exact .inl ⟨⟨s1, hs1'.1⟩, by omega⟩
    · rename_i hlt
      have hm : maxI = 9223372036854775807 := rfl
      have h62 := (hrange s1 slow hs1'.1).2
      rcases h.gl2 hex with ⟨⟨s, hs⟩, hgq⟩ | ⟨hh, _⟩
      · have hgl : pos gl ≠ q := by omega
        refine .inl ⟨⟨s, ?_⟩, by omega⟩
        have := fq_other (f := c.f) (ts := c.ts) (odd := c.odd) (q := q) (p := pos gl) hgl s
        exact (part_some.1 (this.trans (part_some.2 ⟨hs, rfl⟩))).1
      · omega
  · unfold setAt at hy ⊢
    by_cases hpq : p = q
    · subst hpq
      rw [if_pos rfl]
      exact ⟨s1, part_some.2 hs1'⟩
    · rw [if_neg hpq] at hy ⊢
      obtain ⟨s, hs⟩ := h.at_ hex p y hp hy
      exact ⟨s, (fq_other hpq s).trans hs⟩
  · rcases hk with hk | hk
    · exact .inl hk
    · obtain ⟨b1, b2, hS, hM⟩ := h.slots.slot q x hq hx
      exact .inr ⟨by rw [hk]; exact b1, by rw [hk]; exact .inr ⟨_, _, _, hS.blk, .inr (.inr rfl)⟩⟩
theorem Out.nil (h : Out c w1 sl low X q gl) (hq : q < 4096) {x : Nat × Nat} (hx : sl q = some x) {X' : List (Int × Int)} {slow : Int} (hi : Inn c w1 w x.2 x.1 r (low q) q lf n X' slow) (hlf : ∀ s, lf s = false) (hne : ∀ s, mi c.f c.ts c.odd q lf s = none) :
    Out c (w.setCell ⟨c.A, q, none⟩ (.pointer none)) (setAt sl q none) (setAt low q 0) X' (q + 1) gl := by
  obtain ⟨v, ha⟩ := hi.mid.ans
  obtain ⟨k0, hk0⟩ := ha.blk
  have hf := fr_set1 (F := fun k => k = c.A) (o := q) (Fr.refl _ w) rfl (.pointer none)
  have hf2 : Fr (fun k => (k = x.2 ∨ k = c.hw ∨ k = c.ab ∨ (c.base ≤ k ∧ T42 w1 k)) ∨ k = c.A) w1 (w.setCell ⟨c.A, q, none⟩ (.pointer none)) := (hi.mid.fr.mono (fun _ h => .inl h)).trans hf (fun _ _ h => .inr h)
  have hsl := h.slots.niled (w1 := w) h.hd hq hx (f' := fq c.f c.ts c.odd (q + 1)) 0 (fun p hp => fq_other hp) (fun s => (mi_end hlf s).trans (hne s)) hi.mid.fr (h.turned hq hx)
  have hA1 : ∃ cs, Blk w1 c.A 62 cs := by
    obtain ⟨cs, hb, _⟩ := h.slots.arr
    exact ⟨cs, hb⟩
  obtain ⟨cs, hbA⟩ := hA1
  have hA : Blk w c.A 62 cs := hbA.fr hi.mid.fr (fun hh => by
    have hwk : WK w1 c.A := .inr ⟨_, _, _, hbA.blk, .inr (.inl rfl)⟩
    rcases h.turned hq hx c.A hh with (h1 | h1 | h1) | h1
    · exact (h.slots.apart h.hd hq hx).2.1 h1
    · exact (h.slots.apart h.hd hq hx).1 h1
    · exact (h.slots.apart h.hd hq hx).2.2.1 h1
    · exact h1 hwk)
  refine ⟨hi.mid.hd.fr hf (blk_ne hi.mid.hd hA (by decide)), h.bh, hsl, ⟨v, ha.fr hf (blk_ne hk0 hA (by decide)) (fun k hk e => ?_)⟩, hi.mid.tb.fr hf (blk_ne hi.mid.tb hA (by decide)), hi.xs.done hlf, h.glm, fun p y hp hy => ?_, fun hex => ?_, fun hex p y hp hy => ?_, h.frame hq hx hf2 (fun k hk => ?_), h.bs⟩
  · obtain ⟨cs, z, hc⟩ := ha.cells hk
    rw [e, hA.blk] at hc
    cases hc
  · unfold setAt at hy ⊢
    by_cases hpq : p = q
    · rw [if_pos hpq] at hy
      cases hy
    · rw [if_neg hpq] at hy ⊢
      exact h.gl1 p y (by omega) hy
  · rcases h.gl2 hex with ⟨⟨s, hs⟩, hgq⟩ | ⟨hh, hh2⟩
    · have hgl : pos gl ≠ q := by omega
      refine .inl ⟨⟨s, ?_⟩, by omega⟩
      have := fq_other (f := c.f) (ts := c.ts) (odd := c.odd) (q := q) (p := pos gl) hgl s
      exact (part_some.1 (this.trans (part_some.2 ⟨hs, rfl⟩))).1
    · refine .inr ⟨hh, fun s e he => ?_⟩
      have h1 := hh2 s e (fq_some.2 ⟨(fq_some.1 he).1, fun hc => (fq_some.1 he).2 ⟨by omega, hc.2⟩⟩)
      have h2 : pos e ≠ q := fun hp => by
        have h3 := (mi_end hlf s).trans (hne s)
        rw [part_some.2 ⟨he, hp⟩] at h3
        cases h3
      omega
  · unfold setAt at hy ⊢
    by_cases hpq : p = q
    · rw [if_pos hpq] at hy
      cases hy
    · rw [if_neg hpq] at hy ⊢
      obtain ⟨s, hs⟩ := h.at_ hex p y hp hy
      exact ⟨s, (fq_other hpq s).trans hs⟩
  · rcases hk with hk | hk
    · exact .inl hk
    · exact .inr ⟨by rw [hk]; exact h.slots.base, by rw [hk]; exact .inr ⟨_, _, _, hbA.blk, .inr (.inl rfl)⟩⟩
end
end Go.Proofs.YtlbpbbfhfgacaaaDoor.Wh
