import Derived.Test.YtlbpbbfhfgacaaaDoorWhA
import Derived.Laws.MakeOwn
import Derived.Laws.Bits64b
import Derived.Carry
namespace Go.Proofs.YtlbpbbfhfgacaaaDoor.Wh
open Go.RowKit Go.Maps Go.Proofs.YtlbpbbfhfgacaaaDoor.Bs Go.Proofs.YtlbpbbfhfgacaaaDoorW.PrintWords Go.Proofs.YtlbpbbfhfgacaaaDoorW.PrintLast Go.Proofs.YtlbpbbfhfgacaaaDoorW.PrintMore
set_option linter.unusedVariables false
set_option linter.unusedSimpArgs false
/-- A time's slot. -/
def pos (e : Int) : Nat := ((e / 1000000000) % 4096).toNat
theorem pos_lt (e : Int) : pos e < 4096 := by unfold pos; omega
theorem bits_pos {x : Int} (h0 : 0 ≤ x) (h1 : x < 2 ^ 63) : bits .and .i64 x 4095 = x % 4096 := by
  obtain ⟨a, rfl⟩ := Int.eq_ofNat_of_zero_le h0
  have ha : a < 2 ^ 63 := by omega
  have e1 : (BitVec.ofInt 64 (a : Int)).toNat = a := by
    rw [BitVec.ofInt_natCast, BitVec.toNat_ofNat]; exact Nat.mod_eq_of_lt (by omega)
  have e2 : (BitVec.ofInt 64 (4095 : Int)).toNat = 4095 := by decide
  show IntKind.i64.wrap ((BitVec.ofInt 64 (a : Int) &&& BitVec.ofInt 64 (4095 : Int)).toNat : Int) = _
  rw [BitVec.toNat_and, e1, e2, show a &&& 4095 = a % 4096 from Nat.and_two_pow_sub_one_eq_mod a 12, IntKind.wrap_i64]
  omega
def PosPost (w : World) (e : Int) (en : Ending) (w' : World) : Prop := en = .returned (.int .i64 (pos e)) ∧ w' = w
set_option maxRecDepth 100000 in
theorem position_calls {W : World} {v : Value} {e : Int} (h0 : 0 ≤ e) (h1 : e < 2 ^ 62) : Calls Tryd.prog 28 #[v, .int .i64 e] W (PosPost W e) := by
  have e1 : bits .and .i64 (e / 1000000000) 4095 = (pos e : Int) := by
    rw [bits_pos (by omega) (by omega)]
    unfold pos
    omega
  go_enter Tryd.func28, Tryd.ntmps28
  go_wp2
  go_ret
  exact ⟨by rw [← e1]; rfl, rfl⟩

/-! ### the wheel -/
def ptrV : Option (Nat × Nat) → Value
  | none => .pointer none
  | some x => .pointer (some ⟨x.1, 0, none⟩)
abbrev maxI : Int := 9223372036854775807
def part (f : Fm) (p : Nat) : Fm := fun s => (f s).bind fun e => if pos e = p then some e else none
theorem part_some {f : Fm} {p : Nat} {s e : Int} : part f p s = some e ↔ f s = some e ∧ pos e = p := by
  unfold part
  cases h : f s with
  | none => simp
  | some x =>
    simp only [Option.bind_some]
    split
    · constructor
      · intro h1
        injection h1 with h1
        subst h1
        exact ⟨rfl, by assumption⟩
      · intro h1
        exact h1.1
    · constructor
      · intro h1; cases h1
      · rintro ⟨h1, h2⟩
        injection h1 with h1
        subst h1
        contradiction
theorem part_none {f : Fm} {p : Nat} {s : Int} : part f p s = none ↔ ∀ e, f s = some e → pos e ≠ p := by
  constructor
  · intro h e he hp
    have := part_some.2 ⟨he, hp⟩
    rw [h] at this
    cases this
  · intro h
    cases hp : part f p s with
    | none => rfl
    | some e =>
      obtain ⟨h1, h2⟩ := part_some.1 hp
      exact absurd h2 (h e h1)
/-- The kinds of blocks that a wheel is made of. -/
def WK (w : World) (k : Nat) : Prop := (∃ es c, w.heap[k]? = some (.map es c)) ∨ ∃ cs T z, w.heap[k]? = some (.cells cs T z) ∧ (T = 54 ∨ T = 62 ∨ T = 67)
def WF (B : Nat) (w : World) (k : Nat) : Prop := B ≤ k ∧ WK w k
theorem wf_trans {B : Nat} {w w1 w2 : World} (h : Fr (WF B w) w w1) (h2 : Fr (WF B w1) w1 w2) : Fr (WF B w) w w2 := by
  refine h.trans h2 (fun k hk hf => ?_)
  by_cases hn : WF B w k
  · exact hn
  · have e := h.block k hk hn
    refine ⟨hf.1, ?_⟩
    have h3 := hf.2
    unfold WK at h3 ⊢
    rw [e] at h3
    exact h3
/-- A block of other cells is no wheel's. -/
theorem not_wk {w : World} {k : Nat} {T : TypeId} {cs : Array Value} {z : Nat × Nat} (h : w.heap[k]? = some (.cells cs T z)) (h1 : T ≠ 54) (h2 : T ≠ 62) (h3 : T ≠ 67) : ¬ WK w k := by
  rintro (⟨es, c, e⟩ | ⟨cs', T', z', e, hT⟩)
  · rw [h] at e; cases e
  · rw [h] at e
    injection e with e
    injection e with _ e _
    subst e
    rcases hT with hT | hT | hT
    · exact h1 hT
    · exact h2 hT
    · exact h3 hT
theorem Blk.not_wk {w : World} {k : Nat} {T : TypeId} {cs : List Value} (h : Blk w k T cs) (h1 : T ≠ 54) (h2 : T ≠ 62) (h3 : T ≠ 67) : ¬ WK w k := Wh.not_wk h.blk h1 h2 h3
structure Slots (w : World) (B A K : Nat) (sl : Nat → Option (Nat × Nat)) (low : Nat → Int) (f : Fm) : Prop where
  arr : ∃ cs, Blk w A 62 cs ∧ cs.length = 4096 ∧ ∀ p, p < 4096 → cs[p]? = some (ptrV (sl p))
  slot : ∀ p x, p < 4096 → sl p = some x → B ≤ x.1 ∧ B ≤ x.2 ∧ Blk w x.1 67 [.map (some x.2), .int .i64 (low p)] ∧ Mp w x.2 K (part f p)
  inj : ∀ p q x y, p < 4096 → q < 4096 → sl p = some x → sl q = some y → (x.1 = y.1 ∨ x.2 = y.2) → p = q
  empty : ∀ p, p < 4096 → sl p = none → ∀ s, part f p s = none
  low : ∀ s e, f s = some e → low (pos e) ≤ e
  rng : ∀ s e, f s = some e → 0 ≤ e ∧ e < 2 ^ 62
  base : B ≤ A
theorem blk_ne {w : World} {b b' : Nat} {T T' : TypeId} {cs cs' : List Value} (h : Blk w b T cs) (h' : Blk w b' T' cs') (hT : T ≠ T') : b ≠ b' := by
  rintro rfl
  have := h.blk.symm.trans h'.blk
  injection this with this
  injection this with _ this _
  exact hT this
theorem map_ne {w : World} {b M K : Nat} {T : TypeId} {cs : List Value} {m : Fm} (h : Blk w b T cs) (h' : Mp w M K m) : b ≠ M := by
  rintro rfl
  obtain ⟨es, c, e⟩ := h'.blk
  rw [h.blk] at e
  cases e
def setAt {α : Type} (g : Nat → α) (p : Nat) (x : α) : Nat → α := fun q => if q = p then x else g q
section
variable {w w' : World} {B A K : Nat} {sl : Nat → Option (Nat × Nat)} {low : Nat → Int} {f : Fm}
theorem Slots.ptr (h : Slots w B A K sl low f) {p : Nat} (hp : p < 4096) : w.cell? ⟨A, p, none⟩ = some (ptrV (sl p)) := by
  obtain ⟨cs, hb, hl, hc⟩ := h.arr
  exact hb.cell p (hc p hp)
theorem Slots.afree (h : Slots w B A K sl low f) (p : Nat) : w.frozen? ⟨A, p, none⟩ = false := by
  obtain ⟨cs, hb, hl, hc⟩ := h.arr
  exact hb.free p
theorem Slots.seat (h : Slots w B A K sl low f) {s e : Int} (hf : f s = some e) : ∃ x, sl (pos e) = some x := by
  cases hx : sl (pos e) with
  | some x => exact ⟨x, rfl⟩
  | none =>
    have := h.empty _ (pos_lt e) hx s
    rw [part_some.2 ⟨hf, rfl⟩] at this
    cases this
theorem Slots.dom (h : Slots w B A K sl low f) {s e : Int} (hf : f s = some e) : U64 s ∧ I64 e := by
  obtain ⟨x, hx⟩ := h.seat hf
  obtain ⟨-, -, -, hm⟩ := h.slot _ x (pos_lt e) hx
  exact hm.dom (part_some.2 ⟨hf, rfl⟩)
theorem Slots.fr {F : Nat → Prop} (h : Slots w B A K sl low f) (hf : Fr F w w') (hn : ∀ k, F k → B ≤ k → ¬ WK w k) : Slots w' B A K sl low f := by
  obtain ⟨cs, hb, hl, hc⟩ := h.arr
  have key : ∀ k, B ≤ k → WK w k → ¬ F k := fun k h1 h2 h3 => hn k h3 h1 h2
  refine ⟨⟨cs, hb.fr hf (key _ h.base (.inr ⟨_, _, _, hb.blk, .inr (.inl rfl)⟩)), hl, hc⟩, fun p x hp hx => ?_, h.inj, h.empty, h.low, h.rng, h.base⟩
  obtain ⟨h1, h2, h3, h4⟩ := h.slot p x hp hx
  exact ⟨h1, h2, h3.fr hf (key _ h1 (.inr ⟨_, _, _, h3.blk, .inr (.inr rfl)⟩)), h4.fr hf (key _ h2 (.inl h4.blk))⟩
/-- One slot is turned. -/
theorem Slots.turn {hw : Nat} {cs0 : List Value} {F : Nat → Prop} (h : Slots w B A K sl low f) (hh : Blk w hw 54 cs0) {p : Nat} (hp : p < 4096) (x : Option (Nat × Nat)) (l : Int) (f' : Fm) {K' : Nat} (hK : K ≤ K')
    (hf : Fr F w w') (hF : ∀ k, F k → k = A ∨ k = hw ∨ (∃ y, sl p = some y ∧ (k = y.1 ∨ k = y.2)) ∨ ¬ WK w k) (hq : ∀ q, q ≠ p → ∀ s, part f' q s = part f q s)
    (harr : ∃ cs, Blk w' A 62 cs ∧ cs.length = 4096 ∧ ∀ q, q < 4096 → cs[q]? = some (ptrV (setAt sl p x q)))
    (hslot : ∀ y, x = some y → B ≤ y.1 ∧ B ≤ y.2 ∧ Blk w' y.1 67 [.map (some y.2), .int .i64 l] ∧ Mp w' y.2 K' (part f' p) ∧ (sl p = some y ∨ (w.heap.size ≤ y.1 ∧ w.heap.size ≤ y.2)))
    (hem : x = none → ∀ s, part f' p s = none) (hlow : ∀ s e, f' s = some e → pos e = p → l ≤ e) (hr : ∀ s e, f' s = some e → pos e = p → 0 ≤ e ∧ e < 2 ^ 62) : Slots w' B A K' (setAt sl p x) (setAt low p l) f' := by
  obtain ⟨cs, hb, hl, hc⟩ := h.arr
  have hold : ∀ q, q ≠ p → ∀ s e, f' s = some e → pos e = q → f s = some e := fun q hqp s e he hpe => by
    have h1 := part_some.2 ⟨he, hpe⟩
    rw [hq q hqp s] at h1
    exact (part_some.1 h1).1
  refine ⟨harr, fun q y hq4 hy => ?_, fun q q' y y' hq4 hq4' hy hy' heq => ?_, fun q hq4 hy s => ?_, fun s e he => ?_, fun s e he => ?_, h.base⟩
  · unfold setAt at hy ⊢
    by_cases hqp : q = p
    · subst hqp
      simp only [if_true] at hy ⊢
      obtain ⟨h1, h2, h3, h4, -⟩ := hslot y hy
      exact ⟨h1, h2, h3, h4⟩
    · simp only [if_neg hqp] at hy ⊢
      obtain ⟨h1, h2, h3, h4⟩ := h.slot q y hq4 hy
      have n1 : ¬ F y.1 := fun hF1 => by
        rcases hF _ hF1 with e | e | ⟨z, hz, e⟩ | e
        rotate_left 3
        · exact e (.inr ⟨_, _, _, h3.blk, .inr (.inr rfl)⟩)
        · exact blk_ne h3 hb (by decide) e
        · exact blk_ne h3 hh (by decide) e
        · obtain ⟨-, -, z3, z4⟩ := h.slot p z hp hz
          rcases e with e | e
          · exact hqp (h.inj q p y z hq4 hp hy hz (.inl e))
          · exact map_ne h3 z4 e
      have n2 : ¬ F y.2 := fun hF1 => by
        rcases hF _ hF1 with e | e | ⟨z, hz, e⟩ | e
        rotate_left 3
        · exact e (.inl h4.blk)
        · exact map_ne hb h4 e.symm
        · exact map_ne hh h4 e.symm
        · obtain ⟨-, -, z3, z4⟩ := h.slot p z hp hz
          rcases e with e | e
          · exact map_ne z3 h4 e.symm
          · exact hqp (h.inj q p y z hq4 hp hy hz (.inr e))
      exact ⟨h1, h2, h3.fr hf n1, ((h4.fr hf n2).mono hK).congr (hq q hqp)⟩
  · unfold setAt at hy hy'
    by_cases hqp : q = p
    · by_cases hqp' : q' = p
      · rw [hqp, hqp']
      · exfalso
        subst hqp
        simp only [if_true, if_neg hqp'] at hy hy'
        obtain ⟨-, -, -, -, h5⟩ := hslot y hy
        obtain ⟨-, -, h3, h4⟩ := h.slot q' y' hq4' hy'
        rcases h5 with h5 | ⟨h5, h6⟩
        · exact hqp' (h.inj q' q y' y hq4' hp hy' h5 (heq.imp Eq.symm Eq.symm))
        · have := h3.lt
          have := h4.lt
          omega
    · by_cases hqp' : q' = p
      · exfalso
        subst hqp'
        simp only [if_true, if_neg hqp] at hy hy'
        obtain ⟨-, -, -, -, h5⟩ := hslot y' hy'
        obtain ⟨-, -, h3, h4⟩ := h.slot q y hq4 hy
        rcases h5 with h5 | ⟨h5, h6⟩
        · exact hqp (h.inj q q' y y' hq4 hp hy h5 heq)
        · have := h3.lt
          have := h4.lt
          omega
      · simp only [if_neg hqp, if_neg hqp'] at hy hy'
        exact h.inj q q' y y' hq4 hq4' hy hy' heq
  · unfold setAt at hy
    by_cases hqp : q = p
    · subst hqp
      simp only [if_true] at hy
      exact hem hy s
    · simp only [if_neg hqp] at hy
      rw [hq q hqp s]
      exact h.empty q hq4 hy s
  · unfold setAt
    by_cases hqp : pos e = p
    · rw [if_pos hqp]
      exact hlow s e he hqp
    · rw [if_neg hqp]
      exact h.low s e (hold _ hqp s e he rfl)
  · by_cases hqp : pos e = p
    · exact hr s e he hqp
    · exact h.rng s e (hold _ hqp s e he rfl)
end
theorem slots_none {w : World} {B A : Nat} {cs : List Value} (hb : B ≤ A) (h : Blk w A 62 cs) (hl : cs.length = 4096) (hc : ∀ p, p < 4096 → cs[p]? = some (.pointer none)) : Slots w B A 0 (fun _ => none) (fun _ => 0) (fun _ => none) where
  arr := ⟨cs, h, hl, hc⟩
  slot := fun _ _ _ h => by cases h
  inj := fun _ _ _ _ _ _ h => by cases h
  empty := fun _ _ _ _ => rfl
  low := fun _ _ h => by cases h
  rng := fun _ _ h => by cases h
  base := hb
def hdCells (A : Nat) (lo cnt : Int) : List Value := [.slice (some ⟨A, 0, none⟩) 4096 4096, .int .i64 lo, .int .u64 cnt]
structure Whl (w : World) (B hw A K : Nat) (sl : Nat → Option (Nat × Nat)) (low : Nat → Int) (lo cnt : Int) (f : Fm) : Prop where
  bh : B ≤ hw
  hd : Blk w hw 54 (hdCells A lo cnt)
  slots : Slots w B A K sl low f
  lolow : ∀ p x, p < 4096 → sl p = some x → lo ≤ low p
  lom : lo ≤ maxI
/-- The lowest times are there. -/
structure Exa (sl : Nat → Option (Nat × Nat)) (low : Nat → Int) (lo : Int) (f : Fm) : Prop where
  hi : (∃ s, f s = some lo) ∨ (lo = maxI ∧ ∀ s, f s = none)
  at_ : ∀ p x, p < 4096 → sl p = some x → ∃ s, part f p s = some (low p)
structure Wheel (w : World) (B hw K : Nat) (f : Fm) (cnt : Int) (ex : Prop) : Prop where
  ex : ∃ A sl low lo, Whl w B hw A K sl low lo cnt f ∧ (ex → Exa sl low lo f)
section
variable {w w' : World} {B hw A K : Nat} {sl : Nat → Option (Nat × Nat)} {low : Nat → Int} {lw cnt : Int} {f : Fm}
theorem Whl.lo (h : Whl w B hw A K sl low lw cnt f) {s e : Int} (he : f s = some e) : lw ≤ e := by
  obtain ⟨x, hx⟩ := h.slots.seat he
  exact Int.le_trans (h.lolow _ x (pos_lt e) hx) (h.slots.low s e he)
theorem Whl.fr {F : Nat → Prop} (h : Whl w B hw A K sl low lw cnt f) (hf : Fr F w w') (hn : ∀ k, F k → B ≤ k → ¬ WK w k) : Whl w' B hw A K sl low lw cnt f :=
  ⟨h.bh, h.hd.fr hf (fun hF => hn _ hF h.bh (.inr ⟨_, _, _, h.hd.blk, .inl rfl⟩)), h.slots.fr hf hn, h.lolow, h.lom⟩
theorem Wheel.fr {ex : Prop} {F : Nat → Prop} (h : Wheel w B hw K f cnt ex) (hf : Fr F w w') (hn : ∀ k, F k → B ≤ k → ¬ WK w k) : Wheel w' B hw K f cnt ex := by
  obtain ⟨A, sl, low, lo, h1, h2⟩ := h.ex
  exact ⟨A, sl, low, lo, h1.fr hf hn, h2⟩
end
set_option maxRecDepth 100000 in
theorem newSlot_calls {W : World} : Calls Tryd.prog 29 #[] W (fun en w' => en = .returned (.pointer (some ⟨W.heap.size + 1, 0, none⟩)) ∧ Blk w' (W.heap.size + 1) 67 [.map (some W.heap.size), .int .i64 maxI] ∧ Mp w' W.heap.size 0 (fun _ => none) ∧ Same W w' ∧ W.heap.size + 1 < w'.heap.size) := by
  have hmm := @run_makeMap Tryd.prog
  go_enter Tryd.func29, Tryd.ntmps29
  go_wp2
  go_ret
  have h1 := Blk.new (W.alloc (.map #[] 0)) 67 [.map (some W.heap.size), .int .i64 maxI]
  have e1 : (W.alloc (.map #[] 0)).heap.size = W.heap.size + 1 := by simp
  rw [e1] at h1
  exact ⟨rfl, h1, (Mp.made W).fr ((Fr.refl (fun _ => False) _).alloc _) (fun h => h), ((Fr.refl _ W).alloc _).alloc _, h1.lt⟩
theorem info62 : (Tryd.prog.info? 62).map (fun i => (i.zero, i.size, i.bytes)) = some (some (.pointer none), 1, 8) := by kernel_rfl
theorem make_ptrs (W : World) (n : Nat) (hn : n ≤ 100000) : ∃ w1, (Instr.makeSlice 52 (.int .i64 (n : Int)) (.int .i64 (n : Int))).run Tryd.prog W = .ok (.slice (some ⟨W.heap.size, 0, none⟩) n n) w1 ∧ Same W w1 ∧ w1.heap.size = W.heap.size + 1 ∧
    ∃ cs, Blk w1 W.heap.size 62 cs ∧ cs.length = n ∧ ∀ p, p < n → cs[p]? = some (.pointer none) := by
  obtain ⟨i, hi, hzz⟩ := Option.map_eq_some_iff.1 info62
  simp only [Prod.mk.injEq] at hzz
  obtain ⟨a1, a2, a3⟩ := hzz
  have h := run_make (P := Tryd.prog) W 52 62 i _ Tryd.underlying52 hi a1 .i64 .i64 n n (by omega) (by omega) (by rw [a3]; omega) (by omega)
  rw [a2, Int.toNat_natCast, Nat.mul_one] at h
  refine ⟨_, h, (Fr.refl _ W).alloc _, by simp, (madeCells (Value.pointer none).cells n).toList, ⟨heap_alloc_new W _⟩, by simp [size_madeCells], fun p hp => ?_⟩
  have h1 : (madeCells (Value.pointer none).cells n)[p]? = some (.pointer none) := by
    unfold madeCells
    rw [Array.getElem?_map, Array.getElem?_range]
    simp [hp, Value.cells, Nat.mod_one]
  rw [Array.getElem?_toList]
  exact h1
def NewPost (W : World) (en : Ending) (w' : World) : Prop := ∃ hw, en = .returned (.pointer (some ⟨hw, 0, none⟩)) ∧ Wheel w' W.heap.size hw 0 (fun _ => none) 0 True ∧ Same W w'
set_option maxRecDepth 100000 in
theorem newWheel_calls {W : World} : Calls Tryd.prog 14 #[] W (NewPost W) := by
  obtain ⟨w1, hmk, hS, hsz, hB⟩ := make_ptrs W 4096 (by decide)
  rw [show ((4096 : Nat) : Int) = 4096 from rfl] at hmk
  have H := Aside0.mk hB
  have HS := Aside0.mk hS
  have HZ := Aside0.mk hsz
  clear hB hS hsz
  go_enter Tryd.func14, Tryd.ntmps14
  go_wp2
  go_ret
  obtain ⟨cs, h1, h2, h3⟩ := H.out
  have hs := slots_none (Nat.le_refl _) (h1.alloc (.cells (hdCells W.heap.size maxI 0).toArray 54)) h2 h3
  refine ⟨w1.heap.size, rfl, ⟨W.heap.size, fun _ => none, fun _ => 0, maxI, ⟨?_, Blk.new w1 54 (hdCells W.heap.size maxI 0), hs, fun _ _ _ h => (by cases h), Int.le_refl _⟩, fun _ => ⟨.inr ⟨rfl, fun _ => rfl⟩, fun _ _ _ h => (by cases h)⟩⟩, HS.out.alloc _⟩
  have := HZ.out
  omega
end Go.Proofs.YtlbpbbfhfgacaaaDoor.Wh
