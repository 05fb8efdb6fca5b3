/- The plain set: spec.Set. -/
import Derived.Test.YtebgaedalbdhaaaDoorSaB
import Derived.Deep.RegionHeld3
import Derived.Maps.AppendAt
namespace Go.Proofs.YtebgaedalbdhaaaDoor.Av
open Go.RowKit Go.Proofs.YtebgaedalbdhaaaDoorW.PrintWords Go.Proofs.YtebgaedalbdhaaaDoorW.PrintLast Go.Proofs.YtebgaedalbdhaaaDoorW.PrintMore
set_option linter.unusedVariables false
set_option linter.unusedSimpArgs false

theorem step_sorted {L : List Int} (a : Deed) (h : L.Pairwise (· < ·)) : (stepL L a).Pairwise (· < ·) := by
  unfold stepL
  split
  · exact sorted_insS h
  · exact sorted_delS h
theorem plays_sorted : ∀ (es : List Deed) (L : List Int), L.Pairwise (· < ·) → (plays L es).Pairwise (· < ·)
  | [], L, h => h
  | a :: es, L, h => plays_sorted es (stepL L a) (step_sorted a h)
/-- A row of numbers of its own, made since w2. -/
structure RowS (w2 W : World) (v : Value) (M : List Int) : Prop where
  own : W.ownsRow w2.heap.size 23 1 v M.length (M.map (Value.int .u64))
  fr : Fr (fun _ => False) w2 W
/-- A slice to be appended. -/
structure ReadX (W : World) (X : Option Addr) (m : Nat) (N : List Int) : Prop where
  len : N.length = m
  read : NumsR W X N
theorem RowS.alloc {w2 W : World} {v : Value} {M : List Int} (h : RowS w2 W v M) (o : Obj) : RowS w2 (W.alloc o) v M := ⟨h.own.alloc o, h.fr.alloc o⟩
section
variable {W : World}
theorem run_append_empty (P : Program) (t ty e : TypeId) (i : TypeInfo) (ht : P.underlying t = some (.slice e)) (hi : P.info? e = some i) {base size : Nat} {v : Value} {n c : Nat} {xs : List Value} (hown : W.ownsRow base e size v n xs) :
    (Builtin.append_ #[t, t] ty #[v, .slice none 0 c]).run P W = .ok v W := by
  rcases hown.2 with ⟨rfl, h0⟩ | ⟨g, cap, cur, rfl, hb, hg, h1, h2, h3, h4⟩
  · simp [Builtin.append_, run_underlying ht, sizeOf, typeInfo, hi, Builtin.lenOf, Builtin.firstCells]
  · simp [Builtin.append_, run_underlying ht, sizeOf, typeInfo, hi, Builtin.lenOf, Builtin.firstCells, h1, storeCells]
set_option maxRecDepth 100000 in
/-- What an append of numbers does. -/
theorem run_row {w2 : World} {v : Value} {M N : List Int} (ty : TypeId) (h1 : RowS w2 W v M) {X : Option Addr} {m c : Nat} (hr : Fr (fun _ => False) w2 W → ReadX W X m N) (hsz : M.length + N.length ≤ 1000000) :
    ∃ v' W', (Builtin.append_ #[26, 26] ty #[v, .slice X m c]).run Tryd.prog W = .ok v' W' ∧ RowS w2 W' v' (M ++ N) ∧ W.grownBy W' v.ownBlock ∧ (v'.ownBlock = v.ownBlock ∨ v'.ownBlock = some W.heap.size) := by
  obtain ⟨i0, hi0, hz0, hz1, hz2⟩ := info_parts info23
  obtain ⟨hl, hrd⟩ := hr h1.fr
  subst hl
  cases X with
  | none =>
    have hN : N = [] := by
      cases N with
      | nil => rfl
      | cons x N => obtain ⟨ad, h, -⟩ := hrd (by simp); cases h
    subst hN
    refine ⟨v, W, run_append_empty _ _ ty 23 i0 (by kernel_rfl) hi0 h1.own, by rw [List.append_nil]; exact h1, ⟨rfl, rfl, rfl, Nat.le_refl _, fun _ _ _ => rfl⟩, .inl rfl⟩
  | some ad =>
    obtain ⟨v', W', hrun, ho, hg, -, hat⟩ := run_append_own_at (P := Tryd.prog) W w2.heap.size 26 ty 23 i0 (.int .u64 0) 1 8 (by kernel_rfl) hi0 hz0 hz1 hz2 rfl Nat.one_pos v M.length _ h1.own ad N.length c (N.map (Value.int .u64)) (by simp)
      (fun j u hu => by
        rw [List.getElem?_map] at hu
        cases hx : N[j]? with
        | none => rw [hx] at hu; cases hu
        | some x =>
          rw [hx] at hu
          injection hu with hu
          subst hu
          obtain ⟨ad', e, hc⟩ := hrd (by have := (List.getElem?_eq_some_iff.1 hx).1; omega)
          injection e with e
          subst e
          exact hc j x hx)
      (fun u hu => by
        obtain ⟨x, -, rfl⟩ := List.mem_map.1 hu
        rfl) (by unfold maxLen; omega) (by omega) h1.fr.size
    refine ⟨v', W', hrun, ⟨?_, h1.fr.trans (Fr.grown hg) (fun k hk e => ?_)⟩, hg, hat⟩
    · rw [← List.map_append, ← List.length_append] at ho
      exact ho
    · have := (h1.own.lt k e).1
      omega
theorem step_row {ops : Array Oper} {o : Oper} {a : Act} {K : Act → World → Prop} {Q : Exit → Act → World → Prop} {E : Prop} (hgd : o.guard = none) (s x : Operand)
    (ho : o.op = .call { callee := .builtin .append, args := #[s, x], argTypes := #[26, 26] }) {w2 : World} {v : Value} {M N : List Int} (hs : a.eval s = v) (h1 : RowS w2 W v M) {X : Option Addr} {m c : Nat} (hx : a.eval x = .slice X m c) (hr : Fr (fun _ => False) w2 W → ReadX W X m N)
    (hsz : M.length + N.length ≤ 1000000) (h : ∀ v' W', RowS w2 W' v' (M ++ N) → W.grownBy W' v.ownBlock → (v'.ownBlock = v.ownBlock ∨ v'.ownBlock = some W.heap.size) → K (a.put o.dst v') W') :
    if Region.wanted o (yielded ops a.tmps) = true then Oper.wp Tryd.prog o a W K Q else E := by
  have hw : Region.wanted o (yielded ops a.tmps) = true := by simp [Region.wanted, hgd]
  rw [if_pos hw]
  obtain ⟨v', W', hrun, k1, k2, k3⟩ := run_row (c := c) o.type h1 hr hsz
  unfold Oper.wp execOp
  simp only [ho, resolve, invoke, builtin, Sem.run_bind, Sem.run_pure, Result.andThen_ok, List.map_toArray, List.map_cons, List.map_nil, hs, hx, hrun]
  exact h v' W' k1 k2 k3
theorem wpList_row {ops : Array Oper} {rest : List Oper} {o : Oper} {a : Act} {Q : Exit → Act → World → Prop} (hgd : o.guard = none) (s x : Operand)
    (ho : o.op = .call { callee := .builtin .append, args := #[s, x], argTypes := #[26, 26] }) {w2 : World} {v : Value} {M N : List Int} (hs : a.eval s = v) (h1 : RowS w2 W v M) {X : Option Addr} {m c : Nat} (hx : a.eval x = .slice X m c) (hr : Fr (fun _ => False) w2 W → ReadX W X m N)
    (hsz : M.length + N.length ≤ 1000000) (h : ∀ v' W', RowS w2 W' v' (M ++ N) → W.grownBy W' v.ownBlock → (v'.ownBlock = v.ownBlock ∨ v'.ownBlock = some W.heap.size) → wpList Tryd.prog ops Q rest (a.put o.dst v') W') :
    wpList Tryd.prog ops Q (o :: rest) a W := by
  refine wpList_plain hgd fun K hK => ?_
  obtain ⟨v', W', hrun, k1, k2, k3⟩ := run_row (c := c) o.type h1 hr hsz
  unfold Oper.wp execOp
  simp only [ho, resolve, invoke, builtin, Sem.run_bind, Sem.run_pure, Result.andThen_ok, List.map_toArray, List.map_cons, List.map_nil, hs, hx, hrun]
  exact hK _ _ (h v' W' k1 k2 k3)
end
section
variable {w2 : World}
theorem row_empty {W : World} {h : Nat} (hf : Fr (fun _ => False) w2 W) (hb : W.heap[h]? = some (.cells #[] 23 (0, 0))) (hh : w2.heap.size ≤ h) : RowS w2 W (.slice (some ⟨h, 0, none⟩) 0 0) [] :=
  ⟨⟨rfl, .inr ⟨h, 0, #[], rfl, hh, hb, Nat.le_refl _, Nat.zero_le _, rfl, rfl⟩⟩, hf⟩
theorem row_e1 : RowS w2 (w2.alloc (.cells #[] 23)).drew (.slice (some ⟨w2.heap.size, 0, none⟩) 0 0) [] :=
  row_empty ((Fr.refl _ w2).alloc _).drew (heap_alloc_new w2 _) (Nat.le_refl _)
theorem row_e1' {wd : World} (hd : Fr (fun _ => False) w2 wd) : RowS w2 (wd.alloc (.cells #[] 23)) (.slice (some ⟨wd.heap.size, 0, none⟩) 0 0) [] :=
  row_empty (hd.alloc _) (heap_alloc_new wd _) hd.size
theorem row_e2 (o : Obj) : RowS w2 ((w2.alloc (.cells #[] 23)).alloc o).drew (.slice (some ⟨w2.heap.size, 0, none⟩) 0 0) [] :=
  row_empty (((Fr.refl _ w2).alloc _).alloc _).drew ((heap_alloc_old (w2.alloc (.cells #[] 23)) o (by simp)).trans (heap_alloc_new w2 _)) (Nat.le_refl _)
theorem row_e3 (o : Obj) : RowS w2 ((w2.alloc o).alloc (.cells #[] 23)).drew (.slice (some ⟨w2.heap.size + 1, 0, none⟩) 0 0) [] :=
  row_empty (((Fr.refl _ w2).alloc _).alloc _).drew (by
    have := heap_alloc_new (w2.alloc o) (.cells #[] 23)
    rw [show (w2.alloc o).heap.size = w2.heap.size + 1 by simp] at this
    exact this) (by omega)
theorem read_one {W : World} {b : Nat} {q : Int} (h : W.cell? ⟨b, 0, none⟩ = some (.int .u64 q)) : ReadX W (some ⟨b, 0, none⟩) 1 [q] :=
  ⟨rfl, fun _ => ⟨_, rfl, fun i x hi => by
    cases i with
    | zero => injection hi with hi; subst hi; exact h
    | succ i => simp at hi⟩⟩
theorem read_new {W : World} {q : Int} : ReadX (W.alloc (.cells #[.int .u64 q] 23)) (some ⟨W.heap.size, 0, none⟩) 1 [q] := read_one (cell_at (heap_alloc_new W _))
theorem read_c2 {W : World} {q : Int} (hg : ((w2.alloc (.cells #[] 23)).alloc (.cells #[.int .u64 q] 23)).drew.grownBy W (some w2.heap.size)) : ReadX W (some ⟨w2.heap.size + 1, 0, none⟩) 1 [q] :=
  read_one (hg.cell (by
    have := heap_alloc_new (w2.alloc (.cells #[] 23)) (.cells #[.int .u64 q] 23)
    rw [show (w2.alloc (.cells #[] 23)).heap.size = w2.heap.size + 1 by simp] at this
    exact cell_at (w := ((w2.alloc (.cells #[] 23)).alloc (.cells #[.int .u64 q] 23)).drew) this) (by simp))
theorem read_c3 {W : World} {q : Int} (hg : ((w2.alloc (.cells #[.int .u64 q] 23)).alloc (.cells #[] 23)).drew.grownBy W (some (w2.heap.size + 1))) : ReadX W (some ⟨w2.heap.size, 0, none⟩) 1 [q] :=
  read_one (hg.cell (by
    have := (heap_alloc_old (w2.alloc (.cells #[.int .u64 q] 23)) (.cells #[] 23) (by simp)).trans (heap_alloc_new w2 (.cells #[.int .u64 q] 23))
    exact cell_at (w := ((w2.alloc (.cells #[.int .u64 q] 23)).alloc (.cells #[] 23)).drew) this) (by simp))
theorem read_take {A : Option Addr} {L : List Int} {k : Nat} (h : NumsR w2 A L) (hk : k ≤ L.length) {W : World} (hf : Fr (fun _ => False) w2 W) : ReadX W A k (L.take k) :=
  ⟨by rw [List.length_take]; omega, fun h0 => by
    obtain ⟨ad, rfl, hc⟩ := (h.fr hf (fun _ _ h => h)) (by rw [List.length_take] at h0; omega)
    exact ⟨ad, rfl, fun i x hi => hc i x (by
      rw [List.getElem?_take] at hi
      split at hi
      · exact hi
      · cases hi)⟩⟩
theorem read_drop {A : Option Addr} {L : List Int} {k c : Nat} (h : NumsR w2 A L) (hk : k ≤ L.length) (hc : L.length ≤ c) {W : World} (hf : Fr (fun _ => False) w2 W) : ReadX W (if c = k then A else Option.map (fun x => x.add k) A) (L.length - k) (L.drop k) :=
  ⟨by rw [List.length_drop], fun h0 => by
    rw [List.length_drop] at h0
    obtain ⟨ad, rfl, hcc⟩ := (h.fr hf (fun _ _ h => h)) (by omega)
    rw [if_neg (by omega)]
    refine ⟨ad.add k, rfl, fun i x hi => ?_⟩
    rw [List.getElem?_drop] at hi
    rw [add_add']
    exact hcc _ _ hi⟩
end
/-- Two rows of one's own: numbers, and answers. -/
structure SMid (w wr : World) (L : List Int) (ws : List Bool) (v4 v5 : Value) : Prop where
  nums : wr.ownsRow w.heap.size 23 1 v4 L.length (L.map (Value.int .u64))
  was : wr.ownsRow w.heap.size 4 1 v5 ws.length (ws.map Value.bool)
  apart : ∀ k, v4.ownBlock = some k → v5.ownBlock ≠ some k
  fr : Fr (fun _ => False) w wr
section
variable {w wr w2 w3 : World} {L L' : List Int} {ws : List Bool} {v4 v4' v5 : Value}
theorem SMid.fr0 (h : SMid w wr L ws v4 v5) (hf : Fr (fun _ => False) wr w2) : SMid w w2 L ws v4 v5 :=
  ⟨ownsRow_fr h.nums hf (fun _ _ h => h), ownsRow_fr h.was hf (fun _ _ h => h), h.apart, h.fr.trans hf (fun _ _ h => h)⟩
theorem SMid.row (h : SMid w w2 L ws v4 v5) (hr : RowS w2 w3 v4' L') : SMid w w3 L' ws v4' v5 :=
  ⟨ownsRow_low hr.own h.fr.size, ownsRow_fr h.was hr.fr (fun _ _ h => h), fun k hk e => by
    have h1 := (hr.own.lt k hk).1
    have h2 := (h.was.lt k e).2
    omega, h.fr.trans hr.fr (fun _ _ h => h)⟩
theorem SMid.app (h : SMid w wr L ws v4 v5) {b : Bool} {gg cap : Nat} (hown : w2.ownsRow w.heap.size 4 1 (.slice (some ⟨gg, 0, none⟩) (ws.length + 1) cap) (ws.length + 1) (ws.map Value.bool ++ [.bool b])) (hg : wr.grownBy w2 v5.ownBlock) (hat : v5.ownBlock = some gg ∨ gg = wr.heap.size) :
    SMid w w2 L (ws ++ [b]) v4 (.slice (some ⟨gg, 0, none⟩) (ws.length + 1) cap) := by
  have hf := Fr.grown hg
  refine ⟨ownsRow_fr h.nums hf (fun k hk e => h.apart k hk e), by simpa using hown, ?_, h.fr.trans hf (fun k hk e => by have := (h.was.lt k e).1; omega)⟩
  intro k hk e
  simp only [Value.ownBlock, Option.some.injEq] at e
  subst e
  rcases hat with hat | hat
  · exact h.apart _ hk hat
  · subst hat
    have := (h.nums.lt _ hk).2
    omega
end
/-- What spec.Set has after i deeds. -/
def SIn (w wr : World) (acts : List Deed) (i : Nat) (v4 v5 : Value) : Prop := SMid w wr (plays [] (acts.take i)) (wases [] (acts.take i)) v4 v5
theorem SMid.next {w wr : World} {acts : List Deed} {i : Nat} {a : Deed} {b : Bool} {L : List Int} {v4 v5 : Value} (hL : L = plays [] (acts.take i)) (ha : acts[i]? = some a) (hb : b = decide (a.2 ∈ L))
    (hc : SMid w wr (stepL L a) (wases [] (acts.take i) ++ [b]) v4 v5) : SIn w wr acts (i + 1) v4 v5 := by
  subst hL
  unfold SIn
  rw [take_snoc ha, plays_append, wases_append]
  subst hb
  exact hc
theorem SMid.base {w wr : World} {L : List Int} {ws : List Bool} {v4 v5 : Value} (h : SMid w wr L ws v4 v5) {o : Obj} : w.heap.size ≤ (wr.alloc o).heap.size := by
  have := h.fr.size
  simp
  omega
set_option maxHeartbeats 16000000 in
set_option maxRecDepth 100000 in
theorem spec_calls {w : World} {A : Option Addr} {acts : List Deed} {c : Nat} (hA : ActsR w A acts) (hok : ∀ a ∈ acts, okDeed none a) (hn : acts.length ≤ 1000) :
    Calls Tryd.prog 14 #[.slice A acts.length c] w fun e w' => ∃ v4 v5, e = .returned (.tuple #[v4, v5]) ∧ SIn w w' acts acts.length v4 v5 := by
  have HA := Aside0.mk hA
  have HOK := Aside0.mk hok
  have HI : Aside0 (SIn w w acts 0 (.slice none 0 0) (.slice none 0 0)) := Aside0.mk (SMid.mk ⟨rfl, .inl ⟨rfl, rfl⟩⟩ ⟨rfl, .inl ⟨rfl, rfl⟩⟩ (fun k h => by cases h) (Fr.refl _ _))
  obtain ⟨i0, hi0, hz0, hz1, hz2⟩ := info_parts info4
  have HINF := Aside0.mk hi0
  have HINZ := Aside0.mk hz0
  have HINS := Aside0.mk hz1
  have HINB := Aside0.mk hz2
  clear hi0 hz0 hz1 hz2 hA hok
  go_enter Tryd.func14, Tryd.ntmps14
  go_wp2
  go_loopg [4, 5, 6] acts.length (fun k v4 v5 v6 w' => ∃ i : Nat, i ≤ acts.length ∧ v6 = .int .i64 i ∧ Aside0 (acts.length - i ≤ k ∧ SIn w w' acts i v4 v5))
  case atStart => exact ⟨0, Nat.zero_le _, rfl, ⟨Nat.le_refl _, HI.out⟩⟩
  case round =>
    obtain ⟨i, hi, rfl, HU⟩ := hrel
    have HK := Aside0.mk HU.out.1
    have HC := Aside0.mk HU.out.2
    clear HU HI
    by_cases hlt : i < acts.length
    · obtain ⟨ad, hAd, -⟩ := HA.out (by omega)
      subst hAd
      obtain ⟨⟨op, q⟩, ha⟩ : ∃ a, acts[i]? = some a := ⟨_, List.getElem?_eq_getElem hlt⟩
      have HAI := Aside0.mk ha
      have OKA := Aside0.mk (HOK.out _ (List.mem_of_getElem? ha))
      have HA2 : Aside0 (ActsR wr (some ad) acts) := ⟨HA.out.fr HC.out.fr (fun _ _ h => h)⟩
      obtain ⟨ad2, e2, hc2⟩ := HA2.out (by omega)
      injection e2 with e2
      subst e2
      obtain ⟨k1, k2⟩ := hc2 i _ ha
      replace k2 : wr.cell? ⟨(ad.add (i * 2)).block, (ad.add (i * 2)).off + 1, none⟩ = some (.int .u64 q) := by
        rw [← k2, ← add_add']
        rfl
      have i1 : (0 : Int) ≤ (i : Int) := by omega
      have i2 : (i : Int) < (acts.length : Int) := by omega
      clear hc2 ha
      have LV := Aside0.mk (wases_le (L := []) (i := i) hn)
      obtain ⟨L, hL⟩ : ∃ L, L = plays [] (acts.take i) := ⟨_, rfl⟩
      have HL := Aside0.mk hL
      have HSO : Aside0 (L.Pairwise (· < ·)) := ⟨hL ▸ plays_sorted _ _ .nil⟩
      have hcn := HC.out
      unfold SIn at hcn
      rw [← hL] at hcn
      obtain ⟨A4, c4, e4, hcap, hr⟩ := ownsRow_read hcn.nums rfl
      subst e4
      have HCN := Aside0.mk hcn
      have HR4 := Aside0.mk hr
      have hLn : L.length ≤ 1000 := by
        have := plays_len (acts.take i) []
        rw [List.length_take, ← hL] at this
        simp at this
        omega
      have HLM : Aside0 (L.length ≤ maxLen) := ⟨by unfold maxLen; omega⟩
      clear hL hr hcn HC
      go_wp2_with fail
      refine (at_calls q HR4.out HLM.out).mono ?_
      rintro e w2 ⟨k, b, rfl, h, hf⟩
      have HAT := Aside0.mk h
      have HB := Aside0.mk (h.mem HSO.out)
      have HC2 := Aside0.mk (HCN.out.fr0 hf)
      have HR2 := Aside0.mk (HR4.out.fr hf (fun _ _ h => h))
      replace k1 : w2.cell? (ad.add (i * 2)) = some (.int .i64 op) := (World.cell?_of_block (hf.block _ (World.block_lt_of_cell? wr _ k1) (fun h => h))).trans k1
      replace k2 : w2.cell? ⟨(ad.add (i * 2)).block, (ad.add (i * 2)).off + 1, none⟩ = some (.int .u64 q) := (World.cell?_of_block (hf.block _ (World.block_lt_of_cell? wr _ k2) (fun h => h))).trans k2
      have HK2 := Aside0.mk (World.block_lt_of_cell? w2 _ k2)
      have HK1 := Aside0.mk k1
      have hk : k ≤ L.length := h.le
      have j0 : (0 : Int) ≤ (k : Int) := by omega
      have j1 : (k : Int) ≤ (L.length : Int) := by omega
      have j2 : (L.length : Int) ≤ (c4 : Int) := by omega
      have j3 : (k : Int) ≤ (c4 : Int) := by omega
      clear h hf HCN HR4 HA2
      dsimp only
      rcases OKA.out.1 with hop | hop
      · dsimp only at hop
        subst hop
        cases b with
        | false =>
          have HSTEP := Aside0.mk (HAT.out.ins HSO.out rfl)
          have HSZ : Aside0 (([] : List Int).length + (L.take k).length ≤ 1000000 ∧ (([] : List Int) ++ L.take k).length + [q].length ≤ 1000000 ∧ (([] : List Int) ++ L.take k ++ [q]).length + (L.drop k).length ≤ 1000000) := ⟨by simp; omega⟩
          have HRT : Aside0 (∀ W, Fr (fun _ => False) w2 W → ReadX W A4 k (L.take k)) := ⟨fun W hf => read_take HR2.out hk hf⟩
          have HRD : Aside0 (∀ W, Fr (fun _ => False) w2 W → ReadX W (if c4 = k then A4 else Option.map (fun x => x.add k) A4) (L.length - k) (L.drop k)) := ⟨fun W hf => read_drop HR2.out hk hcap hf⟩
          go_upto_region 8 with (fail)
          go_region_held3 (fun w' => w'.cell? ⟨(ad.add (i * 2)).block, (ad.add (i * 2)).off + 1, none⟩ = some (.int .u64 q)) (first | go_keep | exact (World.cell?_of_block (hr2.fr.block _ HK2.out (fun h => h))).trans k2 | exact (World.cell?_of_block (hr1.fr.block _ HK2.out (fun h => h))).trans k2 | exact (World.cell?_of_block (hr3.fr.block _ HK2.out (fun h => h))).trans k2)
            (first
              | (refine step_row (by rfl) _ _ (by rfl) (M := []) (N := L.take k) (w2 := w2) (by rfl) (by first | exact row_e1 | exact row_e2 _ | exact row_e3 _) (by rfl) (HRT.out _) HSZ.out.1 ?_; intro v1 w1 hr1 hg1 ha1)
              | (refine step_row (by rfl) _ _ (by rfl) (M := [] ++ L.take k) (N := [q]) (w2 := w2) (by rfl) (by first | exact hr1.alloc _ | exact hr1) (by rfl) (by first | exact fun _ => read_new | exact fun _ => read_c2 hg1 | exact fun _ => read_c3 hg1) HSZ.out.2.1 ?_; intro v2 w3 hr2 hg2 ha2)
              | (refine step_row (by rfl) _ _ (by rfl) (M := [] ++ L.take k ++ [q]) (N := L.drop k) (w2 := w2) (by rfl) (by exact hr2) (by rfl) (HRD.out _) HSZ.out.2.2 ?_; intro v3 w4 hr3 hg3 ha3))
          all_goals (
            have HC5 := Aside0.mk (HC2.out.row (L' := stepL L (0, q)) (show RowS w2 w4 v3 (stepL L (0, q)) by
              have e : stepL L (0, q) = [] ++ L.take k ++ [q] ++ L.drop k := (show stepL L (0, q) = insS q L from rfl).trans (by rw [HSTEP.out]; simp)
              rw [e]; exact hr3))
            have k3 : w4.cell? (ad.add (i * 2)) = some (.int .i64 0) := (World.cell?_of_block (hr3.fr.block _ (World.block_lt_of_cell? w2 _ HK1.out) (fun h => h))).trans HK1.out
            clear hr1 hg1 ha1 hr2 hg2 ha2 hr3 hg3 ha3 k1 k2 HSTEP HRT HRD HSZ HC2 HR2 HAT
            generalize (if c4 = k then A4 else Option.map (fun x => x.add k) A4) = X9
            go_upto_region 11 with (fail)
            go_upto_region 5 with (refine wpList_append_lies _ rfl _ _ _ rfl w.heap.size 4 i0 (.bool false) 1 1 (by kernel_rfl) HINF.out HINZ.out HINS.out HINB.out rfl Nat.one_pos u5 _ _ rfl (HC5.out.was.alloc _) ⟨w4.heap.size, 0, none⟩ 1 1 [.bool false] rfl rfl (new_one w4 _ _) (one_cell _) Nat.one_pos (room63 LV.out) (room47 LV.out) HC5.out.base _ rfl (fun gg cap w9 hown hgrow hat hlt => ?_); (have HC6 := Aside0.mk (SMid.next HL.out HAI.out HB.out (SMid.app (HC5.out.fr0 ((Fr.refl _ w4).alloc _)) hown hgrow hat))); clear hown hgrow hat hlt)
            go_wp2
            go_roundg (acts.length - (i + 1))
            case measure => have := HK.out; omega
            case rel => exact ⟨i + 1, by omega, rfl, ⟨Nat.le_refl _, HC6.out⟩⟩)
        | true =>
          have HC5 := Aside0.mk (show SMid w w2 (stepL L (0, q)) _ _ _ from (by rw [show stepL L (0, q) = insS q L from rfl, insS_self HSO.out (by simpa using HB.out)]; exact HC2.out))
          clear k2 HC2 HAT
          go_upto_region 11 with (fail)
          go_upto_region 5 with (refine wpList_append_lies _ rfl _ _ _ rfl w.heap.size 4 i0 (.bool false) 1 1 (by kernel_rfl) HINF.out HINZ.out HINS.out HINB.out rfl Nat.one_pos u5 _ _ rfl (HC5.out.was.alloc _) ⟨w2.heap.size, 0, none⟩ 1 1 [.bool true] rfl rfl (new_one w2 _ _) (one_cell _) Nat.one_pos (room63 LV.out) (room47 LV.out) HC5.out.base _ rfl (fun gg cap w9 hown hgrow hat hlt => ?_); (have HC6 := Aside0.mk (SMid.next HL.out HAI.out HB.out (SMid.app (HC5.out.fr0 ((Fr.refl _ w2).alloc _)) hown hgrow hat))); clear hown hgrow hat hlt)
          go_wp2
          go_roundg (acts.length - (i + 1))
          case measure => have := HK.out; omega
          case rel => exact ⟨i + 1, by omega, rfl, ⟨Nat.le_refl _, HC6.out⟩⟩
      · dsimp only at hop
        subst hop
        cases b with
        | true =>
          obtain ⟨hk1, hdel⟩ := HAT.out.del HSO.out rfl
          have HSTEP := Aside0.mk hdel
          have j4 : (k : Int) + 1 ≤ (L.length : Int) := by omega
          have j5 : (k : Int) + 1 ≤ (c4 : Int) := by omega
          have j6 : IntKind.i64.wrap ((k : Int) + 1) = (k : Int) + 1 := by rw [IntKind.wrap_i64]; omega
          have j7 : ((k : Int) + 1).toNat = k + 1 := by omega
          have j8 : (0 : Int) ≤ (k : Int) + 1 := by omega
          have hk2 : k + 1 ≤ L.length := hk1
          have HSZ : Aside0 (([] : List Int).length + (L.take k).length ≤ 1000000 ∧ (([] : List Int) ++ L.take k).length + (L.drop (k + 1)).length ≤ 1000000) := ⟨by simp; omega⟩
          have HRT : Aside0 (∀ W, Fr (fun _ => False) w2 W → ReadX W A4 k (L.take k)) := ⟨fun W hf => read_take HR2.out hk hf⟩
          have HRD : Aside0 (∀ W, Fr (fun _ => False) w2 W → ReadX W (if c4 = k + 1 then A4 else Option.map (fun x => x.add (k + 1)) A4) (L.length - (k + 1)) (L.drop (k + 1))) := ⟨fun W hf => read_drop HR2.out hk2 hcap hf⟩
          clear hdel hk1
          go_upto_region 10 with (fail)
          go_region_held3 (fun w' => w'.cell? ⟨(ad.add (i * 2)).block, (ad.add (i * 2)).off + 1, none⟩ = some (.int .u64 q)) (first | go_keep | exact (World.cell?_of_block (hr3.fr.block _ HK2.out (fun h => h))).trans k2 | exact (World.cell?_of_block (hr1.fr.block _ HK2.out (fun h => h))).trans k2)
            (first
              | (refine step_row (by rfl) _ _ (by rfl) (M := []) (N := L.take k) (w2 := w2) (by rfl) (by exact row_e1) (by rfl) (HRT.out _) HSZ.out.1 ?_; intro v1 w1 hr1 hg1 ha1)
              | (refine step_row (by rfl) _ _ (by rfl) (M := [] ++ L.take k) (N := L.drop (k + 1)) (w2 := w2) (by rfl) (by exact hr1) (by rfl) (HRD.out _) HSZ.out.2 ?_; intro v3 w4 hr3 hg3 ha3))
          have HC5 := Aside0.mk (HC2.out.row (L' := stepL L (1, q)) (show RowS w2 w4 v3 (stepL L (1, q)) by
            have e : stepL L (1, q) = [] ++ L.take k ++ L.drop (k + 1) := (show stepL L (1, q) = delS q L from rfl).trans (by rw [HSTEP.out]; simp)
            rw [e]; exact hr3))
          clear hr1 hg1 ha1 hr3 hg3 ha3 k1 k2 HSTEP HRT HRD HSZ HC2 HR2 HAT
          generalize (if c4 = k + 1 then A4 else Option.map (fun x => (⟨x.block, x.off + (k + 1), none⟩ : Addr)) A4) = X9
          go_upto_region 11 with (fail)
          go_upto_region 5 with (refine wpList_append_lies _ rfl _ _ _ rfl w.heap.size 4 i0 (.bool false) 1 1 (by kernel_rfl) HINF.out HINZ.out HINS.out HINB.out rfl Nat.one_pos u5 _ _ rfl (HC5.out.was.alloc _) ⟨w4.heap.size, 0, none⟩ 1 1 [.bool true] rfl rfl (new_one w4 _ _) (one_cell _) Nat.one_pos (room63 LV.out) (room47 LV.out) HC5.out.base _ rfl (fun gg cap w9 hown hgrow hat hlt => ?_); (have HC6 := Aside0.mk (SMid.next HL.out HAI.out HB.out (SMid.app (HC5.out.fr0 ((Fr.refl _ w4).alloc _)) hown hgrow hat))); clear hown hgrow hat hlt)
          go_wp2
          go_roundg (acts.length - (i + 1))
          case measure => have := HK.out; omega
          case rel => exact ⟨i + 1, by omega, rfl, ⟨Nat.le_refl _, HC6.out⟩⟩
        | false =>
          have HC5 := Aside0.mk (show SMid w w2 (stepL L (1, q)) _ _ _ from (by rw [show stepL L (1, q) = delS q L from rfl, delS_none (by simpa using HB.out)]; exact HC2.out))
          clear k2 HC2 HAT
          go_upto_region 11 with (fail)
          go_upto_region 5 with (refine wpList_append_lies _ rfl _ _ _ rfl w.heap.size 4 i0 (.bool false) 1 1 (by kernel_rfl) HINF.out HINZ.out HINS.out HINB.out rfl Nat.one_pos u5 _ _ rfl (HC5.out.was.alloc _) ⟨w2.heap.size, 0, none⟩ 1 1 [.bool false] rfl rfl (new_one w2 _ _) (one_cell _) Nat.one_pos (room63 LV.out) (room47 LV.out) HC5.out.base _ rfl (fun gg cap w9 hown hgrow hat hlt => ?_); (have HC6 := Aside0.mk (SMid.next HL.out HAI.out HB.out (SMid.app (HC5.out.fr0 ((Fr.refl _ w2).alloc _)) hown hgrow hat))); clear hown hgrow hat hlt)
          go_wp2
          go_roundg (acts.length - (i + 1))
          case measure => have := HK.out; omega
          case rel => exact ⟨i + 1, by omega, rfl, ⟨Nat.le_refl _, HC6.out⟩⟩
    · have he : i = acts.length := by omega
      subst he
      go_wp2
      refine bodyPost_ret (results_list (rs := [.tmp 2, .tmp 3]) rfl (by simp) (.tmp (.tmp .nil))) rfl ?_
      exact ⟨_, _, rfl, HC.out⟩
end Go.Proofs.YtebgaedalbdhaaaDoor.Av
