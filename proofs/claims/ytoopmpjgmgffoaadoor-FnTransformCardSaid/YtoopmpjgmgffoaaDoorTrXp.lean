/- Fnv, a number's text. -/
import Derived.Test.YtoopmpjgmgffoaaDoorTrG
namespace Go.Proofs.YtoopmpjgmgffoaaDoor.Tr
open Go.RowKit Go.Proofs.YtoopmpjgmgffoaaDoor.Pl Go.Proofs.YtoopmpjgmgffoaaDoor.Bs Go.Proofs.YtoopmpjgmgffoaaDoorW.PrintWords Go.Proofs.YtoopmpjgmgffoaaDoorW.PrintLast Go.Proofs.YtoopmpjgmgffoaaDoorW.PrintMore Go.Proofs.YtoopmpjgmgffoaaDoor.GFnTransformBack Go.Proofs.YtoopmpjgmgffoaaDoor.PlFnTransformBack
set_option linter.unusedVariables false
set_option linter.unusedSimpArgs false
theorem u32_xor_nat (a b : Nat) (ha : a < 4294967296) (hb : b < 4294967296) : bits .xor .u32 (a : Int) (b : Int) = ((a ^^^ b : Nat) : Int) := by
  have hx : a ^^^ b < 2 ^ 32 := Nat.xor_lt_two_pow (by omega) (by omega)
  have e : ∀ n : Nat, n < 4294967296 → (BitVec.ofInt 32 (n : Int)).toNat = n := fun n hn => by rw [BitVec.ofInt_natCast, BitVec.toNat_ofNat]; exact Nat.mod_eq_of_lt (by omega)
  show IntKind.u32.wrap ((BitVec.ofInt 32 (a : Int) ^^^ BitVec.ofInt 32 (b : Int)).toNat : Int) = _
  rw [BitVec.toNat_xor, e a ha, e b hb, IntKind.wrap_u32]
  omega
def fnvS (h : Nat) (c : UInt8) : Nat := ((h ^^^ c.toNat) * 16777619) % 4294967296
def fnvB (l : List UInt8) : Nat := l.foldl fnvS 2166136261
def numB (n : Nat) : List UInt8 := if n < 10 then [UInt8.ofNat (48 + n)] else [UInt8.ofNat (48 + n / 10), UInt8.ofNat (48 + n % 10)]
section
set_option maxHeartbeats 4000000
set_option maxRecDepth 100000
theorem copyCheck3 (B b kA : Nat) (bs : List Value) (w : World) (h : Lib.IsBuilder 85 5 B b bs w) (hk : kA ≠ b) :
    Calls Tryd.prog 72 #[.pointer (some ⟨b, 0, none⟩)] w fun e w' => e = .returned (.tuple #[]) ∧ (Lib.BuilderAt 85 5 B b (.pointer (some ⟨b, 0, none⟩)) bs w' ∧ Below B w w') ∧ w'.heap[kA]? = w.heap[kA]? := by
  rcases h with h | h
  · refine (copy_fresh b w h.cell0 h.shape h.frozen0).mono ?_
    rintro e w' ⟨rfl, rfl⟩
    exact ⟨rfl, ⟨h.used _, (Below.refl B w).setCell (p := ⟨b, 0, none⟩) h.1 _⟩, Below.heap_setCell w ⟨b, 0, none⟩ _ kA hk⟩
  refine (copy_used b w h.cell0).mono ?_
  rintro e w' ⟨rfl, rfl⟩
  exact ⟨rfl, ⟨h, Below.refl B _⟩, rfl⟩
theorem writeString3 (B b kA : Nat) (bs : List Value) (s : ByteArray) (w : World) (h : Lib.IsBuilder 85 5 B b bs w) (hlen : bs.length + s.size ≤ 140737488355328) (hBw : B ≤ w.heap.size) {cs : Array Value} {fr : Nat × Nat} (hk : w.heap[kA]? = some (.cells cs 9 fr)) :
    Calls Tryd.prog 62 #[.pointer (some ⟨b, 0, none⟩), .string s] w fun e w' => e = .returned (.tuple #[.int .i64 s.size, .nilIface]) ∧ (Lib.BuilderAt 85 5 B b (.pointer (some ⟨b, 0, none⟩)) (bs ++ Lib.strCells s) w' ∧ Below B w w') ∧ w'.heap[kA]? = some (.cells cs 9 fr) := by
  have hkb : kA ≠ b := fun e => by
    subst e
    rcases h with ⟨_, v, hbk, _⟩ | ⟨_, v, hbk, _⟩ <;> (rw [hk] at hbk; injection hbk with hbk; injection hbk with _ h2; exact absurd h2 (by decide))
  obtain ⟨i0, hi, hz0, hz1, hz2⟩ := info_parts info5b
  go_enter Tryd.func62, Tryd.ntmps62
  go_wp2_with fail
  refine (copyCheck3 B b kA bs _ h hkb).mono ?_
  rintro e w1 ⟨rfl, ⟨h1, hb1⟩, hk1⟩
  rw [hk] at hk1
  obtain ⟨hB, v, hbk, hown, hne⟩ := h1
  have c0 : w1.cell? ⟨b, 0, none⟩ = some (.pointer (some ⟨b, 0, none⟩)) := by rw [Lib.cell_of_heap hbk]; rfl
  have c1 : w1.cell? ⟨b, 1, none⟩ = some v := by rw [Lib.cell_of_heap hbk]; rfl
  go_wp2_with (at_builtin; refine Lib.wpList_append_own_string _ rfl _ _ 76 9 rfl B 5 i0 Tryd.underlying76 Tryd.underlying9 hi hz0 hz1 hz2 _ _ _ rfl hown s rfl ?c3 ?c4 ?c5 ?_)
  case c3 => unfold maxLen; omega
  case c4 => omega
  case c5 => have := hb1.size; omega
  intro v' w2 hown' hgrow _
  have hlt : b < w1.heap.size := by
    rcases Nat.lt_or_ge b w1.heap.size with h' | h'
    · exact h'
    simp [Array.getElem?_eq_none h'] at hbk
  have hk2 : w2.heap[kA]? = some (.cells cs 9 fr) := by
    rw [hgrow.block kA (Array.getElem?_eq_some_iff.1 hk1).1 (fun e => by
      obtain ⟨cells, hc⟩ := own_typed hown kA e.symm
      rw [hk1] at hc
      injection hc with hc
      injection hc with _ h2
      exact absurd h2 (by decide))]
    exact hk1
  have hb2 : w2.heap[b]? = some (.cells #[.pointer (some ⟨b, 0, none⟩), v] 85 (0, 0)) := by
    rw [hgrow.block b hlt (fun e => hne e.symm)]
    exact hbk
  have d0 : w2.cell? ⟨b, 0, none⟩ = some (.pointer (some ⟨b, 0, none⟩)) := by rw [Lib.cell_of_heap hb2]; rfl
  have d1 : w2.cell? ⟨b, 1, none⟩ = some v := by rw [Lib.cell_of_heap hb2]; rfl
  have f1 : w2.frozen? ⟨b, 1, none⟩ = false := Lib.frozen_of_heap hb2 1
  obtain ⟨ao, n', cap, rfl⟩ : ∃ ao n' cap, v' = .slice ao n' cap := by
    rcases hown'.2 with ⟨hv, _⟩ | ⟨g, cap, cur, hv, _⟩
    · exact ⟨_, _, _, hv⟩
    exact ⟨_, _, _, hv⟩
  have HK2 := Aside0.mk hk2
  clear hk2 hk1 hk
  go_wp2
  go_ret2
  refine ⟨rfl, ⟨?_, ?_⟩, ?_⟩
  · exact Lib.BuilderAt.put (T := 85) (e := 5) hB hb2 (bs' := bs ++ Lib.strCells s) (by simpa [Lib.strCells_length] using hown') (by decide)
  · exact (hb1.grown hgrow (by have := hb1.size; omega) (fun k hk => (hown.lt k hk).1)).setCell (p := ⟨b, 1, none⟩) hB _
  rw [Below.heap_setCell w2 ⟨b, 1, none⟩ _ kA hkb]
  exact HK2.out
end
theorem BS.ws3 {w0 w : World} {b kA : Nat} {l : List UInt8} (h : BS w0 b l w) (s : ByteArray) (hl : l.length + s.size ≤ 140737488355328) {cs : Array Value} {fr : Nat × Nat} (hk : w.heap[kA]? = some (.cells cs 9 fr)) :
    Calls Tryd.prog 62 #[.pointer (some ⟨b, 0, none⟩), .string s] w fun e w' => e = .returned (.tuple #[.int .i64 s.size, .nilIface]) ∧ BS w0 b (l ++ s.data.toList) w' ∧ w'.heap[kA]? = some (.cells cs 9 fr) :=
  (writeString3 w0.heap.size b kA (Lib.byteCells l) s w h.1 (by rw [byte_len]; exact hl) h.2.size hk).mono fun e w' ⟨h1, ⟨h2, h3⟩, h4⟩ => ⟨h1, ⟨.inr (by rw [← byte_app]; exact h2), same_below h.2 h3⟩, h4⟩
end Go.Proofs.YtoopmpjgmgffoaaDoor.Tr
