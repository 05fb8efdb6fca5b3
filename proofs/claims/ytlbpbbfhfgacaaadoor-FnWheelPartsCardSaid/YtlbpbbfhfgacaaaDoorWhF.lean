/- The callback of an expiry. -/
import Derived.Test.YtlbpbbfhfgacaaaDoorWhE
import Derived.OpenShut
namespace Go.Proofs.YtlbpbbfhfgacaaaDoor.Wh
open Go.RowKit Go.Maps Go.Proofs.YtlbpbbfhfgacaaaDoor.Bs Go.Proofs.YtlbpbbfhfgacaaaDoorW.PrintWords Go.Proofs.YtlbpbbfhfgacaaaDoorW.PrintLast Go.Proofs.YtlbpbbfhfgacaaaDoorW.PrintMore
set_option linter.unusedVariables false
set_option linter.unusedSimpArgs false
theorem info42b : (Tryd.prog.info? 42).map (fun i => (i.zero, i.size, i.bytes)) = some (some (.agg #[(.int .u64 0), (.int .i64 0)]), 2, 16) := by kernel_rfl
theorem ek42 : ∃ i, ElemK Tryd.prog 31 42 i (.agg #[(.int .u64 0), (.int .i64 0)]) 2 16 := elem_of Tryd.underlying31 info42b (by decide) (by decide) (by decide)
def tcells (l : List (Int × Int)) : List Value := l.flatMap fun x => [.int .u64 x.1, .int .i64 x.2]
theorem tcells_snoc (l : List (Int × Int)) (s e : Int) : tcells (l ++ [(s, e)]) = tcells l ++ [.int .u64 s, .int .i64 e] := by simp [tcells]
theorem tcells_len (l : List (Int × Int)) : (tcells l).length = l.length * 2 := by
  induction l with
  | nil => rfl
  | cons x r ih =>
    rw [show tcells (x :: r) = [.int .u64 x.1, .int .i64 x.2] ++ tcells r from rfl, List.length_append, ih]
    simp
    omega
/-- An answer under way: its kind, and the tasks that have expired, in a row made since base. -/
structure Ans (w : World) (base ab : Nat) (X : List (Int × Int)) (v : Value) : Prop where
  blk : ∃ k, Blk w ab 33 [.int .i64 k, v]
  row : w.ownsRow base 42 2 v X.length (tcells X)
structure CbPost (W : World) (base ab : Nat) (X : List (Int × Int)) (v : Value) (s e : Int) (odd : Bool) (en : Ending) (w' : World) : Prop where
  ret : en = .returned (.bool (!odd || decide (s % 2 = 0)))
  ans : ∃ v', Ans w' base ab (X ++ [(s, e)]) v'
  fr : Fr (fun k => k = ab ∨ v.ownBlock = some k) W w'
  t42 : ∀ k, v.ownBlock = some k → ∃ cs z, W.heap[k]? = some (.cells cs 42 z)
theorem own_type {w : World} {base : Nat} {e : TypeId} {size n : Nat} {v : Value} {xs : List Value} (h : w.ownsRow base e size v n xs) {k : Nat} (hk : v.ownBlock = some k) : ∃ cs z, w.heap[k]? = some (.cells cs e z) := by
  rcases h.2 with ⟨rfl, -⟩ | ⟨g, cap, cur, rfl, hb, hgg, -⟩
  · cases hk
  · have : g = k := by simpa [Value.ownBlock] using hk
    subst this
    exact ⟨_, _, hgg⟩
theorem tcells_one (l : List (Int × Int)) : ∀ u ∈ tcells l, u.oneCell' = true := by
  intro u hu
  obtain ⟨x, -, hx⟩ := List.mem_flatMap.1 hu
  simp only [List.mem_cons, List.not_mem_nil, or_false] at hx
  rcases hx with rfl | rfl <;> rfl
set_option maxHeartbeats 4000000 in
set_option maxRecDepth 100000 in
theorem cb_calls {W : World} {base ab tb : Nat} {X : List (Int × Int)} {v o1 o2 o3 o4 : Value} {s e : Int} {odd : Bool} (h : Ans W base ab X v) (ht : Blk W tb 30 [o1, o2, o3, o4, .bool odd]) (hb : base ≤ W.heap.size) (hX : X.length ≤ 1000) (hs : U64 s) :
    Calls Tryd.prog 27 #[.int .u64 s, .int .i64 e, .pointer (some ⟨ab, 0, none⟩), .pointer (some ⟨tb, 0, none⟩)] W (CbPost W base ab X v s e odd) := by
  obtain ⟨i0, hK⟩ := ek42
  obtain ⟨k, hk⟩ := h.blk
  have H := Aside0.mk h.row
  have HB := Aside0.mk hb
  have HA := Aside0.mk hk
  have HT := Aside0.mk ht
  have HK := Aside0.mk hK
  have c1 := hk.cell 1 rfl
  have hs0 := (bounds_u64 hs).1
  obtain ⟨A, c, rfl, hlc, -⟩ := read_own (w := W) (W := W) h.row (tcells_one X)
  clear h hb hk ht hK
  go_enter Tryd.func27, Tryd.ntmps27
  have HHB : Aside0 (base ≤ (W.alloc (.cells #[.int .u64 s, .int .i64 e] 42)).heap.size) := ⟨by have := HB.out; simp; omega⟩
  have HRN : Aside0 (ReadG (W.alloc (.cells #[.int .u64 s, .int .i64 e] 42)) (some ⟨W.heap.size, 0, none⟩) 1 2 [.int .u64 s, .int .i64 e]) := ⟨read_newG (us := [.int .u64 s, .int .i64 e]) (by rfl) (by intro u hu; simp only [List.mem_cons, List.not_mem_nil, or_false] at hu; rcases hu with rfl | rfl <;> rfl)⟩
  have HONE : Aside0 (∀ u ∈ tcells X ++ [.int .u64 s, .int .i64 e], u.oneCell' = true) := ⟨by rw [← tcells_snoc]; exact tcells_one _⟩
  have HG : Aside0 (∀ w1, (W.alloc (.cells #[.int .u64 s, .int .i64 e] 42)).grownBy w1 (Value.slice A X.length c).ownBlock → Fr (fun k => (Value.slice A X.length c).ownBlock = some k) W w1 ∧ Blk w1 ab 33 [.int .i64 k, .slice A X.length c]) := ⟨fun w1 hg => by
    have f1 : Fr (fun k => (Value.slice A X.length c).ownBlock = some k) W w1 := (((Fr.refl (fun _ => False) W).alloc _).mono (fun _ h => h.elim)).trans (Fr.grown hg) (fun _ _ h => h)
    refine ⟨f1, HA.out.fr f1 (fun e => ?_)⟩
    obtain ⟨cs, z, hc⟩ := own_type H.out e
    rw [HA.out.blk] at hc
    cases hc⟩
  go_upto_region 2 with (first | (at_builtin; refine wpList_ownG HK.out rfl _ _ rfl (v := .slice A X.length c) (xs := tcells X) (ys := [.int .u64 s, .int .i64 e]) rfl (H.out.alloc _) HHB.out rfl HRN.out (by omega) ?_; intro v' w1 ho hg hat; obtain ⟨A', c', hv', hl', -⟩ := read_own (w := w1) (W := w1) ho HONE.out; subst hv'; obtain ⟨hf1, hb1⟩ := HG.out w1 hg; have c2 := hb1.cell 1 rfl; have c3 := hb1.free 1) | fail)
  have HT1 : Aside0 (Blk w1 tb 30 [o1, o2, o3, o4, .bool odd]) := ⟨HT.out.fr hf1 (fun e => by
    obtain ⟨cs, z, hc⟩ := own_type H.out e
    rw [HT.out.blk] at hc
    cases hc)⟩
  have HF2 := Aside0.mk (fr_set1 (F := fun k => k = ab ∨ (Value.slice A X.length c).ownBlock = some k) (o := 1) (hf1.mono (fun _ h => .inr h)) (.inl rfl) (.slice A' (X.length + 1) c'))
  have HB2 : Aside0 (Blk (w1.setCell ⟨ab, 1, none⟩ (.slice A' (X.length + 1) c')) ab 33 [.int .i64 k, .slice A' (X.length + 1) c']) := ⟨hb1.set 1 (by simp) _⟩
  have HO2 : Aside0 ((w1.setCell ⟨ab, 1, none⟩ (.slice A' (X.length + 1) c')).ownsRow base 42 2 (.slice A' (X.length + 1) c') (X.length + 1) (tcells X ++ [.int .u64 s, .int .i64 e])) :=
    ⟨ownsRow_fr ho (fr_set1 (F := fun k => k = ab) (Fr.refl _ w1) rfl _) (fun k hk e => by
      subst e
      obtain ⟨cs, z, hc⟩ := own_type ho hk
      rw [hb1.blk] at hc
      cases hc)⟩
  have HT2 := Aside0.mk (HT1.out.far (p := ⟨ab, 1, none⟩) (fun e => blk_ne HT1.out hb1 (by decide) e) (.slice A' (X.length + 1) c'))
  have HTY : Aside0 (∀ k, (Value.slice A X.length c).ownBlock = some k → ∃ cs z, W.heap[k]? = some (.cells cs 42 z)) := ⟨fun k hk => own_type H.out hk⟩
  clear c1 c2 c3 ho hg hat hf1 hb1
  generalize w1.setCell ⟨ab, 1, none⟩ (.slice A' (X.length + 1) c') = w2 at HF2 HB2 HO2 HT2 ⊢
  have c4 := HT2.out.cell 4 rfl
  have HANS : Aside0 (∃ v', Ans w2 base ab (X ++ [(s, e)]) v') := ⟨_, ⟨k, HB2.out⟩, by rw [tcells_snoc, List.length_append]; exact HO2.out⟩
  cases odd with
  | false =>
    go_wp2
    go_ret
    exact ⟨rfl, HANS.out, HF2.out, HTY.out⟩
  | true =>
    go_wp2
    go_ret
    exact ⟨by rw [show (!true || decide (s % 2 = 0)) = (s % 2 == 0) from by by_cases h : s % 2 = 0 <;> simp [h]]; rfl, HANS.out, HF2.out, HTY.out⟩
end Go.Proofs.YtlbpbbfhfgacaaaDoor.Wh
