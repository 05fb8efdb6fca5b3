/- More of the trees as plain data: a bit put without turning; what stays of the right form. -/
import Derived.Test.YtebgaedalbdhaaaDoorAvE
namespace Go.Proofs.YtebgaedalbdhaaaDoor.Av
open Go.RowKit Go.Proofs.YtebgaedalbdhaaaDoorW.PrintWords Go.Proofs.YtebgaedalbdhaaaDoorW.PrintLast Go.Proofs.YtebgaedalbdhaaaDoorW.PrintMore
set_option linter.unusedSimpArgs false
set_option linter.unusedVariables false

def T.putB (q : Int) : T → T
  | .nil => .nil
  | .node b x s l r => if q < x then .node b x s (l.putB q) r else if x + 2048 ≤ q then .node b x s l (r.putB q) else .node b x (bput s (q - x).toNat) l r
theorem T.putB_ptr (q : Int) (t : T) : (t.putB q).ptr = t.ptr := by
  cases t with
  | nil => rfl
  | node b x s l r => unfold T.putB; split <;> (try split) <;> rfl
theorem T.putB_ht (q : Int) : ∀ t : T, (t.putB q).ht = t.ht
  | .nil => rfl
  | .node b x s l r => by
    unfold T.putB
    split
    · rw [T.ht, T.ht, T.putB_ht q l]
    · split
      · rw [T.ht, T.ht, T.putB_ht q r]
      · rfl
theorem T.putB_ids (q : Int) : ∀ t : T, (t.putB q).ids = t.ids
  | .nil => rfl
  | .node b x s l r => by
    unfold T.putB
    split
    · rw [T.ids_node, T.ids_node, T.putB_ids q l]
    · split
      · rw [T.ids_node, T.ids_node, T.putB_ids q r]
      · rw [T.ids_node, T.ids_node]
theorem bits_rng (o : BinOp) (a b : Int) : 0 ≤ bits o .u64 a b ∧ bits o .u64 a b < 18446744073709551616 := by
  have h : ∀ z : Int, 0 ≤ IntKind.u64.wrap z ∧ IntKind.u64.wrap z < 18446744073709551616 := fun z => by rw [IntKind.wrap_u64]; omega
  unfold Go.bits
  split <;> first | exact h _ | omega
def WordsOk (s : List Int) : Prop := s.length = 32 ∧ ∀ v ∈ s, 0 ≤ v ∧ v < 18446744073709551616
theorem words_set {s : List Int} (h : WordsOk s) (i : Nat) {v : Int} (hv : 0 ≤ v ∧ v < 18446744073709551616) : WordsOk (s.set i v) := by
  refine ⟨by simpa using h.1, fun u hu => ?_⟩
  rcases List.mem_or_eq_of_mem_set hu with hu | rfl
  · exact h.2 u hu
  · exact hv
theorem words_bset {s : List Int} (h : WordsOk s) (o : Nat) : WordsOk (bset s o) := words_set h _ (bits_rng _ _ _)
theorem words_bclr {s : List Int} (h : WordsOk s) (o : Nat) : WordsOk (bclr s o) := words_set h _ (bits_rng _ _ _)
theorem words_bput {s : List Int} (h : WordsOk s) (o : Nat) : WordsOk (bput s o) := by
  unfold bput
  split
  · exact h
  · exact words_bset h o
theorem words_zeros : WordsOk zeros := by
  refine ⟨rfl, fun v hv => ?_⟩
  have := (List.mem_replicate.1 hv).2
  omega
theorem NW_iff {b : Nat} {x : Int} {s : List Int} : NW (b, x, s) ↔ 0 ≤ x ∧ x + 2048 < 18446744073709551616 ∧ WordsOk s := Iff.rfl
theorem T.putB_wf (q : Int) : ∀ {t : T}, t.wf → (t.putB q).wf
  | .nil, h => h
  | .node b x s l r, h => by
    obtain ⟨h1, h2, h3⟩ := T.wf_node.1 h
    unfold T.putB
    split
    · exact T.wf_node.2 ⟨T.putB_wf q h1, h2, h3⟩
    · split
      · exact T.wf_node.2 ⟨h1, h2, T.putB_wf q h3⟩
      · exact T.wf_node.2 ⟨h1, NW_iff.2 ⟨(NW_iff.1 h2).1, (NW_iff.1 h2).2.1, words_bput (NW_iff.1 h2).2.2 _⟩, h3⟩
theorem T.ins_wf {id : Nat} {q : Int} (h0 : 0 ≤ q) (h1 : q + 2048 < 18446744073709551616) : ∀ {t : T}, t.wf → (t.ins id q).wf
  | .nil, h => by
    exact T.wf_node.2 ⟨(fun p hp => by cases hp), NW_iff.2 ⟨by omega, by omega, words_bput words_zeros _⟩, (fun p hp => by cases hp)⟩
  | .node b x s l r, h => by
    obtain ⟨a1, a2, a3⟩ := T.wf_node.1 h
    unfold T.ins
    split
    · exact T.bal_wf.2 (T.wf_node.2 ⟨T.ins_wf h0 h1 a1, a2, a3⟩)
    · split
      · exact T.bal_wf.2 (T.wf_node.2 ⟨a1, a2, T.ins_wf h0 h1 a3⟩)
      · exact T.bal_wf.2 (T.wf_node.2 ⟨a1, NW_iff.2 ⟨(NW_iff.1 a2).1, (NW_iff.1 a2).2.1, words_bput (NW_iff.1 a2).2.2 _⟩, a3⟩)
theorem T.merge_wf {l r : T} (hl : l.wf) (hr : r.wf) : (T.merge l r).wf := by
  unfold T.wf
  rw [T.merge_flat]
  intro p hp
  rcases List.mem_append.1 hp with hp | hp
  · exact hl p hp
  · exact hr p hp
theorem T.del_wf {q : Int} : ∀ {t : T}, t.wf → (t.del q).wf
  | .nil, h => h
  | .node b x s l r, h => by
    obtain ⟨a1, a2, a3⟩ := T.wf_node.1 h
    unfold T.del
    split
    · have : (T.node b x s (l.del q) r).wf := T.wf_node.2 ⟨T.del_wf a1, a2, a3⟩
      split
      · exact T.bal_wf.2 this
      · exact this
    · split
      · have : (T.node b x s l (r.del q)).wf := T.wf_node.2 ⟨a1, a2, T.del_wf a3⟩
        split
        · exact T.bal_wf.2 this
        · exact this
      · split
        · split
          · exact T.bal_wf.2 (T.merge_wf a1 a3)
          · exact T.wf_node.2 ⟨a1, NW_iff.2 ⟨(NW_iff.1 a2).1, (NW_iff.1 a2).2.1, words_bclr (NW_iff.1 a2).2.2 _⟩, a3⟩
        · exact h
theorem T.cov_of_has {q : Int} : ∀ {t : T}, t.has q = true → t.cov q = true
  | .nil, h => h
  | .node b x s l r, h => by
    unfold T.has at h
    unfold T.cov
    split
    · rename_i c; rw [if_pos c] at h; exact T.cov_of_has h
    · rename_i c
      rw [if_neg c] at h
      split
      · rename_i c2; rw [if_pos c2] at h; exact T.cov_of_has h
      · rfl
def T.put1 (id : Nat) (q : Int) (t : T) : T := if t.cov q then t.putB q else t.ins id q

/-- A set: its block, its tree. -/
structure SetIs (w : World) (g : Nat) (t : T) (sz nd : Int) : Prop where
  set : SetAt w g t.ptr sz nd false
  lies : Lies w t
  nodup : t.ids.Nodup
  out : g ∉ t.ids
  wf : t.wf
theorem SetIs.move {w w1 : World} {g : Nat} {t : T} {sz nd : Int} (h : SetIs w g t sz nd) (hm : ∀ k, k = g ∨ k ∈ t.ids → w1.heap[k]? = w.heap[k]?) : SetIs w1 g t sz nd :=
  ⟨h.set.move (hm g (.inl rfl)), h.lies.move (fun k hk => hm k (.inr hk)), h.nodup, h.out, h.wf⟩
theorem SetIs.lt {w : World} {g : Nat} {t : T} {sz nd : Int} (h : SetIs w g t sz nd) : ∀ k, k = g ∨ k ∈ t.ids → k < w.heap.size := by
  rintro k (rfl | hk)
  · exact h.set.lt
  · exact h.lies.lt k hk
theorem SetIs.fr {F : Nat → Prop} {w w1 : World} {g : Nat} {t : T} {sz nd : Int} (h : SetIs w g t sz nd) (hf : Fr F w w1) (hn : ∀ k, k = g ∨ k ∈ t.ids → ¬ F k) : SetIs w1 g t sz nd :=
  h.move (fun k hk => hf.block k (h.lt k hk) (hn k hk))
theorem SetIs.below {w w1 : World} {g : Nat} {t : T} {sz nd : Int} (h : SetIs w g t sz nd) (hb : Below w.heap.size w w1) : SetIs w1 g t sz nd :=
  h.move (fun k hk => hb.block k (h.lt k hk))
end Go.Proofs.YtebgaedalbdhaaaDoor.Av
