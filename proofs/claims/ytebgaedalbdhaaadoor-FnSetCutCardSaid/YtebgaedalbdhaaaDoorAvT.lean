/- Balanced trees as plain data, each node with the number of its block: what the functions of the set do to them. -/
import Derived.Test.YtebgaedalbdhaaaDoorWMore
namespace Go.Proofs.YtebgaedalbdhaaaDoor.Av
open Go.RowKit Go.Proofs.YtebgaedalbdhaaaDoorW.PrintWords Go.Proofs.YtebgaedalbdhaaaDoorW.PrintLast Go.Proofs.YtebgaedalbdhaaaDoorW.PrintMore
set_option linter.unusedSimpArgs false
set_option linter.unusedVariables false

/-- A bit of a node's words; put; taken away. -/
def bget (s : List Int) (o : Nat) : Bool := bits .and .u64 (s[o / 64]?.getD 0) (IntKind.u64.wrap (2 ^ (o % 64))) != 0
def bset (s : List Int) (o : Nat) : List Int := s.set (o / 64) (bits .or .u64 (s[o / 64]?.getD 0) (IntKind.u64.wrap (2 ^ (o % 64))))
def bclr (s : List Int) (o : Nat) : List Int := s.set (o / 64) (bits .andNot .u64 (s[o / 64]?.getD 0) (IntKind.u64.wrap (2 ^ (o % 64))))
def bput (s : List Int) (o : Nat) : List Int := if bget s o then s else bset s o
def zeros : List Int := List.replicate 32 0

/-- A tree: each node's block, its least number, its 32 words. -/
inductive T where
  | nil : T
  | node (b : Nat) (x : Int) (s : List Int) (l r : T) : T

def T.ptr : T → Option Nat
  | .nil => none
  | .node b _ _ _ _ => some b
def T.ht : T → Int
  | .nil => 0
  | .node _ _ _ l r => (if r.ht < l.ht then l.ht else r.ht) + 1
def T.flat : T → List (Nat × Int × List Int)
  | .nil => []
  | .node b x s l r => l.flat ++ (b, x, s) :: r.flat
def T.ids (t : T) : List Nat := t.flat.map (·.1)
def T.bf : T → Int
  | .nil => 0
  | .node _ _ _ l r => l.ht - r.ht
def T.rotL : T → T
  | .node b x s l (.node b' x' s' l' r') => .node b' x' s' (.node b x s l l') r'
  | t => t
def T.rotR : T → T
  | .node b x s (.node b' x' s' l' r') r => .node b' x' s' l' (.node b x s r' r)
  | t => t
def T.bal : T → T
  | .nil => .nil
  | .node b x s l r =>
    if 1 < l.ht - r.ht then (if l.bf < 0 then (T.node b x s l.rotL r).rotR else (T.node b x s l r).rotR)
    else if l.ht - r.ht < -1 then (if 0 < r.bf then (T.node b x s l r.rotR).rotL else (T.node b x s l r).rotL)
    else .node b x s l r

theorem T.ht_nonneg (t : T) : 0 ≤ t.ht := by
  induction t with
  | nil => exact Int.le_refl _
  | node b x s l r hl hr => unfold T.ht; split <;> omega
theorem T.ht_le (t : T) : t.ht ≤ t.flat.length := by
  induction t with
  | nil => exact Int.le_refl _
  | node b x s l r hl hr =>
    unfold T.ht T.flat
    simp only [List.length_append, List.length_cons]
    split <;> omega
theorem T.flat_node (b : Nat) (x : Int) (s : List Int) (l r : T) : (T.node b x s l r).flat = l.flat ++ (b, x, s) :: r.flat := rfl
theorem T.ids_nil : T.nil.ids = [] := rfl
theorem T.ids_node (b : Nat) (x : Int) (s : List Int) (l r : T) : (T.node b x s l r).ids = l.ids ++ b :: r.ids := by simp [T.ids, T.flat]
theorem T.rotL_flat (t : T) : t.rotL.flat = t.flat := by
  unfold T.rotL
  split <;> simp [T.flat]
theorem T.rotR_flat (t : T) : t.rotR.flat = t.flat := by
  unfold T.rotR
  split <;> simp [T.flat]
theorem T.bal_flat (t : T) : t.bal.flat = t.flat := by
  unfold T.bal
  split
  · rfl
  · split
    · split
      · rw [T.rotR_flat]; simp [T.flat, T.rotL_flat]
      · rw [T.rotR_flat]
    · split
      · split
        · rw [T.rotL_flat]; simp [T.flat, T.rotR_flat]
        · rw [T.rotL_flat]
      · rfl
theorem T.rotL_ids (t : T) : t.rotL.ids = t.ids := by unfold T.ids; rw [T.rotL_flat]
theorem T.rotR_ids (t : T) : t.rotR.ids = t.ids := by unfold T.ids; rw [T.rotR_flat]
theorem T.bal_ids (t : T) : t.bal.ids = t.ids := by unfold T.ids; rw [T.bal_flat]

/-- What the three functions do. -/
def T.ins (id : Nat) (q : Int) : T → T
  | .nil => .node id (q / 2048 * 2048) (bput zeros (q % 2048).toNat) .nil .nil
  | .node b x s l r =>
    if q < x then (T.node b x s (l.ins id q) r).bal
    else if x + 2048 ≤ q then (T.node b x s l (r.ins id q)).bal
    else (T.node b x (bput s (q - x).toNat) l r).bal
def T.insPrev (t n : T) : T :=
  match t with
  | .nil => n
  | .node b x s l r => (T.node b x s (l.insPrev n) r).bal
def T.merge (l r : T) : T :=
  match l, r with
  | .nil, r => r
  | l, .nil => l
  | l, r => r.insPrev l
def T.has (q : Int) : T → Bool
  | .nil => false
  | .node _ x s l r => if q < x then l.has q else if x + 2048 ≤ q then r.has q else bget s (q - x).toNat
def T.cov (q : Int) : T → Bool
  | .nil => false
  | .node _ x _ l r => if q < x then l.cov q else if x + 2048 ≤ q then r.cov q else true
/-- Whether a node goes if the number is taken away. -/
def T.gone (q : Int) : T → Bool
  | .nil => false
  | .node _ x s l r => if q < x then l.gone q else if x + 2048 ≤ q then r.gone q else bget s (q - x).toNat && (bclr s (q - x).toNat).all (· == 0)
def T.del (q : Int) : T → T
  | .nil => .nil
  | .node b x s l r =>
    if q < x then (if l.gone q then (T.node b x s (l.del q) r).bal else T.node b x s (l.del q) r)
    else if x + 2048 ≤ q then (if r.gone q then (T.node b x s l (r.del q)).bal else T.node b x s l (r.del q))
    else if bget s (q - x).toNat then (if (bclr s (q - x).toNat).all (· == 0) then (T.merge l r).bal else T.node b x (bclr s (q - x).toNat) l r)
    else T.node b x s l r

/-- A node of the right form: its numbers lie below 2^64, 32 words of 64 bits. -/
def NW (p : Nat × Int × List Int) : Prop := 0 ≤ p.2.1 ∧ p.2.1 + 2048 < 18446744073709551616 ∧ p.2.2.length = 32 ∧ ∀ v ∈ p.2.2, 0 ≤ v ∧ v < 18446744073709551616
def T.wf (t : T) : Prop := ∀ p ∈ t.flat, NW p
theorem T.wf_node {b : Nat} {x : Int} {s : List Int} {l r : T} : (T.node b x s l r).wf ↔ l.wf ∧ NW (b, x, s) ∧ r.wf := by
  unfold T.wf
  rw [T.flat_node]
  constructor
  · intro h
    exact ⟨fun p hp => h p (List.mem_append_left _ hp), h _ (List.mem_append_right _ List.mem_cons_self), fun p hp => h p (List.mem_append_right _ (List.mem_cons_of_mem _ hp))⟩
  · rintro ⟨h1, h2, h3⟩ p hp
    rcases List.mem_append.1 hp with hp | hp
    · exact h1 p hp
    · rcases List.mem_cons.1 hp with rfl | hp
      · exact h2
      · exact h3 p hp
theorem T.bal_wf {t : T} : t.bal.wf ↔ t.wf := by unfold T.wf; rw [T.bal_flat]
theorem T.ins_ids (id : Nat) (q : Int) (t : T) : (t.ins id q).ids = t.ids ∨ ∃ A B, t.ids = A ++ B ∧ (t.ins id q).ids = A ++ id :: B := by
  induction t with
  | nil => exact .inr ⟨[], [], rfl, by simp [T.ins, T.ids_node, T.ids_nil]⟩
  | node b x s l r hl hr =>
    unfold T.ins
    split
    · rw [T.bal_ids, T.ids_node, T.ids_node]
      rcases hl with h | ⟨A, B, h1, h2⟩
      · exact .inl (by rw [h])
      · exact .inr ⟨A, B ++ b :: r.ids, by rw [h1]; simp, by rw [h2]; simp⟩
    · split
      · rw [T.bal_ids, T.ids_node, T.ids_node]
        rcases hr with h | ⟨A, B, h1, h2⟩
        · exact .inl (by rw [h])
        · exact .inr ⟨l.ids ++ b :: A, B, by rw [h1]; simp, by rw [h2]; simp⟩
      · exact .inl (by rw [T.bal_ids, T.ids_node, T.ids_node])
theorem T.ins_mem {id : Nat} {q : Int} {t : T} {k : Nat} (h : k ∈ (t.ins id q).ids) : k ∈ t.ids ∨ k = id := by
  rcases t.ins_ids id q with e | ⟨A, B, h1, h2⟩
  · exact .inl (e ▸ h)
  · rw [h2] at h
    rw [h1]
    simp at h ⊢
    rcases h with h | h | h
    · exact .inl (.inl h)
    · exact .inr h
    · exact .inl (.inr h)
theorem T.ins_nodup {id : Nat} {q : Int} {t : T} (h : t.ids.Nodup) (hi : id ∉ t.ids) : (t.ins id q).ids.Nodup := by
  rcases t.ins_ids id q with e | ⟨A, B, h1, h2⟩
  · rw [e]; exact h
  · rw [h2]
    rw [h1] at h hi
    simp [List.nodup_append] at h hi ⊢
    refine ⟨h.1, ⟨hi.2, h.2.1⟩, fun a ha => ⟨?_, fun b hb => h.2.2 a ha b hb⟩⟩
    rintro rfl
    exact hi.1 ha
theorem T.ins_len (id : Nat) (q : Int) (t : T) : (t.ins id q).flat.length ≤ t.flat.length + 1 := by
  have h : (t.ins id q).ids.length ≤ t.ids.length + 1 := by
    rcases t.ins_ids id q with e | ⟨A, B, h1, h2⟩
    · rw [e]; omega
    · rw [h1, h2]; simp; omega
  simpa [T.ids] using h
theorem T.insPrev_flat (t n : T) : (t.insPrev n).flat = n.flat ++ t.flat := by
  induction t with
  | nil => simp [T.insPrev, T.flat]
  | node b x s l r hl hr => rw [T.insPrev, T.bal_flat, T.flat_node, hl, T.flat_node]; simp
theorem T.merge_flat (l r : T) : (T.merge l r).flat = l.flat ++ r.flat := by
  unfold T.merge
  split
  · rfl
  · simp [T.flat]
  · rw [T.insPrev_flat]
end Go.Proofs.YtebgaedalbdhaaaDoor.Av
