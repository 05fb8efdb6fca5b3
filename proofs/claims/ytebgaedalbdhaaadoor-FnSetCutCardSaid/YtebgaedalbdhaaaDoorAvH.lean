/- Deeds played over a set: impl.change, impl.set. -/
import Derived.Test.YtebgaedalbdhaaaDoorAvG
namespace Go.Proofs.YtebgaedalbdhaaaDoor.Av
open Go.RowKit Go.Proofs.YtebgaedalbdhaaaDoorW.PrintWords Go.Proofs.YtebgaedalbdhaaaDoorW.PrintLast Go.Proofs.YtebgaedalbdhaaaDoorW.PrintMore
set_option linter.unusedVariables false
set_option linter.unusedSimpArgs false

theorem putB_len (q : Int) : ∀ t : T, (t.putB q).flat.length = t.flat.length := fun t => by
  have := congrArg List.length (T.putB_ids q t)
  simpa [T.ids] using this
theorem put_len {t : T} {nd : Int} (q : Int) (id : Nat) (h : (t.flat.length : Int) ≤ nd) : ((t.put1 id q).flat.length : Int) ≤ nd + if t.cov q then 0 else 1 := by
  unfold T.put1
  split
  · rw [putB_len]; omega
  · have := T.ins_len id q t; omega
theorem put1_mem {id : Nat} {q : Int} {t : T} {k : Nat} (h : k ∈ (t.put1 id q).ids) : k ∈ t.ids ∨ k = id := by
  unfold T.put1 at h
  split at h
  · rw [T.putB_ids] at h; exact .inl h
  · exact T.ins_mem h
theorem del1_mem {q sz : Int} {t : T} {k : Nat} (h : k ∈ (t.del1 q sz).ids) : k ∈ t.ids := by
  unfold T.del1 at h
  split at h
  · split at h
    · cases h
    · exact T.del_mem h
  · exact T.del_mem h
/-- A tree into which all numbers of a kind may be put: all nodes on the grid; or one node alone, for the numbers of its own. -/
def Safe (mn : Option Int) (t : T) : Prop := AlF t.flat ∨ ∃ b s m, mn = some m ∧ t = .node b m s .nil .nil
def Fits (mn : Option Int) (q : Int) : Prop := ∀ m, mn = some m → m ≤ q ∧ q < m + 2048
theorem Safe.ready {mn : Option Int} {t : T} {q : Int} (h : Safe mn t) (hq : Fits mn q) : t.cov q = true ∨ AlF t.flat := by
  rcases h with h | ⟨b, s, m, rfl, rfl⟩
  · exact .inr h
  · obtain ⟨h1, h2⟩ := hq m rfl
    refine .inl ?_
    rw [T.cov, if_neg (by omega), if_neg (by omega)]
theorem Safe.put {mn : Option Int} {t : T} {q : Int} (id : Nat) (h : Safe mn t) (hq : Fits mn q) (hal : AlF t.flat → AlF (t.put1 id q).flat) : Safe mn (t.put1 id q) := by
  rcases h with h | ⟨b, s, m, rfl, rfl⟩
  · exact .inl (hal h)
  · obtain ⟨h1, h2⟩ := hq m rfl
    refine .inr ⟨b, bput s (q - m).toNat, m, rfl, ?_⟩
    have hc : (T.node b m s .nil .nil).cov q = true := by rw [T.cov, if_neg (by omega), if_neg (by omega)]
    rw [T.put1, if_pos hc, T.putB, if_neg (by omega), if_neg (by omega)]
theorem Safe.take {mn : Option Int} {t : T} {q sz : Int} (h : Safe mn t) (hq : Fits mn q) (hal : AlF t.flat → AlF (t.del1 q sz).flat) : Safe mn (t.del1 q sz) := by
  rcases h with h | ⟨b, s, m, rfl, rfl⟩
  · exact .inl (hal h)
  · obtain ⟨h1, h2⟩ := hq m rfl
    have hd : ∀ t' : T, t' = .nil ∨ (∃ s', t' = .node b m s' .nil .nil) → Safe (some m) t' := by
      rintro t' (rfl | ⟨s', rfl⟩)
      · exact .inl (fun p hp => by cases hp)
      · exact .inr ⟨b, s', m, rfl, rfl⟩
    apply hd
    have hdel : (T.node b m s .nil .nil).del q = .nil ∨ ∃ s', (T.node b m s .nil .nil).del q = .node b m s' .nil .nil := by
      rw [T.del, if_neg (by omega), if_neg (by omega)]
      split
      · split
        · exact .inl rfl
        · exact .inr ⟨_, rfl⟩
      · exact .inr ⟨_, rfl⟩
    unfold T.del1
    split
    · split
      · exact .inl rfl
      · exact hdel
    · exact hdel

abbrev Deed := Int × Int
def stepL (L : List Int) (a : Deed) : List Int := if a.1 = 0 then insS a.2 L else delS a.2 L
def wases : List Int → List Deed → List Bool
  | _, [] => []
  | L, a :: es => decide (a.2 ∈ L) :: wases (stepL L a) es
def plays (L : List Int) (es : List Deed) : List Int := es.foldl stepL L
def okDeed (mn : Option Int) (a : Deed) : Prop := (a.1 = 0 ∨ a.1 = 1) ∧ 0 ≤ a.2 ∧ a.2 + 2048 < 18446744073709551616 ∧ Fits mn a.2
theorem plays_append (L : List Int) (es bs : List Deed) : plays L (es ++ bs) = plays (plays L es) bs := by simp [plays]
theorem wases_append : ∀ (L : List Int) (es bs : List Deed), wases L (es ++ bs) = wases L es ++ wases (plays L es) bs
  | _, [], _ => rfl
  | L, a :: es, bs => by
    show decide (a.2 ∈ L) :: wases (stepL L a) (es ++ bs) = _
    rw [wases_append (stepL L a) es bs]
    rfl
/-- Deeds that are read. -/
def ActsR (w : World) (A : Option Addr) (es : List Deed) : Prop :=
  0 < es.length → ∃ ad, A = some ad ∧ ∀ i a, es[i]? = some a → w.cell? (ad.add (i * 2)) = some (.int .i64 a.1) ∧ w.cell? (ad.add (i * 2 + 1)) = some (.int .u64 a.2)
theorem ActsR.fr {F : Nat → Prop} {w w1 : World} {A : Option Addr} {es : List Deed} (h : ActsR w A es) (hf : Fr F w w1) (hn : ∀ ad, A = some ad → ¬ F ad.block) : ActsR w1 A es := by
  intro h0
  obtain ⟨ad, rfl, hc⟩ := h h0
  refine ⟨ad, rfl, fun i a hi => ?_⟩
  obtain ⟨c1, c2⟩ := hc i a hi
  have hlt : ad.block < w.heap.size := by
    have := World.block_lt_of_cell? w _ c1
    unfold Addr.add at this
    split at this <;> exact this
  have hb := hf.block ad.block hlt (hn ad rfl)
  have e : ∀ k, w1.cell? (ad.add k) = w.cell? (ad.add k) := fun k => by
    have : (ad.add k).block = ad.block := by unfold Addr.add; split <;> rfl
    exact World.cell?_of_block (by rw [this]; exact hb)
  exact ⟨(e _).trans c1, (e _).trans c2⟩
/-- A set that has played deeds. -/
structure Played (w : World) (g : Nat) (mn : Option Int) (L : List Int) (m : Nat) (F : Nat → Prop) (t : T) (sz nd : Int) : Prop where
  is : SetIs w g t sz nd
  rep : Rep t sz nd L m
  len : (t.flat.length : Int) ≤ nd
  safe : Safe mn t
  foot : ∀ k ∈ t.ids, F k
theorem info4 : (Tryd.prog.info? 4).map (fun i => (i.zero, i.size, i.bytes)) = some (some (.bool false), 1, 1) := by kernel_rfl
end Go.Proofs.YtebgaedalbdhaaaDoor.Av
