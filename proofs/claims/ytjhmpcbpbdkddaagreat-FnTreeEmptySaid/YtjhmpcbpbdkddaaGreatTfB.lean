/- Trees of subjects: the tree: its root and its size; New, Size, Insert, Delete. Trees of subjects: the walks of Insert and Delete. -/
import Derived.Test.YtjhmpcbpbdkddaaGreatTeZ
import Derived.Test.YtjhmpcbpbdkddaaGreatShelf
namespace Go.Proofs.YtjhmpcbpbdkddaaGreat.Te
open Go.RowKit Go.Proofs.YtjhmpcbpbdkddaaGreat.Bs Go.Proofs.YtjhmpcbpbdkddaaGreatW.PrintWords Go.Proofs.YtjhmpcbpbdkddaaGreatW.PrintLast Go.Proofs.YtjhmpcbpbdkddaaGreatW.PrintMore
set_option linter.unusedVariables false
set_option linter.unusedSimpArgs false
set_option maxRecDepth 100000
def rootV : Option T → Value
  | none => .nilIface
  | some t => t.val
def entsO : Option T → List Ent
  | none => []
  | some t => t.ents
def idsO : Option T → List Nat
  | none => []
  | some t => t.ids
/-- A tree. -/
structure Tr (w : World) (B tb : Nat) (ot : Option T) : Prop where
  hd : Blk w tb 68 [rootV ot, .int .i64 ((entsO ot).length : Int)]
  ok : ∀ t, ot = some t → Lies w t ∧ t.wf ∧ t.ids.Nodup
  out : tb ∉ idsO ot
  base : B ≤ tb ∧ ∀ x ∈ idsO ot, B ≤ x
theorem Tr.lies {w : World} {B tb : Nat} {ot : Option T} (h : Tr w B tb ot) : ∀ x ∈ idsO ot, x < w.heap.size := by
  intro x hx
  cases ot with
  | none => cases hx
  | some t => exact (h.ok t rfl).1.lt x hx
theorem Tr.fr {F : Nat → Prop} {w w1 : World} {B tb : Nat} {ot : Option T} (h : Tr w B tb ot) (hf : Fr F w w1) (h1 : ¬ F tb) (h2 : ∀ x ∈ idsO ot, ¬ F x) : Tr w1 B tb ot :=
  ⟨h.hd.fr hf h1, fun t e => by
    subst e
    obtain ⟨a, b⟩ := h.ok t rfl
    exact ⟨a.fr hf h2, b⟩, h.out, h.base⟩
theorem Tr.same {w w1 : World} {B tb : Nat} {ot : Option T} (h : Tr w B tb ot) (hf : Same w w1) : Tr w1 B tb ot := h.fr hf (fun h => h) (fun _ _ h => h)
/-- No block of a tree is a row of elements of type 34, or 48. -/
theorem lies_kind {w : World} {t : T} (h : Lies w t) : ∀ x ∈ t.ids, ∃ cs ty, w.heap[x]? = some (.cells cs ty (0, 0)) ∧ ty ≠ 34 ∧ ty ≠ 48 := by
  induction t using T.ind with
  | h1 b v s =>
    rw [lies_leaf] at h
    intro x hx
    simp [T.ids] at hx
    subst hx
    exact ⟨_, 89, h.blk, by decide, by decide⟩
  | h2 b k p ks ih =>
    rw [lies_node] at h
    intro x hx
    rcases ids_node.1 hx with rfl | ⟨t, ht, hx⟩
    · exact ⟨_, k.ty, h.1.blk.blk, by cases k <;> decide, by cases k <;> decide⟩
    · exact ih t ht (h.2 t ht) x hx
theorem own_kind {w : World} {base size n : Nat} {ty : TypeId} {v : Value} {xs : List Value} {k : Nat} (h : w.ownsRow base ty size v n xs) (hk : v.ownBlock = some k) : ∃ cs, w.heap[k]? = some (.cells cs ty (0, 0)) := by
  rcases h.2 with ⟨rfl, -⟩ | ⟨g, cap, cur, rfl, hb, hgg, -⟩
  · cases hk
  · have : g = k := by simpa [Value.ownBlock] using hk
    subst this
    exact ⟨_, hgg⟩
theorem Tr.apart {w : World} {B tb : Nat} {ot : Option T} (h : Tr w B tb ot) {base size n : Nat} {v : Value} {xs : List Value} {ty : TypeId} (hty : ty = 34 ∨ ty = 48) (ho : w.ownsRow base ty size v n xs) {k : Nat} (hk : v.ownBlock = some k) : k ≠ tb ∧ k ∉ idsO ot := by
  obtain ⟨cs, hc⟩ := own_kind ho hk
  constructor
  · rintro rfl
    have := h.hd.blk
    rw [hc] at this
    injection this with this
    injection this with _ this _
    rcases hty with rfl | rfl <;> exact absurd this (by decide)
  · intro hm
    cases ot with
    | none => cases hm
    | some t =>
      obtain ⟨cs2, ty2, h1, h2, h3⟩ := lies_kind (h.ok t rfl).1 k hm
      rw [hc] at h1
      injection h1 with h1
      injection h1 with _ h1 _
      rcases hty with rfl | rfl
      · exact h2 h1.symm
      · exact h3 h1.symm
theorem new_calls {w : World} : Calls Tryz.prog 28 #[] w fun e w' => e = .returned (.pointer (some ⟨w.heap.size, 0, none⟩)) ∧ Tr w' w.heap.size w.heap.size none ∧ Same w w' := by
  go_enter Tryz.func28, Tryz.ntmps28
  go_wp2
  go_ret
  exact ⟨rfl, ⟨Blk.new w 68 [.nilIface, .int .i64 ((0 : Nat) : Int)], (fun t e => by cases e), (fun h => by cases h), ⟨Nat.le_refl _, fun x hx => by cases hx⟩⟩, (Fr.refl _ w).alloc _⟩
theorem size_calls {w : World} {B tb : Nat} {ot : Option T} (h : Tr w B tb ot) : Calls Tryz.prog 30 #[.pointer (some ⟨tb, 0, none⟩)] w fun e w' => e = .returned (.int .i64 ((entsO ot).length : Int)) ∧ w' = w := by
  have c1 := h.hd.cell 1 rfl
  clear h
  go_enter Tryz.func30, Tryz.ntmps30
  go_wp2
  go_ret
  exact ⟨rfl, rfl⟩
theorem index_no : ∀ (l : BL), 127 ∉ l → Lib.indexByte l 127 = -1
  | [], _ => rfl
  | a :: l, h => by
    simp only [List.mem_cons, not_or] at h
    rw [Lib.indexByte, index_no l h.2]
    have : (a == 127) = false := by rw [beq_eq_false_iff_ne]; exact fun e => h.1 e.symm
    rw [this]
    rfl
theorem lib_bytes (l : BL) : Lib.bytesOf (by8 l) = l := by
  unfold Lib.bytesOf by8
  rw [List.map_map]
  conv => rhs; rw [← List.map_id l]
  apply List.map_congr_left
  intro c _
  simp
theorem ixb_calls {w : World} {ab n c : Nat} {l : BL} (h : CB w (some ⟨ab, 0, none⟩) n l) (hl : 127 ∉ l) : Calls Tryz.prog 57 #[.slice (some ⟨ab, 0, none⟩) n c, .int .u8 127] w fun e w' => e = .returned (.int .i64 (-1)) ∧ w' = w := by
  refine (Tryz.bytes_IndexByte ab 0 n c (by8 l) 127 w (by rw [by8_len]; exact h.len) (fun i hi => ?_)).mono ?_
  · obtain ⟨x, hx⟩ : ∃ x, l[i]? = some x := ⟨_, List.getElem?_eq_getElem (by rw [h.len]; exact hi)⟩
    obtain ⟨ad, e, hc⟩ := h.at hx
    injection e with e
    subst e
    rw [Bs.add_at] at hc
    rw [Nat.zero_add, hc]
    unfold bv by8
    rw [List.getD_eq_getElem?_getD, List.getElem?_map, hx]
    rfl
  · rintro e w' ⟨rfl, rfl⟩
    refine ⟨?_, rfl⟩
    rw [lib_bytes, show ((127 : Int).toNat.toUInt8) = 127 from rfl, index_no l hl]
/-! ### how many -/
theorem len_of_perm {a b : List Ent} (ha : a.Nodup) (hb : b.Nodup) (h : ∀ e, e ∈ a ↔ e ∈ b) : a.length = b.length := ((List.perm_ext_iff_of_nodup ha hb).2 h).length_eq
theorem nodup_entsO {ot : Option T} (h : ∀ t, ot = some t → t.wf) : (entsO ot).Nodup := by
  cases ot with
  | none => exact List.nodup_nil
  | some t => exact nodup_ents t (h t rfl)
theorem inj_entsO {ot : Option T} (h : ∀ t, ot = some t → t.wf) {e e' : Ent} (he : e ∈ entsO ot) (he' : e' ∈ entsO ot) (h1 : e.1 = e'.1) : e = e' := by
  cases ot with
  | none => cases he
  | some t => exact ents_inj (h t rfl) he he' h1
/-- What an entry put does to how many there are. -/
theorem len_put {ot ot' : Option T} (h : ∀ t, ot = some t → t.wf) (h' : ∀ t, ot' = some t → t.wf) {l : BL} {v : Int} (hi : ∀ e, e ∈ entsO ot' ↔ e = (l, v) ∨ (e ∈ entsO ot ∧ e.1 ≠ l)) :
    ((∀ v0, (l, v0) ∉ entsO ot) → (entsO ot').length = (entsO ot).length + 1) ∧ (∀ v0, (l, v0) ∈ entsO ot → (entsO ot').length = (entsO ot).length) := by
  constructor
  · intro hno
    rw [← List.length_cons (a := ((l, v) : Ent))]
    refine len_of_perm (nodup_entsO h') (List.nodup_cons.2 ⟨hno v, nodup_entsO h⟩) (fun e => ?_)
    rw [hi, List.mem_cons]
    refine or_congr Iff.rfl ⟨fun h => h.1, fun h1 => ⟨h1, ?_⟩⟩
    rintro rfl
    exact hno e.2 h1
  · intro v0 hv
    have h1 := len_of_perm (a := entsO ot') (b := (l, v) :: (entsO ot).filter (fun e => decide (e.1 ≠ l))) (nodup_entsO h') (List.nodup_cons.2 ⟨by simp, (nodup_entsO h).filter _⟩) (fun e => by
      rw [hi, List.mem_cons, List.mem_filter]
      simp)
    have h2 := len_of_perm (a := entsO ot) (b := (l, v0) :: (entsO ot).filter (fun e => decide (e.1 ≠ l))) (nodup_entsO h) (List.nodup_cons.2 ⟨by simp, (nodup_entsO h).filter _⟩) (fun e => by
      rw [List.mem_cons, List.mem_filter]
      constructor
      · intro he
        by_cases hel : e.1 = l
        · exact .inl (inj_entsO h he hv hel)
        · exact .inr ⟨he, by simpa using hel⟩
      · rintro (rfl | he)
        · exact hv
        · exact he.1)
    rw [h1, h2, List.length_cons, List.length_cons]
/-- What an entry taken does to how many there are. -/
theorem len_take {ot ot' : Option T} (h : ∀ t, ot = some t → t.wf) (h' : ∀ t, ot' = some t → t.wf) {l : BL} (hi : ∀ e, e ∈ entsO ot' ↔ (e ∈ entsO ot ∧ e.1 ≠ l)) {v0 : Int} (hv : (l, v0) ∈ entsO ot) : (entsO ot').length + 1 = (entsO ot).length := by
  rw [← List.length_cons (a := ((l, v0) : Ent))]
  refine len_of_perm (List.nodup_cons.2 ⟨fun hm => ((hi _).1 hm).2 rfl, nodup_entsO h'⟩) (nodup_entsO h) (fun e => ?_)
  rw [List.mem_cons, hi]
  constructor
  · rintro (rfl | he)
    · exact hv
    · exact he.1
  · intro he
    by_cases hel : e.1 = l
    · exact .inl (inj_entsO h he hv hel)
    · exact .inr ⟨he, hel⟩
/-! ### Insert -/
/-- What a deed gives back: the value that was there. -/
inductive WasO (w' : World) (es : List Ent) (l : BL) : Option Addr → Bool → Prop where
  | new (h : ∀ v0, (l, v0) ∉ es) : WasO w' es l none false
  | old (v0 : Int) (h : (l, v0) ∈ es) (a : Addr) (hc : w'.cell? a = some (.int .i64 v0)) : WasO w' es l (some a) true
structure PutPost (w : World) (B tb : Nat) (ot : Option T) (l : BL) (v : Int) (e : Ending) (w' : World) : Prop where
  out : ∃ ot' pr up, e = .returned (.tuple #[.pointer pr, .bool up]) ∧ Tr w' B tb ot' ∧ (∀ e, e ∈ entsO ot' ↔ e = (l, v) ∨ (e ∈ entsO ot ∧ e.1 ≠ l)) ∧ Fr (fun k => k = tb ∨ k ∈ idsO ot) w w' ∧ WasO w' (entsO ot) l pr up
end Go.Proofs.YtjhmpcbpbdkddaaGreat.Te
namespace Go.Proofs.YtjhmpcbpbdkddaaGreat.Te
open Go.RowKit Go.Proofs.YtjhmpcbpbdkddaaGreat.Bs Go.Proofs.YtjhmpcbpbdkddaaGreatW.PrintWords Go.Proofs.YtjhmpcbpbdkddaaGreatW.PrintLast Go.Proofs.YtjhmpcbpbdkddaaGreatW.PrintMore
set_option linter.unusedVariables false
set_option linter.unusedSimpArgs false
set_option maxRecDepth 100000
/-- What a deed's subject asks. -/
structure Subj (w : World) (B tb : Nat) (ot : Option T) (ab n c : Nat) (l : BL) : Prop where
  tr : Tr w B tb ot
  bytes : CB w (some ⟨ab, 0, none⟩) n l
  cap : n ≤ c
  pos : 0 < n
  no127 : 127 ∉ l
  ap : ab ≠ tb ∧ ab ∉ idsO ot
  few : (entsO ot).length ≤ 47
  short : ∀ e ∈ entsO ot, e.1.length ≤ 1000
  low : B ≤ w.heap.size
section
variable {w : World} {B tb ab n c : Nat} {ot : Option T} {l : BL}
theorem Subj.pre {t : T} (h : Subj w B tb (some t) ab n c l) : InsPre w tb 0 t (some ⟨ab, 0, none⟩) n c l 0 := by
  obtain ⟨h1, h2, h3⟩ := h.tr.ok t rfl
  exact ⟨h1, h2, h3, ⟨68, _, h.tr.hd, rfl⟩, h.tr.out, h.bytes, fun ad e => by injection e with e; subst e; exact h.ap, Nat.zero_le _, h.cap, h.no127, h.few⟩
/-- The tree behind insert, ahead of its size. -/
structure Mid (w : World) (B tb : Nat) (ot ot' : Option T) (l : BL) (v : Int) (pr : Option Addr) (up : Bool) (w' : World) : Prop where
  hd : Blk w' tb 68 [rootV ot', .int .i64 ((entsO ot).length : Int)]
  ok : ∀ t, ot' = some t → Lies w' t ∧ t.wf ∧ t.ids.Nodup
  out : tb ∉ idsO ot'
  low : ∀ x ∈ idsO ot', B ≤ x
  ins : ∀ e, e ∈ entsO ot' ↔ e = (l, v) ∨ (e ∈ entsO ot ∧ e.1 ≠ l)
  fr : Fr (fun k => k = tb ∨ k ∈ idsO ot) w w'
  was : WasO w' (entsO ot) l pr up
theorem insert_mid (h : Subj w B tb ot ab n c l) (v : Int) : Calls Tryz.prog 58 #[.pointer (some ⟨tb, 0, none⟩), .pointer (some ⟨tb, 0, none⟩), .slice (some ⟨ab, 0, none⟩) n c, .int .i64 v, .int .i64 0] w fun e w' => ∃ ot' pr up, e = .returned (.tuple #[.pointer pr, .bool up]) ∧ Mid w B tb ot ot' l v pr up w' := by
  have htb := h.tr.hd.lt
  cases ot with
  | none =>
    refine (insert_nil (c := c) h.tr.hd (o := 0) rfl h.bytes v _).mono ?_
    rintro e w' ⟨rfl, h1, h2, h3⟩
    refine ⟨some (.leaf w.heap.size v l), none, false, rfl, h3 _ _ h.tr.hd rfl, fun t e => ?_, ?_, fun x hx => ?_, fun e => ?_, h2.mono (fun k e => .inl e), .new (fun v0 h => by cases h)⟩
    · injection e with e
      subst e
      exact ⟨lies_leaf.2 h1, h.no127, by simp [T.ids]⟩
    · simp [idsO, T.ids]
      omega
    · simp [idsO, T.ids] at hx
      have := h.low
      omega
    · simp [entsO, T.ents]
  | some t =>
    refine (insert_calls v _ t w tb 0 _ n c l 0 h.pre h.short).mono ?_
    intro e w' hp
    obtain ⟨t', u, rfl, ho, hw⟩ := hp.out
    rw [List.drop_zero] at ho hw
    have hmid : ∀ pr up, WasO w' t.ents l pr up → Mid w B tb (some t) (some t') l v pr up w' := fun pr up hwas =>
      ⟨ho.cell _ _ h.tr.hd rfl, fun x e => by injection e with e; subst e; exact ⟨ho.lies, ho.put.wf, ho.nodup⟩, fun hm => by
        rcases ho.ids _ hm with h1 | h1
        · exact h.tr.out h1
        · omega, fun x hx => by
        rcases ho.ids _ hx with h1 | h1
        · exact h.tr.base.2 x h1
        · have := h.low
          omega, ho.put.ins, ho.fr, hwas⟩
    cases hw with
    | new h0 => exact ⟨_, _, _, rfl, hmid _ _ (.new h0)⟩
    | old v0 h0 a hc ha hn => exact ⟨_, _, _, rfl, hmid _ _ (.old v0 h0 a hc)⟩
theorem Mid.wf {pr : Option Addr} {up : Bool} {ot' : Option T} {v : Int} {w' : World} (m : Mid w B tb ot ot' l v pr up w') : ∀ t, ot' = some t → t.wf := fun t e => (m.ok t e).2.1
theorem Tr.wf (h : Tr w B tb ot) : ∀ t, ot = some t → t.wf := fun t e => (h.ok t e).2.1
set_option maxHeartbeats 4000000 in
theorem Insert_calls (h : Subj w B tb ot ab n c l) (v : Int) : Calls Tryz.prog 45 #[.pointer (some ⟨tb, 0, none⟩), .slice (some ⟨ab, 0, none⟩) n c, .int .i64 v] w (PutPost w B tb ot l v) := by
  have H := Aside0.mk h
  clear h
  go_enter Tryz.func45, Tryz.ntmps45
  go_wp2_with fail
  refine (ixb_calls H.out.bytes H.out.no127).mono ?_
  rintro e w' ⟨rfl, hw'⟩
  subst w'
  go_wp2_with fail
  refine (insert_mid H.out v).mono ?_
  rintro e w2 ⟨ot', pr, up, rfl, hm⟩
  have HM := Aside0.mk hm
  clear hm
  cases up with
  | true =>
    go_wp2_with fail
    refine bodyPost_ret (results_list (rs := [.tmp 6, .tmp 7]) rfl (by simp) (.tmp (.tmp .nil))) rfl ?_
    refine ⟨ot', pr, true, rfl, ⟨?_, HM.out.ok, HM.out.out, H.out.tr.base.1, HM.out.low⟩, HM.out.ins, HM.out.fr, HM.out.was⟩
    have h1 := HM.out.hd
    have h2 := HM.out.was
    cases h2 with
    | old v0 h0 a hc =>
      have := (len_put H.out.tr.wf HM.out.wf HM.out.ins).2 v0 h0
      rw [this]
      exact h1
  | false =>
    have c1 := HM.out.hd.cell 1 rfl
    have z1 := HM.out.hd.free 1
    obtain ⟨sz, hsz⟩ : ∃ sz, sz = (entsO ot).length := ⟨_, rfl⟩
    rw [← hsz] at c1
    have HS := Aside0.mk hsz
    have hadd : IntKind.i64.wrap ((sz : Int) + 1) = ((sz + 1 : Nat) : Int) := by rw [IntKind.wrap_i64]; have := H.out.few; omega
    obtain ⟨s1, hs1⟩ : ∃ s1, s1 = sz + 1 := ⟨_, rfl⟩
    rw [← hs1] at hadd
    have HS1 := Aside0.mk hs1
    clear hsz hs1
    go_wp2_with fail
    refine bodyPost_ret (results_list (rs := [.tmp 6, .tmp 7]) rfl (by simp) (.tmp (.tmp .nil))) rfl ?_
    have h2 := HM.out.was
    cases h2 with
    | new h0 =>
      have hl := (len_put H.out.tr.wf HM.out.wf HM.out.ins).1 h0
      refine ⟨ot', none, false, rfl, ⟨?_, fun t e => ?_, HM.out.out, H.out.tr.base.1, HM.out.low⟩, HM.out.ins, HM.out.fr.set (p := ⟨tb, 1, none⟩) (.inl (.inl rfl)) _, .new h0⟩
      · have h1 := Blk.set HM.out.hd 1 (by simp) (.int .i64 (s1 : Int))
        have e1 : ((entsO ot').length : Int) = (s1 : Int) := by rw [hl, ← HS.out, HS1.out]
        rw [e1]
        exact h1
      · obtain ⟨a1, a2⟩ := HM.out.ok t e
        subst e
        exact ⟨a1.far (a := ⟨tb, 1, none⟩) HM.out.out _, a2⟩
/-! ### Delete -/
structure CutPost (w : World) (B tb : Nat) (ot : Option T) (l : BL) (e : Ending) (w' : World) : Prop where
  out : ∃ ot' pr up, e = .returned (.tuple #[.pointer pr, .bool up]) ∧ Tr w' B tb ot' ∧ (∀ e, e ∈ entsO ot' ↔ (e ∈ entsO ot ∧ e.1 ≠ l)) ∧ Fr (fun k => k = tb ∨ k ∈ idsO ot) w w' ∧ WasO w' (entsO ot) l pr up
/-- The tree behind delete, ahead of its size. -/
structure MidD (w : World) (B tb : Nat) (ot ot' : Option T) (l : BL) (pr : Option Addr) (up : Bool) (w' : World) : Prop where
  hd : Blk w' tb 68 [rootV ot', .int .i64 ((entsO ot).length : Int)]
  ok : ∀ t, ot' = some t → Lies w' t ∧ t.wf ∧ t.ids.Nodup
  out : tb ∉ idsO ot'
  low : ∀ x ∈ idsO ot', B ≤ x
  del : ∀ e, e ∈ entsO ot' ↔ (e ∈ entsO ot ∧ e.1 ≠ l)
  fr : Fr (fun k => k = tb ∨ k ∈ idsO ot) w w'
  was : WasO w' (entsO ot) l pr up
  ap : ∀ a, pr = some a → a.block ≠ tb
structure DMid (w : World) (B tb : Nat) (ot : Option T) (l : BL) (e : Ending) (w' : World) : Prop where
  out : ∃ ot' pr up, e = .returned (.tuple #[.pointer pr, .bool up]) ∧ MidD w B tb ot ot' l pr up w'
theorem mid_same (h : Subj w B tb ot ab n c l) {w' : World} (hs : Same w w') (hno : ∀ v0, (l, v0) ∉ entsO ot) : MidD w B tb ot ot l none false w' :=
  ⟨h.tr.hd.fr hs (fun h => h), fun t e => by
    obtain ⟨a, b⟩ := h.tr.ok t e
    exact ⟨a.fr hs (fun _ _ h => h), b⟩, h.tr.out, h.tr.base.2, fun e => ⟨fun he => ⟨he, fun e1 => hno e.2 (by rw [← e1]; exact he)⟩, fun he => he.1⟩, hs.mono (fun _ h => h.elim), .new hno, fun a e => by cases e⟩
theorem delete_mid (h : Subj w B tb ot ab n c l) : Calls Tryz.prog 59 #[.pointer (some ⟨tb, 0, none⟩), .pointer (some ⟨tb, 0, none⟩), .slice (some ⟨ab, 0, none⟩) n c, .int .i64 0] w (DMid w B tb ot l) := by
  have htb := h.tr.hd.lt
  cases ot with
  | none =>
    have H := Aside0.mk h
    have c0 := h.tr.hd.cell 0 rfl
    unfold rootV at c0
    clear h htb
    go_enter Tryz.func59, Tryz.ntmps59
    go_wp2_with fail
    refine bodyPost_ret (results_list (rs := [.tmp 8, .tmp 9]) rfl (by simp) (.tmp (.tmp .nil))) rfl ?_
    exact ⟨none, none, false, rfl, mid_same H.out (Fr.refl _ _) (fun v0 h => by cases h)⟩
  | some t =>
    cases t with
    | leaf b v0 s =>
      refine (delete_leaf (tb := tb) h.pre h.pos).mono ?_
      rintro e w' (⟨h1, rfl, h2⟩ | ⟨rfl, rfl, h2, h3, h4⟩)
      · refine ⟨_, none, false, rfl, mid_same h h2 (fun v1 hm => ?_)⟩
        simp only [entsO, T.ents, List.mem_singleton, Prod.mk.injEq] at hm
        exact h1 hm.1
      · refine ⟨none, _, true, rfl, h4 _ _ h.tr.hd rfl, (fun t e => by cases e), (fun hm => by cases hm), (fun x hx => by cases hx), fun e => ?_, h3.mono (fun k e => .inl e), .old v0 (by simp [entsO, T.ents]) _ h2, fun a e => ?_⟩
        · simp only [entsO, T.ents, List.mem_singleton, List.not_mem_nil, false_iff, not_and, Decidable.not_not]
          rintro rfl
          rfl
        · injection e with e
          subst e
          exact fun e => h.tr.out (by rw [← e]; exact id_mem (.leaf b v0 l))
    | node b k p ks =>
      refine (delete_calls tb (.node b k p ks) w tb 0 _ n c l 0 h.pre h.short h.pos).mono ?_
      intro e w' hp
      rw [List.drop_zero] at hp
      cases hp with
      | no _ h0 hs => exact ⟨_, none, false, rfl, mid_same h hs h0⟩
      | yes _ t' v0 lb h0 ho hc =>
        refine ⟨some t', _, true, rfl, ho.cell _ _ h.tr.hd rfl, (fun x e => by injection e with e; subst e; exact ⟨ho.lies, ho.cut.wf, ho.nodup⟩), (fun hm => by
          rcases ho.ids _ hm with h1 | h1
          · exact h.tr.out h1
          · omega), (fun x hx => by
          rcases ho.ids _ hx with h1 | h1
          · exact h.tr.base.2 x h1
          · have := h.low
            omega), ho.cut.del, ho.fr, .old v0 h0 _ hc, fun a e => ?_⟩
        injection e with e
        subst e
        intro e
        have e2 : lb = tb := e
        subst e2
        have h1 := (ho.cell _ _ h.tr.hd rfl).cell 0 rfl
        rw [hc] at h1
        injection h1 with h1
        cases t' <;> cases h1
set_option maxHeartbeats 4000000 in
theorem Delete_calls (h : Subj w B tb ot ab n c l) : Calls Tryz.prog 47 #[.pointer (some ⟨tb, 0, none⟩), .slice (some ⟨ab, 0, none⟩) n c] w (CutPost w B tb ot l) := by
  have H := Aside0.mk h
  clear h
  go_enter Tryz.func47, Tryz.ntmps47
  go_wp2_with fail
  refine (delete_mid H.out).mono ?_
  rintro e w2 ⟨⟨ot', pr, up, rfl, hm⟩⟩
  have HM := Aside0.mk hm
  clear hm
  cases up with
  | false =>
    go_wp2_with fail
    refine bodyPost_ret (results_list (rs := [.tmp 4, .tmp 5]) rfl (by simp) (.tmp (.tmp .nil))) rfl ?_
    refine ⟨ot', pr, false, rfl, ⟨?_, HM.out.ok, HM.out.out, H.out.tr.base.1, HM.out.low⟩, HM.out.del, HM.out.fr, HM.out.was⟩
    have h1 := HM.out.hd
    have h2 := HM.out.was
    cases h2 with
    | new h0 =>
      have : (entsO ot').length = (entsO ot).length := len_of_perm (nodup_entsO (fun t e => (HM.out.ok t e).2.1)) (nodup_entsO H.out.tr.wf) (fun e => by
        rw [HM.out.del]
        exact ⟨fun h => h.1, fun h => ⟨h, fun e1 => h0 e.2 (by rw [← e1]; exact h)⟩⟩)
      rw [this]
      exact h1
  | true =>
    have c1 := HM.out.hd.cell 1 rfl
    have z1 := HM.out.hd.free 1
    obtain ⟨sz, hsz⟩ : ∃ sz, sz = (entsO ot).length := ⟨_, rfl⟩
    rw [← hsz] at c1
    have HS := Aside0.mk hsz
    have HL : Aside0 ((entsO ot').length + 1 = sz) := ⟨by
      have h2 := HM.out.was
      cases h2 with
      | old v0 h0 a hc => rw [hsz]; exact len_take H.out.tr.wf (fun t e => (HM.out.ok t e).2.1) HM.out.del h0⟩
    obtain ⟨s1, hs1⟩ : ∃ s1, s1 = (entsO ot').length := ⟨_, rfl⟩
    have hsub : IntKind.i64.wrap ((sz : Int) - 1) = (s1 : Int) := by rw [IntKind.wrap_i64]; have := H.out.few; have := HL.out; omega
    have HS1 := Aside0.mk hs1
    clear hsz hs1
    go_wp2_with fail
    refine bodyPost_ret (results_list (rs := [.tmp 4, .tmp 5]) rfl (by simp) (.tmp (.tmp .nil))) rfl ?_
    refine ⟨ot', pr, true, rfl, ⟨?_, fun t e => ?_, HM.out.out, H.out.tr.base.1, HM.out.low⟩, HM.out.del, HM.out.fr.set (p := ⟨tb, 1, none⟩) (.inl (.inl rfl)) _, ?_⟩
    · have h1 := Blk.set HM.out.hd 1 (by simp) (.int .i64 (s1 : Int))
      rw [← HS1.out]
      exact h1
    · obtain ⟨a1, a2⟩ := HM.out.ok t e
      subst e
      exact ⟨a1.far (a := ⟨tb, 1, none⟩) HM.out.out _, a2⟩
    · have h2 := HM.out.was
      have h3 := HM.out.ap
      cases h2 with
      | old v0 h0 a hc => exact .old v0 h0 a ((World.cell?_of_block (Below.heap_setCell w2 ⟨tb, 1, none⟩ _ a.block (h3 a rfl))).trans hc)
end
end Go.Proofs.YtjhmpcbpbdkddaaGreat.Te
