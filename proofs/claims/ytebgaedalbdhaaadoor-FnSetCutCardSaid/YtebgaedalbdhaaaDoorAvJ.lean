/- Deeds played over a set: the walk of impl.change. -/
import Derived.Test.YtebgaedalbdhaaaDoorAvH
import Derived.Deep.AppendLies
namespace Go.Proofs.YtebgaedalbdhaaaDoor.Av
open Go.RowKit Go.Proofs.YtebgaedalbdhaaaDoorW.PrintWords Go.Proofs.YtebgaedalbdhaaaDoorW.PrintLast Go.Proofs.YtebgaedalbdhaaaDoorW.PrintMore
set_option linter.unusedVariables false
set_option linter.unusedSimpArgs false

theorem add_add' (a : Addr) (i j : Nat) : (a.add i).add j = a.add (i + j) := by
  unfold Addr.add
  (repeat' split) <;> simp_all [Nat.add_assoc]
theorem ownsRow_fr {F : Nat → Prop} {w w1 : World} {base : Nat} {e : TypeId} {size : Nat} {v : Value} {n : Nat} {xs : List Value} (h : w.ownsRow base e size v n xs) (hf : Fr F w w1) (hn : ∀ k, v.ownBlock = some k → ¬ F k) : w1.ownsRow base e size v n xs := by
  refine ⟨h.1, ?_⟩
  rcases h.2 with hx | ⟨g, cap, cur, rfl, hb, hgg, rest⟩
  · exact .inl hx
  · exact .inr ⟨g, cap, cur, rfl, hb, (hf.block g (Array.getElem?_eq_some_iff.1 hgg).1 (hn g rfl)).trans hgg, rest⟩
theorem Fr.grown {w w1 : World} {row : Option Nat} (h : w.grownBy w1 row) : Fr (fun k => row = some k) w w1 := ⟨h.os, h.tape, h.output, h.size, fun k hk hn => h.block k hk (fun e => hn e.symm)⟩
theorem insS_le (q : Int) : ∀ l : List Int, (insS q l).length ≤ l.length + 1 := by
  intro l
  unfold insS
  simp only [List.length_append, List.length_cons]
  have : (l.filter (· < q)).length + (l.filter (q < ·)).length ≤ l.length := by
    induction l with
    | nil => simp
    | cons a l ih =>
      simp only [List.filter_cons, List.length_cons]
      (repeat' split) <;> simp_all <;> omega
  omega
theorem plays_len : ∀ (es : List Deed) (L : List Int), (plays L es).length ≤ L.length + es.length
  | [], L => Nat.le_refl _
  | a :: es, L => by
    have h1 := plays_len es (stepL L a)
    have h2 : (stepL L a).length ≤ L.length + 1 := by
      unfold stepL
      split
      · exact insS_le _ _
      · exact Nat.le_trans (List.length_filter_le _ _) (by omega)
    show (plays (stepL L a) es).length ≤ L.length + (es.length + 1)
    omega
theorem take_snoc {α : Type} {l : List α} {i : Nat} {a : α} (h : l[i]? = some a) : l.take (i + 1) = l.take i ++ [a] := by
  rw [List.take_add_one, h]
  rfl
/-- Of a set that loses its last number no tree is left. -/
theorem Rep.tight {t : T} {sz nd q : Int} {L : List Int} {m : Nat} (h : Rep t sz nd L m) (hw : t.wf) (ht : L = [] → t = .nil) (e : delS q L = []) : t.del1 q sz = .nil := by
  have hs := h.has hw q
  by_cases hm : q ∈ L
  · have hl := delS_len (h.sorted hw) hm
    rw [e] at hl
    have hz := h.sz
    unfold T.del1
    rw [hs, decide_eq_true hm, if_pos rfl, if_pos (by simp at hl; omega)]
  · rw [delS_none hm] at e
    rw [ht e]
    unfold T.del1
    split
    · split
      · rfl
      · rfl
    · rfl
structure CMid (w wr : World) (g : Nat) (mn : Option Int) (L' : List Int) (m' : Nat) (t0 : T) (vs : List Bool) (v : Value) (t : T) (sz nd : Int) : Prop where
  is : SetIs wr g t sz nd
  rep : Rep t sz nd L' m'
  len : (t.flat.length : Int) ≤ nd
  safe : Safe mn t
  ids : ∀ k ∈ t.ids, k ∈ t0.ids ∨ w.heap.size ≤ k
  own : wr.ownsRow w.heap.size 4 1 v vs.length (vs.map Value.bool)
  apart : ∀ k, v.ownBlock = some k → k ≠ g ∧ k ∉ t.ids
  fr : Fr (fun k => k = g ∨ k ∈ t0.ids) w wr
  tight : t0 = .nil → L' = [] → t = .nil
section
variable {w wr w2 : World} {g : Nat} {mn : Option Int} {L' : List Int} {m' : Nat} {t0 t : T} {vs : List Bool} {v : Value} {sz nd q : Int}
theorem CMid.fr0 (h : CMid w wr g mn L' m' t0 vs v t sz nd) (hf : Fr (fun _ => False) wr w2) : CMid w w2 g mn L' m' t0 vs v t sz nd :=
  ⟨h.is.fr hf (fun _ _ h => h), h.rep, h.len, h.safe, h.ids, ownsRow_fr h.own hf (fun _ _ h => h), h.apart, h.fr.trans hf (fun _ _ h => h.elim), h.tight⟩
theorem CMid.app (h : CMid w wr g mn L' m' t0 vs v t sz nd) {b : Bool} {gg cap : Nat}
    (hown : w2.ownsRow w.heap.size 4 1 (.slice (some ⟨gg, 0, none⟩) (vs.length + 1) cap) (vs.length + 1) (vs.map Value.bool ++ [.bool b])) (hg : wr.grownBy w2 v.ownBlock) (hat : v.ownBlock = some gg ∨ gg = wr.heap.size) :
    CMid w w2 g mn L' m' t0 (vs ++ [b]) (.slice (some ⟨gg, 0, none⟩) (vs.length + 1) cap) t sz nd := by
  have hf := Fr.grown hg
  refine ⟨h.is.fr hf ?_, h.rep, h.len, h.safe, h.ids, by simpa using hown, ?_, h.fr.trans hf ?_, h.tight⟩
  · rintro k hk e
    obtain ⟨h1, h2⟩ := h.apart k e
    rcases hk with hk | hk
    · exact h1 hk
    · exact h2 hk
  · intro k hk
    simp only [Value.ownBlock, Option.some.injEq] at hk
    subst hk
    rcases hat with hat | hat
    · exact h.apart _ hat
    · subst hat
      exact ⟨fun e => Nat.lt_irrefl _ (h.is.lt _ (.inl e)), fun e => Nat.lt_irrefl _ (h.is.lt _ (.inr e))⟩
  · intro k hk e
    have := (h.own.lt k e).1
    omega
theorem CMid.put (h : CMid w wr g mn L' m' t0 vs v t sz nd) (hq : okDeed mn (0, q)) {id : Nat} (hid : wr.heap.size ≤ id) (hp : PutPut wr w2 g t (t.put1 id q) (sz + if t.has q then 0 else 1) (nd + if t.cov q then 0 else 1)) :
    CMid w w2 g mn (insS q L') (m' + 1) t0 vs v (t.put1 id q) (sz + if t.has q then 0 else 1) (nd + if t.cov q then 0 else 1) := by
  obtain ⟨_, q0, q1, qf⟩ := hq
  obtain ⟨r1, r2⟩ := h.rep.put h.is.wf q0 q1 id (h.safe.ready qf)
  refine ⟨hp.is, r1, put_len q id h.len, h.safe.put id qf r2, ?_, ownsRow_fr h.own hp.fr ?_, ?_, h.fr.trans hp.fr ?_, fun _ e => by unfold insS at e; simp at e⟩
  · intro k hk
    rcases put1_mem hk with hk | hk
    · exact h.ids k hk
    · have := h.fr.size; exact .inr (by omega)
  · rintro k hk e
    obtain ⟨h1, h2⟩ := h.apart k hk
    rcases e with e | e
    · exact h1 e
    · exact h2 e
  · intro k hk
    refine ⟨(h.apart k hk).1, fun e => ?_⟩
    rcases put1_mem e with e | e
    · exact (h.apart k hk).2 e
    · have := (h.own.lt k hk).2; omega
  · rintro k hk (e | e)
    · exact .inl e
    · rcases h.ids k e with e | e
      · exact .inr e
      · omega
theorem CMid.take (h : CMid w wr g mn L' m' t0 vs v t sz nd) (hq : okDeed mn (1, q)) (hp : TakePut wr w2 g t (t.del1 q sz) (t.szD q sz) (t.ndD q sz nd)) :
    CMid w w2 g mn (delS q L') m' t0 vs v (t.del1 q sz) (t.szD q sz) (t.ndD q sz nd) := by
  obtain ⟨_, q0, q1, qf⟩ := hq
  obtain ⟨r1, r2, r3⟩ := h.rep.take h.is.wf h.len q
  refine ⟨hp.is, r1, r3, h.safe.take qf r2, fun k hk => h.ids k (del1_mem hk), ownsRow_fr h.own hp.fr ?_, fun k hk => ⟨(h.apart k hk).1, fun e => (h.apart k hk).2 (del1_mem e)⟩, h.fr.trans hp.fr ?_, fun hmn e => h.rep.tight h.is.wf (h.tight hmn) e⟩
  · rintro k hk e
    obtain ⟨h1, h2⟩ := h.apart k hk
    rcases e with e | e
    · exact h1 e
    · exact h2 e
  · rintro k hk (e | e)
    · exact .inl e
    · rcases h.ids k e with e | e
      · exact .inr e
      · omega
theorem CMid.more (h : CMid w wr g mn L' m' t0 vs v t sz nd) : CMid w wr g mn L' (m' + 1) t0 vs v t sz nd :=
  ⟨h.is, { h.rep with nd1 := by have := h.rep.nd1; omega, len := by have := h.rep.len; omega }, h.len, h.safe, h.ids, h.own, h.apart, h.fr, h.tight⟩
end
def CIn (w wr : World) (g : Nat) (mn : Option Int) (L : List Int) (m : Nat) (t0 : T) (acts : List Deed) (i : Nat) (v : Value) (t : T) (sz nd : Int) : Prop := CMid w wr g mn (plays L (acts.take i)) (m + i) t0 (wases L (acts.take i)) v t sz nd
def CInv (w wr : World) (g : Nat) (mn : Option Int) (L : List Int) (m : Nat) (t0 : T) (acts : List Deed) (i : Nat) (v : Value) : Prop := ∃ t sz nd, CIn w wr g mn L m t0 acts i v t sz nd
theorem wases_len : ∀ (es : List Deed) (L : List Int), (wases L es).length = es.length
  | [], _ => rfl
  | a :: es, L => congrArg Nat.succ (wases_len es (stepL L a))
theorem wases_le {acts : List Deed} {L : List Int} {i : Nat} (h : acts.length ≤ 1000) : (wases L (acts.take i)).length ≤ 1000 := by
  rw [wases_len, List.length_take]; omega
theorem room63 {n : Nat} (h : n ≤ 1000) : n + 1 ≤ maxLen := by unfold maxLen; omega
theorem room47 {n : Nat} (h : n ≤ 1000) : (n + 1) * 1 ≤ 140737488355328 := by omega
theorem CMid.next {w wr : World} {g : Nat} {mn : Option Int} {L : List Int} {m : Nat} {t0 t : T} {acts : List Deed} {i : Nat} {a : Deed} {b : Bool} {v : Value} {sz nd : Int} (ha : acts[i]? = some a) (hb : b = decide (a.2 ∈ plays L (acts.take i)))
    (hc : CMid w wr g mn (stepL (plays L (acts.take i)) a) (m + i + 1) t0 (wases L (acts.take i) ++ [b]) v t sz nd) : CIn w wr g mn L m t0 acts (i + 1) v t sz nd := by
  unfold CIn
  rw [take_snoc ha, plays_append, wases_append]
  subst hb
  exact hc
structure Small (t : T) (sz nd : Int) : Prop where
  len : t.flat.length ≤ 900000
  nd0 : 0 ≤ nd
  nd1 : nd ≤ 1000000
  sz0 : 0 ≤ sz
  sz1 : sz ≤ 1000000000
theorem Rep.small {t : T} {sz nd : Int} {L : List Int} {m : Nat} (h : Rep t sz nd L m) (hm : m ≤ 3000) (hL : L.length ≤ 3000) : Small t sz nd := by
  have h1 := h.nd0; have h2 := h.nd1; have h3 := h.sz; have h4 := h.len
  exact ⟨by omega, h1, by omega, by omega, by omega⟩
theorem plays_le {acts : List Deed} {L : List Int} {i : Nat} (h : acts.length ≤ 1000) (hL : L.length ≤ 1000) : (plays L (acts.take i)).length ≤ 3000 := by
  have := plays_len (acts.take i) L
  rw [List.length_take] at this
  omega
theorem new_one (w : World) (v : Value) (ty : TypeId) : ∀ j u, [v][j]? = some u → (w.alloc (.cells #[v] ty)).cell? ((⟨w.heap.size, 0, none⟩ : Addr).add j) = some u := by
  intro j u h
  cases j with
  | zero => exact (cell_at (heap_alloc_new w _) (o := 0)).trans (by simpa using h)
  | succ j => simp at h
theorem one_cell (b : Bool) : ∀ u ∈ [Value.bool b], u.oneCell' = true := fun u h => by
  rcases List.mem_singleton.1 h with rfl
  rfl
theorem low_base {w wr : World} {g : Nat} {mn : Option Int} {L' : List Int} {m' : Nat} {t0 t : T} {vs : List Bool} {v : Value} {sz nd : Int} (h : CMid w wr g mn L' m' t0 vs v t sz nd) {o : Obj} : w.heap.size ≤ (wr.alloc o).heap.size := by
  have := h.fr.size
  simp
  omega
def ChangePost (w : World) (g : Nat) (mn : Option Int) (L : List Int) (m : Nat) (t0 : T) (acts : List Deed) (e : Ending) (w' : World) : Prop :=
  ∃ v, e = .returned v ∧ CInv w w' g mn L m t0 acts acts.length v

set_option maxHeartbeats 4000000 in
set_option maxRecDepth 100000 in
theorem change_calls (mn : Option Int) (L : List Int) (m : Nat) {w : World} {g : Nat} {t : T} {sz nd : Int} {A : Option Addr} {acts : List Deed} {c : Nat} (h : SetIs w g t sz nd) (hr : Rep t sz nd L m) (hl : (t.flat.length : Int) ≤ nd) (hs : Safe mn t)
    (hA : ActsR w A acts) (hsep : 0 < acts.length → ∀ ad, A = some ad → ad.block ≠ g ∧ ad.block ∉ t.ids) (hok : ∀ a ∈ acts, okDeed mn a) (hn : acts.length ≤ 1000) (hm : m ≤ 1000) (hL : L.length ≤ 1000) :
    Calls Tryd.prog 32 #[.pointer (some ⟨g, 0, none⟩), .slice A acts.length c] w (ChangePost w g mn L m t acts) := by
  have HI : Aside0 (CInv w w g mn L m t acts 0 (.slice none 0 0)) := ⟨t, sz, nd, ⟨h, hr, hl, hs, fun k hk => .inl hk, ⟨rfl, .inl ⟨rfl, rfl⟩⟩, (fun k hk => by cases hk), Fr.refl _ _, fun h _ => h⟩⟩
  have HA := Aside0.mk hA
  have HSEP := Aside0.mk hsep
  have HOK := Aside0.mk hok
  clear h hr hl hs hA hsep hok
  obtain ⟨i0, hi0, hz0, hz1, hz2⟩ := info_parts info4
  have HINF := Aside0.mk hi0
  have HINZ := Aside0.mk hz0
  have HINS := Aside0.mk hz1
  have HINB := Aside0.mk hz2
  clear hi0 hz0 hz1 hz2
  go_enter Tryd.func32, Tryd.ntmps32
  go_wp2
  go_loopg [5, 6] acts.length (fun k v5 v6 w' => ∃ i : Nat, i ≤ acts.length ∧ v6 = .int .i64 i ∧ Aside0 (acts.length - i ≤ k ∧ CInv w w' g mn L m t acts i v5))
  case atStart => exact ⟨0, Nat.zero_le _, rfl, ⟨Nat.le_refl _, HI.out⟩⟩
  case round =>
    obtain ⟨i, hi, rfl, HU⟩ := hrel
    have HK := Aside0.mk HU.out.1
    have HC := Aside0.mk HU.out.2
    clear HU HI
    by_cases hlt : i < acts.length
    · obtain ⟨ad, hAd, hcells⟩ := HA.out (by omega)
      subst hAd
      obtain ⟨a, ha⟩ : ∃ a, acts[i]? = some a := ⟨_, List.getElem?_eq_getElem hlt⟩
      have HAI := Aside0.mk ha
      have HMA := Aside0.mk (List.mem_of_getElem? ha)
      have HSEP2 := Aside0.mk (HSEP.out (by omega) ad rfl)
      obtain ⟨t1, sz1, nd1, hci⟩ := HC.out
      have CI := Aside0.mk hci
      clear HC hci
      have HA2 : Aside0 (ActsR wr (some ad) acts) := ⟨HA.out.fr CI.out.fr (fun ad' e => by injection e with e; subst e; rintro (h | h); exact HSEP2.out.1 h; exact HSEP2.out.2 h)⟩
      obtain ⟨ad2, e2, hc2⟩ := HA2.out (by omega)
      injection e2 with e2
      subst e2
      obtain ⟨k1, k2⟩ := hc2 i a ha
      replace k2 : wr.cell? ⟨(ad.add (i * 2)).block, (ad.add (i * 2)).off + 1, none⟩ = some (.int .u64 a.2) := by
        rw [← k2, ← add_add']
        rfl
      have i1 : (0 : Int) ≤ (i : Int) := by omega
      have i2 : (i : Int) < (acts.length : Int) := by omega
      clear hcells hc2 ha
      go_upto_region 6 with (fail)
      have OWNH : Aside0 (some wr.heap.size ≠ u5.ownBlock) := ⟨fun e => by have := (CI.out.own.lt _ e.symm).2; omega⟩
      have CI2 := Aside0.mk (CMid.fr0 CI.out ((Fr.refl (fun _ => False) wr).alloc (Obj.cells #[Value.int IntKind.i64 a.fst, Value.int IntKind.u64 a.snd] 37)))
      have f3 : (wr.alloc (Obj.cells #[Value.int IntKind.i64 a.fst, Value.int IntKind.u64 a.snd] 37)).cell? ⟨wr.heap.size, 0, none⟩ = some (.int .i64 a.1) := by
        rw [cell_at (heap_alloc_new wr _)]; rfl
      have f4 : (wr.alloc (Obj.cells #[Value.int IntKind.i64 a.fst, Value.int IntKind.u64 a.snd] 37)).cell? ⟨wr.heap.size, 1, none⟩ = some (.int .u64 a.2) := by
        rw [cell_at (heap_alloc_new wr _)]; rfl
      generalize (wr.alloc (Obj.cells #[Value.int IntKind.i64 a.fst, Value.int IntKind.u64 a.snd] 37)) = w2 at *
      obtain ⟨H, hH⟩ : ∃ H, H = wr.heap.size := ⟨_, rfl⟩
      rw [← hH] at f3 f4 OWNH ⊢
      clear hH k1 k2 CI HA2
      obtain ⟨op, q⟩ := a
      dsimp only at f3 f4
      have OKA := Aside0.mk (HOK.out _ HMA.out)
      rcases OKA.out.1 with hop | hop
      · dsimp only at hop
        subst hop
        go_wp2_with fail
        refine (sexists q OKA.out.2.1 OKA.out.2.2.1 CI2.out.is).mono ?_
        rintro e w' ⟨rfl, hww⟩
        subst w'
        have HB := Aside0.mk (CI2.out.rep.has CI2.out.is.wf q)
        generalize t1.has q = b1 at *
        have LV := Aside0.mk (wases_le (L := L) (i := i) hn)
        go_upto_region 10 with (refine wpList_append_lies _ rfl _ _ _ rfl w.heap.size 4 i0 (.bool false) 1 1 (by kernel_rfl) HINF.out HINZ.out HINS.out HINB.out rfl Nat.one_pos u5 _ _ rfl (CI2.out.own.alloc _) ⟨w2.heap.size, 0, none⟩ 1 1 [.bool b1] rfl rfl (new_one w2 _ _) (one_cell _) Nat.one_pos (room63 LV.out) (room47 LV.out) (low_base CI2.out) _ rfl (fun gg cap w3 hown hgrow hat hlt => ?_))
        have f5 : w3.cell? ⟨H, 1, none⟩ = some (.int .u64 q) := hgrow.cell ((World.cell?_of_block (heap_alloc_old w2 _ (World.block_lt_of_cell? w2 _ f4))).trans f4) OWNH.out
        have CI3 := Aside0.mk (CMid.app (CI2.out.fr0 ((Fr.refl _ w2).alloc _)) hown hgrow hat)
        clear hown hgrow hat hlt f3 f4 CI2
        have SM := Aside0.mk (CI3.out.rep.small (by omega) (plays_le hn hL))
        go_wp2_with fail
        refine (sinsert q OKA.out.2.1 OKA.out.2.2.1 CI3.out.is SM.out.len SM.out.nd0 SM.out.nd1 SM.out.sz0 SM.out.sz1).mono ?_
        rintro e w5 ⟨id, hid, rfl, hp⟩
        have CI5 := Aside0.mk (CMid.next HAI.out HB.out (CI3.out.put OKA.out hid hp))
        clear hp f5 CI3
        go_wp2
        go_roundg (acts.length - (i + 1))
        case measure => have := HK.out; omega
        case rel => exact ⟨i + 1, by omega, rfl, ⟨Nat.le_refl _, _, _, _, CI5.out⟩⟩
      · dsimp only at hop
        subst hop
        go_wp2_with fail
        have SM := Aside0.mk (CI2.out.rep.small (by omega) (plays_le hn hL))
        refine (sdelete q OKA.out.2.1 OKA.out.2.2.1 CI2.out.is SM.out.len SM.out.nd0 SM.out.nd1 SM.out.sz0 SM.out.sz1).mono ?_
        rintro e w3 ⟨rfl, hp⟩
        have HB := Aside0.mk (CI2.out.rep.has CI2.out.is.wf q)
        have CI3 := Aside0.mk (CI2.out.take OKA.out hp)
        clear hp f3 f4 CI2
        generalize t1.has q = b1 at HB ⊢
        have LV := Aside0.mk (wases_le (L := L) (i := i) hn)
        go_upto_region 4 with (refine wpList_append_lies _ rfl _ _ _ rfl w.heap.size 4 i0 (.bool false) 1 1 (by kernel_rfl) HINF.out HINZ.out HINS.out HINB.out rfl Nat.one_pos u5 _ _ rfl (CI3.out.own.alloc _) ⟨w3.heap.size, 0, none⟩ 1 1 [.bool b1] rfl rfl (new_one w3 _ _) (one_cell _) Nat.one_pos (room63 LV.out) (room47 LV.out) (low_base CI3.out) _ rfl (fun gg cap w4 hown hgrow hat hlt => ?_))
        have CI5 := Aside0.mk (CMid.next HAI.out HB.out (CMid.app (CI3.out.more.fr0 ((Fr.refl _ w3).alloc _)) hown hgrow hat))
        clear hown hgrow hat hlt CI3
        go_wp2
        go_roundg (acts.length - (i + 1))
        case measure => have := HK.out; omega
        case rel => exact ⟨i + 1, by omega, rfl, ⟨Nat.le_refl _, _, _, _, CI5.out⟩⟩
    · have he : i = acts.length := by omega
      subst he
      go_wp2
      go_ret
      exact ⟨_, rfl, HC.out⟩
end Go.Proofs.YtebgaedalbdhaaaDoor.Av
