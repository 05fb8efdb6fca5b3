/- The specification's tree is in order, and has what the states of a script have. What the guards of the tree laws let in; grown, awakeTree. -/
import Derived.Test.YtjhmpcbpbdkddaaGreatTfG
import Derived.Test.YtjhmpcbpbdkddaaGreatPlTe
namespace Go.Proofs.YtjhmpcbpbdkddaaGreat.Te
open Go.RowKit Go.Proofs.YtjhmpcbpbdkddaaGreat.Bs Go.Proofs.YtjhmpcbpbdkddaaGreatW.PrintWords Go.Proofs.YtjhmpcbpbdkddaaGreatW.PrintLast Go.Proofs.YtjhmpcbpbdkddaaGreatW.PrintMore Go.Proofs.YtjhmpcbpbdkddaaGreat.GFnTreeRun
set_option linter.unusedVariables false
set_option linter.unusedSimpArgs false
theorem bytesLess_lt : ∀ (x y : List UInt8), Op.bytesLess x y = decide (x < y)
  | [], [] => by simp [Op.bytesLess]
  | _ :: _, [] => by simp [Op.bytesLess]
  | [], _ :: _ => by simp [Op.bytesLess]
  | a :: x, b :: y => by
    rw [Op.bytesLess, bytesLess_lt x y]
    by_cases h : a < b
    · simp [h, List.cons_lt_cons_iff]
    · by_cases h2 : a = b
      · subst h2; simp [List.cons_lt_cons_iff]
      · simp [h, h2, List.cons_lt_cons_iff]
theorem ltS_iff {a b : ByteArray} : ltS a b = true ↔ a.data.toList < b.data.toList := by
  unfold ltS
  rw [bytesLess_lt, ByteArray.toList_eq, ByteArray.toList_eq]
  simp
theorem ltS_irr (a : ByteArray) : ltS a a = false := by
  cases h : ltS a a with
  | false => rfl
  | true => exact absurd (ltS_iff.1 h) (List.lt_irrefl _)
theorem ltS_trans {a b c : ByteArray} (h : ltS a b = true) (h2 : ltS b c = true) : ltS a c = true := ltS_iff.2 (List.lt_trans (ltS_iff.1 h) (ltS_iff.1 h2))
theorem ltS_tot {a b : ByteArray} (h : ltS a b = false) (h2 : a ≠ b) : ltS b a = true := by
  have h3 : ¬ a.data.toList < b.data.toList := fun e => by rw [ltS_iff.2 e] at h; cases h
  have h4 : b.data.toList ≤ a.data.toList := List.not_lt.1 h3
  rcases List.le_iff_lt_or_eq.1 h4 with h5 | h5
  · exact ltS_iff.2 h5
  · exact absurd (ByteArray.ext (Array.toList_inj.1 h5)).symm h2
theorem ltS_asym {a b : ByteArray} (h : ltS a b = true) : ltS b a = false := by
  cases h2 : ltS b a with
  | false => rfl
  | true => have := ltS_trans h h2; rw [ltS_irr] at this; cases this
/-- Entries in the order of their subjects, each one once. -/
def SortedE (l : List S48) : Prop := (l.map S48.f0).Pairwise (fun a b => ltS a b = true)
theorem SortedE.nodup {l : List S48} (h : SortedE l) : (l.map S48.f0).Nodup := List.Pairwise.imp (fun h e => by subst e; rw [ltS_irr] at h; cases h) h
theorem sorted_ins : ∀ {l : List S48} {s : ByteArray} {v : Int}, SortedE l → (∀ e ∈ l, e.f0 ≠ s) → SortedE (l.take (lowN l s) ++ [⟨s, v⟩] ++ l.drop (lowN l s))
  | [], s, v, _, _ => by simp [SortedE]
  | e :: l, s, v, h, hn => by
    have h2 : (∀ x ∈ l.map S48.f0, ltS e.f0 x = true) ∧ SortedE l := List.pairwise_cons.1 h
    unfold lowN
    cases he : ltS e.f0 s with
    | true =>
      rw [if_pos rfl]
      have ih := sorted_ins (v := v) h2.2 (fun x hx => hn x (List.mem_cons_of_mem _ hx))
      refine List.pairwise_cons.2 ⟨fun x hx => ?_, ih⟩
      obtain ⟨y, hy, rfl⟩ := List.mem_map.1 hx
      rcases List.mem_append.1 hy with hy | hy
      · rcases List.mem_append.1 hy with hy | hy
        · exact h2.1 _ (List.mem_map_of_mem (List.mem_of_mem_take hy))
        · rw [List.mem_singleton.1 hy]; exact he
      · exact h2.1 _ (List.mem_map_of_mem (List.mem_of_mem_drop hy))
    | false =>
      rw [if_neg (by simp)]
      have h3 : ltS s e.f0 = true := ltS_tot he (hn e List.mem_cons_self)
      show SortedE (⟨s, v⟩ :: e :: l)
      refine List.pairwise_cons.2 ⟨fun x hx => ?_, h⟩
      rcases List.mem_cons.1 hx with rfl | hx
      · exact h3
      · exact ltS_trans h3 (h2.1 x hx)
theorem sorted_set {l : List S48} {n : Nat} {e : S48} {v : Int} (h : SortedE l) (hn : l[n]? = some e) : SortedE (l.set n ⟨e.f0, v⟩) := by
  unfold SortedE
  rw [List.map_set]
  have : (l.map S48.f0).set n e.f0 = l.map S48.f0 := by
    refine List.ext_getElem? (fun i => ?_)
    rw [List.getElem?_set]
    split
    · rename_i hi
      subst hi
      rw [List.getElem?_map, hn]
      split
      · rfl
      · rename_i hlt
        have := (List.getElem?_eq_some_iff.1 hn).1
        simp at hlt
        omega
    · rfl
  rw [this]
  exact h
theorem sorted_del {l : List S48} {n : Nat} (h : SortedE l) : SortedE (l.take n ++ l.drop (n + 1)) := by
  unfold SortedE
  have : (l.take n ++ l.drop (n + 1)).Sublist l := by rw [← List.eraseIdx_eq_take_drop_succ]; exact List.eraseIdx_sublist _ _
  exact List.Pairwise.sublist (this.map _) h
theorem split_at {l : List S48} {n : Nat} {e : S48} (hn : l[n]? = some e) : l = l.take n ++ e :: l.drop (n + 1) := by
  obtain ⟨h, rfl⟩ := List.getElem?_eq_some_iff.1 hn
  rw [← List.drop_eq_getElem_cons h, List.take_append_drop]
theorem others {l : List S48} {n : Nat} {e : S48} (h : (l.map S48.f0).Nodup) (hn : l[n]? = some e) (x : S48) : x ∈ l.take n ++ l.drop (n + 1) ↔ x ∈ l ∧ x.f0 ≠ e.f0 := by
  have hs := split_at hn
  rw [hs, List.map_append, List.map_cons] at h
  have h1 := List.nodup_append.1 h
  have h2 := List.nodup_cons.1 h1.2.1
  constructor
  · intro hx
    refine ⟨?_, fun he => ?_⟩
    · rw [hs]
      rcases List.mem_append.1 hx with hx | hx
      · exact List.mem_append.2 (.inl hx)
      · exact List.mem_append.2 (.inr (List.mem_cons_of_mem _ hx))
    · rcases List.mem_append.1 hx with hx | hx
      · exact h1.2.2 x.f0 (List.mem_map_of_mem hx) e.f0 List.mem_cons_self he
      · exact h2.1 (by rw [← he]; exact List.mem_map_of_mem hx)
  · rintro ⟨hx, hne⟩
    rw [hs] at hx
    rcases List.mem_append.1 hx with hx | hx
    · exact List.mem_append.2 (.inl hx)
    · rcases List.mem_cons.1 hx with rfl | hx
      · exact absurd rfl hne
      · exact List.mem_append.2 (.inr hx)
def entE (l : List S48) : List Ent := l.map fun e => (e.f0.data.toList, e.f1)
def DenE (l : List S48) (m : Mm) : Prop := ∀ e : S48, e ∈ l ↔ m e.f0.data.toList = some e.f1
theorem DenE.den {l : List S48} {m : Mm} (h : DenE l m) : Den (entE l) m := by
  intro s v
  unfold entE
  rw [List.mem_map]
  constructor
  · rintro ⟨e, he, h2⟩
    injection h2 with h2 h3
    rw [← h2, ← h3]
    exact (h e).1 he
  · intro hm
    exact ⟨⟨⟨s.toArray⟩, v⟩, (h _).2 (by simpa using hm), by simp⟩
theorem inj_sbj {a b : ByteArray} (h : a.data.toList = b.data.toList) : a = b := ByteArray.ext (Array.toList_inj.1 h)
theorem entE_nodup {l : List S48} (h : SortedE l) : ((entE l).map Prod.fst).Nodup := by
  have : (entE l).map Prod.fst = (l.map S48.f0).map (fun s => s.data.toList) := by unfold entE; rw [List.map_map, List.map_map]; rfl
  rw [this]
  refine List.Pairwise.map _ (fun a b hab e => hab (inj_sbj e)) h.nodup
theorem den_perm {es es' : List Ent} {m : Mm} (h : Den es m) (h' : Den es' m) (hn : (es.map Prod.fst).Nodup) (hn' : (es'.map Prod.fst).Nodup) : es.Perm es' := by
  have n1 : es.Nodup := List.Pairwise.imp (fun h e => h (by rw [e])) (List.pairwise_map.1 hn)
  have n2 : es'.Nodup := List.Pairwise.imp (fun h e => h (by rw [e])) (List.pairwise_map.1 hn')
  refine (List.perm_ext_iff_of_nodup n1 n2).2 (fun e => ?_)
  rw [show e = (e.1, e.2) from rfl, h, h']
structure RelT (st : SSt) (ms : MSt) : Prop where
  ord : SortedE st.l
  den : DenE st.l ms.m
  told : st.told = ms.told
theorem stepT_rel {st : SSt} {ms : MSt} {d : S51} (h : RelT st ms) : RelT (stepT st d) (stepS ms d) := by
  unfold stepT stepS
  cases hf : fnd st.l d.f1 with
  | some n =>
    obtain ⟨e, h1, h2⟩ := fnd_some hf
    have hm : ms.m (sbj d) = some e.f1 := by
      have := (h.den e).1 (List.mem_of_getElem? h1)
      rw [h2] at this
      exact this
    have ho := others h.ord.nodup h1
    refine ⟨?_, ?_, ?_⟩
    · show SortedE (if d.f0 = 0 then st.l.set n ⟨d.f1, d.f2⟩ else st.l.take n ++ st.l.drop (n + 1))
      split
      · rw [← h2]; exact sorted_set h.ord h1
      · exact sorted_del h.ord
    · show DenE (if d.f0 = 0 then st.l.set n ⟨d.f1, d.f2⟩ else st.l.take n ++ st.l.drop (n + 1)) (stepM ms.m d)
      intro x
      unfold stepM
      split
      · have hlt := (List.getElem?_eq_some_iff.1 h1).1
        rw [List.set_eq_take_append_cons_drop, if_pos hlt]
        have : x ∈ st.l.take n ++ ⟨d.f1, d.f2⟩ :: st.l.drop (n + 1) ↔ x = ⟨d.f1, d.f2⟩ ∨ x ∈ st.l.take n ++ st.l.drop (n + 1) := by
          simp only [List.mem_append, List.mem_cons]
          constructor
          · rintro (h | h | h)
            · exact .inr (.inl h)
            · exact .inl h
            · exact .inr (.inr h)
          · rintro (h | h | h)
            · exact .inr (.inl h)
            · exact .inl h
            · exact .inr (.inr h)
        rw [this, ho, h2]
        unfold putM
        by_cases hx : x.f0.data.toList = sbj d
        · rw [if_pos hx]
          have hx2 : x.f0 = d.f1 := inj_sbj hx
          constructor
          · rintro (rfl | ⟨_, hne⟩)
            · rfl
            · exact absurd hx2 hne
          · intro hv
            injection hv with hv
            left
            cases x
            simp only at hx2 hv
            rw [hx2, hv]
        · rw [if_neg hx]
          have hx2 : x.f0 ≠ d.f1 := fun e => hx (by rw [e]; rfl)
          rw [← h.den x]
          constructor
          · rintro (rfl | ⟨hm, _⟩)
            · exact absurd rfl hx2
            · exact hm
          · exact fun hm => .inr ⟨hm, hx2⟩
      · rw [ho, h2]
        unfold delM
        by_cases hx : x.f0.data.toList = sbj d
        · rw [if_pos hx]
          have hx2 : x.f0 = d.f1 := inj_sbj hx
          simp [hx2]
        · rw [if_neg hx]
          have hx2 : x.f0 ≠ d.f1 := fun e => hx (by rw [e]; rfl)
          rw [← h.den x]
          exact ⟨fun h => h.1, fun h => ⟨h, hx2⟩⟩
    · show st.told ++ _ = ms.told ++ _
      rw [h.told]
      unfold toldM
      rw [hm, List.getD_eq_getElem?_getD, h1]
      rfl
  | none =>
    have h1 := fnd_none hf
    have hm : ms.m (sbj d) = none := by
      cases hv : ms.m (sbj d) with
      | none => rfl
      | some v => exact absurd rfl (h1 ⟨d.f1, v⟩ ((h.den ⟨d.f1, v⟩).2 hv))
    refine ⟨?_, ?_, ?_⟩
    · show SortedE (if d.f0 = 0 then st.l.take (lowN st.l d.f1) ++ [⟨d.f1, d.f2⟩] ++ st.l.drop (lowN st.l d.f1) else st.l)
      split
      · exact sorted_ins h.ord h1
      · exact h.ord
    · show DenE (if d.f0 = 0 then st.l.take (lowN st.l d.f1) ++ [⟨d.f1, d.f2⟩] ++ st.l.drop (lowN st.l d.f1) else st.l) (stepM ms.m d)
      intro x
      unfold stepM
      split
      · have : x ∈ st.l.take (lowN st.l d.f1) ++ [⟨d.f1, d.f2⟩] ++ st.l.drop (lowN st.l d.f1) ↔ x = ⟨d.f1, d.f2⟩ ∨ x ∈ st.l := by
          conv => rhs; rw [← List.take_append_drop (lowN st.l d.f1) st.l]
          simp only [List.mem_append, List.mem_singleton]
          constructor
          · rintro ((h | h) | h)
            · exact .inr (.inl h)
            · exact .inl h
            · exact .inr (.inr h)
          · rintro (h | h | h)
            · exact .inl (.inr h)
            · exact .inl (.inl h)
            · exact .inr h
        rw [this]
        unfold putM
        by_cases hx : x.f0.data.toList = sbj d
        · rw [if_pos hx]
          have hx2 : x.f0 = d.f1 := inj_sbj hx
          constructor
          · rintro (rfl | hm)
            · rfl
            · exact absurd hx2 (h1 x hm)
          · intro hv
            injection hv with hv
            left
            cases x
            simp only at hx2 hv
            rw [hx2, hv]
        · rw [if_neg hx, ← h.den x]
          constructor
          · rintro (rfl | hm)
            · exact absurd rfl hx
            · exact hm
          · exact fun hm => .inr hm
      · unfold delM
        by_cases hx : x.f0.data.toList = sbj d
        · rw [if_pos hx]
          constructor
          · intro hx3
            exact absurd (inj_sbj hx) (h1 x hx3)
          · intro e; cases e
        · rw [if_neg hx]
          exact h.den x
    · show st.told ++ _ = ms.told ++ _
      rw [h.told]
      unfold toldM
      rw [hm]
      rfl
theorem spec_rel (ds : List S51) : RelT (runT ds) (runS m00 ds) := by
  have : ∀ (l : List S51) (st : SSt) (ms : MSt), RelT st ms → RelT (l.foldl stepT st) (l.foldl stepS ms) := by
    intro l
    induction l with
    | nil => exact fun _ _ h => h
    | cons d l ih => exact fun _ _ h => ih _ _ (stepT_rel h)
  exact this ds _ _ ⟨List.Pairwise.nil, fun e => by simp [m00], rfl⟩
theorem spec_size {ds : List S51} {es : List Ent} (h : Den es (runS m00 ds).m) (hn : (es.map Prod.fst).Nodup) : es.length = (runT ds).l.length := by
  have hr := spec_rel ds
  rw [(den_perm h hr.den.den hn (entE_nodup hr.ord)).length_eq]
  simp [entE]
end Go.Proofs.YtjhmpcbpbdkddaaGreat.Te
namespace Go.Proofs.YtjhmpcbpbdkddaaGreat.Te
open Go.RowKit Go.Proofs.YtjhmpcbpbdkddaaGreat.Pl Go.Proofs.YtjhmpcbpbdkddaaGreat.Bs Go.Proofs.YtjhmpcbpbdkddaaGreatW.PrintWords Go.Proofs.YtjhmpcbpbdkddaaGreatW.PrintLast Go.Proofs.YtjhmpcbpbdkddaaGreatW.PrintMore Go.Proofs.YtjhmpcbpbdkddaaGreat.GFnTreeRun Go.Proofs.YtjhmpcbpbdkddaaGreat.PlFnTreeRun
set_option linter.unusedVariables false
set_option linter.unusedSimpArgs false
/-- What the guards of the tree laws let in. -/
structure GoodP (ds : List S51) : Prop where
  len : ds.length ≤ 40
  all : ∀ d ∈ ds, deedB d ∧ plainB d.f1 = true
theorem plain_pos {s : ByteArray} (h : plainB s = true) : 0 < s.size := by
  rcases Nat.eq_zero_or_pos s.size with h0 | h0
  · have : s.data.toList = [] := List.length_eq_zero_iff.1 h0
    unfold plainB at h
    rw [this] at h
    exact absurd h (by decide)
  · exact h0
theorem clean_no127 {l : List UInt8} (h : l.all cleanB = true) : 127 ∉ l := fun hm => by
  have := List.all_eq_true.1 h 127 hm
  exact absurd this (by decide)
theorem GoodP.good {ds : List S51} (h : GoodP ds) : GoodD ds (ds.map sbj) := by
  refine ⟨by have := h.len; omega, fun d hd => ?_, by rw [List.length_map]; have := h.len; omega, fun s hs => ?_⟩
  · obtain ⟨⟨h1, h2, h3, h4⟩, h5⟩ := h.all d hd
    exact ⟨h1, plain_pos h5, by omega, clean_no127 h4, List.mem_map_of_mem hd⟩
  · obtain ⟨d, hd, rfl⟩ := List.mem_map.1 hs
    have := (h.all d hd).1.2.1
    show d.f1.data.toList.length ≤ 1000
    show d.f1.size ≤ 1000
    omega
structure GrownPost (w0 : World) (ds : List S51) (e : Ending) (w' : World) : Prop where
  out : ∃ lv ok, e = .returned (.tuple #[lv, .bool ok]) ∧ (ok = true → GoodP ds) ∧ ∃ n L, w'.ownsRow w0.heap.size 48 2 lv n (e48 L) ∧ n = L.length ∧ (ok = true → L = (runT ds).l)
  same : Same w0 w'
theorem kc_same {w w1 : World} {A : Option Addr} {n : Nat} {xs : List S51} (h : Kd.C k51 w A n xs) (hs : Same w w1) : Kd.C k51 w1 A n xs := Kd.C_below h (below_of_fr hs)
section
set_option maxHeartbeats 16000000
set_option maxRecDepth 100000
theorem grown_calls {w0 : World} {A0 : Option Addr} {c0 : Nat} {ds : List S51} (hT : Kd.C k51 w0 A0 ds.length ds) (hc : ds.length ≤ c0) : Calls Tryz.prog 10 #[.slice A0 ds.length c0] w0 (GrownPost w0 ds) := by
  have HT := Aside0.mk hT
  have HC := Aside0.mk hc
  obtain ⟨bd, hed, hbd⟩ := deeds_ev ds
  obtain ⟨kd, hkd⟩ := Ev.rounds hed
  have HKD := Aside0.mk hkd
  have HBD := Aside0.mk hbd
  have HNO : Aside0 (∀ w', Same w0 w' → GrownPost w0 ds (.returned (.tuple #[.slice none 0 0, .bool false])) w') := ⟨fun w' hs => ⟨⟨_, false, rfl, (fun e => by cases e), 0, [], ⟨rfl, .inl ⟨rfl, rfl⟩⟩, rfl, (fun e => by cases e)⟩, hs⟩⟩
  clear hT hc hed hkd hbd
  go_enter Tryz.func10, Tryz.ntmps10
  go_wp2_with fail
  refine (laws_deeds.calls kd A0 c0 ds bd w0 HT.out HC.out HKD.out).mono ?_
  rintro e w1 ⟨rfl, hf⟩
  have H1 : Aside0 (Same w0 w1) := ⟨fr_of_below hf⟩
  clear hf
  cases bd with
  | false =>
    go_wp2
    refine bodyPost_ret (results_list (rs := [.tmp 2, .tmp 3]) rfl (by simp) (.tmp (.tmp .nil))) rfl ?_
    exact HNO.out _ H1.out
  | true =>
    have HD := Aside0.mk (HBD.out rfl)
    clear HBD HKD
    go_upto_region 3 with (fail)
    go_wp2_with fail
    go_loopg [4] ds.length (fun kq v4 wr => ∃ (i : Nat), v4 = .int .i64 (i : Int) ∧ Aside0 (kq + i = ds.length ∧ i ≤ ds.length) ∧ Aside0 (Same w0 wr) ∧ Aside0 (∀ d ∈ ds.take i, plainB d.f1 = true))
    case atStart => exact ⟨0, rfl, ⟨by omega⟩, H1, ⟨fun d hd => by simp at hd⟩⟩
    case round =>
      clear H1
      obtain ⟨i, rfl, HI, HR, HP⟩ := hrel
      have i0 : (0 : Int) ≤ (i : Int) := by omega
      by_cases hlt : i < ds.length
      · have i1 : (i : Int) < (ds.length : Int) := by omega
        have i2 : decide ((i : Int) < (ds.length : Int)) = true := decide_eq_true i1
        have i5 : IntKind.i64.wrap ((i : Int) + 1) = ((i + 1 : Nat) : Int) := by rw [IntKind.wrap_i64]; have := HI.out; have := HD.out.1; omega
        obtain ⟨d, ht⟩ : ∃ d, ds[i]? = some d := ⟨_, List.getElem?_eq_getElem hlt⟩
        have HTI := Aside0.mk ht
        have HDD := Aside0.mk (HD.out.2 d (List.mem_of_getElem? ht))
        have HIK : Aside0 (i + 1 ≤ ds.length ∧ ds.length ≤ 40) := ⟨by have := HD.out.1; omega⟩
        obtain ⟨ad, rfl, t0, t1, t2⟩ := at_T51 (kc_same HT.out HR.out) (i : Int) (by omega) (by omega)
        rw [Int.toNat_natCast, rd51_at HTI.out] at t0 t1 t2
        clear ht
        go_upto_region 6 with (fail)
        go_wp2_with fail
        obtain ⟨kp, hkp⟩ := Ev.rounds (plainS_ev d.f1 (by have := HDD.out.2.1; omega))
        refine (spec_Plain.calls kp d.f1 _ wr hkp).mono ?_
        rintro e w3 ⟨rfl, hf3⟩
        have HS3 : Aside0 (Same w0 w3) := ⟨HR.out.trans (fr_of_below hf3) (fun _ _ h => h)⟩
        clear hf3 hkp t0 t1 t2
        cases hp : plainB d.f1 with
        | false =>
          go_wp2
          refine bodyPost_ret (results_list (rs := [.tmp 2, .tmp 3]) rfl (by simp) (.tmp (.tmp .nil))) rfl ?_
          exact HNO.out _ HS3.out
        | true =>
          have HPP := Aside0.mk hp
          clear hp
          go_wp2_with fail
          go_roundg (ds.length - (i + 1))
          case measure => have := HI.out; have := HIK.out; omega
          case rel => exact ⟨i + 1, by first | rfl | go_num, ⟨by have := HIK.out; omega⟩, HS3, ⟨fun d' hd' => by
            rw [List.take_add_one, HTI.out] at hd'
            rcases List.mem_append.1 hd' with h | h
            · exact HP.out d' h
            · simp at h
              rw [h]
              exact HPP.out⟩⟩
      · have hie : i = ds.length := by have := HI.out; omega
        subst hie
        have i2 : decide ((ds.length : Int) < (ds.length : Int)) = false := decide_eq_false (by omega)
        have HG : Aside0 (GoodP ds) := ⟨⟨HD.out.1, fun d hd => ⟨HD.out.2 d hd, HP.out d (by rw [List.take_length]; exact hd)⟩⟩⟩
        clear HP
        go_wp2_with fail
        refine (spec_calls (kc_same HT.out HR.out) HG.out.good).mono ?_
        rintro e w3 ⟨⟨lv, tv, rfl, hl, ht⟩, hs⟩
        have HS3 : Aside0 (Same w0 w3) := ⟨HR.out.trans hs (fun _ _ h => h)⟩
        have HL := Aside0.mk (ownsRow_low hl HR.out.size)
        clear hl ht hs
        go_wp2
        refine bodyPost_ret (results_list (rs := [.tmp 2, .tmp 3]) rfl (by simp) (.tmp (.tmp .nil))) rfl ?_
        exact ⟨⟨lv, true, rfl, fun _ => HG.out, _, _, HL.out, rfl, fun _ => rfl⟩, HS3.out⟩
end
/-! ### awakeTree -/
def oneD : List S51 := [⟨0, ⟨#[97, 46, 98]⟩, 3⟩]
theorem goodOne : GoodD oneD (oneD.map sbj) := ⟨by decide, fun d hd => by
  have : d = ⟨0, ⟨#[97, 46, 98]⟩, 3⟩ := by simpa [oneD] using hd
  subst this
  exact ⟨by decide, by decide, by decide, by decide, by decide⟩, by decide, by decide⟩
theorem kcOne (W : World) : Kd.C k51 (W.alloc (.cells #[.int .i64 0, .string ⟨#[97, 46, 98]⟩, .int .i64 3] 51)) (some ⟨W.heap.size, 0, none⟩) oneD.length oneD := by
  refine ⟨rfl, by decide, fun _ => ⟨_, rfl, fun j p hj => ?_⟩⟩
  rcases j with _ | j
  · injection hj with hj
    subst hj
    refine ⟨_, rfl, k51_mk _ _, fun i u hu => ?_⟩
    have hb := Blk.new W 51 [.int .i64 0, .string ⟨#[97, 46, 98]⟩, .int .i64 3]
    rw [Bs.add_at]
    exact hb.cell _ (by simpa using hu)
  · simp [oneD] at hj
def AwPost (W : World) (en : Ending) (w' : World) : Prop := en = .returned (.bool true) ∧ Same W w'
set_option maxHeartbeats 4000000 in
set_option maxRecDepth 100000 in
theorem awake_calls {W : World} : Calls Tryz.prog 11 #[] W (AwPost W) := by
  have hsa : Same W (W.alloc (.cells #[.int .i64 0, .string ⟨#[97, 46, 98]⟩, .int .i64 3] 51)) := (Fr.refl _ W).alloc _
  have P1 : Aside0 (Calls Tryz.prog 13 #[.slice (some ⟨W.heap.size, 0, none⟩) 1 1] (W.alloc (.cells #[.int .i64 0, .string ⟨#[97, 46, 98]⟩, .int .i64 3] 51)) (RunPost (W.alloc (.cells #[.int .i64 0, .string ⟨#[97, 46, 98]⟩, .int .i64 3] 51)) oneD)) :=
    ⟨run_calls (c0 := 1) (kcOne W) goodOne⟩
  have HSA := Aside0.mk hsa
  clear hsa
  go_enter Tryz.func11, Tryz.ntmps11
  go_wp2_with fail
  refine P1.out.mono ?_
  rintro e w2 ⟨⟨v, es, rfl, ho, hd, hn⟩, hs⟩
  rw [show es.length = 1 from spec_size hd hn]
  rw [show oneD.length = 1 from rfl] at ho
  obtain ⟨A, c, rfl, hc, hr⟩ := read_own (w := w2) (W := w2) ho (e34_one _)
  have HS := Aside0.mk hs
  clear ho hs P1 hr hd hn
  go_wp2
  go_ret
  exact ⟨rfl, HSA.out.trans HS.out (fun _ _ h => h)⟩
end Go.Proofs.YtjhmpcbpbdkddaaGreat.Te
