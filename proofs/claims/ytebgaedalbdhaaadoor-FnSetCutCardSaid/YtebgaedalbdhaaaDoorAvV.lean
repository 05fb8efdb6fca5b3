/- A number taken out of a set. -/
import Derived.Test.YtebgaedalbdhaaaDoorAvS
namespace Go.Proofs.YtebgaedalbdhaaaDoor.Av
open Go.RowKit Go.Proofs.YtebgaedalbdhaaaDoorW.PrintWords Go.Proofs.YtebgaedalbdhaaaDoorW.PrintLast Go.Proofs.YtebgaedalbdhaaaDoorW.PrintMore
set_option linter.unusedVariables false
set_option linter.unusedSimpArgs false

def T.del1 (q : Int) (sz : Int) (t : T) : T := if t.has q then (if sz = 1 then .nil else t.del q) else t.del q
def T.szD (q : Int) (sz : Int) (t : T) : Int := if t.has q then sz - 1 else sz
def T.ndD (q : Int) (sz nd : Int) (t : T) : Int := if t.has q then (if sz = 1 then 0 else nd - if t.gone q then 1 else 0) else nd
structure TakePut (w w' : World) (g : Nat) (t t' : T) (sz nd : Int) : Prop where
  is : SetIs w' g t' sz nd
  fr : Fr (fun k => k = g ∨ k ∈ t.ids) w w'
def TakePost (q : Int) (g : Nat) (t : T) (sz nd : Int) (w : World) (e : Ending) (w' : World) : Prop :=
  e = .returned (.bool (t.has q)) ∧ TakePut w w' g t (t.del1 q sz) (t.szD q sz) (t.ndD q sz nd)
theorem gone_has {q : Int} : ∀ {t : T}, t.gone q = true → t.has q = true
  | .nil, h => h
  | .node b x s l r, h => by
    unfold T.gone at h
    unfold T.has
    split
    · rename_i c; rw [if_pos c] at h; exact gone_has h
    · rename_i c
      rw [if_neg c] at h
      split
      · rename_i c2; rw [if_pos c2] at h; exact gone_has h
      · rename_i c2
        rw [if_neg c2, Bool.and_eq_true] at h
        exact h.1
set_option maxHeartbeats 4000000 in
set_option maxRecDepth 100000 in
theorem sdelete (q : Int) (hq0 : 0 ≤ q) (hq1 : q + 2048 < 18446744073709551616) {w : World} {g : Nat} {t : T} {sz nd : Int} (h : SetIs w g t sz nd) (hz : t.flat.length ≤ 900000) (hn0 : 0 ≤ nd) (hn1 : nd ≤ 1000000) (hs0 : 0 ≤ sz) (hs1 : sz ≤ 1000000000) :
    Calls Tryd.prog 47 #[.pointer (some ⟨g, 0, none⟩), .int .u64 q] w (TakePost q g t sz nd w) := by
  have H := Aside0.mk h
  have HZ := Aside0.mk hz
  clear h hz
  cases t with
  | nil =>
    have f0 := H.out.set.c0
    simp only [T.ptr, ptrA] at f0
    go_enter Tryd.func47, Tryd.ntmps47
    go_wp2
    go_ret
    refine ⟨rfl, ⟨?_, Fr.refl _ _⟩⟩
    have e1 : T.nil.del1 q sz = .nil := rfl
    have e2 : T.nil.szD q sz = sz := rfl
    have e3 : T.nil.ndD q sz nd = nd := rfl
    rw [e1, e2, e3]
    exact H.out
  | node b x s l r =>
    obtain ⟨t, ht⟩ : ∃ t, t = T.node b x s l r := ⟨_, rfl⟩
    have PT : t.ptr = some b := by rw [ht]; rfl
    rw [← ht] at H HZ ⊢
    replace PT := Aside0.mk PT
    clear ht
    have f0 := H.out.set.c0
    rw [PT.out] at f0
    simp only [ptrA] at f0
    go_enter Tryd.func47, Tryd.ntmps47
    go_upto_region 3 with (fail)
    refine Rg.region_text (by kernel_rfl) (by kernel_rfl) (fun wd hwd K hK => ?_)
    have H1 : Aside0 (SetIs wd g t sz nd) := ⟨by rw [hwd.out]; exact H.out.move (fun _ _ => rfl)⟩
    have FR1 : Aside0 (Fr (fun k => k = g ∨ k ∈ t.ids) w wd) := ⟨by rw [hwd.out]; exact (Fr.refl _ _).drew⟩
    clear hwd f0
    have f0 := H1.out.set.c0
    rw [PT.out] at f0
    simp only [ptrA] at f0
    go_wp2_with fail
    have HD := del_tree q g t.ptr sz hq0 hq1 t wd nd false H1.out.lies H1.out.nodup H1.out.wf HZ.out H1.out.out H1.out.set (by omega) hn1
    rw [PT.out] at HD
    refine HD.mono ?_
    clear HD
    rintro e w2 ⟨rfl, P2⟩
    rw [Bool.false_or] at P2
    replace P2 := Aside0.mk P2
    clear f0
    have f0 := P2.out.set.c0
    have z0 := P2.out.set.free 0
    have IDS := Aside0.mk (T.del_sub q t)
    have IWF := Aside0.mk (T.del_wf (q := q) H.out.wf)
    have GN : Aside0 (g ∉ (t.del q).ids) := ⟨fun h => H.out.out (T.del_mem h)⟩
    have TG := Aside0.mk (gone_has (q := q) (t := t))
    obtain ⟨t2, ht2⟩ : ∃ t2, t2 = t.del q := ⟨_, rfl⟩
    have D1 : t.del1 q sz = if t.has q then (if sz = 1 then .nil else t2) else t2 := by rw [T.del1, ht2]
    replace D1 := Aside0.mk D1
    rw [← ht2] at P2 IDS IWF GN ⊢
    clear ht2
    go_upto_region 4 with (with_reducible refine Rg.only_nil ?_)
    have S3 := Aside0.mk (P2.out.set.set0 t2.ptr)
    have L3 := Aside0.mk (P2.out.lies.far (p := ⟨g, 0, none⟩) GN.out (.pointer (ptrA t2.ptr)))
    have FR3 := Aside0.mk ((FR1.out.trans P2.out.fr (fun _ _ h => h)).set (p := ⟨g, 0, none⟩) (.inl (.inl rfl)) (.pointer (ptrA t2.ptr)))
    generalize w2.setCell ⟨g, 0, none⟩ (.pointer (ptrA t2.ptr)) = w3 at *
    clear f0 z0 P2 H1 FR1
    have f1 := S3.out.c1
    have z1 := S3.out.free 1
    have f3 := S3.out.c3
    have z3 := S3.out.free 3
    have e2 : t.szD q sz = if t.has q then sz - 1 else sz := rfl
    have e3 : t.ndD q sz nd = if t.has q then (if sz = 1 then 0 else nd - if t.gone q then 1 else 0) else nd := rfl
    have E2 := Aside0.mk e2
    have E3 := Aside0.mk e3
    clear e2 e3
    cases hh : t.has q with
    | true =>
      rw [hh] at f3 S3 D1 E2 E3
      rw [if_pos rfl] at D1 E2 E3
      have HH := Aside0.mk hh
      clear hh
      by_cases hone : sz = 1
      · subst hone
        rw [if_pos rfl] at D1 E3
        go_wp2_with fail
        have S4 := Aside0.mk ((S3.out.set3 false).set1 0)
        have FR4 := Aside0.mk ((FR3.out.set (p := ⟨g, 3, none⟩) (.inl (.inl rfl)) (.bool false)).set (p := ⟨g, 1, none⟩) (.inl (.inl rfl)) (.int .i64 0))
        generalize (w3.setCell ⟨g, 3, none⟩ (.bool false)).setCell ⟨g, 1, none⟩ (.int .i64 0) = w4 at *
        refine (sempty S4.out).mono ?_
        rintro e w5 ⟨rfl, S5, F5, Z5⟩
        have S5 := Aside0.mk S5
        have F5 := Aside0.mk F5
        clear Z5 f1 z1 f3 z3
        go_wp2
        go_ret
        refine ⟨by rw [HH.out]; rfl, ⟨⟨?_, ?_, ?_, ?_, ?_⟩, FR4.out.trans F5.out (fun _ _ h => .inl h)⟩⟩
        · rw [D1.out, E2.out, E3.out]; exact S5.out
        · rw [D1.out]; trivial
        · rw [D1.out]; exact List.nodup_nil
        · rw [D1.out]; exact List.not_mem_nil
        · rw [D1.out]; exact (fun p hp => by cases hp)
      · rw [if_neg hone] at D1 E3
        have hne : (sz - 1 == 0) = false := by simp; omega
        clear hone
        go_wp2
        go_ret
        refine ⟨by rw [HH.out]; rfl, ⟨⟨?_, ?_, ?_, ?_, ?_⟩, (FR3.out.set (p := ⟨g, 3, none⟩) (.inl (.inl rfl)) _).set (p := ⟨g, 1, none⟩) (.inl (.inl rfl)) _⟩⟩
        · rw [D1.out, E2.out, E3.out]; exact ((S3.out.set3 false).set1 (sz - 1))
        · rw [D1.out]; exact (L3.out.far (p := ⟨g, 3, none⟩) GN.out _).far (p := ⟨g, 1, none⟩) GN.out _
        · rw [D1.out]; exact List.Nodup.sublist IDS.out H.out.nodup
        · rw [D1.out]; exact GN.out
        · rw [D1.out]; exact IWF.out
    | false =>
      have hg : t.gone q = false := by
        cases hc : t.gone q
        · rfl
        · rw [TG.out hc] at hh; cases hh
      rw [hh, hg] at S3
      rw [if_neg (by decide), Int.sub_zero] at S3
      rw [hh] at f3 D1 E2 E3
      rw [if_neg (by decide)] at D1 E2 E3
      have HH := Aside0.mk hh
      clear hh hg
      go_wp2
      go_ret
      refine ⟨by rw [HH.out]; rfl, ⟨⟨?_, ?_, ?_, ?_, ?_⟩, FR3.out⟩⟩
      · rw [D1.out, E2.out, E3.out]; exact S3.out
      · rw [D1.out]; exact L3.out
      · rw [D1.out]; exact List.Nodup.sublist IDS.out H.out.nodup
      · rw [D1.out]; exact GN.out
      · rw [D1.out]; exact IWF.out
end Go.Proofs.YtebgaedalbdhaaaDoor.Av
