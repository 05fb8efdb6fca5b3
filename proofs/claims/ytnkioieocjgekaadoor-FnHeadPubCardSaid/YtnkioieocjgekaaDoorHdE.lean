/- impl.HeadPub, by hand. -/
import Derived.Test.YtnkioieocjgekaaDoorHdD
import Derived.Test.YtnkioieocjgekaaDoorHdK
namespace Go.Proofs.YtnkioieocjgekaaDoor.Hd
open Go.RowKit Go.Proofs.YtnkioieocjgekaaDoorW.PrintWords Go.Proofs.YtnkioieocjgekaaDoorW.PrintLast Go.Proofs.YtnkioieocjgekaaDoorW.PrintMore Go.Proofs.YtnkioieocjgekaaDoor.GFnHeadPub
set_option linter.unusedVariables false
set_option linter.unusedSimpArgs false

theorem kindOf_012 (h z m : Int) : kindOf h z m = 0 ∨ kindOf h z m = 1 ∨ kindOf h z m = 2 := by
  unfold kindOf
  repeat' split
  all_goals simp
theorem hps_kind (ws : List (Nat × Nat)) (l : List Int) (m : Int) : (hps ws l m).2.2.2.2 = 0 ∨ (hps ws l m).2.2.2.2 = 1 ∨ (hps ws l m).2.2.2.2 = 2 := by
  unfold hps
  split
  · exact kindOf_012 _ _ _
  · exact kindOf_012 _ _ _
  · simp
/-- The words of what comes out lie in the text. -/
structure InL (n : Nat) (o : Option (Nat × Nat)) : Prop where
  ok : ∀ p, o = some p → p.1 < p.2 ∧ p.2 ≤ n
theorem hps_in (l : List Int) (m : Int) : InL l.length (hps (sp l 0 none) l m).1 ∧ InL l.length (hps (sp l 0 none) l m).2.1 := by
  have hb := fun p hp => sp_bound l 0 none (fun s h => by cases h) p hp
  simp only [Nat.zero_add] at hb
  generalize sp l 0 none = ws at *
  unfold hps
  split
  · exact ⟨⟨fun p h => by injection h with h; subst h; exact hb _ (by simp)⟩, ⟨fun p h => by cases h⟩⟩
  · exact ⟨⟨fun p h => by injection h with h; subst h; exact hb _ (by simp)⟩, ⟨fun p h => by injection h with h; subst h; exact hb _ (by simp)⟩⟩
  · exact ⟨⟨fun p h => by cases h⟩, ⟨fun p h => by cases h⟩⟩
def oc (l : List Int) : Option (Nat × Nat) → List Int
  | none => []
  | some p => cut l p
def out2 (l : List Int) (t : Option (Nat × Nat) × Option (Nat × Nat) × Int × Int × Int) : List Int × List Int × Int × Int × Int :=
  if t.2.2.2.2 = 0 then (oc l t.1, oc l t.2.1, t.2.2.1, t.2.2.2.1, 0) else ([], [], 0, 0, t.2.2.2.2)
/-- A slice that reads as a list. -/
structure Sl (w : World) (v : Value) (xs : List Int) : Prop where
  ex : ∃ A c, v = .slice A xs.length c ∧ Kd.C (Kd.int .u8) w A xs.length xs
theorem Sl.below {w w1 : World} {v : Value} {xs : List Int} (h : Sl w v xs) (hb : Below w.heap.size w w1) : Sl w1 v xs := by
  obtain ⟨A, c, e, hC⟩ := h.ex
  exact ⟨A, c, e, Kd.C_below hC hb⟩
theorem Sl.nil (w : World) : Sl w (.slice none 0 0) [] := ⟨none, 0, rfl, Kd.C_nil _ _⟩
theorem ov_Sl {w : World} {X : Option Addr} {ad : Addr} {c : Nat} {l : List Int} (hX : 0 < l.length → X = some ad) (hR : Kd.C (Kd.int .u8) w X l.length l) (hc : l.length ≤ c) {o : Option (Nat × Nat)} (h : InL l.length o) : Sl w (ov ad c o) (oc l o) := by
  cases o with
  | none => exact Sl.nil w
  | some p =>
    obtain ⟨h1, h2⟩ := h.ok p rfl
    have := cut_C hX hR hc h1 h2
    have hln : (cut l p).length = p.2 - p.1 := by unfold cut; rw [List.length_drop, List.length_take]; omega
    exact ⟨_, _, by rw [ov, wv, oc, hln], by rw [oc, hln]; exact this⟩
theorem Sl.string {w : World} {v : Value} {xs : List Int} (h : Sl w v xs) : (convert 22 9 v).run Tryd.prog w = .ok (.string (strOfNums xs)) w := by
  obtain ⟨A, c, rfl, hC⟩ := h.ex
  exact Kd.C_string Tryd.underlying22 Tryd.underlying5 Tryd.underlying9 hC
def HeadPost (w : World) (t : List Int × List Int × Int × Int × Int) (e : Ending) (w' : World) : Prop :=
  ∃ v0 v1, e = .returned (.tuple #[v0, v1, .int .i64 t.2.2.1, .int .i64 t.2.2.2.1, .int .i64 t.2.2.2.2]) ∧ Sl w' v0 t.1 ∧ Sl w' v1 t.2.1 ∧ Below w.heap.size w w'
/-- What the variables hold. -/
structure GlH (w : World) (ga : Addr) (s : ByteArray) : Prop where
  var : w.cell? ⟨0, 0, none⟩ = some (.iface 73 (.pointer (some ga)))
  cell : w.cell? ga = some (.string s)
theorem GlH.below {w w1 : World} {ga : Addr} {s : ByteArray} (h : GlH w ga s) (hb : Below w.heap.size w w1) : GlH w1 ga s :=
  ⟨(hb.cell (World.block_lt_of_cell? w _ h.var)).trans h.var, (hb.cell (World.block_lt_of_cell? w _ h.cell)).trans h.cell⟩
set_option maxHeartbeats 8000000 in
set_option maxRecDepth 100000 in
theorem head_calls {w : World} {A0 : Option Addr} {n c0 : Nat} {l : List Int} {a1 : Int} {ga : Addr} {s : ByteArray} (hR : Kd.C (Kd.int .u8) w A0 n l) (hc : n ≤ c0) (hl : n ≤ 1000000) (hby : ∀ x ∈ l, 0 ≤ x ∧ x < 256)
    (hG : GlH w ga s) (h0 : -1 ≤ a1) (h1 : a1 ≤ 2147483647) :
    Calls Tryd.prog 9 #[.slice A0 n c0, .int .i64 a1] w (HeadPost w (out2 l (hps (sp l 0 none) l a1))) := by
  obtain rfl : l.length = n := hR.1
  have HC := Aside0.mk (impl_copied.calls A0 c0 l l w hR hc (by rw [impl_copied.f, Option.bind_some, List.nil_append, List.length_nil, Nat.zero_add, if_pos (by omega)]))
  have HL := Aside0.mk hl
  have HBY := Aside0.mk hby
  have HG := Aside0.mk hG
  have HI := Aside0.mk (hps_in l a1)
  have HK := Aside0.mk (hps_kind (sp l 0 none) l a1)
  obtain ⟨t, ht⟩ : ∃ t, t = hps (sp l 0 none) l a1 := ⟨_, rfl⟩
  rw [← ht] at HI HK ⊢
  have HT := Aside0.mk ht
  clear ht hR hc hl hby hG
  have g1 : -9223372036854775808 ≤ a1 := by omega
  go_enter Tryd.func9, Tryd.ntmps9
  go_wp2_with fail
  refine HC.out.mono ?_
  rintro e w1 ⟨v1, rfl, hr1, hb1⟩
  obtain ⟨A, c, rfl, hcc, hC⟩ := Kd.R_reads hr1
  have HB1 := Aside0.mk hb1
  have HCC := Aside0.mk hC
  have HCL := Aside0.mk hcc
  obtain ⟨ad, had⟩ : ∃ ad, 0 < l.length → A = some ad := by
    rcases Nat.eq_zero_or_pos l.length with h0 | h0
    · exact ⟨⟨0, 0, none⟩, fun h => by omega⟩
    · obtain ⟨ad, e, -⟩ := hC.2.2 h0
      exact ⟨ad, fun _ => e⟩
  have HAD := Aside0.mk had
  have HRH : Aside0 (Calls Tryd.prog 19 #[.slice A l.length c, .int .i32 a1] w1 (RhPost w1 ad c t)) := ⟨by
    rw [HT.out]
    exact rh_calls had hC hcc HL.out HBY.out (HG.out.below hb1).var ⟨by omega, by omega⟩⟩
  clear hr1 hb1 hC hcc had HC
  go_wp2_with fail
  refine HRH.out.mono ?_
  rintro e w2 ⟨err, rfl, he, hb⟩
  have HB2 := Aside0.mk hb
  have HE := Aside0.mk he
  have S0 := Aside0.mk (ov_Sl HAD.out (Kd.C_below HCC.out hb) HCL.out HI.out.1)
  have S1 := Aside0.mk (ov_Sl HAD.out (Kd.C_below HCC.out hb) HCL.out HI.out.2)
  obtain ⟨V0, hV0⟩ : ∃ V, V = ov ad c t.1 := ⟨_, rfl⟩
  obtain ⟨V1, hV1⟩ : ∃ V, V = ov ad c t.2.1 := ⟨_, rfl⟩
  rw [← hV0] at S0 ⊢
  rw [← hV1] at S1 ⊢
  clear he hb hV0 hV1 HRH
  by_cases hk : t.2.2.2.2 = 0
  · obtain rfl := HE.out.1 hk
    have HKK := Aside0.mk hk
    clear hk
    go_wp2
    refine bodyPost_ret (results_list (rs := [.tmp 4, .tmp 5, .tmp 6, .tmp 7, .tmp 8]) rfl (by simp) (.tmp (.tmp (.tmp (.tmp (.tmp .nil)))))) rfl ?_
    have ho : out2 l t = (oc l t.1, oc l t.2.1, t.2.2.1, t.2.2.2.1, 0) := if_pos HKK.out
    rw [ho]
    exact ⟨V0, V1, rfl, S0.out, S1.out, below_step HB1.out HB2.out⟩
  · obtain ⟨q, rfl⟩ : ∃ q, err = .iface 73 (.pointer (some q)) := by
      rcases HK.out with h | h | h
      · exact absurd h hk
      · obtain ⟨g, s2, e, -, -⟩ := HE.out.2.1 h
        exact ⟨_, e⟩
      · have := HE.out.2.2 h
        rw [(HG.out.below HB1.out).var] at this
        exact ⟨ga, (Option.some.inj this).symm⟩
    have HF := Aside0.mk (fault_calls (w := w2) HK.out HE.out (HG.out.below HB1.out).var HB2.out (HG.out.below HB1.out).cell)
    have HKK := Aside0.mk hk
    clear hk
    go_wp2_with fail
    refine HF.out.mono ?_
    rintro e w3 ⟨rfl, hw⟩
    subst hw
    go_wp2
    refine bodyPost_ret (results_list (rs := [.tmp 4, .tmp 5, .tmp 6, .tmp 7, .tmp 8]) rfl (by simp) (.tmp (.tmp (.tmp (.tmp (.tmp .nil)))))) rfl ?_
    have ho : out2 l t = ([], [], 0, 0, t.2.2.2.2) := if_neg HKK.out
    rw [ho]
    exact ⟨_, _, rfl, Sl.nil _, Sl.nil _, below_step HB1.out HB2.out⟩
end Go.Proofs.YtnkioieocjgekaaDoor.Hd
