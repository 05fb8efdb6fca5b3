/- laws.FnTopicBack, walked. -/
import Derived.Test.YtgbdjinanflhaaaDoorMqE
namespace Go.Proofs.YtgbdjinanflhaaaDoor.Mq
open Go.RowKit Go.Proofs.YtgbdjinanflhaaaDoorW.PrintWords Go.Proofs.YtgbdjinanflhaaaDoorW.PrintLast Go.Proofs.YtgbdjinanflhaaaDoorW.PrintMore Go.Proofs.YtgbdjinanflhaaaDoor.Pl Go.Proofs.YtgbdjinanflhaaaDoor.GFnTopicBack
set_option linter.unusedVariables false
set_option linter.unusedSimpArgs false

theorem str_nm (l : List UInt8) : strOfNums (nm l) = ba l := by
  unfold strOfNums nm ba
  simp only [List.map_map]
  congr 1
  rw [show ((fun (n : Int) => UInt8.ofNat n.toNat) ∘ fun (b : UInt8) => (b.toNat : Int)) = id from funext fun b => by simp, List.map_id]
/-- What leads back. -/
theorem subj_calls {w : World} {A : Option Addr} {c : Nat} {E l : List Int} (hC : Kd.C (Kd.int .u8) w A E.length E) (hc : E.length ≤ c) (hE : E.length ≤ 1000000) (hd : dec E = l) :
    Calls Tryd.prog 9 #[.slice A E.length c] w fun e w' => ∃ v, e = .returned v ∧ (convert 23 9 v).run Tryd.prog w' = .ok (.string (strOfNums l)) w' ∧ Below w.heap.size w w' := by
  obtain ⟨k, hk⟩ := Dec_ev E hE
  refine (impl_SubjectTopic.calls k A c E (dec E) w hC hc (hk k (Nat.le_refl k))).mono ?_
  rintro e w' ⟨v, rfl, hR, hb⟩
  subst hd
  obtain ⟨Ao, co, rfl⟩ := Kd.R_slice hR
  exact ⟨_, rfl, Kd.C_string Tryd.underlying23 Tryd.underlying5 Tryd.underlying9 (Kd.R_reads' hR).2.2, hb⟩
theorem drawn_below {w w' : World} (h : Drawn0 w w') : Below w.heap.size w w' := by
  obtain ⟨nd, rfl⟩ := h
  exact pw_below_drewN (Below.refl _ _) _
set_option maxHeartbeats 8000000 in
set_option maxRecDepth 100000 in
theorem back_law {w : World} (l : List UInt8) (hG : GlM w) : Calls Tryd.prog 4 #[.string (ba l)] w (LawPost w) := by
  have HG : Aside0 (∀ W, Below w.heap.size w W → GlM W) := ⟨fun W hb => hG.below hb⟩
  have hsz : (ba l).size = l.length := ba_size l
  clear hG
  by_cases h1 : (2147483647 : Int) < (l.length : Int)
  · go_enter Tryd.func4, Tryd.ntmps4
    go_wp2
    go_ret
    exact ⟨rfl, Below.refl _ _⟩
  obtain ⟨b, ⟨k, hk⟩, hb⟩ := topic_ev l (by omega)
  have HT := Aside0.mk (laws_topic.calls k (ba l) b w (hk k (Nat.le_refl k)))
  clear hk
  cases b with
  | false =>
    clear hb
    go_enter Tryd.func4, Tryd.ntmps4
    go_wp2_with fail
    refine HT.out.mono ?_
    rintro e w1 ⟨rfl, hb⟩
    have HB := Aside0.mk (drawn_below hb)
    clear hb
    go_wp2_with fail
    refine (awake_calls (HG.out w1 HB.out)).mono ?_
    rintro e w2 ⟨rfl, hb⟩
    have HB2 := Aside0.mk (below_step HB.out hb)
    clear hb
    go_wp2
    go_ret
    exact ⟨rfl, HB2.out⟩
  | true =>
  obtain ⟨t1, t2, t3⟩ := hb rfl
  have ht : ∀ x ∈ nm l, tch x := fun x hx => by
    obtain ⟨c, hc, rfl⟩ := List.mem_map.1 hx
    exact t3 c hc
  have hcv := cv_enc (nm l) 0 [] false ht (fun _ => by simp) (fun h => by cases h) (fun h => absurd (List.map_eq_nil_iff.1 h) t2)
  rw [List.nil_append] at hcv
  have hdec := (dec_enc (nm l)).1 true
  have hel := enc_len (nm l) true
  rw [nm_len] at hel
  obtain ⟨E, hE⟩ : ∃ E, E = enc (nm l) true := ⟨_, rfl⟩
  rw [show decide ((0 : Nat) = 0 ∨ ([] : List Int).getLast? = some 46) = true by simp, ← hE] at hcv
  rw [← hE] at hdec hel
  have hel2 : E.length ≤ 201 := by omega
  obtain ⟨i0, hK⟩ := elem5
  have K5 := Aside0.mk hK
  have HL := Aside0.mk t1
  have HD := Aside0.mk hdec
  have HV := Aside0.mk hcv
  have HEL := Aside0.mk hel2
  clear hb t1 t2 t3 ht hE hdec hel hel2 hcv hK
  go_enter Tryd.func4, Tryd.ntmps4
  go_wp2_with fail
  refine HT.out.mono ?_
  rintro e w1 ⟨rfl, hb⟩
  have HB := Aside0.mk (drawn_below hb)
  obtain ⟨A, c, w2, hrun, hC, hc, hb2⟩ := conv_ba (w := w1) l rfl (by have := HL.out; omega)
  have HB2 := Aside0.mk (below_step HB.out hb2)
  obtain ⟨t0, u0, hg⟩ := (HG.out w2 HB2.out).var
  have H := Aside0.mk (topic_calls hC hc (by have := HL.out; omega) hg HV.out)
  clear hb hb2 hC hc hg
  go_wp2_with fail
  refine H.out.mono ?_
  rintro e w3 ⟨hb, v, rfl, hs⟩
  have HB3 := Aside0.mk (below_step HB2.out hb)
  obtain ⟨X, c3, rfl, hc3, hC3⟩ := hs.ex
  have HRW := Aside0.mk (Bs.row_g0 (e := 5) (size := 1) (Bs.Fr.refl _ w3))
  have HRD : Aside0 (∀ W, Bs.Fr (fun _ => False) w3 W → Bs.ReadG W X E.length 1 (iC E)) := ⟨fun W hf => read_C (Kd.C_below hC3 (Bs.below_of_fr hf))⟩
  clear hb hs hC3 hc3 H
  go_wp2_with (at_builtin; refine Bs.wpList_rowG K5.out rfl (.tmp 21) (.tmp 22) rfl (w2 := w3) (n := 0) (xs := []) (m := E.length) (ys := iC E) rfl HRW.out rfl (HRD.out _) (by have := HEL.out; omega) (fun v1 w5 q1 q2 q3 => ?_); rw [Nat.zero_add, List.nil_append] at q1; have HQ := Aside0.mk q1; obtain ⟨A5, c5, rfl, hc5, hC5⟩ := (row_Sl q1).ex; have H5 := Aside0.mk (subj_calls hC5 hc5 (by have := HEL.out; omega) HD.out); clear q1 q2 q3 hc5 hC5 HRW HRD)
  refine H5.out.mono ?_
  rintro e w6 ⟨v6, rfl, hrun6, hb⟩
  have HB5 := Aside0.mk (below_step HB3.out (Bs.below_of_fr HQ.out.fr))
  have HB6 := Aside0.mk (below_step HB5.out hb)
  rw [str_nm] at hrun6
  clear hb H5
  go_wp2_with fail
  refine (awake_calls (HG.out w6 HB6.out)).mono ?_
  rintro e w7 ⟨rfl, hb⟩
  have HB7 := Aside0.mk (below_step HB6.out hb)
  clear hb
  go_wp2
  go_ret
  exact ⟨rfl, HB7.out⟩
end Go.Proofs.YtgbdjinanflhaaaDoor.Mq
