/- laws.FnTopicMeans, walked. -/
import Derived.Test.YtgbdjinanflhaaaDoorMqT
import Derived.Test.YtgbdjinanflhaaaDoorMqF
namespace Go.Proofs.YtgbdjinanflhaaaDoor.Mq
open Go.RowKit Go.Proofs.YtgbdjinanflhaaaDoorW.PrintWords Go.Proofs.YtgbdjinanflhaaaDoorW.PrintLast Go.Proofs.YtgbdjinanflhaaaDoorW.PrintMore Go.Proofs.YtgbdjinanflhaaaDoor.Pl
set_option linter.unusedVariables false
set_option linter.unusedSimpArgs false

theorem Sl.below {w w' : World} {v : Value} {xs : List Int} (h : Sl w v xs) (hb : Below w.heap.size w w') : Sl w' v xs := by
  obtain ⟨A, c, rfl, hc, hC⟩ := h.ex
  exact ⟨A, c, rfl, hc, Kd.C_below hC hb⟩
theorem Sl.str {w w' : World} {v : Value} {l : List UInt8} (h : Sl w v (nm l)) (hb : Below w.heap.size w w') : (convert 23 9 v).run Tryd.prog w' = .ok (.string (ba l)) w' := by
  have := (h.below hb).string
  rwa [str_nm] at this
/-- A text converted: what the machine's call says. -/
theorem topic_at {w : World} (hG : GlM w) (l : List UInt8) {A : Option Addr} {m c : Nat} (hC : Kd.C (Kd.int .u8) w A m (nm l)) (hc : m ≤ c) (hl : l.length ≤ 100) (h0 : l ≠ []) (hb : ∀ x ∈ l, okb false x) :
    Calls Tryd.prog 7 #[.slice A m c] w (TsPost w (some (nm (encW l true)))) := by
  have hcv := cv_encW false l 0 [] false hb (by simp) (by simp) (fun h => absurd h h0)
  rw [List.nil_append, show decide ((0 : Nat) = 0 ∨ ([] : List Int).getLast? = some 46) = true by simp] at hcv
  obtain ⟨t0, u0, hg⟩ := hG.var
  have hm : m = l.length := by rw [← nm_len]; exact hC.1.symm
  exact topic_calls hC hc (by omega) hg hcv
theorem filter_at {w : World} (hG : GlM w) (l : List UInt8) {A : Option Addr} {m c : Nat} (hC : Kd.C (Kd.int .u8) w A m (nm l)) (hc : m ≤ c) (hl : l.length ≤ 100) (hb : ∀ x ∈ l, okb true x) :
    Calls Tryd.prog 11 #[.slice A m c] w (TsPost w (some (if l = [] then [] else nm (encW l true)))) := by
  obtain ⟨t0, u0, hg⟩ := hG.var
  have hm : m = l.length := by rw [← nm_len]; exact hC.1.symm
  by_cases h0 : l = []
  · rw [if_pos h0]
    subst h0
    exact filter_calls hC hc (by omega) hg (by rw [show nm [] = [] from rfl, cv, if_neg (by simp)])
  · rw [if_neg h0]
    have hcv := cv_encW true l 0 [] false hb (by simp) (by simp) (fun h => absurd h h0)
    rw [List.nil_append, show decide ((0 : Nat) = 0 ∨ ([] : List Int).getLast? = some 46) = true by simp] at hcv
    exact filter_calls hC hc (by omega) hg hcv
set_option maxHeartbeats 8000000 in
set_option maxRecDepth 100000 in
theorem means_law {w : World} (t f : List UInt8) (hG : GlM w) : Calls Tryd.prog 5 #[.string (ba t), .string (ba f)] w (LawPost w) := by
  have HG : Aside0 (∀ W, Below w.heap.size w W → GlM W) := ⟨fun W hb => hG.below hb⟩
  have hsz : (ba t).size = t.length := ba_size t
  have hszf : (ba f).size = f.length := ba_size f
  clear hG
  by_cases h1 : (2147483647 : Int) < (t.length : Int)
  · go_enter Tryd.func5, Tryd.ntmps5
    go_wp2
    go_ret
    exact ⟨rfl, Below.refl _ _⟩
  by_cases h2 : (2147483647 : Int) < (f.length : Int)
  · go_enter Tryd.func5, Tryd.ntmps5
    go_wp2
    go_ret
    exact ⟨rfl, Below.refl _ _⟩
  obtain ⟨b, ⟨k, hk⟩, hb⟩ := topicM_ev t (by omega)
  have HT : Aside0 (∀ W, Calls Tryd.prog 8 #[.string (ba t)] W fun e w' => e = .returned (.bool b) ∧ Drawn0 W w') := ⟨fun W => GFnTopicMeans.laws_topic.calls k (ba t) b W (hk k (Nat.le_refl k))⟩
  clear hk
  cases b with
  | false =>
    clear hb
    go_enter Tryd.func5, Tryd.ntmps5
    go_wp2_with fail
    refine (HT.out _).mono ?_
    rintro e w1 ⟨rfl, hb⟩
    have HB := Aside0.mk (drawn_below hb)
    clear hb
    go_wp2_with fail
    refine (awake_calls (HG.out w1 HB.out)).mono ?_
    rintro e w2 ⟨rfl, hb⟩
    have HB2 := Aside0.mk (below_step HB.out hb)
    clear hb
    go_wp2
    go_ret
    exact ⟨rfl, HB2.out⟩
  | true =>
  obtain ⟨ht, htp⟩ := hb rfl
  clear hb
  obtain ⟨b, ⟨k, hk⟩, hb⟩ := filterM_ev f (by omega)
  have HF : Aside0 (∀ W, Calls Tryd.prog 10 #[.string (ba f)] W fun e w' => e = .returned (.bool b) ∧ Below W.heap.size W w') := ⟨fun W => GFnTopicMeans.laws_filter.calls k (ba f) b W (hk k (Nat.le_refl k))⟩
  clear hk
  cases b with
  | false =>
    clear hb ht htp
    go_enter Tryd.func5, Tryd.ntmps5
    go_wp2_with fail
    refine (HT.out _).mono ?_
    rintro e w1 ⟨rfl, hb⟩
    have HB := Aside0.mk (drawn_below hb)
    clear hb
    go_wp2_with fail
    refine (HF.out _).mono ?_
    rintro e w2 ⟨rfl, hb⟩
    have HB2 := Aside0.mk (below_step HB.out hb)
    clear hb
    go_wp2_with fail
    refine (awake_calls (HG.out w2 HB2.out)).mono ?_
    rintro e w3 ⟨rfl, hb⟩
    have HB3 := Aside0.mk (below_step HB2.out hb)
    clear hb
    go_wp2
    go_ret
    exact ⟨rfl, HB3.out⟩
  | true =>
  obtain ⟨hf, hfo, hf0⟩ := hb rfl
  clear hb
  obtain ⟨g0, nd, ⟨k0, hg0⟩, hnd, hF0, hF1⟩ := means_plain t f ht hf htp hfo hf0
  have hokt : ∀ x ∈ t, okb false x := fun x hx => ⟨(htp.2 x hx).1, (htp.2 x hx).2.1, fun _ => ⟨(htp.2 x hx).2.2.1, (htp.2 x hx).2.2.2.1⟩⟩
  have hokf : ∀ x ∈ f, okb true x := filter_bytes (fOk_shape (lv f) hfo (fun x hx => (lvA_sub f [] (by simp) x hx).2)).1
  have ht0 := htp.1
  have HM : Aside0 (∀ W, Calls Tryd.prog 12 #[.string (ba (encW t true)), .string (ba (encW f true))] W fun e w' => e = .returned (.bool g0) ∧ Below W.heap.size W w') := ⟨fun W => GFnTopicMeans.impl_Matches.calls k0 _ _ g0 W (hg0 k0 (Nat.le_refl k0))⟩
  have HN : Aside0 (∀ W, Calls Tryd.prog 13 #[.string (ba (encW f true))] W fun e w' => e = .returned (.bool nd) ∧ Drawn0 W w') := ⟨fun W => GFnTopicMeans.impl_NeedsUp.calls _ nd W hnd⟩
  have HCT : Aside0 (∀ W A c, GlM W → Kd.C (Kd.int .u8) W A t.length (nm t) → t.length ≤ c → Calls Tryd.prog 7 #[.slice A t.length c] W (TsPost W (some (nm (encW t true))))) := ⟨fun W A c hg hC hc => topic_at hg t hC hc ht ht0 hokt⟩
  have HCF : Aside0 (∀ W A c, GlM W → Kd.C (Kd.int .u8) W A f.length (nm f) → f.length ≤ c → Calls Tryd.prog 11 #[.slice A f.length c] W (TsPost W (some (nm (encW f true))))) := ⟨fun W A c hg hC hc => by have := filter_at hg f hC hc hf hokf; rwa [if_neg hf0] at this⟩
  have LT := Aside0.mk ht
  have LF := Aside0.mk hf
  have P0 := Aside0.mk hF0
  have P1 := Aside0.mk hF1
  clear hg0 hnd hF0 hF1 hokt hokf ht0 ht hf htp hfo hf0
  go_enter Tryd.func5, Tryd.ntmps5
  go_wp2_with fail
  refine (HT.out _).mono ?_
  rintro e w1 ⟨rfl, hb⟩
  have HB1 := Aside0.mk (drawn_below hb)
  clear hb
  go_wp2_with fail
  refine (HF.out _).mono ?_
  rintro e w2 ⟨rfl, hb⟩
  have HB2 := Aside0.mk (below_step HB1.out hb)
  clear hb
  obtain ⟨A, c, w3, hrun, hC, hc, hb⟩ := conv_ba (w := w2) t rfl (by have := LT.out; omega)
  have HB3 := Aside0.mk (below_step HB2.out hb)
  have H := Aside0.mk (HCT.out w3 A c (HG.out w3 HB3.out) hC hc)
  clear hb hC hc
  go_wp2_with fail
  refine H.out.mono ?_
  rintro e w4 ⟨hb, va, rfl, hsa⟩
  have HB4 := Aside0.mk (below_step HB3.out hb)
  have SA := Aside0.mk hsa
  clear hb hsa H hrun
  obtain ⟨A5, c5, w5, hrun, hC, hc, hb⟩ := conv_ba (w := w4) f rfl (by have := LF.out; omega)
  have HB45 := Aside0.mk hb
  have HB5 := Aside0.mk (below_step HB4.out hb)
  have H := Aside0.mk (HCF.out w5 A5 c5 (HG.out w5 HB5.out) hC hc)
  clear hb hC hc
  go_wp2_with fail
  refine H.out.mono ?_
  rintro e w6 ⟨hb, vb, rfl, hsb⟩
  have HB46 := Aside0.mk (below_step HB45.out hb)
  have HB6 := Aside0.mk (below_step HB5.out hb)
  have SB := Aside0.mk hsb
  have r1 := SA.out.str HB46.out
  have r2 := SB.out.str (Below.refl _ _)
  clear hb hsb H hrun
  go_wp2_with fail
  refine (HM.out _).mono ?_
  rintro e w7 ⟨rfl, hb⟩
  have HB47 := Aside0.mk (below_step HB46.out hb)
  have HB67 := Aside0.mk hb
  have HB7 := Aside0.mk (below_step HB6.out hb)
  clear hb r1 r2
  have r2 := SB.out.str HB67.out
  go_wp2_with fail
  refine (HN.out _).mono ?_
  rintro e w8 ⟨rfl, hb⟩
  have HB48 := Aside0.mk (below_step HB47.out (drawn_below hb))
  have HB8 := Aside0.mk (below_step HB7.out (drawn_below hb))
  clear hb r2
  cases nd with
  | false =>
    obtain ⟨k, hk⟩ := P0.out rfl
    have H := Aside0.mk (GFnTopicMeans.spec_Filters.calls k _ _ g0 w8 (hk k (Nat.le_refl k)))
    clear hk
    cases g0 with
    | false =>
      go_wp2_with fail
      refine H.out.mono ?_
      rintro e w9 ⟨rfl, hb⟩
      have HB9 := Aside0.mk (below_step HB8.out hb)
      clear hb
      go_wp2_with fail
      refine (awake_calls (HG.out w9 HB9.out)).mono ?_
      rintro e w10 ⟨rfl, hb⟩
      have HB10 := Aside0.mk (below_step HB9.out hb)
      clear hb
      go_wp2
      go_ret
      exact ⟨rfl, HB10.out⟩
    | true =>
      go_wp2_with fail
      refine H.out.mono ?_
      rintro e w9 ⟨rfl, hb⟩
      have HB9 := Aside0.mk (below_step HB8.out hb)
      clear hb
      go_wp2_with fail
      refine (awake_calls (HG.out w9 HB9.out)).mono ?_
      rintro e w10 ⟨rfl, hb⟩
      have HB10 := Aside0.mk (below_step HB9.out hb)
      clear hb
      go_wp2
      go_ret
      exact ⟨rfl, HB10.out⟩
  | true =>
    obtain ⟨y, g1, hyl, hyo, ⟨ka, hka⟩, ⟨km, hkm⟩, ⟨kf, hkf⟩⟩ := P1.out rfl
    have HA : Aside0 (∀ W, Calls Tryd.prog 14 #[.string (ba f)] W fun e w' => e = .returned (.string (ba y)) ∧ Below W.heap.size W w') := ⟨fun W => GFnTopicMeans.spec_Above.calls ka _ _ W (hka ka (Nat.le_refl ka))⟩
    have HM1 : Aside0 (∀ W, Calls Tryd.prog 12 #[.string (ba (encW t true)), .string (ba (encW y true))] W fun e w' => e = .returned (.bool g1) ∧ Below W.heap.size W w') := ⟨fun W => GFnTopicMeans.impl_Matches.calls km _ _ g1 W (hkm km (Nat.le_refl km))⟩
    have HFl : Aside0 (∀ W, Calls Tryd.prog 15 #[.string (ba f), .string (ba t)] W fun e w' => e = .returned (.bool (g0 || g1)) ∧ Below W.heap.size W w') := ⟨fun W => GFnTopicMeans.spec_Filters.calls kf _ _ _ W (hkf kf (Nat.le_refl kf))⟩
    have HCY : Aside0 (∀ W A c, GlM W → Kd.C (Kd.int .u8) W A y.length (nm y) → y.length ≤ c → Calls Tryd.prog 11 #[.slice A y.length c] W (TsPost W (some (if y = [] then [] else nm (encW y true))))) := ⟨fun W A c hg hC hc => filter_at hg y hC hc hyl hyo⟩
    have LY := Aside0.mk hyl
    clear hka hkm hkf hyl hyo
    go_wp2_with fail
    refine (HA.out _).mono ?_
    rintro e w9 ⟨rfl, hb⟩
    have HB49 := Aside0.mk (below_step HB48.out hb)
    have HB9 := Aside0.mk (below_step HB8.out hb)
    clear hb
    obtain ⟨A10, c10, w10, hrun, hC, hc, hb⟩ := conv_ba (w := w9) y rfl (by have := LY.out; omega)
    have HB410 := Aside0.mk (below_step HB49.out hb)
    have HB10 := Aside0.mk (below_step HB9.out hb)
    have H := Aside0.mk (HCY.out w10 A10 c10 (HG.out w10 HB10.out) hC hc)
    clear hb hC hc
    go_wp2_with fail
    refine H.out.mono ?_
    rintro e w11 ⟨hb, vc, rfl, hsc⟩
    have HB411 := Aside0.mk (below_step HB410.out hb)
    have HB11 := Aside0.mk (below_step HB10.out hb)
    have SC := Aside0.mk hsc
    clear hb hsc H hrun
    go_wp2_with fail
    refine (HA.out _).mono ?_
    rintro e w12 ⟨rfl, hb⟩
    have HB412 := Aside0.mk (below_step HB411.out hb)
    have HB1112 := Aside0.mk hb
    have HB12 := Aside0.mk (below_step HB11.out hb)
    clear hb
    by_cases hy0 : y = []
    · subst hy0
      have hem : (ba []).toList.isEmpty = true := by rw [ba_toList]; rfl
      go_wp2_with fail
      refine (awake_calls (HG.out w12 HB12.out)).mono ?_
      rintro e w13 ⟨rfl, hb⟩
      have HB13 := Aside0.mk (below_step HB12.out hb)
      clear hb
      go_wp2
      go_ret
      exact ⟨rfl, HB13.out⟩
    · have hem : (ba y).toList.isEmpty = false := by
        rw [ba_toList]
        cases y with
        | nil => exact absurd rfl hy0
        | cons c y => rfl
      have SC2 : Aside0 (Sl w11 vc (nm (encW y true))) := ⟨by have := SC.out; rwa [if_neg hy0] at this⟩
      clear SC HCY
      cases g0 with
      | true =>
        go_wp2_with fail
        refine (HFl.out _).mono ?_
        rintro e w13 ⟨rfl, hb⟩
        have HB13 := Aside0.mk (below_step HB12.out hb)
        clear hb
        rw [Bool.true_or]
        go_wp2_with fail
        refine (awake_calls (HG.out w13 HB13.out)).mono ?_
        rintro e w14 ⟨rfl, hb⟩
        have HB14 := Aside0.mk (below_step HB13.out hb)
        clear hb
        go_wp2
        go_ret
        exact ⟨rfl, HB14.out⟩
      | false =>
        have r1 := SA.out.str HB412.out
        have r2 := SC2.out.str HB1112.out
        go_wp2_with fail
        refine (HM1.out _).mono ?_
        rintro e w13 ⟨rfl, hb⟩
        have HB13 := Aside0.mk (below_step HB12.out hb)
        clear hb r1 r2
        go_wp2_with fail
        refine (HFl.out _).mono ?_
        rintro e w14 ⟨rfl, hb⟩
        have HB14 := Aside0.mk (below_step HB13.out hb)
        clear hb
        rw [Bool.false_or]
        cases g1 with
        | false =>
          go_wp2_with fail
          refine (awake_calls (HG.out w14 HB14.out)).mono ?_
          rintro e w15 ⟨rfl, hb⟩
          have HB15 := Aside0.mk (below_step HB14.out hb)
          clear hb
          go_wp2
          go_ret
          exact ⟨rfl, HB15.out⟩
        | true =>
          go_wp2_with fail
          refine (awake_calls (HG.out w14 HB14.out)).mono ?_
          rintro e w15 ⟨rfl, hb⟩
          have HB15 := Aside0.mk (below_step HB14.out hb)
          clear hb
          go_wp2
          go_ret
          exact ⟨rfl, HB15.out⟩
end Go.Proofs.YtgbdjinanflhaaaDoor.Mq
