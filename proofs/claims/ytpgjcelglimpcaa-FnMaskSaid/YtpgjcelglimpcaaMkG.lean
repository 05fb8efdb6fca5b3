/- The law FnMask. -/
import Derived.Test.YtpgjcelglimpcaaMkF
namespace Go.Proofs.Ytpgjcelglimpcaa.Mk
open Go.Proofs.Ytpgjcelglimpcaa.Bs Go.RowKit Go.Proofs.YtpgjcelglimpcaaW.PrintWords Go.Proofs.YtpgjcelglimpcaaW.PrintLast Go.Proofs.YtpgjcelglimpcaaW.PrintMore
set_option linter.unusedVariables false
set_option linter.unusedSimpArgs false

theorem four {w w' : World} {B : Nat} {a b d e : Value} (h : Fr (fun _ => False) w w') (c : w.cell? ⟨B, 0, none⟩ = some a ∧ w.cell? ⟨B, 1, none⟩ = some b ∧ w.cell? ⟨B, 2, none⟩ = some d ∧ w.cell? ⟨B, 3, none⟩ = some e) :
    w'.cell? ⟨B, 0, none⟩ = some a ∧ w'.cell? ⟨B, 1, none⟩ = some b ∧ w'.cell? ⟨B, 2, none⟩ = some d ∧ w'.cell? ⟨B, 3, none⟩ = some e :=
  ⟨Same.cell h c.1, Same.cell h c.2.1, Same.cell h c.2.2.1, Same.cell h c.2.2.2⟩
set_option maxHeartbeats 16000000 in
set_option maxRecDepth 100000 in
theorem mask_law (a b d e : Nat) (at_ : Int) {w : World} {X : Option Addr} {c : Nat} {bs : List Nat} (hk : Key [a, b, d, e]) (hR : BytR w X bs) (hb : Byt bs) (hl : bs.length ≤ maxLen) :
    Calls Try.prog 6 #[.agg #[.int .u8 (a : Int), .int .u8 (b : Int), .int .u8 (d : Int), .int .u8 (e : Int)], .int .i64 at_, .slice X bs.length c] w fun e w' => e = .returned (.bool true) ∧ Fr (fun _ => False) w w' := by
  obtain ⟨i0, hK⟩ := elem5
  have K5 := Aside0.mk hK
  have HKEY := Aside0.mk hk
  have HBY := Aside0.mk hb
  have HR := Aside0.mk hR
  have HK1 := Aside0.mk (Blk.new w 33 (bC [a, b, d, e]))
  have HF1 := Aside0.mk ((Fr.refl (fun _ => False) w).alloc (.cells (bC [a, b, d, e]).toArray 33))
  unfold maxLen at hl
  clear hk hb hR hK
  by_cases hbig : 2147483647 < (bs.length : Int)
  · go_enter Try.func6, Try.ntmps6
    go_wp2
    go_ret
    exact ⟨rfl, HF1.out⟩
  · by_cases h1 : at_ < 0
    · go_enter Try.func6, Try.ntmps6
      go_wp2
      go_ret
      exact ⟨rfl, HF1.out⟩
    · by_cases h2 : 3 < at_
      · go_enter Try.func6, Try.ntmps6
        go_wp2
        go_ret
        exact ⟨rfl, HF1.out⟩
      · by_cases h3 : 400 < (bs.length : Int)
        · go_enter Try.func6, Try.ntmps6
          go_wp2
          go_ret
          exact ⟨rfl, HF1.out⟩
        · obtain ⟨p, rfl⟩ : ∃ p : Nat, at_ = (p : Int) := ⟨at_.toNat, by omega⟩
          have hp : p ≤ 3 := by omega
          have hm : bs.length ≤ 1000000 := by omega
          go_enter Try.func6, Try.ntmps6
          go_upto_region 1 with (fail)
          rw [show (#[.int .u8 (a : Int), .int .u8 (b : Int), .int .u8 (d : Int), .int .u8 (e : Int)] : Array Value) = (bC [a, b, d, e]).toArray from rfl]
          generalize w.alloc (.cells (bC [a, b, d, e]).toArray 33) = w1 at *
          obtain ⟨KB, hKB⟩ : ∃ KB, KB = w.heap.size := ⟨_, rfl⟩
          rw [← hKB] at HK1 ⊢
          clear hKB
          have HC1 : Aside0 (w1.cell? ⟨KB, 0, none⟩ = some (.int .u8 (a : Int)) ∧ w1.cell? ⟨KB, 1, none⟩ = some (.int .u8 (b : Int)) ∧ w1.cell? ⟨KB, 2, none⟩ = some (.int .u8 (d : Int)) ∧ w1.cell? ⟨KB, 3, none⟩ = some (.int .u8 (e : Int))) := ⟨HK1.out.cell 0 rfl, HK1.out.cell 1 rfl, HK1.out.cell 2 rfl, HK1.out.cell 3 rfl⟩
          have HR1 : Aside0 (∀ W, Fr (fun _ => False) w1 W → BytR W X bs) := ⟨fun W hf => HR.out.fr (HF1.out.trans hf (fun _ _ h => h)) (fun _ _ h => h)⟩
          go_upto_region 5 with (fail)
          go_region_held3 (fun w' => w'.cell? ⟨KB, 0, none⟩ = some (.int .u8 (a : Int)) ∧ w'.cell? ⟨KB, 1, none⟩ = some (.int .u8 (b : Int)) ∧ w'.cell? ⟨KB, 2, none⟩ = some (.int .u8 (d : Int)) ∧ w'.cell? ⟨KB, 3, none⟩ = some (.int .u8 (e : Int)))
            (first | exact four (Fr.refl _ _).drew HC1.out | exact four ((Fr.refl _ _).alloc _).drew HC1.out | exact four hr1.fr HC1.out | exact four (hr1.fr.trans (RowG.fr hq3) (fun _ _ h => h)) HC1.out | go_keep)
            (first
              | (refine step_rowG K5.out (by rfl) (.tmp 24) (.tmp 25) (by rfl) (w2 := w1) (n := 0) (xs := []) (m := bs.length) (ys := bC bs) (by rfl) row_g1 (by rfl) (HR1.out _) (by omega) ?_; intro v1 w2 hr1 hg1 ha1; obtain ⟨Y, c2, e1, hc2, hy⟩ := read_own (W := w2) hr1.own (bC_one bs); subst e1)
              | (go_at_call 19; refine (mask_calls (bs := bs) HKEY.out (show BytR _ Y bs from ⟨by have := hy.len; simpa using this, hy.one, hy.read⟩) HBY.out hp hm (by omega)).mono ?_; rintro e' w3 ⟨v, rfl, hq3⟩))
          have HF3 : Aside0 (Fr (fun _ => False) w w3) := ⟨(HF1.out.trans hr1.fr (fun _ _ h => h)).trans (RowG.fr hq3) (fun _ _ h => h)⟩
          have HC3 : Aside0 (w3.cell? ⟨KB, 0, none⟩ = some (.int .u8 (a : Int)) ∧ w3.cell? ⟨KB, 1, none⟩ = some (.int .u8 (b : Int)) ∧ w3.cell? ⟨KB, 2, none⟩ = some (.int .u8 (d : Int)) ∧ w3.cell? ⟨KB, 3, none⟩ = some (.int .u8 (e : Int))) := ⟨four (hr1.fr.trans (RowG.fr hq3) (fun _ _ h => h)) HC1.out⟩
          obtain ⟨Z, c3, e3, hc3, hz⟩ := ByRow.read hq3
          have hlen := mk_len [a, b, d, e] bs p
          have HZ := Aside0.mk hz
          have HM2 : Aside0 (mk [a, b, d, e] p (mk [a, b, d, e] p bs) = bs) := ⟨mk_twice _ _ _⟩
          have HMB : Aside0 (Byt (mk [a, b, d, e] p bs)) := ⟨mk_byt HKEY.out.byt _ _ HBY.out⟩
          have HMS : Aside0 (∀ ms, ms = mk [a, b, d, e] p bs → ms.length ≤ 400) := ⟨fun ms h => by rw [h, hlen]; omega⟩
          obtain ⟨ms, hms⟩ : ∃ ms, ms = mk [a, b, d, e] p bs := ⟨_, rfl⟩
          have hms4 := HMS.out ms hms
          have HMM := Aside0.mk hms
          rw [← hms] at e3 HZ HM2 HMB hc3
          clear hr1 hg1 ha1 hq3 hz hy hc2 hms hlen HMS
          subst e3
          obtain ⟨f0, f1, f2, f3⟩ := HC3.out
          go_wp2_with fail
          have HMA := Aside0.mk (masked_calls (c := c) (p := p) HKEY.out (HR.out.fr HF3.out (fun _ _ h => h)) HBY.out hm hp)
          rw [← HMM.out] at HMA
          refine HMA.out.mono ?_
          rintro e' w4 ⟨v, rfl, h4⟩
          have HF4 : Aside0 (Fr (fun _ => False) w w4) := ⟨HF3.out.trans (RowG.fr h4) (fun _ _ h => h)⟩
          have HZ4 : Aside0 (BytR w4 Z ms) := ⟨HZ.out.fr (RowG.fr h4) (fun _ _ h => h)⟩
          have HC4 : Aside0 (w4.cell? ⟨KB, 0, none⟩ = some (.int .u8 (a : Int)) ∧ w4.cell? ⟨KB, 1, none⟩ = some (.int .u8 (b : Int)) ∧ w4.cell? ⟨KB, 2, none⟩ = some (.int .u8 (d : Int)) ∧ w4.cell? ⟨KB, 3, none⟩ = some (.int .u8 (e : Int))) := ⟨four (RowG.fr h4) HC3.out⟩
          obtain ⟨Q, c4, e4, -, hq⟩ := ByRow.read h4
          have HQ := Aside0.mk hq
          clear h4 hq HMA HZ f0 f1 f2 f3 HC3
          subst e4
          go_wp2_with fail
          refine (same_calls HZ4.out HQ.out (by unfold maxLen; omega) (by unfold maxLen; omega)).mono ?_
          rintro e' w5 ⟨rfl, hf⟩
          rw [decide_eq_true (rfl : ms = ms)]
          have HF5 := Aside0.mk (HF4.out.trans hf (fun _ _ h => h))
          have HZ5 : Aside0 (BytR w5 Z ms) := ⟨HZ4.out.fr hf (fun _ _ h => h)⟩
          have HC5 := Aside0.mk (four hf HC4.out)
          clear hf HQ HZ4 HC4 HF4 HF3
          go_wp2_with fail
          refine (mask_calls (a := 1) (b := 2) (d := 3) (e := 4) (p := 0) (bs := [0, 0]) ⟨rfl, by unfold Byt; decide⟩ (read_newG (us := bC [0, 0]) rfl (bC_one [0, 0])) (by unfold Byt; decide) (by omega) (by decide) rfl).mono ?_
          rintro e' w6 ⟨v, rfl, h6⟩
          have HF6 : Aside0 (Fr (fun _ => False) w5 w6) := ⟨((Fr.refl (fun _ => False) w5).alloc _).trans (RowG.fr h6) (fun _ _ h => h)⟩
          obtain ⟨Q6, c6, e6, -, hq6⟩ := ByRow.read h6
          have HQ6 : Aside0 (BytR w6 Q6 [1, 2]) := ⟨hq6⟩
          clear h6 hq6
          have e7 : v = .slice Q6 2 c6 := e6
          clear e6
          subst e7
          go_wp2_with fail
          refine (same_calls (bs := [1, 2]) (cs := [1, 2]) (HQ6.out.fr ((Fr.refl (fun _ => False) w6).alloc _) (fun _ _ h => h)) (read_newG (us := bC [1, 2]) rfl (bC_one [1, 2])) (by decide) (by decide)).mono ?_
          rintro e' w7 ⟨rfl, hf⟩
          rw [decide_eq_true (rfl : ([1, 2] : List Nat) = [1, 2])]
          have HFA : Aside0 (Fr (fun _ => False) w5 w7) := ⟨(HF6.out.trans ((Fr.refl (fun _ => False) w6).alloc _) (fun _ _ h => h)).trans hf (fun _ _ h => h)⟩
          have HF7 := Aside0.mk (HF5.out.trans HFA.out (fun _ _ h => h))
          have HZ7 : Aside0 (∀ W, Fr (fun _ => False) w7 W → BytR W Z ms) := ⟨fun W hf => (HZ5.out.fr HFA.out (fun _ _ h => h)).fr hf (fun _ _ h => h)⟩
          have HC7 := Aside0.mk (four HFA.out HC5.out)
          clear hf HQ6 HF6 HF5 HZ5 HC5 HFA
          have HR7 : Aside0 (∀ W, Fr (fun _ => False) w7 W → BytR W X bs) := ⟨fun W hf => HR.out.fr (HF7.out.trans hf (fun _ _ h => h)) (fun _ _ h => h)⟩
          go_upto_region 8 with (fail)
          go_region_held3 (fun w' => w'.cell? ⟨KB, 0, none⟩ = some (.int .u8 (a : Int)) ∧ w'.cell? ⟨KB, 1, none⟩ = some (.int .u8 (b : Int)) ∧ w'.cell? ⟨KB, 2, none⟩ = some (.int .u8 (d : Int)) ∧ w'.cell? ⟨KB, 3, none⟩ = some (.int .u8 (e : Int)))
            (first | exact four (Fr.refl _ _).drew HC7.out | exact four ((Fr.refl _ _).alloc _).drew HC7.out | exact four hr8.fr HC7.out | exact four (hr8.fr.trans (RowG.fr hq9) (fun _ _ h => h)) HC7.out | exact four ((hr8.fr.trans (RowG.fr hq9) (fun _ _ h => h)).trans hf10 (fun _ _ h => h)) HC7.out | go_keep)
            (first
              | (refine step_rowG K5.out (by rfl) (.tmp 45) (.tmp 46) (by rfl) (w2 := w7) (n := 0) (xs := []) (m := ms.length) (ys := bC ms) (by rfl) row_g1 (by rfl) (HZ7.out _) (by omega) ?_; intro v8 w8 hr8 hg8 ha8; obtain ⟨Y, c8, e8, hc8, hy8⟩ := read_own (W := w8) hr8.own (bC_one ms); subst e8)
              | (go_at_call 19; refine (mask_calls (bs := ms) HKEY.out (show BytR _ Y ms from ⟨by have := hy8.len; simpa using this, hy8.one, hy8.read⟩) HMB.out hp (by omega) (by omega)).mono ?_; rintro e' w9 ⟨v, rfl, hq9⟩; rw [HM2.out] at hq9; obtain ⟨Q9, c9, e9, -, hr9⟩ := ByRow.read hq9; subst e9)
              | (go_at_call 20; refine (same_calls (bs := bs) (cs := bs) hr9 (HR7.out _ (hr8.fr.trans (RowG.fr hq9) (fun _ _ h => h))) (by unfold maxLen; omega) (by unfold maxLen; omega)).mono ?_; rintro e' w10 ⟨rfl, hf10⟩))
          have HF10 : Aside0 (Fr (fun _ => False) w w10) := ⟨((HF7.out.trans hr8.fr (fun _ _ h => h)).trans (RowG.fr hq9) (fun _ _ h => h)).trans hf10 (fun _ _ h => h)⟩
          clear hr8 hg8 ha8 hq9 hr9 hf10
          go_wp2
          go_ret
          exact ⟨rfl, HF10.out⟩
end Go.Proofs.Ytpgjcelglimpcaa.Mk
