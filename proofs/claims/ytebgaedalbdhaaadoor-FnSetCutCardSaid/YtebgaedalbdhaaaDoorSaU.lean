/- Bytes that are too few: impl.copied, impl.SetDecode; the law FnSetCut. -/
import Derived.Test.YtebgaedalbdhaaaDoorSaT
namespace Go.Proofs.YtebgaedalbdhaaaDoor.Av
open Go.RowKit Go.Proofs.YtebgaedalbdhaaaDoorW.PrintWords Go.Proofs.YtebgaedalbdhaaaDoorW.PrintLast Go.Proofs.YtebgaedalbdhaaaDoorW.PrintMore
set_option linter.unusedVariables false
set_option linter.unusedSimpArgs false

theorem elem5 : ∃ i, ElemK Tryd.prog 48 5 i (.int .u8 0) 1 1 := elem_of (by kernel_rfl) info5 (by kernel_rfl) (by omega) (by omega)
def CopPost (w : World) (n : Nat) (ys : List Value) (e : Ending) (w' : World) : Prop := ∃ v, e = .returned v ∧ RowG w w' 5 1 v n ys
set_option maxHeartbeats 4000000 in
set_option maxRecDepth 100000 in
theorem copied_calls {w : World} {X : Option Addr} {n c : Nat} {ys : List Value} (hR : ReadG w X n 1 ys) (hn : n ≤ 1000000) :
    Calls Tryd.prog 42 #[.slice X n c] w (CopPost w n ys) := by
  obtain ⟨i0, hK⟩ := elem5
  have K5 := Aside0.mk hK
  have HR : Aside0 (∀ W, Fr (fun _ => False) w W → ReadG W X n 1 ys) := ⟨fun W hf => hR.fr hf (fun _ _ h => h)⟩
  clear hR hK
  go_enter Tryd.func42, Tryd.ntmps42
  go_wp2_with (refine wpList_rowG K5.out rfl (.tmp 3) (.tmp 4) rfl (w2 := w) (n := 0) (xs := []) (m := n) (ys := ys) rfl (row_g0 (Fr.refl _ _)) rfl (HR.out _) (by omega) (fun v1 w1 h1 _ _ => ?_))
  have H1 := Aside0.mk h1
  clear h1
  go_wp2
  go_ret
  refine ⟨_, rfl, ?_⟩
  have := H1.out
  rw [Nat.zero_add, List.nil_append] at this
  exact this
def SDecPost (w : World) (e : Ending) (w' : World) : Prop := e = .returned (.tuple #[.slice none 0 0, .int .i64 0, .int .i64 1]) ∧ Fr (fun _ => False) w w'
set_option maxHeartbeats 8000000 in
set_option maxRecDepth 100000 in
theorem setDecode_bad {w : World} {G N n c m z : Nat} {ty : TypeId} {a : Option Addr} (h : Buf w G N ([.int .u8 22, .int .u8 2] ++ le4 m ++ le4 z)) (hn : n ≤ N) (hs : n < 10 + 266 * m) (hm : m < 65536) (hz : z < 65536) (hN : N ≤ 1000000) (hG : w.cell? ⟨2, 0, none⟩ = some (.iface ty (.pointer a))) :
    Calls Tryd.prog 27 #[.slice (some ⟨G, 0, none⟩) n c] w (SDecPost w) := by
  obtain ⟨xs, hb, hl, ht, ho⟩ := h.row
  have hR : ReadG w (some ⟨G, 0, none⟩) n 1 (xs.take n) := ⟨by rw [List.length_take]; omega, fun u hu => ho u (List.mem_of_mem_take hu), fun h0 => ⟨_, rfl, fun j u hu => by
    rw [List.getElem?_take] at hu
    split at hu
    · have e : (⟨G, 0, none⟩ : Addr).add j = ⟨G, j, none⟩ := by
        unfold Addr.add
        split
        · subst_vars; rfl
        · simp
      rw [e, cell_at hb]
      exact hu
    · cases hu⟩⟩
  have HR := Aside0.mk hR
  have HG := Aside0.mk hG
  have HXT : Aside0 (10 ≤ n → (xs.take n).take 10 = [.int .u8 22, .int .u8 2] ++ le4 m ++ le4 z) := ⟨fun h10 => by
    rw [List.take_take, Nat.min_eq_left h10]
    have hl10 : ([.int .u8 22, .int .u8 2] ++ le4 m ++ le4 z : List Value).length = 10 := rfl
    rw [hl10] at ht
    exact ht⟩
  have hn2 : n ≤ 1000000 := by omega
  clear h hb hl ht ho hR hG
  generalize xs.take n = ys at *
  clear xs
  go_enter Tryd.func27, Tryd.ntmps27
  go_wp2_with fail
  refine (copied_calls HR.out hn2).mono ?_
  rintro e w1 ⟨v, rfl, hr⟩
  have HF1 := Aside0.mk hr.fr
  have HG1 : Aside0 (w1.cell? ⟨2, 0, none⟩ = some (.iface ty (.pointer a))) := ⟨(World.cell?_of_block (HF1.out.block 2 (World.block_lt_of_cell? w _ HG.out) (fun h => h))).trans HG.out⟩
  have DEC : ∃ X c', v = .slice X n c' ∧ Calls Tryd.prog 41 #[.slice X n c'] w1 (BadPost w1 ty a) := by
    by_cases h10 : n < 10
    · obtain ⟨X, c', e, -, -⟩ := read_own (W := w1) hr.own HR.out.one
      exact ⟨X, c', e, dec_short h10 HG1.out⟩
    · rcases hr.own.2 with ⟨-, h0⟩ | ⟨g, cap, cur, e, hb, hg, k1, k2, k3, k4⟩
      · omega
      · refine ⟨_, cap, e, dec_bad (m := m) (z := z) ?_ (by omega) k1 (by omega) (by omega) HG1.out⟩
        have hx := HXT.out (by omega)
        have cell : ∀ (j : Nat) u, ([.int .u8 22, .int .u8 2] ++ le4 m ++ le4 z : List Value)[j]? = some u → w1.cell? ⟨g, j, none⟩ = some u := fun j u hu => by
          rw [← hx] at hu
          rw [List.getElem?_take] at hu
          split at hu
          · have := hr.own.cells (show v.ownBlock = some g by rw [e]; rfl) j u hu
            have e : (⟨g, 0, none⟩ : Addr).add j = ⟨g, j, none⟩ := by
              unfold Addr.add
              split
              · subst_vars; rfl
              · simp
            rw [e] at this
            exact this
          · cases hu
        have em : ∀ q : Nat, ((q : Int) % 256) = ((q % 256 : Nat) : Int) := fun q => by omega
        have ed : ∀ q : Nat, ((q : Int) / 256) = ((q / 256 : Nat) : Int) := fun q => by omega
        exact ⟨hm, hz, cell 0 _ rfl, cell 1 _ rfl, by rw [← em]; exact cell 2 _ rfl, by rw [← ed]; exact cell 3 _ rfl, cell 4 _ rfl, cell 5 _ rfl, by rw [← em]; exact cell 6 _ rfl, by rw [← ed]; exact cell 7 _ rfl, cell 8 _ rfl, cell 9 _ rfl⟩
  obtain ⟨X, c', e1, hdec⟩ := DEC
  have HD := Aside0.mk hdec
  clear hr hdec HXT HR
  subst e1
  go_wp2_with fail
  refine HD.out.mono ?_
  rintro e w2 ⟨rfl, hf⟩
  have HF2 := Aside0.mk (HF1.out.trans hf (fun _ _ h => h))
  clear hf HD
  go_wp2
  refine bodyPost_ret (results_list (rs := [.tmp 2, .tmp 3, .tmp 4]) rfl (by simp) (.tmp (.tmp (.tmp .nil)))) rfl ?_
  exact ⟨rfl, HF2.out⟩
set_option maxHeartbeats 8000000 in
set_option maxRecDepth 100000 in
theorem cut_law (cut : Int) {w : World} {A : Option Addr} {acts : List Deed} {c : Nat} {ty : TypeId} {a : Option Addr} (hA : ActsR w A acts) (hp : ∀ a ∈ acts, 0 ≤ a.2) (hn : acts.length ≤ maxLen) (hq : (Lit.int .i64 cut).wf = true) (hT : TabAt w) (hG : w.cell? ⟨2, 0, none⟩ = some (.iface ty (.pointer a))) {ty2 : TypeId} {a2 : Option Addr} (_hG2 : w.cell? ⟨3, 0, none⟩ = some (.iface ty2 (.pointer a2))) :
    Calls Tryd.prog 11 #[.slice A acts.length c, .int .i64 cut] w fun e w' => e = .returned (.bool true) ∧ Fr (fun _ => False) w w' := by
  have HA := Aside0.mk hA
  have HP := Aside0.mk hp
  have HN := Aside0.mk hn
  have HT := Aside0.mk hT
  have HG := Aside0.mk hG
  clear hA hp hn hT hq hG
  by_cases hbig : 2147483647 < (acts.length : Int)
  · go_enter Tryd.func11, Tryd.ntmps11
    go_wp2
    go_ret
    exact ⟨rfl, Fr.refl _ _⟩
  · go_enter Tryd.func11, Tryd.ntmps11
    go_wp2_with fail
    refine (acts_calls HA.out HN.out).mono ?_
    rintro e w' ⟨rfl, hw⟩
    subst w'
    cases hok : actsOk acts with
    | false =>
      clear hok
      go_wp2_with fail
      refine (awake_calls HT.out).mono ?_
      rintro e w' ⟨rfl, hf⟩
      have HF := Aside0.mk hf
      clear hf
      go_wp2
      go_ret
      exact ⟨rfl, HF.out⟩
    | true =>
      have HOK := Aside0.mk (actsOk_deed hok HP.out)
      have hlen := ok_len hok
      clear hok
      go_wp2_with fail
      refine (setEncode_calls HA.out HOK.out (by omega)).mono ?_
      rintro e w1 ⟨G, k, m, z, rfl, hb, hk, hm, hf⟩
      have HB := Aside0.mk hb
      have HF1 := Aside0.mk hf
      have HK := Aside0.mk (And.intro hk hm)
      obtain ⟨L, hL⟩ : ∃ L, L = 10 + 266 * k := ⟨_, rfl⟩
      obtain ⟨M, hM⟩ : ∃ M, M = 10 + 266 * m := ⟨_, rfl⟩
      have HL : Aside0 (L ≤ M ∧ M ≤ 300000 ∧ L ≤ 10 + 266 * m) := ⟨by omega⟩
      have HM := Aside0.mk hM
      obtain ⟨V, hV⟩ : ∃ V : Int, V = 10 + (m : Int) * 266 := ⟨_, rfl⟩
      rw [← hL, ← hM, ← hV]
      rw [← hM] at HB
      clear hb hf hk hm hL hM hV
      dsimp only
      by_cases c0 : cut < 0
      · go_wp2_with fail
        refine (awake_calls (HT.out.fr HF1.out (fun h => h))).mono ?_
        rintro e w' ⟨rfl, hf⟩
        have HF := Aside0.mk (HF1.out.trans hf (fun _ _ h => h))
        clear hf
        go_wp2
        go_ret
        exact ⟨rfl, HF.out⟩
      · by_cases c1 : (L : Int) ≤ cut
        · go_wp2_with fail
          refine (awake_calls (HT.out.fr HF1.out (fun h => h))).mono ?_
          rintro e w' ⟨rfl, hf⟩
          have HF := Aside0.mk (HF1.out.trans hf (fun _ _ h => h))
          clear hf
          go_wp2
          go_ret
          exact ⟨rfl, HF.out⟩
        · obtain ⟨n, rfl⟩ : ∃ n : Nat, cut = (n : Int) := ⟨cut.toNat, by omega⟩
          have n0 : (n : Int) ≤ (M : Int) := by have := HL.out; omega
          have HNL : Aside0 (n < L) := ⟨by omega⟩
          have HG1 : Aside0 (w1.cell? ⟨2, 0, none⟩ = some (.iface ty (.pointer a))) := ⟨(World.cell?_of_block (HF1.out.block 2 (World.block_lt_of_cell? w _ HG.out) (fun h => h))).trans HG.out⟩
          go_wp2_with fail
          refine (setDecode_bad (z := z) HB.out (by omega) (by have := HL.out; have := HNL.out; omega) (by have := HK.out; omega) (by have := HK.out; omega) (by have := HL.out; omega) HG1.out).mono ?_
          rintro e w2 ⟨rfl, hf⟩
          have HF2 := Aside0.mk (HF1.out.trans hf (fun _ _ h => h))
          clear hf
          go_wp2_with fail
          refine (awake_calls (HT.out.fr HF2.out (fun h => h))).mono ?_
          rintro e w' ⟨rfl, hf⟩
          have HF := Aside0.mk (HF2.out.trans hf (fun _ _ h => h))
          clear hf
          go_wp2
          go_ret
          exact ⟨rfl, HF.out⟩
end Go.Proofs.YtebgaedalbdhaaaDoor.Av
