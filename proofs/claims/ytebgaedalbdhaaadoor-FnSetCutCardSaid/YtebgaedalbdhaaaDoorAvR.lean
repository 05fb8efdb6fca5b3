/- Taking a bit away; turning a node about. -/
import Derived.Test.YtebgaedalbdhaaaDoorAvN
namespace Go.Proofs.YtebgaedalbdhaaaDoor.Av
open Go.RowKit Go.Proofs.YtebgaedalbdhaaaDoorW.PrintWords Go.Proofs.YtebgaedalbdhaaaDoorW.PrintLast Go.Proofs.YtebgaedalbdhaaaDoorW.PrintMore
set_option linter.unusedVariables false
set_option linter.unusedSimpArgs false

theorem all_upto {s : List Int} (hs : s.length = 32) : (∀ j, j < 32 → s.getD j 0 = 0) ↔ s.all (· == 0) = true := by
  rw [List.all_eq_true]
  constructor
  · intro h v hv
    obtain ⟨j, hj, rfl⟩ := List.getElem_of_mem hv
    have := h j (by omega)
    rw [List.getD_eq_getElem?_getD, List.getElem?_eq_getElem hj] at this
    simpa using this
  · intro h j hj
    rw [List.getD_eq_getElem?_getD, List.getElem?_eq_getElem (by omega)]
    have := h s[j] (List.getElem_mem _)
    simpa using this
theorem bclr_len (s : List Int) (o : Nat) : (bclr s o).length = s.length := by simp [bclr]
theorem bset_len (s : List Int) (o : Nat) : (bset s o).length = s.length := by simp [bset]
theorem bclr_word {s : List Int} (hs : s.length = 32) {o : Nat} (ho : o / 64 < 32) : (bclr s o).getD (o / 64) 0 = bits .andNot .u64 (s[o / 64]?.getD 0) (IntKind.u64.wrap (2 ^ (o % 64))) := by
  rw [bclr, List.getD_eq_getElem?_getD, List.getElem?_set_self (by omega)]
  rfl

set_option maxHeartbeats 1000000 in
set_option maxRecDepth 100000 in
theorem clear_put {w : World} {b g : Nat} {x : Int} {s : List Int} {l r root : Option Nat} {h q sz nd : Int} {ch : Bool} (n : NodeAt w b x s l r h) (n2 : SetAt w g root sz nd ch) (hbg : b ≠ g) (hx : 0 ≤ x) (h1 : x ≤ q) (h2 : q < x + 2048) (h3 : q < 18446744073709551616) :
    Calls Tryd.prog 73 #[.pointer (some ⟨b, 0, none⟩), .int .u64 q, .pointer (some ⟨g, 3, none⟩)] w fun e w' => e = .returned (.bool (bget s (q - x).toNat && (bclr s (q - x).toNat).all (· == 0))) ∧
      NodePut w w' b g x (if bget s (q - x).toNat then bclr s (q - x).toNat else s) l r h root sz nd (ch || bget s (q - x).toNat) := by
  have N := Aside0.mk n
  have N2 := Aside0.mk n2
  have f0 := n.c0
  obtain ⟨o, rfl⟩ : ∃ o : Nat, q = x + o := ⟨(q - x).toNat, by omega⟩
  have f1 := n.cbit (o / 64) (by omega)
  have z1 := n.free (1 + o / 64)
  have f3 := n2.c3
  have z3 := n2.free 3
  clear n n2
  have e3 : IntKind.u64.wrap (x + (o : Int) - x) = o := by rw [IntKind.wrap_u64]; omega
  have e4 : (x + (o : Int) - x).toNat = o := by omega
  rw [e4]
  clear e4
  have b1 : (0 : Int) ≤ (o : Int) / 64 := by omega
  have b2 : (o : Int) / 64 < 32 := by omega
  have ho : o / 64 < 32 := by omega
  have hgb : g ≠ b := Ne.symm hbg
  by_cases hb : bget s o = true
  · rw [if_pos hb, hb, Bool.true_and, Bool.or_true]
    have d1 : (bits .and .u64 (s[o / 64]?.getD 0) (IntKind.u64.wrap (2 ^ (o % 64))) == 0) = false := by simpa [bget] using hb
    have hS := N.out.len
    have hW := Aside0.mk (bclr_word hS ho)
    have hL : (bclr s o).length = 32 := by rw [bclr_len, hS]
    have HL := Aside0.mk hL
    clear hb hS hL
    have e5 : ((o : Int) / 64).toNat = o / 64 := by omega
    go_enter Tryd.func73, Tryd.ntmps73
    go_wp2
    refine region_tail 11 (by kernel_rfl) (by kernel_rfl) (fun wd hwd => ?_)
    have f1d : wd.cell? ⟨b, 1 + o / 64, none⟩ = some (.int .u64 (s.getD (o / 64) 0)) := by rw [hwd.out]; exact f1
    have z1d : wd.frozen? ⟨b, 1 + o / 64, none⟩ = false := by rw [hwd.out]; exact z1
    have f3d : wd.cell? ⟨g, 3, none⟩ = some (.bool ch) := by rw [hwd.out]; exact f3
    have z3d : wd.frozen? ⟨g, 3, none⟩ = false := by rw [hwd.out]; exact z3
    simp only [List.take_succ_cons, List.take_zero, List.drop_succ_cons, List.drop_zero]
    repeat still_step
    refine wpStill_nil ?_
    have P2 : NodePut w ((wd.setCell ⟨b, 1 + o / 64, none⟩ (.int .u64 (bits .andNot .u64 (s[o / 64]?.getD 0) (IntKind.u64.wrap (2 ^ (o % 64)))))).setCell ⟨g, 3, none⟩ (.bool true)) b g x (bclr s o) l r h root sz nd true := by
      rw [hwd.out]
      exact ⟨((N.out.drew).setBit _ ho _).far hbg _, ((N2.out.move (w1 := w.drew) rfl).far (Ne.symm hbg) _).set3 _, ((Fr.refl _ _).drew.set (.inl (.inl rfl)) _).set (.inl (.inr rfl)) _, by rw [setCell_size, setCell_size]; rfl⟩
    have P2 := Aside0.mk P2
    clear f1 z1 f3 z3
    go_upto_region 8 with (fail)
    generalize (wd.setCell _ _).setCell _ _ = w2 at *
    clear f1d z1d f3d z3d hwd
    have g1 := P2.out.node.cbit (o / 64) ho
    rw [hW.out] at g1
    have hI : ∀ k : Nat, k < 32 → (0 : Int) ≤ (k : Int) ∧ (k : Int) < 32 := fun k hk => by omega
    by_cases hz : bits .andNot .u64 (s[o / 64]?.getD 0) (IntKind.u64.wrap (2 ^ (o % 64))) = 0
    · have d2 : (bits .andNot .u64 (s[o / 64]?.getD 0) (IntKind.u64.wrap (2 ^ (o % 64))) != 0) = false := by simpa using hz
      clear hz hI
      have HA := Aside0.mk (index76 HL.out)
      go_upto_block 0 with (refine wpList_load_mid rfl 76 (.tmp 53) rfl b 1 rfl _ _ P2.out.node.rowAt Tryd.underlying76 rfl P2.out.node.len76 ?_)
      obtain ⟨A, hA⟩ : ∃ A, A = ((bclr s o).map (Value.int .u64)).toArray := ⟨_, rfl⟩
      rw [← hA] at HA ⊢
      clear hA
      go_wp2
      go_loop [55] (fun i => ∃ k : Nat, k ≤ 32 ∧ i = .int .i64 k ∧ Aside0 (∀ j, j < k → (bclr s o).getD j 0 = 0)) (fun i => 32 - (intOf i).toNat)
      case atStart => exact ⟨0, by omega, rfl, ⟨fun j hj => by omega⟩⟩
      case round =>
        obtain ⟨k, hk, rfl, hall⟩ := hrel
        by_cases hlt : k < 32
        · have hix := HA.out k hlt
          by_cases hw : (bclr s o).getD k 0 = 0
          · have HW := Aside0.mk hw
            rw [hw] at hix
            clear hw
            go_wp2_with (refine wpList_index rfl 76 (.tmp 54) (.tmp 55) rfl rfl rfl hix ?_)
            go_round
            case rel => exact ⟨k + 1, by omega, by go_num, ⟨fun j hj => by
              by_cases e : j = k
              · subst e; exact HW.out
              · exact hall.out j (by omega)⟩⟩
            case measure => simp [intOf]; omega
          · have hfalse : (bclr s o).all (· == 0) = false := by
              cases hc : (bclr s o).all (· == 0)
              · rfl
              · exact absurd ((all_upto HL.out).2 hc k hlt) hw
            have HF := Aside0.mk hfalse
            have d3 : ((bclr s o).getD k 0 != 0) = true := by simpa using hw
            rw [List.getD_eq_getElem?_getD] at hix d3
            clear hfalse hw
            go_wp2_with (refine wpList_index rfl 76 (.tmp 54) (.tmp 55) rfl rfl rfl hix ?_)
            go_ret
            exact ⟨by rw [HF.out]; rfl, P2.out⟩
        · obtain rfl : k = 32 := by omega
          have htrue : (bclr s o).all (· == 0) = true := (all_upto HL.out).1 hall.out
          have HT := Aside0.mk htrue
          clear htrue
          go_wp2
          go_ret
          exact ⟨by rw [HT.out]; rfl, P2.out⟩
    · have d2 : (bits .andNot .u64 (s[o / 64]?.getD 0) (IntKind.u64.wrap (2 ^ (o % 64))) != 0) = true := by simpa using hz
      have hfalse : (bclr s o).all (· == 0) = false := by
        cases hc : (bclr s o).all (· == 0)
        · rfl
        · have h := (all_upto HL.out).2 hc (o / 64) ho
          rw [hW.out] at h
          exact absurd h hz
      have HF := Aside0.mk hfalse
      clear hz hI hfalse
      go_wp2
      go_ret
      exact ⟨by rw [HF.out]; rfl, P2.out⟩
  · rw [if_neg hb]
    have hb' : bget s o = false := by simpa using hb
    rw [hb', Bool.false_and, Bool.or_false]
    have d1 : (bits .and .u64 (s[o / 64]?.getD 0) (IntKind.u64.wrap (2 ^ (o % 64))) == 0) = true := by simpa [bget] using hb
    clear hb hb'
    go_enter Tryd.func73, Tryd.ntmps73
    go_wp2
    go_ret
    exact ⟨rfl, N.out, N2.out, Fr.refl _ _, rfl⟩
end Go.Proofs.YtebgaedalbdhaaaDoor.Av
