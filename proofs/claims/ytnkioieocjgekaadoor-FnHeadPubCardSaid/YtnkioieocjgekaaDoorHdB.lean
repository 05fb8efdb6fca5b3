/- server.parseSize, by hand. -/
import Derived.Test.YtnkioieocjgekaaDoorHdA
import Derived.WalkMore
import Derived.ScopeJumps
namespace Go.Proofs.YtnkioieocjgekaaDoor.Hd
open Go.RowKit Go.Proofs.YtnkioieocjgekaaDoorW.PrintWords Go.Proofs.YtnkioieocjgekaaDoorW.PrintLast Go.Proofs.YtnkioieocjgekaaDoorW.PrintMore
set_option linter.unusedVariables false
set_option linter.unusedSimpArgs false

theorem cell_of {w w' : World} {ad : Addr} {l : List Int} {n : Nat} (hR : Kd.C (Kd.int .u8) w (some ad) n l) (hB : Below w.heap.size w w') {i : Nat} {x : Int} (hx : l[i]? = some x) : w'.cell? (ad.add i) = some (.int .u8 x) := by
  have hi := (List.getElem?_eq_some_iff.1 hx).1
  obtain rfl : l.length = n := hR.1
  obtain ⟨ad', e, hc⟩ := Kd.at_int (Kd.C_below hR hB) (i : Int) (by omega) (by omega)
  injection e with e
  subst e
  rw [Int.toNat_natCast] at hc
  rw [hc]
  simp [rd, List.getD_eq_getElem?_getD, hx]
/-- Where a round of parseSize stands. -/
structure Ps (l : List Int) (n : Nat) (acc : Int) (i : Nat) : Prop where
  lt : i < n
  len : n = l.length
  nine : n ≤ 9
  dig : dig (l.drop i) acc = psz l
  lo : 0 ≤ acc
  hi : acc < 10 ^ i
  bytes : ∀ x ∈ l, 0 ≤ x ∧ x < 256
theorem Ps.bad {l : List Int} {n i : Nat} {acc x : Int} (h : Ps l n acc i) (hx : l[i]? = some x) (hb : x < 48 ∨ 57 < x) : psz l = -1 := by
  obtain ⟨hi, he⟩ := List.getElem?_eq_some_iff.1 hx
  rw [← h.dig, List.drop_eq_getElem_cons hi, he, Hd.dig, if_pos hb]
theorem Ps.step {l : List Int} {n i : Nat} {acc x : Int} (h : Ps l n acc i) (hx : l[i]? = some x) (hb : ¬ (x < 48 ∨ 57 < x)) : (i + 1 < n → Ps l n (acc * 10 + (x - 48)) (i + 1)) ∧ (n ≤ i + 1 → psz l = acc * 10 + (x - 48)) := by
  obtain ⟨hi, he⟩ := List.getElem?_eq_some_iff.1 hx
  have hd : Hd.dig (l.drop (i + 1)) (acc * 10 + (x - 48)) = psz l := by
    rw [← h.dig, List.drop_eq_getElem_cons hi, he, Hd.dig, if_neg hb, Int.mul_comm]
  have h1 := h.lo
  have h2 := h.hi
  refine ⟨fun hlt => ⟨hlt, h.len, h.nine, hd, by omega, ?_, h.bytes⟩, fun hle => ?_⟩
  · rw [Int.pow_succ]
    omega
  · rw [List.drop_eq_nil_of_le (by have := h.len; omega), Hd.dig] at hd
    exact hd.symm
theorem Ps.small {l : List Int} {n i : Nat} {acc : Int} (h : Ps l n acc i) : acc ≤ 10000000000 := by
  have h1 := h.hi
  have h2 : (10 : Int) ^ i ≤ 10 ^ 10 := by
    have := Nat.pow_le_pow_right (n := 10) (by omega) (show i ≤ 10 by have := h.lt; have := h.nine; omega)
    have h3 : ((10 ^ i : Nat) : Int) ≤ ((10 ^ 10 : Nat) : Int) := Int.ofNat_le.2 this
    simpa using h3
  have h4 : (10 : Int) ^ 10 = 10000000000 := by decide
  omega
set_option maxHeartbeats 8000000 in
set_option maxRecDepth 100000 in
theorem psz_calls {w : World} {X : Option Addr} {n c : Nat} {l : List Int} (hR : Kd.C (Kd.int .u8) w X n l) (hc : n ≤ c) (hl : n ≤ 1000000) (hby : ∀ x ∈ l, 0 ≤ x ∧ x < 256) :
    Calls Tryd.prog 32 #[.slice X n c] w fun e w' => e = .returned (.int .i64 (psz l)) ∧ w = w' := by
  have hn : l.length = n := hR.1
  by_cases h0 : n = 0 ∨ 9 < n
  · have HP : Aside0 (psz l = -1) := ⟨by unfold psz; rw [if_pos (by omega)]⟩
    have h1 : ((n : Int) == 0) = true ∧ (n == 0) = true ∨ (((n : Int) == 0) = false ∧ (n == 0) = false ∧ (9 : Int) < (n : Int)) := by
      rcases h0 with h | h
      · exact .inl ⟨beq_iff_eq.2 (by omega), beq_iff_eq.2 h⟩
      · exact .inr ⟨beq_eq_false_iff_ne.2 (by omega), beq_eq_false_iff_ne.2 (by omega), by omega⟩
    clear h0 hR hc hby hn
    rcases h1 with ⟨h1, h2⟩ | ⟨h1, h2, h3⟩
    all_goals
      go_enter Tryd.func32, Tryd.ntmps32
      go_wp2
      go_step3
      go_wp2
      rw [Exit.noGoto_ret]
      go_ret
      exact ⟨by rw [HP.out]; rfl, rfl⟩
  · have h1 : ((n : Int) == 0) = false := beq_eq_false_iff_ne.2 (by omega)
    have h2 : (n == 0) = false := beq_eq_false_iff_ne.2 (by omega)
    have h3 : (n : Int) ≤ 9 := by omega
    obtain ⟨ad, rfl⟩ : ∃ ad, X = some ad := by
      obtain ⟨ad, e, -⟩ := hR.2.2 (by omega)
      exact ⟨ad, e⟩
    have HR := Aside0.mk hR
    have HQ : Aside0 (Ps l n 0 0) := ⟨⟨by omega, hn.symm, by omega, by unfold psz; rw [if_neg (by omega)]; rfl, by omega, by omega, hby⟩⟩
    clear h0 hR hby hn
    go_enter Tryd.func32, Tryd.ntmps32
    go_wp2
    refine wp_scope_jumps 0 (fun a' w' => w = w' ∧ ∃ (acc : Int) (i : Nat) (u5 u6 u7 u8 u9 u10 u11 u12 u13 u14 u15 u16 u17 u18 u19 u20 u21 u22 u23 u24 u25 u26 u27 u28 u29 u30 u31 u32 u33 u34 u35 : Value), a' = { tmps := #[.slice (some ad) n c, undef, .int .i64 acc, .int .i64 n, .int .i64 i, u5, u6, u7, u8, u9, u10, u11, u12, u13, u14, u15, u16, u17, u18, u19, u20, u21, u22, u23, u24, u25, u26, u27, u28, u29, u30, u31, u32, u33, u34, u35], defers := [] } ∧ Aside0 (Ps l n acc i)) (fun a' _ => n - (intOf (a'.tmps.getD 4 undef)).toNat) rfl ?_ ?_
    · go_wp2
      go_step3
      have hlt : 0 < n := HQ.out.lt
      obtain ⟨x, hx⟩ : ∃ x, l[0]? = some x := ⟨_, List.getElem?_eq_getElem (by have := HQ.out.len; omega)⟩
      have hcell := cell_of HR.out (Below.refl _ _) hx
      rw [show ad.add 0 = ad from by unfold Addr.add; rw [if_pos rfl]] at hcell
      have hxb := HQ.out.bytes x (List.mem_of_getElem? hx)
      have x0 : 0 ≤ x := hxb.1
      have x1 : x < 256 := hxb.2
      have a0 : 0 ≤ (0 : Int) := HQ.out.lo
      have a1 : (0 : Int) ≤ 10000000000 := HQ.out.small
      have i0 : (0 : Int) ≤ ((0 : Nat) : Int) := by omega
      have i1 : ((0 : Nat) : Int) < (n : Int) := by omega
      by_cases hb1 : x < 48
      · have HE := Aside0.mk (HQ.out.bad hx (.inl hb1))
        clear hx hxb
        go_wp2
        simp only [Exit.jump]
        go_ret
        exact ⟨by rw [HE.out]; rfl, rfl⟩
      by_cases hb2 : 57 < x
      · have HE := Aside0.mk (HQ.out.bad hx (.inr hb2))
        clear hx hxb
        go_wp2
        simp only [Exit.jump]
        go_ret
        exact ⟨by rw [HE.out]; rfl, rfl⟩
      have HS := Aside0.mk (HQ.out.step hx (by omega))
      clear hx hxb
      by_cases hmore : 0 + 1 < n
      · have j1 : ((0 : Nat) : Int) + 1 < (n : Int) := by omega
        go_wp2
        go_step3
        refine ⟨rfl, rfl, x - 48, 1, _, _, _, _, _, _, _, _, _, _, _, _, _, _, _, _, _, _, _, _, _, _, _, _, _, _, _, _, _, _, _, rfl, ⟨?_⟩⟩
        have := HS.out.1 hmore
        rw [Int.zero_mul, Int.zero_add] at this
        exact this
      · have j1 : ¬ (((0 : Nat) : Int) + 1 < (n : Int)) := by omega
        have HE := Aside0.mk (HS.out.2 (by omega))
        go_wp2
        simp only [Exit.jump]
        go_ret
        exact ⟨by rw [HE.out]; rw [Int.zero_mul, Int.zero_add]; rfl, rfl⟩
    · intro a1 w1 h
      obtain ⟨rfl, acc, i, u5, u6, u7, u8, u9, u10, u11, u12, u13, u14, u15, u16, u17, u18, u19, u20, u21, u22, u23, u24, u25, u26, u27, u28, u29, u30, u31, u32, u33, u34, u35, rfl, HQ⟩ := h
      have hlt : i < n := HQ.out.lt
      obtain ⟨x, hx⟩ : ∃ x, l[i]? = some x := ⟨_, List.getElem?_eq_getElem (by have := HQ.out.len; omega)⟩
      have hcell := cell_of HR.out (Below.refl _ _) hx
      have hxb := HQ.out.bytes x (List.mem_of_getElem? hx)
      have x0 : 0 ≤ x := hxb.1
      have x1 : x < 256 := hxb.2
      have a0 : 0 ≤ acc := HQ.out.lo
      have a1 : acc ≤ 10000000000 := HQ.out.small
      have i0 : (0 : Int) ≤ ((i : Nat) : Int) := by omega
      have i1 : ((i : Nat) : Int) < (n : Int) := by omega
      by_cases hb1 : x < 48
      · have HE := Aside0.mk (HQ.out.bad hx (.inl hb1))
        clear hx hxb
        go_wp2
        simp only [Exit.jump]
        go_ret
        exact ⟨by rw [HE.out]; rfl, rfl⟩
      by_cases hb2 : 57 < x
      · have HE := Aside0.mk (HQ.out.bad hx (.inr hb2))
        clear hx hxb
        go_wp2
        simp only [Exit.jump]
        go_ret
        exact ⟨by rw [HE.out]; rfl, rfl⟩
      have HS := Aside0.mk (HQ.out.step hx (by omega))
      clear hx hxb
      by_cases hmore : i + 1 < n
      · have j1 : ((i : Nat) : Int) + 1 < (n : Int) := by omega
        go_wp2
        go_step3
        refine ⟨rfl, ⟨rfl, acc * 10 + (x - 48), i + 1, _, _, _, _, _, _, _, _, _, _, _, _, _, _, _, _, _, _, _, _, _, _, _, _, _, _, _, _, _, _, _, rfl, ⟨HS.out.1 hmore⟩⟩, ?_⟩
        simp [intOf]
        omega
      · have j1 : ¬ (((i : Nat) : Int) + 1 < (n : Int)) := by omega
        have HE := Aside0.mk (HS.out.2 (by omega))
        go_wp2
        simp only [Exit.jump]
        go_ret
        exact ⟨by rw [HE.out]; rfl, rfl⟩
end Go.Proofs.YtnkioieocjgekaaDoor.Hd
