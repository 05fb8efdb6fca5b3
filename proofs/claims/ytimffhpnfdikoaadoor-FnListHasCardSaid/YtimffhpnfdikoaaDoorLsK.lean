/- A put into a list: the walk of Insert. -/
import Derived.Test.YtimffhpnfdikoaaDoorLsJ
import Derived.Test.YtimffhpnfdikoaaDoorGFnListKindsx1
import Derived.Deep.LoopGhost
import Derived.Deep.CutRange
namespace Go.Proofs.YtimffhpnfdikoaaDoor.Ls
open Go.RowKit Go.Maps Go.Proofs.YtimffhpnfdikoaaDoor.Bs Go.Proofs.YtimffhpnfdikoaaDoorW.PrintWords Go.Proofs.YtimffhpnfdikoaaDoorW.PrintLast Go.Proofs.YtimffhpnfdikoaaDoorW.PrintMore Go.Proofs.YtimffhpnfdikoaaDoor.GFnListKinds
set_option linter.unusedVariables false
set_option linter.unusedSimpArgs false
/-- A row of texts that lies in a block of its own. -/
structure Tok (w : World) (g : Nat) (T : Path) : Prop where
  blk : ∃ cur, w.heap[g]? = some (.cells cur 9 (0, 0))
  at_ : ∀ i t, T[i]? = some t → w.cell? ⟨g, i, none⟩ = some (.string t)
theorem tok_of {w : World} {base : Nat} {ok : Nat → Prop} {v : Value} {T : Path} (h : Kd.R Kd.string 9 w base ok v T) (hT : T ≠ []) : ∃ g c, v = .slice (some ⟨g, 0, none⟩) T.length c ∧ base ≤ g ∧ T.length ≤ c ∧ Tok w g T := by
  obtain ⟨inner, h1, h2⟩ := Kd.R_own h
  have hl : 0 < T.length := List.length_pos_iff.2 hT
  rcases h2 with ⟨_, h0⟩ | ⟨g, cap, cur, rfl, hb, hg, hnc, hcm, hcs, htake⟩
  · omega
  · obtain ⟨h3, h4, h5⟩ := Kd.R_reads' h
    refine ⟨g, cap, rfl, hb, hnc, ⟨cur, hg⟩, fun i t ht => ?_⟩
    obtain ⟨hi, he⟩ := List.getElem?_eq_some_iff.1 ht
    obtain ⟨ad, h6, h7⟩ := Kd.at_string h5 (i : Int) (by omega) (by omega)
    injection h6 with h6
    subst h6
    rw [Bs.add_at] at h7
    rw [Int.toNat_natCast] at h7
    rw [h7]
    unfold rdOf
    rw [List.getD_eq_getElem?_getD, Int.toNat_natCast, ht]
    rfl
theorem Tok.fr {w w1 : World} {g : Nat} {T : Path} {F : Nat → Prop} (h : Tok w g T) (hf : Fr F w w1) (hn : ¬ F g) : Tok w1 g T := by
  obtain ⟨cur, hb⟩ := h.blk
  have := hf.block g (Array.getElem?_eq_some_iff.1 hb).1 hn
  exact ⟨⟨cur, this.trans hb⟩, fun i t ht => (World.cell?_of_block this).trans (h.at_ i t ht)⟩
theorem Tok.wf {w : World} {g B : Nat} {T : Path} (h : Tok w g T) : ¬ WF B w g := fun e => by
  obtain ⟨cur, hb⟩ := h.blk
  exact not_wk hb (by decide) (by decide) (by decide) e.2
theorem one_char {t : ByteArray} (h : t.size = 1) : ∃ c : UInt8, t = ⟨#[c]⟩ := by
  obtain ⟨⟨l⟩⟩ := t
  match l, h with
  | [c], _ => exact ⟨c, rfl⟩
theorem not_sign {t : ByteArray} {c : UInt8} (h : t = ⟨#[c]⟩) (h9 : 0 < t.size) {k : UInt8} (hk : t ≠ ⟨#[k]⟩) : (((t[0]'h9).toNat : Int) == (k.toNat : Int)) = false := by
  subst h
  show (((c.toNat : Nat) : Int) == (k.toNat : Int)) = false
  rw [beq_eq_false_iff_ne]
  intro e
  have e2 : c.toNat = k.toNat := by omega
  exact hk (by rw [UInt8.toNat_inj.1 e2])
theorem ptrA_eq (o : Option Nat) : ptrA o = .pointer (o.map (fun b => (⟨b, 0, none⟩ : Addr))) := by cases o <;> rfl
theorem lenSB (t : ByteArray) (h : t.size ≤ 1000) : (t.size : Int) ≤ 1000 := by omega
theorem far_cell {w w1 : World} {B b o : Nat} {v : Value} (h : Fr (WF B w) w w1) (hb : b < B) (hc : w.cell? ⟨b, o, none⟩ = some v) : w1.cell? ⟨b, o, none⟩ = some v :=
  (World.cell?_of_block (a := ⟨b, o, none⟩) (h.block b (World.block_lt_of_cell? w _ hc) (fun e => by have := e.1; omega))).trans hc
theorem InS.out {W w2 w w4 : World} {B L K i : Nat} {nd lv : Pm} {sub : Path → Int → Option ByteArray} {ex : Prop} {cnt : Int} {T : Path} {sf : Bool} {vn : Value} {x : Nat × Nat} {t s : ByteArray} {v : Int} {t0 : TypeId} {a0 : Addr} {r : Value} (hi : i ≤ T.length) (hW : Fr (WF B W) W w2) (h : InS w2 B L K sub ex cnt T i sf vn x nd lv w) (ht : T[i]? = some t) (hb : t.size = 0 ∨ sf = true)
    (h0 : Blk w L 81 (hdr 1 low30 r cnt)) (h4 : Blk w4 L 81 (hdr 0 0 r cnt)) (hf : Fr (fun k => k = L) w w4) : InsPost W B L K sub ex cnt T s v (.returned (.iface t0 (.pointer (some a0)))) w4 := by
  refine ⟨wf_trans hW (wf_trans h.fr (h.lx.frL hf)), fun h1 => ?_, fun _ => ⟨⟨_, _, rfl⟩, nd, lv, ((h.lx.turn (a' := 0) (c' := 0) (cnt' := cnt) (fun y hy => ?_) hf).congrE (fun h => h.elim)).mono (by omega)⟩⟩
  · rw [h.bad ht hb] at h1
    cases h1
  · obtain ⟨z, hz, hh⟩ := h.lx.head
    rw [hz] at hy
    injection hy with hy
    subst hy
    have := h0.blk.symm.trans hh.blk
    injection this with this
    injection this with this
    have e : hdr 1 low30 r cnt = hdr 1 low30 (.pointer (some ⟨z.1, 0, none⟩)) cnt := by simpa using this
    have e2 : r = .pointer (some ⟨z.1, 0, none⟩) := by
      unfold hdr at e
      simpa using e
    rw [← e2]
    exact h4
theorem InS.done {W w2 w w8 w10 : World} {B L K : Nat} {nd lv : Pm} {sub : Path → Int → Option ByteArray} {ex : Prop} {cnt : Int} {T : Path} {sf : Bool} {vn : Value} {x y xh : Nat × Nat} {s : ByteArray} {v cnt' : Int} (hW : Fr (WF B W) W w2) (h : InS w2 B L K sub ex cnt T T.length sf vn x nd lv w) (hy : nd T = some y)
    (hM : Mp VS w8 y.2 (K + T.length + 1) (upd (sub T) v s)) (hF : Fr (fun k => k = y.2) w w8) (hx : lv [] = some xh) (h10 : Blk w10 L 81 (hdr 0 0 (.pointer (some ⟨xh.1, 0, none⟩)) cnt')) (hf : Fr (fun k => k = L) w8 w10) (hc : cnt' = IntKind.u32.wrap (cnt + 1)) : InsPost W B L K sub ex cnt T s v (.returned .nilIface) w10 := by
  have hX8 := h.lx.subs hy (Nat.le_succ (K + T.length)) hF hM (E' := fun _ => False) (ex' := ex) (fun hex => live_put (by have := h.lx.live hex; rw [List.take_length] at this; exact this))
  have hX10 := hX8.turn (a' := 0) (c' := 0) (cnt' := cnt') (fun z hz => by rw [hx] at hz; injection hz with hz; subst hz; exact h10) hf
  have ho : okF false T = true := by
    rw [h.ok, List.drop_length]
    rfl
  refine ⟨wf_trans hW (wf_trans h.fr (wf_trans (fr_wf hF (fun k _ hk => ?_)) (hX8.frL hf))), fun _ => ⟨rfl, nd, lv, ?_⟩, fun hb => ?_⟩
  · subst hk
    exact (h.lx.wfNode hy).2
  · rw [← hc]
    exact hX10
  · rw [ho] at hb
    cases hb
set_option maxHeartbeats 16000000 in
set_option maxRecDepth 100000 in
theorem insert_calls {W : World} {B L K : Nat} {sub : Path → Int → Option ByteArray} {ex : Prop} {cnt : Int} {T : Path} {s : ByteArray} {v : Int} {t0 : TypeId} {a0 : Addr} (h : Li W B L K sub ex cnt) (hs : s.size ≤ 1000) (hv : (Lit.int .i64 v).wf = true) {kz : Nat} (hz : gsl_zzSplit.f kz s ⟨#[46]⟩ = some T)
    (hT : T ≠ []) (hT1 : T.length ≤ 1000) (hT2 : ∀ t ∈ T, t.size ≤ 1000) (hK : K < 100000) (hG : W.cell? ⟨0, 0, none⟩ = some (.iface t0 (.pointer (some a0)))) (hB : 0 < B) :
    Calls Tryd.prog 49 #[.pointer (some ⟨L, 0, none⟩), .string s, .int .i64 v] W (InsPost W B L K sub ex cnt T s v) := by
  obtain ⟨nd0, lv0, hX⟩ := h
  have HX := Aside0.mk hX
  have HS := Aside0.mk hs
  have HV := Aside0.mk hv
  have HZ := Aside0.mk hz
  have HT := Aside0.mk hT
  have HT2 := Aside0.mk hT2
  have HG := Aside0.mk hG
  have HB := Aside0.mk hB
  obtain ⟨xr, hxr, hh⟩ := hX.head
  have HR := Aside0.mk hxr
  have HH := Aside0.mk hh
  clear hX hs hv hz hT hT2 hG hB hxr hh
  go_enter Tryd.func49, Tryd.ntmps49
  go_wp2_with fail
  refine (lock_L HH.out).mono ?_
  rintro e w1 ⟨rfl, hb1, hf1⟩
  have HX1 : Aside0 (Lx w1 B L K sub (fun _ => False) ex 1 low30 cnt nd0 lv0) := ⟨HX.out.turn (fun x hx => by rw [HR.out] at hx; injection hx with hx; subst hx; exact hb1) hf1⟩
  have HF1 : Aside0 (Fr (WF B W) W w1) := ⟨HX.out.frL hf1⟩
  have c6 := hb1.cell 6 rfl
  clear hb1 hf1
  go_wp2_with fail
  refine (gsl_zzSplit.calls kz s ⟨#[46]⟩ T w1 HZ.out).mono ?_
  rintro e w2 ⟨v22, rfl, hR, hb⟩
  obtain ⟨g, cg, rfl, hg1, hgc, hTok⟩ := tok_of hR HT.out
  have HTK := Aside0.mk hTok
  have HGC := Aside0.mk hgc
  have HF2 : Aside0 (Fr (WF B W) W w2) := ⟨wf_trans HF1.out (same_wf (Bs.fr_of_below hb))⟩
  have HX2 : Aside0 (Lx w2 B L K sub (fun _ => False) ex 1 low30 cnt nd0 lv0) := ⟨HX1.out.fr (Bs.fr_of_below hb) (fun _ _ h => h)⟩
  clear hR hb hTok c6 HX1 HF1 HX HH hg1 hgc
  go_wp2_with fail
  go_loopg [7, 8, 9, 24] T.length (fun k v7 v8 v9 v24 w' => ∃ (i : Nat) (sf : Bool) (x : Nat × Nat) (nd lv : Pm), i ≤ T.length ∧ v24 = .int .i64 i ∧ v7 = .bool sf ∧ v9 = .pointer (some ⟨x.1, 0, none⟩) ∧ Aside0 (T.length - i ≤ k) ∧ Aside0 (InS w2 B L K sub ex cnt T i sf v8 x nd lv w'))
  case atStart => exact ⟨0, false, xr, nd0, lv0, Nat.zero_le _, rfl, rfl, rfl, ⟨Nat.le_refl _⟩, ⟨⟨HX2.out.congrE (fun h => ⟨h, fun q hq => hq.elim⟩), HR.out, fun h => absurd h (Nat.lt_irrefl 0), rfl, Fr.refl _ _⟩⟩⟩
  case round =>
    obtain ⟨i, sf, x, nd, lv, hi, rfl, rfl, rfl, HKK, HI⟩ := hrel
    by_cases hlt : i < T.length
    · obtain ⟨t, ht⟩ : ∃ t, T[i]? = some t := ⟨_, List.getElem?_eq_getElem hlt⟩
      have HTI := Aside0.mk ht
      have hts : t.size ≤ 1000 := HT2.out t (List.mem_of_getElem? ht)
      have ct := (HTK.out.fr HI.out.fr HTK.out.wf).at_ i t ht
      have i1 : (0 : Int) ≤ (i : Int) := by omega
      have i2 : (i : Int) < (T.length : Int) := by omega
      have e1 : IntKind.i64.wrap ((i : Int) + 1) = ((i + 1 : Nat) : Int) := by rw [IntKind.wrap_i64]; omega
      have HXI := Aside0.mk HI.out.lx
      obtain ⟨xh, hxh, hhd⟩ := HI.out.lx.head
      have HHD := Aside0.mk hhd
      clear ht hhd hxh
      by_cases hbad : t.size = 0 ∨ sf = true
      · have FIN : Aside0 (∀ w4, Blk w4 L 81 (hdr 0 0 (.pointer (some ⟨xh.1, 0, none⟩)) cnt) → Fr (fun k => k = L) wr w4 → InsPost W B L K sub ex cnt T s v (.returned (.iface t0 (.pointer (some a0)))) w4) := ⟨fun w4 h4 hf => InS.out hi HF2.out HI.out HTI.out hbad HHD.out h4 hf⟩
        have HG4 : Aside0 (∀ w4, Fr (fun k => k = L) wr w4 → w4.cell? ⟨0, 0, none⟩ = some (.iface t0 (.pointer (some a0)))) := ⟨fun w4 hf => far_cell (wf_trans HF2.out (wf_trans HI.out.fr (HXI.out.frL hf))) HB.out HG.out⟩
        by_cases h0 : t.size = 0
        · have h1 : ((t.size : Int) == 0) = true := by simpa using h0
          clear hbad h0
          go_upto_region 10 with (fail)
          go_wp2_with fail
          refine (unlock_L HHD.out).mono ?_
          rintro e w4 ⟨rfl, hb4, hf4⟩
          have hg4 := HG4.out w4 hf4
          have HFI := Aside0.mk (FIN.out w4 hb4 hf4)
          clear hb4 hf4
          go_wp2
          go_ret
          exact HFI.out
        · have h1 : ((t.size : Int) == 0) = false := by simpa using h0
          obtain rfl : sf = true := by rcases hbad with h | h; exact absurd h h0; exact h
          clear hbad h0
          go_upto_region 10 with (fail)
          go_wp2_with fail
          refine (unlock_L HHD.out).mono ?_
          rintro e w4 ⟨rfl, hb4, hf4⟩
          have hg4 := HG4.out w4 hf4
          have HFI := Aside0.mk (FIN.out w4 hb4 hf4)
          clear hb4 hf4
          go_wp2
          go_ret
          exact HFI.out
      · obtain rfl : sf = false := by cases sf; rfl; exact absurd (Or.inr rfl) hbad
        have h0 : t.size ≠ 0 := fun h => hbad (.inl h)
        have h1 : ((t.size : Int) == 0) = false := by simpa using h0
        have HBAD := Aside0.mk hbad
        clear hbad
        obtain ⟨p, hp⟩ : ∃ p, T.take i = p := ⟨_, rfl⟩
        have HP := Aside0.mk hp
        have hl : lv p = some x := by rw [← hp]; exact HI.out.lev
        have HL := Aside0.mk hl
        obtain ⟨-, -, hB, hM⟩ := HXI.out.tri.lev p x hl
        have HM := Aside0.mk hM
        have d0 := hB.cell 0 rfl
        have d1 := hB.cell 1 rfl
        have d2 := hB.cell 2 rfl
        clear hp hl hB hM
        go_upto_if 41 with (fail)
        go_cut [7, 8] from 25 to 112 (fun v7 v8 wc => v7 = .bool (decide (t = full)) ∧ v8 = ptrA (kid nd p t) ∧ wc = wr)
        case first =>
          by_cases hb : 1 < t.size
          · have hdec : decide ((t.size : Int) > 1) = true := decide_eq_true (by omega)
            have t1 : t ≠ star := fun e => by subst e; exact absurd hb (by decide)
            have t2 : t ≠ full := fun e => by subst e; exact absurd hb (by decide)
            have HT12 := Aside0.mk (And.intro t1 t2)
            clear t1 t2
            go_wp2_with (first | (at_lookup; refine wpList_mp_look rfl _ _ rfl rfl HM.out (by show _ ≤ _; unfold maxLen; omega) rfl ?_) | fail)
            go_meet
            case rel =>
              refine ⟨?_, ?_, rfl⟩
              · rw [decide_eq_false HT12.out.2]
              · exact congrArg ptrA (kids_get p HT12.out.1 HT12.out.2)
          · have hdec : decide ((t.size : Int) > 1) = false := decide_eq_false (by omega)
            obtain ⟨c, hc⟩ := one_char (t := t) (by omega)
            by_cases hs : t = star
            · clear hc
              subst hs
              go_wp2_with fail
              go_meet
              case rel => exact ⟨rfl, rfl, rfl⟩
            · by_cases hf : t = full
              · clear hc
                subst hf
                go_wp2_with fail
                go_meet
                case rel => exact ⟨rfl, rfl, rfl⟩
              · have HT12 := Aside0.mk (And.intro hs hf)
                have h9 : 0 < t.size := by omega
                have hn1 : (((t[0]'h9).toNat : Int) == 42) = false := not_sign hc h9 (k := 42) hs
                have hn2 : (((t[0]'h9).toNat : Int) == 62) = false := not_sign hc h9 (k := 62) hf
                clear hs hf hc
                go_wp2_with (first | (at_lookup; refine wpList_mp_look rfl _ _ rfl rfl HM.out (by show _ ≤ _; unfold maxLen; omega) rfl ?_) | fail)
                go_meet
                case rel =>
                  refine ⟨?_, ?_, rfl⟩
                  · rw [decide_eq_false HT12.out.2]
                  · exact congrArg ptrA (kids_get p HT12.out.1 HT12.out.2)
        case rest =>
          obtain ⟨e7, e8, ew⟩ := hcut
          subst u7
          subst u8
          subst wc
          rw [ptrA_eq]
          go_upto_if 69 with (fail)
          go_cut [8] from 25 to 112 (fun v8 wc => ∃ (nd' : Pm) (y : Nat × Nat), v8 = .pointer (some ⟨y.1, 0, none⟩) ∧ Aside0 (Lx wc B L (K + (i + 1)) sub (fun q => q <+: T.take i ∨ q = p ++ [t]) ex 1 low30 cnt nd' lv ∧ nd' (p ++ [t]) = some y ∧ Fr (WF B w2) w2 wc))
          case first =>
            cases hk : kid nd p t with
            | some z =>
              obtain ⟨y, hy, hyz⟩ : ∃ y, nd (p ++ [t]) = some y ∧ y.1 = z := by
                unfold kid at hk
                cases hq : nd (p ++ [t]) with
                | none => rw [hq] at hk; cases hk
                | some y => rw [hq] at hk; injection hk with hk; exact ⟨y, rfl, hk⟩
              have HY := Aside0.mk (And.intro hy hyz)
              simp only [Option.map_some, Option.isNone_some]
              clear hk hy hyz
              go_wp2_with fail
              go_meet
              case rel => exact ⟨nd, y, by rw [HY.out.2], ⟨(HXI.out.congrE (fun h => ⟨h, fun q hq => .inl hq⟩)).mono (by omega), HY.out.1, HI.out.fr⟩⟩
            | none =>
              have HN := Aside0.mk (kid_none.1 hk)
              simp only [Option.map_none, Option.isNone_none]
              clear hk
              go_wp2_with fail
              refine newNode_calls.mono ?_
              rintro e w3 ⟨rfl, hN, hM0, hS3, hsz⟩
              have d0' := hS3.cell d0
              have HN3 := Aside0.mk hN
              have HM3 := Aside0.mk hM0
              have HS3 := Aside0.mk hS3
              have HMx : Aside0 (Mp VN w3 x.2 (K + i) (kids nd p)) := ⟨HM.out.fr hS3 (fun h => h)⟩
              have HBL : Aside0 (w3.frozen? ⟨x.1, 1, none⟩ = false ∧ w3.frozen? ⟨x.1, 2, none⟩ = false) := by
                obtain ⟨-, -, hB, hM⟩ := HXI.out.tri.lev p x HL.out
                exact ⟨(hB.fr hS3 (fun h => h)).free 1, (hB.fr hS3 (fun h => h)).free 2⟩
              have d1' := hS3.cell d1
              have d2' := hS3.cell d2
              clear hN hM0 hS3 hsz d0 d1 d2
              by_cases hb : 1 < t.size
              · have hdec : decide ((t.size : Int) > 1) = true := decide_eq_true (by omega)
                have t1 : t ≠ star := fun e => by subst e; exact absurd hb (by decide)
                have t2 : t ≠ full := fun e => by subst e; exact absurd hb (by decide)
                have HT12 := Aside0.mk (And.intro t1 t2)
                clear t1 t2
                go_wp2_with (first | (at_mapUpdate; refine wpList_mp_update rfl _ _ _ rfl rfl HMx.out (by omega) (s := t) (e := some (wr.heap.size + 1)) (by show _ ≤ _; unfold maxLen; omega) trivial rfl rfl ?_; intro w8 hM8 hf8; have H8 := Aside0.mk (And.intro hM8 hf8); clear hM8 hf8) | fail)
                go_meet
                case rel =>
                  obtain ⟨q1, q2⟩ := HXI.out.putMap (y := (wr.heap.size + 1, wr.heap.size)) HL.out HN.out (Nat.le_succ _) (Nat.le_refl _) HS3.out HN3.out HM3.out HT12.out.1 HT12.out.2 H8.out.1 H8.out.2
                  exact ⟨_, _, rfl, ⟨q1, by unfold upd; rw [if_pos rfl], wf_trans HI.out.fr q2⟩⟩
              · have hdec : decide ((t.size : Int) > 1) = false := decide_eq_false (by omega)
                obtain ⟨c, hc⟩ := one_char (t := t) (by omega)
                by_cases hs : t = star
                · clear hc
                  subst hs
                  have z1 := HBL.out.1
                  go_wp2_with fail
                  go_meet
                  case rel =>
                    obtain ⟨q1, q2⟩ := HXI.out.putSign (y := (wr.heap.size + 1, wr.heap.size)) HL.out HN.out (Nat.le_succ _) (Nat.le_refl _) HS3.out HN3.out HM3.out (o := 1) (.inl ⟨rfl, rfl⟩)
                    exact ⟨_, _, rfl, ⟨q1, by unfold upd; rw [if_pos rfl], wf_trans HI.out.fr q2⟩⟩
                · by_cases hf : t = full
                  · clear hc
                    subst hf
                    have z1 := HBL.out.2
                    go_wp2_with fail
                    go_meet
                    case rel =>
                      obtain ⟨q1, q2⟩ := HXI.out.putSign (y := (wr.heap.size + 1, wr.heap.size)) HL.out HN.out (Nat.le_succ _) (Nat.le_refl _) HS3.out HN3.out HM3.out (o := 2) (.inr ⟨rfl, rfl⟩)
                      exact ⟨_, _, rfl, ⟨q1, by unfold upd; rw [if_pos rfl], wf_trans HI.out.fr q2⟩⟩
                  · have HT12 := Aside0.mk (And.intro hs hf)
                    have h9 : 0 < t.size := by omega
                    have hn1 : (((t[0]'h9).toNat : Int) == 42) = false := not_sign hc h9 (k := 42) hs
                    have hn2 : (((t[0]'h9).toNat : Int) == 62) = false := not_sign hc h9 (k := 62) hf
                    clear hs hf hc
                    go_wp2_with (first | (at_mapUpdate; refine wpList_mp_update rfl _ _ _ rfl rfl HMx.out (by omega) (s := t) (e := some (wr.heap.size + 1)) (by show _ ≤ _; unfold maxLen; omega) trivial rfl rfl ?_; intro w8 hM8 hf8; have H8 := Aside0.mk (And.intro hM8 hf8); clear hM8 hf8) | fail)
                    go_meet
                    case rel =>
                      obtain ⟨q1, q2⟩ := HXI.out.putMap (y := (wr.heap.size + 1, wr.heap.size)) HL.out HN.out (Nat.le_succ _) (Nat.le_refl _) HS3.out HN3.out HM3.out HT12.out.1 HT12.out.2 H8.out.1 H8.out.2
                      exact ⟨_, _, rfl, ⟨q1, by unfold upd; rw [if_pos rfl], wf_trans HI.out.fr q2⟩⟩
          case rest =>
            obtain ⟨nd', y, rfl, HQ⟩ := hcut
            clear HXI HHD d0 d1 d2 HM ct
            have HX5 := Aside0.mk HQ.out.1
            have HY5 := Aside0.mk HQ.out.2.1
            have HF5 := Aside0.mk HQ.out.2.2
            clear HQ
            obtain ⟨-, -, hB, hM⟩ := HX5.out.tri.node _ y HY5.out
            have HB5 := Aside0.mk hB
            have d0 := hB.cell 0 rfl
            clear hB hM
            rw [ptrA_eq] at d0
            go_upto_if 103 with (fail)
            go_cut [] from 25 to 112 (fun wx => ∃ (lv' : Pm) (z : Nat × Nat), wx.cell? ⟨y.1, 0, none⟩ = some (.pointer (some ⟨z.1, 0, none⟩)) ∧ Aside0 (Lx wx B L (K + (i + 1)) sub (fun q => q <+: T.take i ∨ q = p ++ [t]) ex 1 low30 cnt nd' lv' ∧ lv' (p ++ [t]) = some z ∧ Fr (WF B w2) w2 wx))
            case first =>
              cases hl5 : lv (p ++ [t]) with
              | some z =>
                simp only [hl5, Option.map_some, Option.isNone_some] at d0 ⊢
                have HL5 := Aside0.mk hl5
                clear hl5
                go_wp2_with fail
                go_meet
                case rel => exact ⟨lv, z, d0, ⟨HX5.out, HL5.out, HF5.out⟩⟩
              | none =>
                simp only [hl5, Option.map_none, Option.isNone_none] at d0 ⊢
                have HL5 := Aside0.mk hl5
                clear hl5
                go_wp2_with fail
                refine newLevel_calls.mono ?_
                rintro e w6 ⟨rfl, hN, hM0, hS3, hsz⟩
                have d0' := hS3.cell d0
                have z0 := (HB5.out.fr hS3 (fun h => h)).free 0
                obtain ⟨q1, q2⟩ := HX5.out.putLevel (y := (wc.heap.size + 1, wc.heap.size)) HY5.out HL5.out (Nat.le_succ _) (Nat.le_refl _) hS3 hN hM0
                have HQ1 := Aside0.mk q1
                have HQ2 := Aside0.mk q2
                have HC : Aside0 ((w6.setCell ⟨y.1, 0, none⟩ (.pointer (some ⟨wc.heap.size + 1, 0, none⟩))).cell? ⟨y.1, 0, none⟩ = some (.pointer (some ⟨wc.heap.size + 1, 0, none⟩))) := ⟨((HB5.out.fr hS3 (fun h => h)).set 0 (by simp) _).cell 0 (by simp)⟩
                clear q1 q2 hN hM0 hS3 hsz d0
                go_wp2_with fail
                go_meet
                case rel => exact ⟨_, (wc.heap.size + 1, wc.heap.size), HC.out, ⟨HQ1.out, by unfold upd; rw [if_pos rfl], wf_trans HF5.out HQ2.out⟩⟩
            case rest =>
              obtain ⟨lv', z, dz, HQ⟩ := hcut
              have HFIN := Aside0.mk (HI.out.next HTI.out HBAD.out (nd' := nd') (lv' := lv') (y := y) (z := z) (by have := HQ.out.1; rw [← HP.out] at this; exact this) (by rw [HP.out]; exact HY5.out) (by rw [HP.out]; exact HQ.out.2.1) HQ.out.2.2)
              have HK1 : Aside0 (i + 1 ≤ T.length ∧ T.length - (i + 1) < gk) := ⟨by have := HKK.out; omega⟩
              clear d0 HQ HX5 HB5 HF5
              go_wp2_with fail
              go_roundg (T.length - (i + 1))
              case measure => exact HK1.out.2
              case rel => exact ⟨i + 1, decide (t = full), z, nd', lv', HK1.out.1, rfl, rfl, rfl, ⟨Nat.le_refl _⟩, ⟨HFIN.out⟩⟩
    · have hie : i = T.length := by omega
      subst hie
      have h2 : decide ((T.length : Int) < (T.length : Int)) = false := decide_eq_false (by omega)
      obtain ⟨y, hy, rfl⟩ := HI.out.node (List.length_pos_iff.2 HT.out)
      rw [List.take_length] at hy
      have HY := Aside0.mk hy
      obtain ⟨xh, hxh, hhd⟩ := HI.out.lx.head
      have HXH := Aside0.mk hxh
      have HHD := Aside0.mk hhd
      obtain ⟨-, -, hB, hM⟩ := HI.out.lx.tri.node T y hy
      have HM := Aside0.mk hM
      have d1 := hB.cell 1 rfl
      have HNE := Aside0.mk (HI.out.lx.neNode hy)
      clear hy hxh hhd hB hM
      go_upto_region 35 with (fail)
      go_upto_region 36 with (first | (at_mapUpdate; refine wpList_mp_update rfl _ _ _ rfl rfl HM.out (by omega) (s := v) (e := s) HV.out (by show _ ≤ _; have := HS.out; unfold maxLen; omega) rfl rfl ?_; intro w8 hM8 hf8; have H8 := Aside0.mk hM8; have F8 := Aside0.mk hf8; clear hM8 hf8) | fail)
      have HH8 := Aside0.mk (HHD.out.fr F8.out HNE.out.2)
      have c7 := HH8.out.cell 7 rfl
      have z7 := HH8.out.free 7
      have HNX := HH8.out.set 7 (by show 7 < 8; decide) (.int .u32 ((cnt + 1) % 4294967296))
      have HF9 := fr_set1 (F := fun k => k = L) (Fr.refl _ w8) (b := L) (o := 7) rfl (.int .u32 ((cnt + 1) % 4294967296))
      have H9 := Aside0.mk (And.intro HNX HF9)
      clear HNX HF9
      go_upto_region 37 with (fail)
      generalize w8.setCell ⟨L, 7, none⟩ (.int .u32 ((cnt + 1) % 4294967296)) = w9 at H9 ⊢
      go_wp2_with fail
      refine (unlock_L H9.out.1).mono ?_
      rintro e w10 ⟨rfl, hb10, hf10⟩
      have HFI : Aside0 (InsPost W B L K sub ex cnt T s v (.returned .nilIface) w10) := ⟨InS.done HF2.out HI.out HY.out H8.out F8.out HXH.out hb10 (H9.out.2.trans hf10 (fun _ _ h => h)) rfl⟩
      clear hb10 hf10
      go_wp2
      go_ret
      exact HFI.out
end Go.Proofs.YtimffhpnfdikoaaDoor.Ls
