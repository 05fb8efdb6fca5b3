/- A put into a list: the walk of Insert. A row of one's own that begins as a local array; Count under the reader's lock. A take out of a list: what its steps make of the whole. A take out of a list: the walk of remove. -/
import Derived.Test.YtimffhpnfdikoaaDoorLsJ
import Derived.Test.YtimffhpnfdikoaaDoorGFnListKindsx1
import Derived.Deep.LoopGhost
import Derived.Deep.CutRange
import Derived.ArgAppend
namespace Go.Proofs.YtimffhpnfdikoaaDoor.Ls
open Go.RowKit Go.Maps Go.Proofs.YtimffhpnfdikoaaDoor.Bs Go.Proofs.YtimffhpnfdikoaaDoorW.PrintWords Go.Proofs.YtimffhpnfdikoaaDoorW.PrintLast Go.Proofs.YtimffhpnfdikoaaDoorW.PrintMore Go.Proofs.YtimffhpnfdikoaaDoor.GFnListKinds
set_option linter.unusedVariables false
set_option linter.unusedSimpArgs false
/-- A row of texts that lies in a block of its own. -/
structure Tok (w : World) (g : Nat) (T : Path) : Prop where
  blk : ∃ cur, w.heap[g]? = some (.cells cur 9 (0, 0))
  at_ : ∀ i t, T[i]? = some t → w.cell? ⟨g, i, none⟩ = some (.string t)
theorem tok_of {w : World} {base : Nat} {ok : Nat → Prop} {v : Value} {T : Path} (h : Kd.R Kd.string 9 w base ok v T) (hT : T ≠ []) : ∃ g c, v = .slice (some ⟨g, 0, none⟩) T.length c ∧ base ≤ g ∧ T.length ≤ c ∧ Tok w g T := by
  obtain ⟨inner, h1, h2⟩ := Kd.R_own h
  have hl : 0 < T.length := List.length_pos_iff.2 hT
  rcases h2 with ⟨_, h0⟩ | ⟨g, cap, cur, rfl, hb, hg, hnc, hcm, hcs, htake⟩
  · omega
  · obtain ⟨h3, h4, h5⟩ := Kd.R_reads' h
    refine ⟨g, cap, rfl, hb, hnc, ⟨cur, hg⟩, fun i t ht => ?_⟩
    obtain ⟨hi, he⟩ := List.getElem?_eq_some_iff.1 ht
    obtain ⟨ad, h6, h7⟩ := Kd.at_string h5 (i : Int) (by omega) (by omega)
    injection h6 with h6
    subst h6
    rw [Bs.add_at] at h7
    rw [Int.toNat_natCast] at h7
    rw [h7]
    unfold rdOf
    rw [List.getD_eq_getElem?_getD, Int.toNat_natCast, ht]
    rfl
theorem Tok.fr {w w1 : World} {g : Nat} {T : Path} {F : Nat → Prop} (h : Tok w g T) (hf : Fr F w w1) (hn : ¬ F g) : Tok w1 g T := by
  obtain ⟨cur, hb⟩ := h.blk
  have := hf.block g (Array.getElem?_eq_some_iff.1 hb).1 hn
  exact ⟨⟨cur, this.trans hb⟩, fun i t ht => (World.cell?_of_block this).trans (h.at_ i t ht)⟩
theorem Tok.wf {w : World} {g B : Nat} {T : Path} (h : Tok w g T) : ¬ WF B w g := fun e => by
  obtain ⟨cur, hb⟩ := h.blk
  exact not_wk hb (by decide) (by decide) (by decide) e.2
theorem one_char {t : ByteArray} (h : t.size = 1) : ∃ c : UInt8, t = ⟨#[c]⟩ := by
  obtain ⟨⟨l⟩⟩ := t
  match l, h with
  | [c], _ => exact ⟨c, rfl⟩
theorem not_sign {t : ByteArray} {c : UInt8} (h : t = ⟨#[c]⟩) (h9 : 0 < t.size) {k : UInt8} (hk : t ≠ ⟨#[k]⟩) : (((t[0]'h9).toNat : Int) == (k.toNat : Int)) = false := by
  subst h
  show (((c.toNat : Nat) : Int) == (k.toNat : Int)) = false
  rw [beq_eq_false_iff_ne]
  intro e
  have e2 : c.toNat = k.toNat := by omega
  exact hk (by rw [UInt8.toNat_inj.1 e2])
theorem ptrA_eq (o : Option Nat) : ptrA o = .pointer (o.map (fun b => (⟨b, 0, none⟩ : Addr))) := by cases o <;> rfl
theorem lenSB (t : ByteArray) (h : t.size ≤ 1000) : (t.size : Int) ≤ 1000 := by omega
theorem far_cell {w w1 : World} {B b o : Nat} {v : Value} (h : Fr (WF B w) w w1) (hb : b < B) (hc : w.cell? ⟨b, o, none⟩ = some v) : w1.cell? ⟨b, o, none⟩ = some v :=
  (World.cell?_of_block (a := ⟨b, o, none⟩) (h.block b (World.block_lt_of_cell? w _ hc) (fun e => by have := e.1; omega))).trans hc
theorem InS.out {W w2 w w4 : World} {B L K i : Nat} {nd lv : Pm} {sub : Path → Int → Option ByteArray} {ex : Prop} {cnt : Int} {T : Path} {sf : Bool} {vn : Value} {x : Nat × Nat} {t s : ByteArray} {v : Int} {t0 : TypeId} {a0 : Addr} {r : Value} (hi : i ≤ T.length) (hW : Fr (WF B W) W w2) (h : InS w2 B L K sub ex cnt T i sf vn x nd lv w) (ht : T[i]? = some t) (hb : t.size = 0 ∨ sf = true)
    (h0 : Blk w L 81 (hdr 1 low30 r cnt)) (h4 : Blk w4 L 81 (hdr 0 0 r cnt)) (hf : Fr (fun k => k = L) w w4) : InsPost W B L K sub ex cnt T s v (.returned (.iface t0 (.pointer (some a0)))) w4 := by
  refine ⟨wf_trans hW (wf_trans h.fr (h.lx.frL hf)), fun h1 => ?_, fun _ => ⟨⟨_, _, rfl⟩, nd, lv, ((h.lx.turn (a' := 0) (c' := 0) (cnt' := cnt) (fun y hy => ?_) hf).congrE (fun h => h.elim)).mono (by omega)⟩⟩
  · rw [h.bad ht hb] at h1
    cases h1
  · obtain ⟨z, hz, hh⟩ := h.lx.head
    rw [hz] at hy
    injection hy with hy
    subst hy
    have := h0.blk.symm.trans hh.blk
    injection this with this
    injection this with this
    have e : hdr 1 low30 r cnt = hdr 1 low30 (.pointer (some ⟨z.1, 0, none⟩)) cnt := by simpa using this
    have e2 : r = .pointer (some ⟨z.1, 0, none⟩) := by
      unfold hdr at e
      simpa using e
    rw [← e2]
    exact h4
theorem InS.done {W w2 w w8 w10 : World} {B L K : Nat} {nd lv : Pm} {sub : Path → Int → Option ByteArray} {ex : Prop} {cnt : Int} {T : Path} {sf : Bool} {vn : Value} {x y xh : Nat × Nat} {s : ByteArray} {v cnt' : Int} (hW : Fr (WF B W) W w2) (h : InS w2 B L K sub ex cnt T T.length sf vn x nd lv w) (hy : nd T = some y)
    (hM : Mp VS w8 y.2 (K + T.length + 1) (upd (sub T) v s)) (hF : Fr (fun k => k = y.2) w w8) (hx : lv [] = some xh) (h10 : Blk w10 L 81 (hdr 0 0 (.pointer (some ⟨xh.1, 0, none⟩)) cnt')) (hf : Fr (fun k => k = L) w8 w10) (hc : cnt' = IntKind.u32.wrap (cnt + 1)) : InsPost W B L K sub ex cnt T s v (.returned .nilIface) w10 := by
  have hX8 := h.lx.subs hy (Nat.le_succ (K + T.length)) hF hM (E' := fun _ => False) (ex' := ex) (fun hex => live_put (by have := h.lx.live hex; rw [List.take_length] at this; exact this))
  have hX10 := hX8.turn (a' := 0) (c' := 0) (cnt' := cnt') (fun z hz => by rw [hx] at hz; injection hz with hz; subst hz; exact h10) hf
  have ho : okF false T = true := by
    rw [h.ok, List.drop_length]
    rfl
  refine ⟨wf_trans hW (wf_trans h.fr (wf_trans (fr_wf hF (fun k _ hk => ?_)) (hX8.frL hf))), fun _ => ⟨rfl, nd, lv, ?_⟩, fun hb => ?_⟩
  · subst hk
    exact (h.lx.wfNode hy).2
  · rw [← hc]
    exact hX10
  · rw [ho] at hb
    cases hb
set_option maxHeartbeats 16000000 in
set_option maxRecDepth 100000 in
theorem insert_calls {W : World} {B L K : Nat} {sub : Path → Int → Option ByteArray} {ex : Prop} {cnt : Int} {T : Path} {s : ByteArray} {v : Int} {t0 : TypeId} {a0 : Addr} (h : Li W B L K sub ex cnt) (hs : s.size ≤ 1000) (hv : (Lit.int .i64 v).wf = true) {kz : Nat} (hz : gsl_zzSplit.f kz s ⟨#[46]⟩ = some T)
    (hT : T ≠ []) (hT1 : T.length ≤ 1000) (hT2 : ∀ t ∈ T, t.size ≤ 1000) (hK : K < 100000) (hG : W.cell? ⟨0, 0, none⟩ = some (.iface t0 (.pointer (some a0)))) (hB : 0 < B) :
    Calls Tryd.prog 49 #[.pointer (some ⟨L, 0, none⟩), .string s, .int .i64 v] W (InsPost W B L K sub ex cnt T s v) := by
  obtain ⟨nd0, lv0, hX⟩ := h
  have HX := Aside0.mk hX
  have HS := Aside0.mk hs
  have HV := Aside0.mk hv
  have HZ := Aside0.mk hz
  have HT := Aside0.mk hT
  have HT2 := Aside0.mk hT2
  have HG := Aside0.mk hG
  have HB := Aside0.mk hB
  obtain ⟨xr, hxr, hh⟩ := hX.head
  have HR := Aside0.mk hxr
  have HH := Aside0.mk hh
  clear hX hs hv hz hT hT2 hG hB hxr hh
  go_enter Tryd.func49, Tryd.ntmps49
  go_wp2_with fail
  refine (lock_L HH.out).mono ?_
  rintro e w1 ⟨rfl, hb1, hf1⟩
  have HX1 : Aside0 (Lx w1 B L K sub (fun _ => False) ex 1 low30 cnt nd0 lv0) := ⟨HX.out.turn (fun x hx => by rw [HR.out] at hx; injection hx with hx; subst hx; exact hb1) hf1⟩
  have HF1 : Aside0 (Fr (WF B W) W w1) := ⟨HX.out.frL hf1⟩
  have c6 := hb1.cell 6 rfl
  clear hb1 hf1
  go_wp2_with fail
  refine (gsl_zzSplit.calls kz s ⟨#[46]⟩ T w1 HZ.out).mono ?_
  rintro e w2 ⟨v22, rfl, hR, hb⟩
  obtain ⟨g, cg, rfl, hg1, hgc, hTok⟩ := tok_of hR HT.out
  have HTK := Aside0.mk hTok
  have HGC := Aside0.mk hgc
  have HF2 : Aside0 (Fr (WF B W) W w2) := ⟨wf_trans HF1.out (same_wf (Bs.fr_of_below hb))⟩
  have HX2 : Aside0 (Lx w2 B L K sub (fun _ => False) ex 1 low30 cnt nd0 lv0) := ⟨HX1.out.fr (Bs.fr_of_below hb) (fun _ _ h => h)⟩
  clear hR hb hTok c6 HX1 HF1 HX HH hg1 hgc
  go_wp2_with fail
  go_loopg [7, 8, 9, 24] T.length (fun k v7 v8 v9 v24 w' => ∃ (i : Nat) (sf : Bool) (x : Nat × Nat) (nd lv : Pm), i ≤ T.length ∧ v24 = .int .i64 i ∧ v7 = .bool sf ∧ v9 = .pointer (some ⟨x.1, 0, none⟩) ∧ Aside0 (T.length - i ≤ k) ∧ Aside0 (InS w2 B L K sub ex cnt T i sf v8 x nd lv w'))
  case atStart => exact ⟨0, false, xr, nd0, lv0, Nat.zero_le _, rfl, rfl, rfl, ⟨Nat.le_refl _⟩, ⟨⟨HX2.out.congrE (fun h => ⟨h, fun q hq => hq.elim⟩), HR.out, fun h => absurd h (Nat.lt_irrefl 0), rfl, Fr.refl _ _⟩⟩⟩
  case round =>
    obtain ⟨i, sf, x, nd, lv, hi, rfl, rfl, rfl, HKK, HI⟩ := hrel
    by_cases hlt : i < T.length
    · obtain ⟨t, ht⟩ : ∃ t, T[i]? = some t := ⟨_, List.getElem?_eq_getElem hlt⟩
      have HTI := Aside0.mk ht
      have hts : t.size ≤ 1000 := HT2.out t (List.mem_of_getElem? ht)
      have ct := (HTK.out.fr HI.out.fr HTK.out.wf).at_ i t ht
      have i1 : (0 : Int) ≤ (i : Int) := by omega
      have i2 : (i : Int) < (T.length : Int) := by omega
      have e1 : IntKind.i64.wrap ((i : Int) + 1) = ((i + 1 : Nat) : Int) := by rw [IntKind.wrap_i64]; omega
      have HXI := Aside0.mk HI.out.lx
      obtain ⟨xh, hxh, hhd⟩ := HI.out.lx.head
      have HHD := Aside0.mk hhd
      clear ht hhd hxh
      by_cases hbad : t.size = 0 ∨ sf = true
      · have FIN : Aside0 (∀ w4, Blk w4 L 81 (hdr 0 0 (.pointer (some ⟨xh.1, 0, none⟩)) cnt) → Fr (fun k => k = L) wr w4 → InsPost W B L K sub ex cnt T s v (.returned (.iface t0 (.pointer (some a0)))) w4) := ⟨fun w4 h4 hf => InS.out hi HF2.out HI.out HTI.out hbad HHD.out h4 hf⟩
        have HG4 : Aside0 (∀ w4, Fr (fun k => k = L) wr w4 → w4.cell? ⟨0, 0, none⟩ = some (.iface t0 (.pointer (some a0)))) := ⟨fun w4 hf => far_cell (wf_trans HF2.out (wf_trans HI.out.fr (HXI.out.frL hf))) HB.out HG.out⟩
        by_cases h0 : t.size = 0
        · have h1 : ((t.size : Int) == 0) = true := by simpa using h0
          clear hbad h0
          go_upto_region 10 with (fail)
          go_wp2_with fail
          refine (unlock_L HHD.out).mono ?_
          rintro e w4 ⟨rfl, hb4, hf4⟩
          have hg4 := HG4.out w4 hf4
          have HFI := Aside0.mk (FIN.out w4 hb4 hf4)
          clear hb4 hf4
          go_wp2
          go_ret
          exact HFI.out
        · have h1 : ((t.size : Int) == 0) = false := by simpa using h0
          obtain rfl : sf = true := by rcases hbad with h | h; exact absurd h h0; exact h
          clear hbad h0
          go_upto_region 10 with (fail)
          go_wp2_with fail
          refine (unlock_L HHD.out).mono ?_
          rintro e w4 ⟨rfl, hb4, hf4⟩
          have hg4 := HG4.out w4 hf4
          have HFI := Aside0.mk (FIN.out w4 hb4 hf4)
          clear hb4 hf4
          go_wp2
          go_ret
          exact HFI.out
      · obtain rfl : sf = false := by cases sf; rfl; exact absurd (Or.inr rfl) hbad
        have h0 : t.size ≠ 0 := fun h => hbad (.inl h)
        have h1 : ((t.size : Int) == 0) = false := by simpa using h0
        have HBAD := Aside0.mk hbad
        clear hbad
        obtain ⟨p, hp⟩ : ∃ p, T.take i = p := ⟨_, rfl⟩
        have HP := Aside0.mk hp
        have hl : lv p = some x := by rw [← hp]; exact HI.out.lev
        have HL := Aside0.mk hl
        obtain ⟨-, -, hB, hM⟩ := HXI.out.tri.lev p x hl
        have HM := Aside0.mk hM
        have d0 := hB.cell 0 rfl
        have d1 := hB.cell 1 rfl
        have d2 := hB.cell 2 rfl
        clear hp hl hB hM
        go_upto_if 41 with (fail)
        go_cut [7, 8] from 25 to 112 (fun v7 v8 wc => v7 = .bool (decide (t = full)) ∧ v8 = ptrA (kid nd p t) ∧ wc = wr)
        case first =>
          by_cases hb : 1 < t.size
          · have hdec : decide ((t.size : Int) > 1) = true := decide_eq_true (by omega)
            have t1 : t ≠ star := fun e => by subst e; exact absurd hb (by decide)
            have t2 : t ≠ full := fun e => by subst e; exact absurd hb (by decide)
            have HT12 := Aside0.mk (And.intro t1 t2)
            clear t1 t2
            go_wp2_with (first | (at_lookup; refine wpList_mp_look rfl _ _ rfl rfl HM.out (by show _ ≤ _; unfold maxLen; omega) rfl ?_) | fail)
            go_meet
            case rel =>
              refine ⟨?_, ?_, rfl⟩
              · rw [decide_eq_false HT12.out.2]
              · exact congrArg ptrA (kids_get p HT12.out.1 HT12.out.2)
          · have hdec : decide ((t.size : Int) > 1) = false := decide_eq_false (by omega)
            obtain ⟨c, hc⟩ := one_char (t := t) (by omega)
            by_cases hs : t = star
            · clear hc
              subst hs
              go_wp2_with fail
              go_meet
              case rel => exact ⟨rfl, rfl, rfl⟩
            · by_cases hf : t = full
              · clear hc
                subst hf
                go_wp2_with fail
                go_meet
                case rel => exact ⟨rfl, rfl, rfl⟩
              · have HT12 := Aside0.mk (And.intro hs hf)
                have h9 : 0 < t.size := by omega
                have hn1 : (((t[0]'h9).toNat : Int) == 42) = false := not_sign hc h9 (k := 42) hs
                have hn2 : (((t[0]'h9).toNat : Int) == 62) = false := not_sign hc h9 (k := 62) hf
                clear hs hf hc
                go_wp2_with (first | (at_lookup; refine wpList_mp_look rfl _ _ rfl rfl HM.out (by show _ ≤ _; unfold maxLen; omega) rfl ?_) | fail)
                go_meet
                case rel =>
                  refine ⟨?_, ?_, rfl⟩
                  · rw [decide_eq_false HT12.out.2]
                  · exact congrArg ptrA (kids_get p HT12.out.1 HT12.out.2)
        case rest =>
          obtain ⟨e7, e8, ew⟩ := hcut
          subst u7
          subst u8
          subst wc
          rw [ptrA_eq]
          go_upto_if 69 with (fail)
          go_cut [8] from 25 to 112 (fun v8 wc => ∃ (nd' : Pm) (y : Nat × Nat), v8 = .pointer (some ⟨y.1, 0, none⟩) ∧ Aside0 (Lx wc B L (K + (i + 1)) sub (fun q => q <+: T.take i ∨ q = p ++ [t]) ex 1 low30 cnt nd' lv ∧ nd' (p ++ [t]) = some y ∧ Fr (WF B w2) w2 wc))
          case first =>
            cases hk : kid nd p t with
            | some z =>
              obtain ⟨y, hy, hyz⟩ : ∃ y, nd (p ++ [t]) = some y ∧ y.1 = z := by
                unfold kid at hk
                cases hq : nd (p ++ [t]) with
                | none => rw [hq] at hk; cases hk
                | some y => rw [hq] at hk; injection hk with hk; exact ⟨y, rfl, hk⟩
              have HY := Aside0.mk (And.intro hy hyz)
              simp only [Option.map_some, Option.isNone_some]
              clear hk hy hyz
              go_wp2_with fail
              go_meet
              case rel => exact ⟨nd, y, by rw [HY.out.2], ⟨(HXI.out.congrE (fun h => ⟨h, fun q hq => .inl hq⟩)).mono (by omega), HY.out.1, HI.out.fr⟩⟩
            | none =>
              have HN := Aside0.mk (kid_none.1 hk)
              simp only [Option.map_none, Option.isNone_none]
              clear hk
              go_wp2_with fail
              refine newNode_calls.mono ?_
              rintro e w3 ⟨rfl, hN, hM0, hS3, hsz⟩
              have d0' := hS3.cell d0
              have HN3 := Aside0.mk hN
              have HM3 := Aside0.mk hM0
              have HS3 := Aside0.mk hS3
              have HMx : Aside0 (Mp VN w3 x.2 (K + i) (kids nd p)) := ⟨HM.out.fr hS3 (fun h => h)⟩
              have HBL : Aside0 (w3.frozen? ⟨x.1, 1, none⟩ = false ∧ w3.frozen? ⟨x.1, 2, none⟩ = false) := by
                obtain ⟨-, -, hB, hM⟩ := HXI.out.tri.lev p x HL.out
                exact ⟨(hB.fr hS3 (fun h => h)).free 1, (hB.fr hS3 (fun h => h)).free 2⟩
              have d1' := hS3.cell d1
              have d2' := hS3.cell d2
              clear hN hM0 hS3 hsz d0 d1 d2
              by_cases hb : 1 < t.size
              · have hdec : decide ((t.size : Int) > 1) = true := decide_eq_true (by omega)
                have t1 : t ≠ star := fun e => by subst e; exact absurd hb (by decide)
                have t2 : t ≠ full := fun e => by subst e; exact absurd hb (by decide)
                have HT12 := Aside0.mk (And.intro t1 t2)
                clear t1 t2
                go_wp2_with (first | (at_mapUpdate; refine wpList_mp_update rfl _ _ _ rfl rfl HMx.out (by omega) (s := t) (e := some (wr.heap.size + 1)) (by show _ ≤ _; unfold maxLen; omega) trivial rfl rfl ?_; intro w8 hM8 hf8; have H8 := Aside0.mk (And.intro hM8 hf8); clear hM8 hf8) | fail)
                go_meet
                case rel =>
                  obtain ⟨q1, q2⟩ := HXI.out.putMap (y := (wr.heap.size + 1, wr.heap.size)) HL.out HN.out (Nat.le_succ _) (Nat.le_refl _) HS3.out HN3.out HM3.out HT12.out.1 HT12.out.2 H8.out.1 H8.out.2
                  exact ⟨_, _, rfl, ⟨q1, by unfold upd; rw [if_pos rfl], wf_trans HI.out.fr q2⟩⟩
              · have hdec : decide ((t.size : Int) > 1) = false := decide_eq_false (by omega)
                obtain ⟨c, hc⟩ := one_char (t := t) (by omega)
                by_cases hs : t = star
                · clear hc
                  subst hs
                  have z1 := HBL.out.1
                  go_wp2_with fail
                  go_meet
                  case rel =>
                    obtain ⟨q1, q2⟩ := HXI.out.putSign (y := (wr.heap.size + 1, wr.heap.size)) HL.out HN.out (Nat.le_succ _) (Nat.le_refl _) HS3.out HN3.out HM3.out (o := 1) (.inl ⟨rfl, rfl⟩)
                    exact ⟨_, _, rfl, ⟨q1, by unfold upd; rw [if_pos rfl], wf_trans HI.out.fr q2⟩⟩
                · by_cases hf : t = full
                  · clear hc
                    subst hf
                    have z1 := HBL.out.2
                    go_wp2_with fail
                    go_meet
                    case rel =>
                      obtain ⟨q1, q2⟩ := HXI.out.putSign (y := (wr.heap.size + 1, wr.heap.size)) HL.out HN.out (Nat.le_succ _) (Nat.le_refl _) HS3.out HN3.out HM3.out (o := 2) (.inr ⟨rfl, rfl⟩)
                      exact ⟨_, _, rfl, ⟨q1, by unfold upd; rw [if_pos rfl], wf_trans HI.out.fr q2⟩⟩
                  · have HT12 := Aside0.mk (And.intro hs hf)
                    have h9 : 0 < t.size := by omega
                    have hn1 : (((t[0]'h9).toNat : Int) == 42) = false := not_sign hc h9 (k := 42) hs
                    have hn2 : (((t[0]'h9).toNat : Int) == 62) = false := not_sign hc h9 (k := 62) hf
                    clear hs hf hc
                    go_wp2_with (first | (at_mapUpdate; refine wpList_mp_update rfl _ _ _ rfl rfl HMx.out (by omega) (s := t) (e := some (wr.heap.size + 1)) (by show _ ≤ _; unfold maxLen; omega) trivial rfl rfl ?_; intro w8 hM8 hf8; have H8 := Aside0.mk (And.intro hM8 hf8); clear hM8 hf8) | fail)
                    go_meet
                    case rel =>
                      obtain ⟨q1, q2⟩ := HXI.out.putMap (y := (wr.heap.size + 1, wr.heap.size)) HL.out HN.out (Nat.le_succ _) (Nat.le_refl _) HS3.out HN3.out HM3.out HT12.out.1 HT12.out.2 H8.out.1 H8.out.2
                      exact ⟨_, _, rfl, ⟨q1, by unfold upd; rw [if_pos rfl], wf_trans HI.out.fr q2⟩⟩
          case rest =>
            obtain ⟨nd', y, rfl, HQ⟩ := hcut
            clear HXI HHD d0 d1 d2 HM ct
            have HX5 := Aside0.mk HQ.out.1
            have HY5 := Aside0.mk HQ.out.2.1
            have HF5 := Aside0.mk HQ.out.2.2
            clear HQ
            obtain ⟨-, -, hB, hM⟩ := HX5.out.tri.node _ y HY5.out
            have HB5 := Aside0.mk hB
            have d0 := hB.cell 0 rfl
            clear hB hM
            rw [ptrA_eq] at d0
            go_upto_if 103 with (fail)
            go_cut [] from 25 to 112 (fun wx => ∃ (lv' : Pm) (z : Nat × Nat), wx.cell? ⟨y.1, 0, none⟩ = some (.pointer (some ⟨z.1, 0, none⟩)) ∧ Aside0 (Lx wx B L (K + (i + 1)) sub (fun q => q <+: T.take i ∨ q = p ++ [t]) ex 1 low30 cnt nd' lv' ∧ lv' (p ++ [t]) = some z ∧ Fr (WF B w2) w2 wx))
            case first =>
              cases hl5 : lv (p ++ [t]) with
              | some z =>
                simp only [hl5, Option.map_some, Option.isNone_some] at d0 ⊢
                have HL5 := Aside0.mk hl5
                clear hl5
                go_wp2_with fail
                go_meet
                case rel => exact ⟨lv, z, d0, ⟨HX5.out, HL5.out, HF5.out⟩⟩
              | none =>
                simp only [hl5, Option.map_none, Option.isNone_none] at d0 ⊢
                have HL5 := Aside0.mk hl5
                clear hl5
                go_wp2_with fail
                refine newLevel_calls.mono ?_
                rintro e w6 ⟨rfl, hN, hM0, hS3, hsz⟩
                have d0' := hS3.cell d0
                have z0 := (HB5.out.fr hS3 (fun h => h)).free 0
                obtain ⟨q1, q2⟩ := HX5.out.putLevel (y := (wc.heap.size + 1, wc.heap.size)) HY5.out HL5.out (Nat.le_succ _) (Nat.le_refl _) hS3 hN hM0
                have HQ1 := Aside0.mk q1
                have HQ2 := Aside0.mk q2
                have HC : Aside0 ((w6.setCell ⟨y.1, 0, none⟩ (.pointer (some ⟨wc.heap.size + 1, 0, none⟩))).cell? ⟨y.1, 0, none⟩ = some (.pointer (some ⟨wc.heap.size + 1, 0, none⟩))) := ⟨((HB5.out.fr hS3 (fun h => h)).set 0 (by simp) _).cell 0 (by simp)⟩
                clear q1 q2 hN hM0 hS3 hsz d0
                go_wp2_with fail
                go_meet
                case rel => exact ⟨_, (wc.heap.size + 1, wc.heap.size), HC.out, ⟨HQ1.out, by unfold upd; rw [if_pos rfl], wf_trans HF5.out HQ2.out⟩⟩
            case rest =>
              obtain ⟨lv', z, dz, HQ⟩ := hcut
              have HFIN := Aside0.mk (HI.out.next HTI.out HBAD.out (nd' := nd') (lv' := lv') (y := y) (z := z) (by have := HQ.out.1; rw [← HP.out] at this; exact this) (by rw [HP.out]; exact HY5.out) (by rw [HP.out]; exact HQ.out.2.1) HQ.out.2.2)
              have HK1 : Aside0 (i + 1 ≤ T.length ∧ T.length - (i + 1) < gk) := ⟨by have := HKK.out; omega⟩
              clear d0 HQ HX5 HB5 HF5
              go_wp2_with fail
              go_roundg (T.length - (i + 1))
              case measure => exact HK1.out.2
              case rel => exact ⟨i + 1, decide (t = full), z, nd', lv', HK1.out.1, rfl, rfl, rfl, ⟨Nat.le_refl _⟩, ⟨HFIN.out⟩⟩
    · have hie : i = T.length := by omega
      subst hie
      have h2 : decide ((T.length : Int) < (T.length : Int)) = false := decide_eq_false (by omega)
      obtain ⟨y, hy, rfl⟩ := HI.out.node (List.length_pos_iff.2 HT.out)
      rw [List.take_length] at hy
      have HY := Aside0.mk hy
      obtain ⟨xh, hxh, hhd⟩ := HI.out.lx.head
      have HXH := Aside0.mk hxh
      have HHD := Aside0.mk hhd
      obtain ⟨-, -, hB, hM⟩ := HI.out.lx.tri.node T y hy
      have HM := Aside0.mk hM
      have d1 := hB.cell 1 rfl
      have HNE := Aside0.mk (HI.out.lx.neNode hy)
      clear hy hxh hhd hB hM
      go_upto_region 35 with (fail)
      go_upto_region 36 with (first | (at_mapUpdate; refine wpList_mp_update rfl _ _ _ rfl rfl HM.out (by omega) (s := v) (e := s) HV.out (by show _ ≤ _; have := HS.out; unfold maxLen; omega) rfl rfl ?_; intro w8 hM8 hf8; have H8 := Aside0.mk hM8; have F8 := Aside0.mk hf8; clear hM8 hf8) | fail)
      have HH8 := Aside0.mk (HHD.out.fr F8.out HNE.out.2)
      have c7 := HH8.out.cell 7 rfl
      have z7 := HH8.out.free 7
      have HNX := HH8.out.set 7 (by show 7 < 8; decide) (.int .u32 ((cnt + 1) % 4294967296))
      have HF9 := fr_set1 (F := fun k => k = L) (Fr.refl _ w8) (b := L) (o := 7) rfl (.int .u32 ((cnt + 1) % 4294967296))
      have H9 := Aside0.mk (And.intro HNX HF9)
      clear HNX HF9
      go_upto_region 37 with (fail)
      generalize w8.setCell ⟨L, 7, none⟩ (.int .u32 ((cnt + 1) % 4294967296)) = w9 at H9 ⊢
      go_wp2_with fail
      refine (unlock_L H9.out.1).mono ?_
      rintro e w10 ⟨rfl, hb10, hf10⟩
      have HFI : Aside0 (InsPost W B L K sub ex cnt T s v (.returned .nilIface) w10) := ⟨InS.done HF2.out HI.out HY.out H8.out F8.out HXH.out hb10 (H9.out.2.trans hf10 (fun _ _ h => h)) rfl⟩
      clear hb10 hf10
      go_wp2
      go_ret
      exact HFI.out
end Go.Proofs.YtimffhpnfdikoaaDoor.Ls
namespace Go.Proofs.YtimffhpnfdikoaaDoor.Ls
open Go.RowKit Go.Maps Go.Proofs.YtimffhpnfdikoaaDoor.Bs Go.Proofs.YtimffhpnfdikoaaDoorW.PrintWords Go.Proofs.YtimffhpnfdikoaaDoorW.PrintLast Go.Proofs.YtimffhpnfdikoaaDoorW.PrintMore
set_option linter.unusedVariables false
set_option linter.unusedSimpArgs false
/-- n elements of 'size' cells at the begin of a block made since 'base', whose type is one of 'S'. -/
def AG (S : TypeId → Prop) (w : World) (base size : Nat) (v : Value) (n : Nat) (xs : List Value) : Prop :=
  ∃ g cap cur T, v = .slice (some ⟨g, 0, none⟩) n cap ∧ S T ∧ base ≤ g ∧ w.heap[g]? = some (.cells cur T (0, 0)) ∧ xs.length = n * size ∧ n ≤ cap ∧ cap * size ≤ cur.size ∧ cap ≤ maxLen ∧ cur.toList.take (n * size) = xs
section
variable {S : TypeId → Prop}
theorem AG.made {w : World} {g base size : Nat} {cur : Array Value} {T : TypeId} {n : Nat} (h : w.heap[g]? = some (.cells cur T (0, 0))) (hS : S T) (hb : base ≤ g) (hn : n * size ≤ cur.size) (hm : n ≤ maxLen) : AG S w base size (.slice (some ⟨g, 0, none⟩) 0 n) 0 [] :=
  ⟨g, n, cur, T, rfl, hS, hb, h, by simp, Nat.zero_le _, hn, hm, by simp⟩
theorem AG.fr {F : Nat → Prop} {w w1 : World} {base size : Nat} {v : Value} {n : Nat} {xs : List Value} (h : AG S w base size v n xs) (hf : Fr F w w1) (hn : ∀ k, v.ownBlock = some k → ¬ F k) : AG S w1 base size v n xs := by
  obtain ⟨g, cap, cur, T, rfl, hS, hb, hg, r⟩ := h
  exact ⟨g, cap, cur, T, rfl, hS, hb, (hf.block g (Array.getElem?_eq_some_iff.1 hg).1 (hn g rfl)).trans hg, r⟩
theorem AG.alloc {w : World} {base size : Nat} {v : Value} {n : Nat} {xs : List Value} (h : AG S w base size v n xs) (o : Obj) : AG S (w.alloc o) base size v n xs := h.fr ((Fr.refl (F := fun _ => False) w).alloc o) (fun _ _ h => h)
theorem AG.low {w : World} {base base' size : Nat} {v : Value} {n : Nat} {xs : List Value} (h : AG S w base size v n xs) (hb : base' ≤ base) : AG S w base' size v n xs := by
  obtain ⟨g, cap, cur, T, rfl, hS, h1, r⟩ := h
  exact ⟨g, cap, cur, T, rfl, hS, by omega, r⟩
theorem AG.block {w : World} {base size : Nat} {v : Value} {n : Nat} {xs : List Value} (h : AG S w base size v n xs) : ∃ g cap cur T, v = .slice (some ⟨g, 0, none⟩) n cap ∧ n ≤ cap ∧ cap ≤ maxLen ∧ base ≤ g ∧ S T ∧ w.heap[g]? = some (.cells cur T (0, 0)) := by
  obtain ⟨g, cap, cur, T, rfl, hS, hb, hg, h0, h1, h2, h3, h4⟩ := h
  exact ⟨g, cap, cur, T, rfl, h1, h3, hb, hS, hg⟩
theorem AG.cell {w : World} {base size : Nat} {g n cap : Nat} {xs : List Value} (h : AG S w base size (.slice (some ⟨g, 0, none⟩) n cap) n xs) {j : Nat} (hj : j < xs.length) : w.cell? ⟨g, j, none⟩ = xs[j]? := by
  obtain ⟨g', cap', cur, T, e, hS, hb, hg, h0, h1, h2, h3, h4⟩ := h
  injection e with e1 e2 e3
  injection e1 with e1
  injection e1 with e1 e4
  subst e1
  rw [cell_of_row w g _ cur T (0, 0) hg]
  conv => rhs; rw [← h4]
  rw [List.getElem?_take_of_lt (by omega), Array.getElem?_toList]
theorem AG.of_own {w : World} {base e size n : Nat} {v : Value} {xs : List Value} (h : w.ownsRow base e size v n xs) (hS : S e) (hn : 0 < n) : AG S w base size v n xs := by
  obtain ⟨h1, h2⟩ := h
  rcases h2 with ⟨_, h0⟩ | ⟨g, cap, cur, rfl, hb, hg, hnc, hcm, hcs, htake⟩
  · omega
  · exact ⟨g, cap, cur, e, rfl, hS, hb, hg, h1, hnc, by omega, hcm, htake⟩
/-- What an append leaves. -/
structure AGPost (S : TypeId → Prop) (W : World) (base size : Nat) (v : Value) (n : Nat) (xs : List Value) (v' : Value) (w' : World) : Prop where
  row : AG S w' base size v' n xs
  fr : Fr (fun k => v.ownBlock = some k) W w'
section
variable {P : Program} {ops : Array Oper} {Q : Exit → Act → World → Prop} {rest : List Oper} {o : Oper} {a : Act}
set_option maxRecDepth 100000 in
theorem AG.run_append {W : World} {base : Nat} {t e : TypeId} {i0 : TypeInfo} {z : Value} {size bytes : Nat} (K : ElemK P t e i0 z size bytes) (hS : S e) (ty : TypeId) {v : Value} {n m : Nat} {xs ys : List Value} (h : AG S W base size v n xs) (hbW : base ≤ W.heap.size) {ad : Addr} {c : Nat} (hr : ReadG W (some ad) m size ys) (hm : 0 < m) (hsz : n + m ≤ 1000000) :
    ∃ v' w', (Builtin.append_ #[t, t] ty #[v, .slice (some ad) m c]).run P W = .ok v' w' ∧ AGPost S W base size v (n + m) (xs ++ ys) v' w' := by
  obtain ⟨g, cap, cur, T, rfl, hT, hb, hg, h0, h1, h2, h3, h4⟩ := h
  have hglt : g < W.heap.size := (Array.getElem?_eq_some_iff.1 hg).1
  have hyl := hr.len
  have hnews : ∀ j u, ys[j]? = some u → W.cell? (ad.add j) = some u := fun j u hu => by
    obtain ⟨ad', e, hc⟩ := hr.read (by have := (List.getElem?_eq_some_iff.1 hu).1; omega)
    injection e with e
    subst e
    exact hc j u hu
  have hp := K.pos
  by_cases hroom : n + m ≤ cap
  · have hmul : (n + m) * size ≤ cap * size := Nat.mul_le_mul_right _ hroom
    rw [Nat.add_mul] at hmul
    have hrun := run_append_room_cells (P := P) W t ty e i0 K.under K.info g 0 n cap ad m c ys (by rw [K.sz]; exact hyl) hnews hr.one hroom
      (fun j hj => by rw [K.sz, cell_of_row W g _ cur T (0, 0) hg, Array.getElem?_eq_getElem (by omega)]; rfl) (fun j _ => blk_frozen hg _)
    rw [K.sz, Nat.zero_add] at hrun
    obtain ⟨cur', c1, c2, c3⟩ := setCells_row ys (n * size) W cur hg (by omega)
    obtain ⟨s1, s2, s3, s4⟩ := setCells_same g ys (n * size) W
    refine ⟨_, _, hrun, ⟨⟨g, cap, cur', T, rfl, hT, hb, c1, by rw [List.length_append, h0, hyl, Nat.add_mul], hroom, by omega, h3, ?_⟩, ⟨s1, s2, s3, by rw [s4]; exact Nat.le_refl _, fun k hk hne => setCells_far _ _ k (fun e => hne (by rw [e]; rfl))⟩⟩⟩
    rw [c3]
    have hl1 : (List.take (n * size) cur.toList).length = n * size := by rw [h4, h0]
    rw [Nat.add_mul, List.take_append_of_le_length (by rw [List.length_append, hl1, hyl]; exact Nat.le_refl _), h4]
    exact List.take_of_length_le (by rw [List.length_append, h0, hyl]; exact Nat.le_refl _)
  · obtain ⟨v', w', hrun, hown, hgr⟩ := run_append_arg_grows (P := P) W t ty e i0 z size bytes K.under K.info K.zero K.sz K.by_ K.zs K.pos ⟨g, 0, none⟩ n cap xs h0
      (fun j u hu => by
        have hj : j < xs.length := (List.getElem?_eq_some_iff.1 hu).1
        rw [add_plain, cell_of_row W g _ cur T (0, 0) hg, ← hu]
        conv => rhs; rw [← h4]
        rw [List.getElem?_take_of_lt (by omega), Array.getElem?_toList])
      ad m c ys hyl hnews (by omega) (by unfold maxLen; omega) (by
        have := Nat.mul_le_mul hsz K.small
        omega)
    exact ⟨v', w', hrun, ⟨(AG.of_own hown hS (by omega)).low hbW, ⟨hgr.os, hgr.tape, hgr.output, hgr.size, fun k hk _ => hgr.block k hk (by simp)⟩⟩⟩
theorem AG.append {W : World} {base : Nat} {t e : TypeId} {i0 : TypeInfo} {z : Value} {size bytes : Nat} (K : ElemK P t e i0 z size bytes) (hw : Region.wanted o (yielded ops a.tmps) = true) (s x : Operand) (ho : o.op = .call { callee := .builtin .append, args := #[s, x], argTypes := #[t, t] }) (hS : S e)
    {v : Value} {n m : Nat} {xs ys : List Value} (hs : a.eval s = v) (h : AG S W base size v n xs) (hbW : base ≤ W.heap.size) {ad : Addr} {c : Nat} (hx : a.eval x = .slice (some ad) m c) (hr : ReadG W (some ad) m size ys) (hm : 0 < m) (hsz : n + m ≤ 1000000)
    (hK : ∀ v' w', AGPost S W base size v (n + m) (xs ++ ys) v' w' → wpList P ops Q rest (a.put o.dst v') w') : wpList P ops Q (o :: rest) a W := by
  refine wpList_step fun KK hK' => ?_
  rw [if_pos hw]
  obtain ⟨v', w', hrun, hp⟩ := AG.run_append (c := c) K hS o.type h hbW hr hm hsz
  unfold Oper.wp execOp
  simp only [ho, resolve, invoke, builtin, Sem.run_bind, Sem.run_pure, Result.andThen_ok, List.map_toArray, List.map_cons, List.map_nil, hs, hx, hrun]
  exact hK' _ _ (hK v' w' hp)
end
end
/-! ### Count -/
def CountPost (w : World) (B L K : Nat) (sub : Path → Int → Option ByteArray) (ex : Prop) (cnt : Int) (e : Ending) (w' : World) : Prop := e = .returned (.int .u32 cnt) ∧ Fr (WF B w) w w' ∧ Li w' B L K sub ex cnt
set_option maxHeartbeats 4000000 in
set_option maxRecDepth 100000 in
theorem count_calls {w : World} {B L K : Nat} {sub : Path → Int → Option ByteArray} {ex : Prop} {cnt : Int} (h : Li w B L K sub ex cnt) : Calls Tryd.prog 34 #[.pointer (some ⟨L, 0, none⟩)] w (CountPost w B L K sub ex cnt) := by
  obtain ⟨nd, lv, hX⟩ := h
  obtain ⟨xr, hxr, hh⟩ := hX.head
  have HX := Aside0.mk hX
  have HR := Aside0.mk hxr
  have HH := Aside0.mk hh
  clear hX hxr hh
  go_enter_defers Tryd.func34, Tryd.ntmps34
  go_wp2_with fail
  refine (rlock_L HH.out).mono ?_
  rintro e w1 ⟨rfl, hb1, hf1⟩
  have c7 := hb1.cell 7 rfl
  have HB1 := Aside0.mk hb1
  have HF1 := Aside0.mk hf1
  clear hb1 hf1
  go_wp2_with fail
  refine leaves_cons (f := 52) (args := #[.pointer (some ⟨L, 0, none⟩)]) (by simp) (by simp [go_sem]) ?_
  refine (runlock_D HB1.out .returning).mono ?_
  rintro e u' w2 ⟨rfl, rfl, hb2, hf2⟩
  refine ⟨_, results_tmp rfl _ _ _, rfl, HX.out.frL (HF1.out.trans hf2 (fun _ _ h => h)), nd, lv, HX.out.turn (fun x hx => ?_) (HF1.out.trans hf2 (fun _ _ h => h))⟩
  rw [HR.out] at hx
  injection hx with hx
  subst hx
  exact hb2
end Go.Proofs.YtimffhpnfdikoaaDoor.Ls
namespace Go.Proofs.YtimffhpnfdikoaaDoor.Ls
open Go.RowKit Go.Maps Go.Proofs.YtimffhpnfdikoaaDoor.Bs Go.Proofs.YtimffhpnfdikoaaDoorW.PrintWords Go.Proofs.YtimffhpnfdikoaaDoorW.PrintLast Go.Proofs.YtimffhpnfdikoaaDoorW.PrintMore
set_option linter.unusedVariables false
set_option linter.unusedSimpArgs false
abbrev S13 : TypeId → Prop := fun T => T = 114 ∨ T = 113
/-- The levels, nodes and tokens that a take has passed. -/
structure Ent (nd lv : Pm) (T : Path) (n : Nat) (xs : List Value) : Prop where
  len : xs.length = n * 3
  ent : ∀ j, j < n → ∃ x y t, lv (T.take j) = some x ∧ nd (T.take j ++ [t]) = some y ∧ T[j]? = some t ∧ xs[j * 3]? = some (.pointer (some ⟨x.1, 0, none⟩)) ∧ xs[j * 3 + 1]? = some (.pointer (some ⟨y.1, 0, none⟩)) ∧ xs[j * 3 + 2]? = some (.string t)
theorem Ent.push {nd lv : Pm} {T : Path} {n : Nat} {xs : List Value} (h : Ent nd lv T n xs) {x y : Nat × Nat} {t : ByteArray} (hx : lv (T.take n) = some x) (hy : nd (T.take n ++ [t]) = some y) (ht : T[n]? = some t) :
    Ent nd lv T (n + 1) (xs ++ [.pointer (some ⟨x.1, 0, none⟩), .pointer (some ⟨y.1, 0, none⟩), .string t]) := by
  have hl := h.len
  refine ⟨by rw [List.length_append, hl]; simp; omega, fun j hj => ?_⟩
  by_cases hjn : j < n
  · obtain ⟨x', y', t', h1, h2, h3, h4, h5, h6⟩ := h.ent j hjn
    exact ⟨x', y', t', h1, h2, h3, by rw [List.getElem?_append_left (by omega)]; exact h4, by rw [List.getElem?_append_left (by omega)]; exact h5, by rw [List.getElem?_append_left (by omega)]; exact h6⟩
  · obtain rfl : j = n := by omega
    refine ⟨x, y, t, hx, hy, ht, ?_, ?_, ?_⟩
    · rw [List.getElem?_append_right (by omega), hl, show j * 3 - j * 3 = 0 by omega]; rfl
    · rw [List.getElem?_append_right (by omega), hl, show j * 3 + 1 - j * 3 = 1 by omega]; rfl
    · rw [List.getElem?_append_right (by omega), hl, show j * 3 + 2 - j * 3 = 2 by omega]; rfl
/-- A take on its way down: i tokens are behind it. -/
structure RmS (w1 : World) (nd lv : Pm) (T : Path) (gt : Nat) (i : Nat) (sf : Bool) (vn vl v13 : Value) (w : World) : Prop where
  same : Same w1 w
  tok : Tok w gt T
  ok : okF false T = okF sf (T.drop i)
  vn : vn = ptrA ((nd (T.take i)).map Prod.fst)
  vl : vl = ptrA ((lv (T.take i)).map Prod.fst)
  row : ∃ n xs, AG S13 w w1.heap.size 3 v13 n xs ∧ Ent nd lv T n xs ∧ n ≤ i ∧ (nd (T.take i) ≠ none ∨ i = 0 → n = i)
section
variable {w1 w w' : World} {B L K : Nat} {nd lv : Pm} {sub : Path → Int → Option ByteArray} {ex : Prop} {cnt : Int} {T : Path} {i gt : Nat} {sf : Bool} {vn vl v13 : Value} {t : ByteArray}
theorem RmS.bad (h : RmS w1 nd lv T gt i sf vn vl v13 w) (ht : T[i]? = some t) (hb : t.size = 0 ∨ sf = true) : okF false T = false := by
  rw [h.ok, drop_cons ht]
  unfold okF
  rw [if_pos hb]
theorem RmS.okn (h : RmS w1 nd lv T gt i sf vn vl v13 w) (ht : T[i]? = some t) (hb : ¬ (t.size = 0 ∨ sf = true)) : okF false T = okF (decide (t = full)) (T.drop (i + 1)) := by
  rw [h.ok, drop_cons ht]
  conv => lhs; unfold okF
  rw [if_neg hb]
/-- A path without a level has no node below. -/
theorem Tri.below (h : Tri w B K nd lv sub) {p : Path} (hl : lv p = none) : ∀ (n : Nat) (r : Path), r.length = n → r ≠ [] → nd (p ++ r) = none
  | 0, r, hn, hr => absurd (List.length_eq_zero_iff.1 hn) hr
  | n + 1, r, hn, hr => by
    cases hq : nd (p ++ r) with
    | none => rfl
    | some y =>
      rcases List.eq_nil_or_concat r with rfl | ⟨r', u, rfl⟩
      · exact absurd rfl hr
      · rw [List.concat_eq_append, ← List.append_assoc] at hq
        obtain ⟨z, hz⟩ := h.up _ _ _ hq
        by_cases hr0 : r' = []
        · subst hr0
          rw [List.append_nil, hl] at hz
          cases hz
        · obtain ⟨y', hy'⟩ := h.lvnd _ _ (by intro e; have := List.append_eq_nil_iff.1 e; exact hr0 this.2) hz
          have := Tri.below h hl n r' (by simp at hn; omega) hr0
          rw [this] at hy'
          cases hy'
theorem RmS.none (h : RmS w1 nd lv T gt i sf vn vl v13 w) (hT : Tri w B K nd lv sub) (hi : i < T.length) (hl : lv (T.take i) = Option.none) : nd T = Option.none := by
  have := hT.below hl _ (T.drop i) rfl (by intro e; have := List.drop_eq_nil_iff.1 e; omega)
  rwa [List.take_append_drop] at this
theorem tok_block {w : World} {g k : Nat} {T : Path} {cs : Array Value} {t : TypeId} {z : Nat × Nat} (h : Tok w g T) (hk : w.heap[k]? = some (.cells cs t z)) (hS : S13 t) : k ≠ g := by
  rintro rfl
  obtain ⟨cur, hb⟩ := h.blk
  rw [hb] at hk
  injection hk with hk
  injection hk with _ hk _
  subst hk
  rcases hS with hS | hS <;> exact absurd hS (by decide)
theorem RmS.next (h : RmS w1 nd lv T gt i sf vn vl v13 w) (hT : Tri w B K nd lv sub) (ht : T[i]? = some t) (hb : ¬ (t.size = 0 ∨ sf = true)) {x y : Nat × Nat} (hx : lv (T.take i) = some x) (hy : nd (T.take i ++ [t]) = some y) {n : Nat} {xs : List Value} (hA : AG S13 w w1.heap.size 3 v13 n xs) (hE : Ent nd lv T n xs) (hn : n = i) {o : Obj} {v' : Value}
    (hP : AGPost S13 (w.alloc o) w1.heap.size 3 v13 (n + 1) (xs ++ [.pointer (some ⟨x.1, 0, Option.none⟩), .pointer (some ⟨y.1, 0, Option.none⟩), .string t]) v' w') :
    RmS w1 nd lv T gt (i + 1) (decide (t = full)) (.pointer (some ⟨y.1, 0, Option.none⟩)) (ptrA ((lv (T.take i ++ [t])).map Prod.fst)) v' w' := by
  subst hn
  obtain ⟨g, cap, cur, T', rfl, h1, h2, h3, h4, h5⟩ := hA.block
  refine ⟨?_, ?_, h.okn ht hb, ?_, ?_, n + 1, _, hP.row, hE.push hx hy ht, Nat.le_refl _, fun _ => rfl⟩
  · refine (h.same.alloc o).trans hP.fr (fun k hk e => ?_)
    have : g = k := by simpa [Value.ownBlock] using e
    omega
  · refine Tok.fr (Tok.fr h.tok ((Fr.refl (fun _ => False) w).alloc o) (fun h => h)) hP.fr (fun e => ?_)
    have : g = gt := by simpa [Value.ownBlock] using e
    exact tok_block h.tok h5 h4 this
  · rw [take_snoc ht, hy]; rfl
  · rw [take_snoc ht]
theorem RmS.lost (h : RmS w1 nd lv T gt i sf vn vl v13 w) (hT : Tri w B K nd lv sub) (ht : T[i]? = some t) (hb : ¬ (t.size = 0 ∨ sf = true)) (hy : nd (T.take i ++ [t]) = Option.none) :
    RmS w1 nd lv T gt (i + 1) (decide (t = full)) (.pointer Option.none) (.pointer Option.none) v13 w := by
  obtain ⟨n, xs, hA, hE, hn, -⟩ := h.row
  refine ⟨h.same, h.tok, h.okn ht hb, ?_, ?_, n, xs, hA, hE, by omega, fun e => ?_⟩
  · rw [take_snoc ht, hy]; rfl
  · rw [take_snoc ht]
    cases hl : lv (T.take i ++ [t]) with
    | none => rfl
    | some z =>
      obtain ⟨y, hy'⟩ := hT.lvnd _ _ (ne_nil _ _) hl
      rw [hy] at hy'
      cases hy'
  · rw [take_snoc ht, hy] at e
    rcases e with e | e
    · exact absurd rfl e
    · omega
end
/-- A take on its way back: m nodes of the path are still to be looked at. -/
structure RmT (w1 : World) (B L K : Nat) (sub : Path → Int → Option ByteArray) (ex : Prop) (cnt : Int) (nd0 lv0 : Pm) (T : Path) (xs : List Value) (g cap m : Nat) (nd lv : Pm) (w : World) : Prop where
  lx : Lx w B L K sub (fun q => q <+: T.take m) ex 1 low30 cnt nd lv
  keep : ∀ q, q <+: T.take m → nd q = nd0 q ∧ lv q = lv0 q
  row : AG S13 w w1.heap.size 3 (.slice (some ⟨g, 0, none⟩) T.length cap) T.length xs
  fr : Fr (WF B w1) w1 w
section
variable {w1 w w' : World} {B L K : Nat} {nd0 lv0 nd lv : Pm} {sub : Path → Int → Option ByteArray} {ex : Prop} {cnt : Int} {T : Path} {xs : List Value} {g cap j : Nat} {t : ByteArray} {x y : Nat × Nat}
theorem pre_ne {p : Path} {t : ByteArray} (h : p ++ [t] <+: p) : False := by
  have := h.length_le
  simp at this
  omega
theorem RmT.get (h : RmT w1 B L K sub ex cnt nd0 lv0 T xs g cap (j + 1) nd lv w) (ht : T[j]? = some t) (hx : lv0 (T.take j) = some x) (hy : nd0 (T.take j ++ [t]) = some y) : lv (T.take j) = some x ∧ nd (T.take j ++ [t]) = some y := by
  rw [(h.keep (T.take j) (by rw [take_snoc ht]; exact List.prefix_append _ _)).2, (h.keep (T.take j ++ [t]) (by rw [take_snoc ht]; exact List.prefix_refl _)).1]
  exact ⟨hx, hy⟩
/-- The node is not empty. -/
theorem RmT.stay (h : RmT w1 B L K sub ex cnt nd0 lv0 T xs g cap (j + 1) nd lv w) (ht : T[j]? = some t) (hb : ¬ ((∀ v, sub (T.take j ++ [t]) v = none) ∧ ∀ u, nd (T.take j ++ [t] ++ [u]) = none)) : RmT w1 B L K sub ex cnt nd0 lv0 T xs g cap j nd lv w := by
  have e := take_snoc ht
  have hX := h.lx
  refine ⟨⟨hX.base, hX.size, hX.tri, hX.head, hX.out, fun hx q z hz => ?_⟩, fun q hq => h.keep q (by rw [e]; exact pre_snoc.2 (.inl hq)), h.row, h.fr⟩
  rcases hX.live hx q z hz with hq | hq
  · rw [e] at hq
    rcases pre_snoc.1 hq with hq | rfl
    · exact .inl hq
    · right
      by_cases hs : ∀ v, sub (T.take j ++ [t]) v = none
      · have : ∃ u, nd (T.take j ++ [t] ++ [u]) ≠ none := Classical.byContradiction fun hn => hb ⟨hs, fun u => Classical.byContradiction fun hu => hn ⟨u, hu⟩⟩
        obtain ⟨u, hu⟩ := this
        obtain ⟨z', hz'⟩ := Option.ne_none_iff_exists'.1 hu
        rcases hX.live hx _ _ hz' with hq' | ⟨r, v, s, hr⟩
        · rw [e] at hq'
          exact (pre_ne hq').elim
        · exact ⟨u :: r, v, s, by rw [← hr]; simp⟩
      · obtain ⟨v, hv⟩ := Classical.not_forall.1 hs
        obtain ⟨s, hs'⟩ := Option.ne_none_iff_exists'.1 hv
        exact ⟨[], v, s, by rw [List.append_nil]; exact hs'⟩
  · exact .inr hq
theorem RmT.cut (h : RmT w1 B L K sub ex cnt nd0 lv0 T xs g cap (j + 1) nd lv w) (ht : T[j]? = some t) (hx : lv (T.take j) = some x) (hs : ∀ v, sub (T.take j ++ [t]) v = none) (hk : ∀ u, nd (T.take j ++ [t] ++ [u]) = none) {e : Ending} (hP : PrunePost w nd K (T.take j) t x e w') :
    RmT w1 B L K sub ex cnt nd0 lv0 T xs g cap j (del nd (T.take j ++ [t])) (del lv (T.take j ++ [t])) w' := by
  have e0 := take_snoc ht
  refine ⟨h.lx.prune hx hk hs hP.fr hP.lev hP.map (fun q hq hq' => ?_), fun q hq => ?_, h.row.fr hP.fr (fun k hk' hx' => ?_), wf_trans h.fr (fr_wf hP.fr (fun k _ hk => ?_))⟩
  · rw [e0] at hq'
    rcases pre_snoc.1 hq' with hq' | hq'
    · exact hq'
    · exact absurd hq' hq
  · have hne : q ≠ T.take j ++ [t] := by rintro rfl; exact pre_ne hq
    obtain ⟨h1, h2⟩ := h.keep q (by rw [e0]; exact pre_snoc.2 (.inl hq))
    unfold del
    rw [if_neg hne, if_neg hne]
    exact ⟨h1, h2⟩
  · obtain ⟨g', cap', cur, T', e', q1, q2, q3, q4, q5⟩ := h.row.block
    injection e' with e1 _ _
    injection e1 with e1
    injection e1 with e1 _
    subst e1
    have hgk : g = k := by simpa [Value.ownBlock] using hk'
    subst hgk
    have hw : WK w g := by
      rcases hx' with hx' | hx'
      · rw [hx']; exact (h.lx.wfLev hx).1.2
      · rw [hx']; exact (h.lx.wfLev hx).2.2
    rcases q4 with q4 | q4 <;> (subst q4; exact not_wk q5 (by decide) (by decide) (by decide) hw)
  · rcases hk with rfl | rfl
    · exact (h.lx.wfLev hx).1
    · exact (h.lx.wfLev hx).2
theorem RmT.same {m : Nat} (h : RmT w1 B L K sub ex cnt nd0 lv0 T xs g cap m nd lv w) (hf : Same w w') : RmT w1 B L K sub ex cnt nd0 lv0 T xs g cap m nd lv w' :=
  ⟨h.lx.fr hf (fun _ _ h => h), h.keep, h.row.fr hf (fun _ _ h => h), wf_trans h.fr (same_wf hf)⟩
theorem RmT.done (h : RmT w1 B L K sub ex cnt nd0 lv0 T xs g cap 0 nd lv w) : Lx w B L K sub (fun _ => False) ex 1 low30 cnt nd lv := by
  have hX := h.lx
  refine ⟨hX.base, hX.size, hX.tri, hX.head, hX.out, fun hx q z hz => ?_⟩
  rcases hX.live hx q z hz with hq | hq
  · have : q = [] := by simpa using hq
    subst this
    rw [hX.tri.nonil] at hz
    cases hz
  · exact .inr hq
end
theorem ag_ne {w : World} {base g n c b : Nat} {xs cs : List Value} {T : TypeId} (h : AG S13 w base 3 (.slice (some ⟨g, 0, none⟩) n c) n xs) (hB : Blk w b T cs) (hT : T ≠ 114 ∧ T ≠ 113) : g ≠ b := by
  rintro rfl
  obtain ⟨g', cap', cur, T', e', q1, q2, q3, q4, q5⟩ := h.block
  injection e' with e1 _ _
  injection e1 with e1
  injection e1 with e1 _
  subst e1
  have := q5.symm.trans hB.blk
  injection this with this
  injection this with _ this _
  subst this
  rcases q4 with q4 | q4
  · exact hT.1 q4
  · exact hT.2 q4
theorem rms_at {w : World} {B K : Nat} {nd lv : Pm} {sub : Path → Int → Option ByteArray} {T : Path} {i n : Nat} {x : Nat × Nat} (hT : Tri w B K nd lv sub) (hx : lv (T.take i) = some x) (hi : i ≤ T.length) (h : nd (T.take i) ≠ none ∨ i = 0 → n = i) : n = i := by
  refine h ?_
  by_cases h0 : i = 0
  · exact .inr h0
  · obtain ⟨y, hy⟩ := hT.lvnd _ _ (by intro e; have := congrArg List.length e; rw [List.length_take, List.length_nil] at this; omega) hx
    exact .inl (by rw [hy]; simp)
theorem RmT.start {w1 w w' w5 : World} {B L K : Nat} {nd lv : Pm} {sub : Path → Int → Option ByteArray} {ex : Prop} {cnt cnt' : Int} {T : Path} {xs : List Value} {g cap : Nat} {y xr : Nat × Nat} {v : Int} (hS : Same w1 w) (h : Lx w B L K sub (fun _ => False) ex 1 low30 cnt nd lv) (hA : AG S13 w w1.heap.size 3 (.slice (some ⟨g, 0, none⟩) T.length cap) T.length xs) (hy : nd T = some y)
    (hM : Mp VS w' y.2 K (del (sub T) v)) (hf : Fr (fun k => k = y.2) w w') (hr : lv [] = some xr) (hb : Blk w5 L 81 (hdr 1 low30 (.pointer (some ⟨xr.1, 0, none⟩)) cnt')) (hf5 : Fr (fun k => k = L) w' w5) : RmT w1 B L K (setS sub T (del (sub T) v)) ex cnt' nd lv T xs g cap T.length nd lv w5 := by
  have h1 := h.subs hy (Nat.le_refl K) hf hM (E' := fun q => q <+: T) (ex' := ex) (fun hx q z hq => ?_)
  · refine ⟨?_, fun q hq => ⟨rfl, rfl⟩, ?_, ?_⟩
    · rw [List.take_length]
      refine h1.turn (fun x hx => ?_) hf5
      rw [hr] at hx
      injection hx with hx
      subst hx
      exact hb
    · refine (hA.fr hf (fun k hk e => ?_)).fr hf5 (fun k hk e => ?_)
      · obtain ⟨_, _, _, hM0⟩ := h.tri.node T y hy
        obtain ⟨g', cap', cur, T', e', q1, q2, q3, q4, q5⟩ := hA.block
        injection e' with e1 _ _
        injection e1 with e1
        injection e1 with e1 _
        subst e1
        have hgk : g = k := by simpa [Value.ownBlock] using hk
        subst hgk
        subst e
        have hw : WK w y.2 := Mp.wk hM0
        rcases q4 with q4 | q4 <;> (subst q4; exact not_wk q5 (by decide) (by decide) (by decide) hw)
      · have hgk : g = k := by simpa [Value.ownBlock] using hk
        subst hgk
        obtain ⟨z, hz, hh⟩ := h.head
        exact ag_ne hA hh ⟨by decide, by decide⟩ e
    · refine wf_trans (same_wf hS) (wf_trans (fr_wf hf (fun k _ hk => ?_)) (h1.frL hf5))
      subst hk
      exact (h.wfNode hy).2
  · by_cases hqT : q <+: T
    · exact .inl hqT
    · right
      rcases h.live hx q z hq with e | ⟨r, v', s, e⟩
      · exact e.elim
      · refine ⟨r, v', s, ?_⟩
        unfold setS
        rw [if_neg (fun e' => hqT ⟨r, e'⟩)]
        exact e
theorem setS_del_none {sub : Path → Int → Option ByteArray} {T : Path} {v : Int} (h : sub T v = none) : setS sub T (del (sub T) v) = sub := by
  funext q u
  unfold setS
  split
  · subst_vars
    unfold del
    split
    · subst_vars; exact h.symm
    · rfl
  · rfl
/-- A take's end. -/
structure RmPost (W : World) (B L K : Nat) (sub : Path → Int → Option ByteArray) (ex : Prop) (cnt : Int) (T : Path) (v : Int) (e : Ending) (w' : World) : Prop where
  fr : Fr (WF B W) W w'
  ok : okF false T = true → sub T v ≠ none → e = .returned .nilIface ∧ Li w' B L K (setS sub T (del (sub T) v)) ex (IntKind.u32.wrap (cnt - 1))
  bad : ¬ (okF false T = true ∧ sub T v ≠ none) → (∃ t0 a0, e = .returned (.iface t0 (.pointer (some a0)))) ∧ Li w' B L K sub ex cnt
section
variable {W w1 w w' : World} {B L K : Nat} {nd lv : Pm} {sub : Path → Int → Option ByteArray} {ex : Prop} {cnt : Int} {T : Path} {v : Int}
theorem Lx.unlocked (h : Lx w B L K sub (fun _ => False) ex 1 low30 cnt nd lv) {r : Value} (hb : Blk w L 81 (hdr 1 low30 r cnt)) (h4 : Blk w' L 81 (hdr 0 0 r cnt)) (hf : Fr (fun k => k = L) w w') : Li w' B L K sub ex cnt := by
  refine ⟨nd, lv, h.turn (fun x hx => ?_) hf⟩
  obtain ⟨z, hz, hh⟩ := h.head
  rw [hz] at hx
  injection hx with hx
  subst hx
  have := hb.blk.symm.trans hh.blk
  injection this with this
  injection this with this
  have e : hdr 1 low30 r cnt = hdr 1 low30 (.pointer (some ⟨z.1, 0, none⟩)) cnt := by simpa using this
  have e2 : r = .pointer (some ⟨z.1, 0, none⟩) := by
    unfold hdr at e
    simpa using e
  rw [← e2]
  exact h4
/-- The list is as it was. -/
theorem rm_bad (hW : Fr (WF B W) W w) (h : Lx w B L K sub (fun _ => False) ex 1 low30 cnt nd lv) {r : Value} (hb : Blk w L 81 (hdr 1 low30 r cnt)) (hbad : ¬ (okF false T = true ∧ sub T v ≠ none)) {t0 : TypeId} {a0 : Addr} (h4 : Blk w' L 81 (hdr 0 0 r cnt)) (hf : Fr (fun k => k = L) w w') :
    RmPost W B L K sub ex cnt T v (.returned (.iface t0 (.pointer (some a0)))) w' :=
  ⟨wf_trans hW (h.frL hf), fun h1 h2 => absurd ⟨h1, h2⟩ hbad, fun _ => ⟨⟨_, _, rfl⟩, h.unlocked hb h4 hf⟩⟩
theorem rm_ok {cnt' : Int} (hW : Fr (WF B W) W w) (hgood : okF false T = true ∧ sub T v ≠ none) (h : Lx w B L K (setS sub T (del (sub T) v)) (fun _ => False) ex 1 low30 cnt' nd lv) {r : Value} (hb : Blk w L 81 (hdr 1 low30 r cnt')) (h4 : Blk w' L 81 (hdr 0 0 r cnt')) (hf : Fr (fun k => k = L) w w') (hc : cnt' = IntKind.u32.wrap (cnt - 1)) :
    RmPost W B L K sub ex cnt T v (.returned .nilIface) w' :=
  ⟨wf_trans hW (h.frL hf), fun _ _ => ⟨rfl, hc ▸ h.unlocked hb h4 hf⟩, fun hb => absurd hgood hb⟩
end
end Go.Proofs.YtimffhpnfdikoaaDoor.Ls
namespace Go.Proofs.YtimffhpnfdikoaaDoor.Ls
open Go.RowKit Go.Maps Go.Proofs.YtimffhpnfdikoaaDoor.Bs Go.Proofs.YtimffhpnfdikoaaDoorW.PrintWords Go.Proofs.YtimffhpnfdikoaaDoorW.PrintLast Go.Proofs.YtimffhpnfdikoaaDoorW.PrintMore Go.Proofs.YtimffhpnfdikoaaDoor.GFnListKinds
set_option linter.unusedVariables false
set_option linter.unusedSimpArgs false
theorem info113b : (Tryd.prog.info? 113).map (fun i => (i.zero, i.size, i.bytes)) = some (some (.agg #[.pointer none, .pointer none, .string .empty]), 3, 32) := by kernel_rfl
theorem ek113 : ∃ i, ElemK Tryd.prog 115 113 i (.agg #[.pointer none, .pointer none, .string .empty]) 3 32 := elem_of Tryd.underlying115 info113b (by decide) (by decide) (by decide)
set_option maxHeartbeats 16000000 in
set_option maxRecDepth 100000 in
theorem remove_calls {W : World} {B L K : Nat} {sub : Path → Int → Option ByteArray} {ex : Prop} {cnt : Int} {T : Path} {s : ByteArray} {v : Int} {t0 t1 : TypeId} {a0 a1 : Addr} (h : Li W B L K sub ex cnt) (hs : s.size ≤ 1000) (hv : (Lit.int .i64 v).wf = true) {kz : Nat} (hz : gsl_zzSplit.f kz s ⟨#[46]⟩ = some T)
    (hT : T ≠ []) (hT1 : T.length ≤ 1000) (hT2 : ∀ t ∈ T, t.size ≤ 1000) (hK : K < 100000) (hG : W.cell? ⟨0, 0, none⟩ = some (.iface t0 (.pointer (some a0)))) (hG1 : W.cell? ⟨1, 0, none⟩ = some (.iface t1 (.pointer (some a1)))) (hB : 1 < B) :
    Calls Tryd.prog 63 #[.pointer (some ⟨L, 0, none⟩), .string s, .int .i64 v, .bool true] W (RmPost W B L K sub ex cnt T v) := by
  obtain ⟨nd, lv, hX⟩ := h
  obtain ⟨i113, hE113⟩ := ek113
  have HE := Aside0.mk hE113
  have HX := Aside0.mk hX
  have HS := Aside0.mk hs
  have HV := Aside0.mk hv
  have HZ := Aside0.mk hz
  have HT := Aside0.mk hT
  have HT2 := Aside0.mk hT2
  have HG := Aside0.mk hG
  have HG1 := Aside0.mk hG1
  have HB := Aside0.mk hB
  obtain ⟨xr, hxr, hh⟩ := hX.head
  have HR := Aside0.mk hxr
  have HH := Aside0.mk hh
  clear hX hs hv hz hT hT2 hG hG1 hB hxr hh hE113
  go_enter_defers Tryd.func63, Tryd.ntmps63
  go_wp2_with fail
  refine (lock_L HH.out).mono ?_
  rintro e w1 ⟨rfl, hb1, hf1⟩
  have HX1 : Aside0 (Lx w1 B L K sub (fun _ => False) ex 1 low30 cnt nd lv) := ⟨HX.out.turn (fun x hx => by rw [HR.out] at hx; injection hx with hx; subst hx; exact hb1) hf1⟩
  have HF1 : Aside0 (Fr (WF B W) W w1) := ⟨HX.out.frL hf1⟩
  have c6 := hb1.cell 6 rfl
  have HB1 := Aside0.mk hb1
  clear hb1 hf1 HX HH
  have hw2 : ∃ w2, gsl_zzSplit.f kz s ⟨#[46]⟩ = some T ∧ w2 = w1 := ⟨w1, HZ.out, rfl⟩
  clear hw2
  go_upto_region 9 with (fail)
  generalize hw0 : w1.alloc (Obj.cells _ 114) = w0
  have HA0 : Aside0 (AG S13 w0 w1.heap.size 3 (.slice (some ⟨w1.heap.size, 0, none⟩) 0 32) 0 [] ∧ Same w1 w0) := ⟨hw0 ▸ ⟨AG.made (heap_alloc_new w1 _) (.inl rfl) (Nat.le_refl _) (Nat.le_of_eq (by kernel_rfl)) (by decide), (Fr.refl _ w1).alloc _⟩⟩
  obtain ⟨P0, hP0⟩ : ∃ P0, P0 = w1.heap.size := ⟨_, rfl⟩
  rw [← hP0] at HA0 ⊢
  have HP0 := Aside0.mk hP0
  clear hw0 c6 hP0
  go_wp2_with fail
  refine (gsl_zzSplit.calls kz s ⟨#[46]⟩ T w0 HZ.out).mono ?_
  rintro e w2 ⟨v22, rfl, hR, hb⟩
  obtain ⟨g, cg, rfl, hg1, hgc, hTok⟩ := tok_of hR HT.out
  have HI0 : Aside0 (RmS w1 nd lv T g 0 false (.pointer none) (.pointer (some ⟨xr.1, 0, none⟩)) (.slice (some ⟨P0, 0, none⟩) 0 32) w2) := ⟨⟨HA0.out.2.trans (Bs.fr_of_below hb) (fun _ _ h => h), hTok, rfl, by rw [List.take_zero, HX1.out.tri.nonil]; rfl, by rw [List.take_zero, HR.out]; rfl, 0, [], HP0.out ▸ HA0.out.1.fr (Bs.fr_of_below hb) (fun _ _ h => h), ⟨rfl, fun j hj => absurd hj (Nat.not_lt_zero _)⟩, Nat.le_refl _, fun _ => rfl⟩⟩
  have HGC := Aside0.mk hgc
  clear hR hb hTok HA0 hg1 hgc
  go_wp2_with fail
  go_loopg [9, 10, 11, 13, 37] T.length (fun k v9 v10 v11 v13 v37 w' => ∃ (i : Nat) (sf : Bool), i ≤ T.length ∧ v37 = .int .i64 i ∧ v9 = .bool sf ∧ Aside0 (T.length - i ≤ k) ∧ Aside0 (RmS w1 nd lv T g i sf v10 v11 v13 w'))
  case atStart => exact ⟨0, false, Nat.zero_le _, rfl, rfl, ⟨Nat.le_refl _⟩, HI0⟩
  case round =>
    obtain ⟨i, sf, hi, rfl, rfl, HKK, HI⟩ := hrel
    have HXW : Aside0 (Lx wr B L K sub (fun _ => False) ex 1 low30 cnt nd lv) := ⟨HX1.out.fr HI.out.same (fun _ _ h => h)⟩
    have HBW : Aside0 (Blk wr L 81 (hdr 1 low30 (.pointer (some ⟨xr.1, 0, none⟩)) cnt)) := ⟨HB1.out.fr HI.out.same (fun h => h)⟩
    have HFW : Aside0 (Fr (WF B W) W wr) := ⟨wf_trans HF1.out (same_wf HI.out.same)⟩
    have hg0 := far_cell HFW.out (by have := HB.out; omega) HG.out
    have hg1 := far_cell HFW.out (by have := HB.out; omega) HG1.out
    by_cases hlt : i < T.length
    · obtain ⟨t, ht⟩ : ∃ t, T[i]? = some t := ⟨_, List.getElem?_eq_getElem hlt⟩
      have HTI := Aside0.mk ht
      have hts : t.size ≤ 1000 := HT2.out t (List.mem_of_getElem? ht)
      have ct := HI.out.tok.at_ i t ht
      have i1 : (0 : Int) ≤ (i : Int) := by omega
      have i2 : (i : Int) < (T.length : Int) := by omega
      have e1 : IntKind.i64.wrap ((i : Int) + 1) = ((i + 1 : Nat) : Int) := by rw [IntKind.wrap_i64]; omega
      clear ht
      by_cases hbad : t.size = 0 ∨ sf = true
      · have HBAD : Aside0 (¬ (okF false T = true ∧ sub T v ≠ none)) := ⟨fun h => by have := HI.out.bad HTI.out hbad; rw [h.1] at this; cases this⟩
        by_cases h0 : t.size = 0
        · have h1 : ((t.size : Int) == 0) = true := by simpa using h0
          clear hbad h0
          go_upto_region 13 with (fail)
          go_wp2_with fail
          refine leaves_cons (f := 61) (args := #[.pointer (some ⟨L, 0, none⟩)]) (by simp) (by simp [go_sem]) ?_
          refine (unlock_D HBW.out .returning).mono ?_
          rintro e u' w4 ⟨rfl, rfl, hb4, hf4⟩
          refine ⟨_, results_tmp rfl _ _ _, ?_⟩
          exact rm_bad HFW.out HXW.out HBW.out HBAD.out hb4 hf4
        · have h1 : ((t.size : Int) == 0) = false := by simpa using h0
          obtain rfl : sf = true := by rcases hbad with h | h; exact absurd h h0; exact h
          clear hbad h0
          go_upto_region 13 with (fail)
          go_wp2_with fail
          refine leaves_cons (f := 61) (args := #[.pointer (some ⟨L, 0, none⟩)]) (by simp) (by simp [go_sem]) ?_
          refine (unlock_D HBW.out .returning).mono ?_
          rintro e u' w4 ⟨rfl, rfl, hb4, hf4⟩
          refine ⟨_, results_tmp rfl _ _ _, ?_⟩
          exact rm_bad HFW.out HXW.out HBW.out HBAD.out hb4 hf4
      · obtain rfl : sf = false := by cases sf; rfl; exact absurd (Or.inr rfl) hbad
        have h0 : t.size ≠ 0 := fun h => hbad (.inl h)
        have h1 : ((t.size : Int) == 0) = false := by simpa using h0
        have HNB := Aside0.mk hbad
        clear hbad
        obtain ⟨p, hp⟩ : ∃ p, T.take i = p := ⟨_, rfl⟩
        have HP := Aside0.mk hp
        have HVL := Aside0.mk HI.out.vl
        obtain ⟨n, xs, hA, hE, hn, hni⟩ := HI.out.row
        have HA := Aside0.mk (And.intro hA hE)
        have HN := Aside0.mk (And.intro hn hni)
        obtain ⟨ga, ca, cur, T', rfl, -, -, -, -, -⟩ := hA.block
        obtain ⟨vl, hvl⟩ : ∃ vl, u11 = vl := ⟨_, rfl⟩
        rw [hvl, hp] at HVL
        rw [hvl] at HI
        rw [hvl]
        clear hvl u11 hA hE hn hni hp
        cases hl : lv p with
        | none =>
          have hv := HVL.out
          rw [hl] at hv
          have hv2 : vl = .pointer none := hv
          subst hv2
          have HBAD : Aside0 (¬ (okF false T = true ∧ sub T v ≠ none)) := ⟨fun h => h.2 (HXW.out.out T (HI.out.none HXW.out.tri hlt (by rw [HP.out]; exact hl)) v)⟩
          clear hv hl
          go_wp2_with fail
          refine leaves_cons (f := 61) (args := #[.pointer (some ⟨L, 0, none⟩)]) (by simp) (by simp [go_sem]) ?_
          refine (unlock_D HBW.out .returning).mono ?_
          rintro e u' w4 ⟨rfl, rfl, hb4, hf4⟩
          refine ⟨_, results_tmp rfl _ _ _, ?_⟩
          exact rm_bad HFW.out HXW.out HBW.out HBAD.out hb4 hf4
        | some x =>
          have hv := HVL.out
          rw [hl] at hv
          have hv2 : vl = .pointer (some ⟨x.1, 0, none⟩) := hv
          subst hv2
          have HL := Aside0.mk hl
          obtain ⟨-, -, hB, hM⟩ := HXW.out.tri.lev p x hl
          have HM := Aside0.mk hM
          have d0 := hB.cell 0 rfl
          have d1 := hB.cell 1 rfl
          have d2 := hB.cell 2 rfl
          clear hv hl hB hM
          go_upto_if 53 with (fail)
          go_cut [9, 10] from 39 to 93 (fun v9 v10 wc => v9 = .bool (decide (t = full)) ∧ v10 = ptrA (kid nd p t) ∧ wc = wr)
          case first =>
            by_cases hb : 1 < t.size
            · have hdec : decide ((t.size : Int) > 1) = true := decide_eq_true (by omega)
              have t1 : t ≠ star := fun e => by subst e; exact absurd hb (by decide)
              have t2 : t ≠ full := fun e => by subst e; exact absurd hb (by decide)
              have HT12 := Aside0.mk (And.intro t1 t2)
              clear t1 t2
              go_wp2_with (first | (at_lookup; refine wpList_mp_look rfl _ _ rfl rfl HM.out (by show _ ≤ _; unfold maxLen; omega) rfl ?_) | fail)
              go_meet
              case rel =>
                refine ⟨?_, ?_, rfl⟩
                · rw [decide_eq_false HT12.out.2]
                · exact congrArg ptrA (kids_get p HT12.out.1 HT12.out.2)
            · have hdec : decide ((t.size : Int) > 1) = false := decide_eq_false (by omega)
              obtain ⟨c, hc⟩ := one_char (t := t) (by omega)
              by_cases hs : t = star
              · clear hc
                subst hs
                go_wp2_with fail
                go_meet
                case rel => exact ⟨rfl, rfl, rfl⟩
              · by_cases hf : t = full
                · clear hc
                  subst hf
                  go_wp2_with fail
                  go_meet
                  case rel => exact ⟨rfl, rfl, rfl⟩
                · have HT12 := Aside0.mk (And.intro hs hf)
                  have h9 : 0 < t.size := by omega
                  have hn1 : (((t[0]'h9).toNat : Int) == 42) = false := not_sign hc h9 (k := 42) hs
                  have hn2 : (((t[0]'h9).toNat : Int) == 62) = false := not_sign hc h9 (k := 62) hf
                  clear hs hf hc
                  go_wp2_with (first | (at_lookup; refine wpList_mp_look rfl _ _ rfl rfl HM.out (by show _ ≤ _; unfold maxLen; omega) rfl ?_) | fail)
                  go_meet
                  case rel =>
                    refine ⟨?_, ?_, rfl⟩
                    · rw [decide_eq_false HT12.out.2]
                    · exact congrArg ptrA (kids_get p HT12.out.1 HT12.out.2)
          case rest =>
            obtain ⟨e9, e10, ew⟩ := hcut
            subst u9
            subst u10
            subst wc
            rw [ptrA_eq]
            clear d0 d1 d2 HM
            have HK1 : Aside0 (i + 1 ≤ T.length ∧ T.length - (i + 1) < gk) := ⟨by have := HKK.out; omega⟩
            cases hk : kid nd p t with
            | none =>
              have HKN := Aside0.mk (kid_none.1 hk)
              simp only [Option.map_none]
              clear hk
              go_wp2_with fail
              go_roundg (T.length - (i + 1))
              case measure => exact HK1.out.2
              case rel => exact ⟨i + 1, decide (t = full), HK1.out.1, rfl, rfl, ⟨Nat.le_refl _⟩, ⟨HI.out.lost HXW.out.tri HTI.out HNB.out (by rw [HP.out]; exact HKN.out)⟩⟩
            | some z =>
              obtain ⟨y, hy, hyz⟩ : ∃ y, nd (p ++ [t]) = some y ∧ y.1 = z := by
                unfold kid at hk
                cases hq : nd (p ++ [t]) with
                | none => rw [hq] at hk; cases hk
                | some y => rw [hq] at hk; injection hk with hk; exact ⟨y, rfl, hk⟩
              subst hyz
              have HY := Aside0.mk hy
              simp only [Option.map_some]
              clear hk hy
              have HNI : Aside0 (n = i) := ⟨rms_at HXW.out.tri (by rw [HP.out]; exact HL.out) hi HN.out.2⟩
              have HSZ : Aside0 (w1.heap.size ≤ wr.heap.size) := ⟨HI.out.same.size⟩
              obtain ⟨-, -, hB, -⟩ := HXW.out.tri.node _ y HY.out
              have HBY := Aside0.mk hB
              clear hB
              have HRN : Aside0 (ReadG (wr.alloc (.cells #[.pointer (some ⟨x.1, 0, none⟩), .pointer (some ⟨y.1, 0, none⟩), .string t] 113)) (some ⟨wr.heap.size, 0, none⟩) 1 3 [.pointer (some ⟨x.1, 0, none⟩), .pointer (some ⟨y.1, 0, none⟩), .string t]) := ⟨read_newG (us := [.pointer (some ⟨x.1, 0, none⟩), .pointer (some ⟨y.1, 0, none⟩), .string t]) (by rfl) (by intro u hu; simp only [List.mem_cons, List.not_mem_nil, or_false] at hu; rcases hu with rfl | rfl | rfl <;> rfl)⟩
              go_upto_region 27 with (fail)
              go_upto_region 28 with (first | (at_builtin; refine AG.append HE.out rfl (.tmp 82) (.tmp 87) rfl (.inr rfl) (v := .slice (some ⟨ga, 0, none⟩) n ca) rfl (HA.out.1.alloc _) (by have := HSZ.out; simp; omega) rfl HRN.out (by decide) (by have := HN.out; omega) ?_; intro v' w5 hp5; have HP5 := Aside0.mk hp5; clear hp5) | fail)
              have HI5 := Aside0.mk (HI.out.next HXW.out.tri HTI.out HNB.out (by rw [HP.out]; exact HL.out) (by rw [HP.out]; exact HY.out) HA.out.1 HA.out.2 HNI.out HP5.out)
              rw [HP.out] at HI5
              have HBY5 : Aside0 (Blk w5 y.1 95 [ptrA ((lv (p ++ [t])).map Prod.fst), .map (some y.2)]) := ⟨(HBY.out.fr ((Fr.refl (fun _ => False) wr).alloc _) (fun h => h)).fr HP5.out.fr (fun e => by
                have hgk : ga = y.1 := by simpa [Value.ownBlock] using e
                exact ag_ne HA.out.1 HBY.out ⟨by decide, by decide⟩ hgk)⟩
              have d0 := HBY5.out.cell 0 rfl
              go_wp2_with fail
              go_roundg (T.length - (i + 1))
              case measure => exact HK1.out.2
              case rel => exact ⟨i + 1, decide (t = full), HK1.out.1, rfl, rfl, ⟨Nat.le_refl _⟩, HI5⟩
    · have hie : i = T.length := by omega
      subst hie
      have h2 : decide ((T.length : Int) < (T.length : Int)) = false := decide_eq_false (by omega)
      have hvn := HI.out.vn
      rw [List.take_length] at hvn
      have HVV := Aside0.mk hvn
      obtain ⟨vn, hv⟩ : ∃ vn, u10 = vn := ⟨_, rfl⟩
      rw [hv] at HVV HI
      rw [hv]
      clear hv hvn u10
      cases hn : nd T with
      | none =>
        have hv := HVV.out
        rw [hn] at hv
        have hv2 : vn = .pointer none := hv
        subst hv2
        have HBAD : Aside0 (¬ (okF false T = true ∧ sub T v ≠ none)) := ⟨fun h => h.2 (HXW.out.out T hn v)⟩
        clear hv hn
        go_upto_region 31 with (fail)
        go_wp2_with fail
        refine fromNil_calls.mono ?_
        rintro e w3 ⟨rfl, rfl⟩
        go_wp2_with fail
        refine leaves_cons (f := 61) (args := #[.pointer (some ⟨L, 0, none⟩)]) (by simp) (by simp [go_sem]) ?_
        refine (unlock_D HBW.out .returning).mono ?_
        rintro e u' w4 ⟨rfl, rfl, hb4, hf4⟩
        refine ⟨_, results_tmp rfl _ _ _, ?_⟩
        exact rm_bad HFW.out HXW.out HBW.out HBAD.out hb4 hf4
      | some y =>
        have hv := HVV.out
        rw [hn] at hv
        have hv2 : vn = .pointer (some ⟨y.1, 0, none⟩) := hv
        subst hv2
        have HY := Aside0.mk hn
        have HNE := Aside0.mk (HXW.out.neNode hn)
        clear hv hn
        go_upto_region 31 with (fail)
        go_wp2_with fail
        refine (fromNode_calls HXW.out.tri HY.out HV.out).mono ?_
        rintro e w3 ⟨rfl, hM3, hf3⟩
        have H3 := Aside0.mk (And.intro hM3 hf3)
        have hb3 := HBW.out.fr hf3 HNE.out.2
        have HB3 := Aside0.mk hb3
        clear hM3 hf3 hb3
        cases hs : sub T v with
        | none =>
          have hS := HXW.out.subs HY.out (Nat.le_refl K) H3.out.2 H3.out.1 (E' := fun _ => False) (ex' := ex) (fun hx => by rw [setS_del_none hs]; exact HXW.out.live hx)
          rw [setS_del_none hs] at hS
          have HXS := Aside0.mk hS
          have HF3 : Aside0 (Fr (WF B W) W w3) := ⟨wf_trans HFW.out (fr_wf H3.out.2 (fun k _ hk => by subst hk; exact (HXW.out.wfNode HY.out).2))⟩
          have hg3 := far_cell HF3.out (by have := HB.out; omega) HG1.out
          have HBAD : Aside0 (¬ (okF false T = true ∧ sub T v ≠ none)) := ⟨fun h => h.2 hs⟩
          simp only [Option.isSome_none]
          clear hs hg0 hg1 hS
          go_wp2_with fail
          refine leaves_cons (f := 61) (args := #[.pointer (some ⟨L, 0, none⟩)]) (by simp) (by simp [go_sem]) ?_
          refine (unlock_D HB3.out .returning).mono ?_
          rintro e u' w4 ⟨rfl, rfl, hb4, hf4⟩
          refine ⟨_, results_tmp rfl _ _ _, ?_⟩
          exact rm_bad HF3.out HXS.out HB3.out HBAD.out hb4 hf4
        | some s0 =>
          have HS0 := Aside0.mk hs
          simp only [Option.isSome_some]
          have c7 := HB3.out.cell 7 rfl
          have z7 := HB3.out.free 7
          clear hs hg0 hg1
          obtain ⟨n, xs, hA, hE, hn, hni⟩ := HI.out.row
          obtain rfl : n = T.length := hni (.inl (by rw [List.take_length, HY.out]; simp))
          have HA := Aside0.mk hA
          have HE2 := Aside0.mk hE
          obtain ⟨ga, ca, cur, T', hvv, -, -, -, -, -⟩ := hA.block
          obtain ⟨v13, hv13⟩ : ∃ v13, u13 = v13 := ⟨_, rfl⟩
          rw [hv13] at HA HI hvv
          rw [hv13]
          subst hvv
          clear hA hE hn hni u13 hv13
          have HN7 := HB3.out.set 7 (by show 7 < 8; decide) (.int .u32 ((cnt - 1) % 4294967296))
          have HF7 := fr_set1 (F := fun k => k = L) (Fr.refl _ w3) (b := L) (o := 7) rfl (.int .u32 ((cnt - 1) % 4294967296))
          have H7 := Aside0.mk (And.intro HN7 HF7)
          clear HN7 HF7
          go_upto_region 33 with (fail)
          go_upto_region 34 with (fail)
          generalize w3.setCell ⟨L, 7, none⟩ (.int .u32 ((cnt - 1) % 4294967296)) = w5 at H7 ⊢
          have HR5 : Aside0 (RmT w1 B L K (setS sub T (del (sub T) v)) ex ((cnt - 1) % 4294967296) nd lv T xs ga ca T.length nd lv w5) := ⟨RmT.start HI.out.same HXW.out HA.out HY.out H3.out.1 H3.out.2 HR.out H7.out.1 H7.out.2⟩
          have eL : IntKind.i64.wrap ((T.length : Int) - 1) = (T.length : Int) - 1 := by rw [IntKind.wrap_i64]; omega
          clear c7 z7 H7
          go_wp2_with fail
          go_loopg [17] T.length (fun k v17 w' => ∃ (m : Nat) (nd' lv' : Pm), m ≤ T.length ∧ v17 = .int .i64 ((m : Int) - 1) ∧ Aside0 (m ≤ k) ∧ Aside0 (RmT w1 B L K (setS sub T (del (sub T) v)) ex ((cnt - 1) % 4294967296) nd lv T xs ga ca m nd' lv' w'))
          case atStart => exact ⟨T.length, nd, lv, Nat.le_refl _, rfl, ⟨Nat.le_refl _⟩, HR5⟩
          case round =>
            obtain ⟨m, nd', lv', hm, rfl, HM, HT5⟩ := hrel
            cases m with
            | zero =>
              have hd : decide (((0 : Nat) : Int) - 1 ≥ 0) = false := by decide
              have hX5 := HT5.out.done
              have HXX := Aside0.mk hX5
              obtain ⟨z5, hz5, hh5⟩ := hX5.head
              have HH5 := Aside0.mk hh5
              have HF5 : Aside0 (Fr (WF B W) W wr) := ⟨wf_trans HF1.out HT5.out.fr⟩
              have HGD : Aside0 (okF false T = true ∧ sub T v ≠ none) := ⟨by have := HI.out.ok; rw [List.drop_length] at this; rw [this]; exact rfl, by rw [HS0.out]; simp⟩
              clear hX5 hz5 hh5
              go_wp2_with fail
              refine leaves_cons (f := 61) (args := #[.pointer (some ⟨L, 0, none⟩)]) (by simp) (by simp [go_sem]) ?_
              refine (unlock_D HH5.out .returning).mono ?_
              rintro e u' w9 ⟨rfl, rfl, hb9, hf9⟩
              refine ⟨_, results_tmp rfl _ _ _, ?_⟩
              exact rm_ok HF5.out HGD.out HXX.out HH5.out hb9 hf9 rfl
            | succ j =>
              have hd : decide ((j : Int) ≥ 0) = true := decide_eq_true (by omega)
              rw [show ((j + 1 : Nat) : Int) - 1 = (j : Int) by omega]
              have i1 : (0 : Int) ≤ (j : Int) := by omega
              have i2 : (j : Int) < (T.length : Int) := by omega
              obtain ⟨x, y5, t, hx, hy5, ht, q0, q1, q2⟩ := HE2.out.ent j (by omega)
              have hxl : j * 3 + 2 < xs.length := by rw [HE2.out.len]; omega
              have c0 : wr.cell? ⟨ga, j * 3, none⟩ = some (.pointer (some ⟨x.1, 0, none⟩)) := (HT5.out.row.cell (by omega)).trans q0
              have c1 : wr.cell? ⟨ga, j * 3 + 1, none⟩ = some (.pointer (some ⟨y5.1, 0, none⟩)) := (HT5.out.row.cell (by omega)).trans q1
              have c2 : wr.cell? ⟨ga, j * 3 + 2, none⟩ = some (.string t) := (HT5.out.row.cell (by omega)).trans q2
              have HJ := Aside0.mk (And.intro hx (And.intro hy5 ht))
              clear hx hy5 ht q0 q1 q2 hxl
              go_upto_region 37 with (fail)
              go_quiet (fail)
              have HT6 : Aside0 (RmT w1 B L K (setS sub T (del (sub T) v)) ex ((cnt - 1) % 4294967296) nd lv T xs ga ca (j + 1) nd' lv' (wr.drewN nq)) := ⟨HT5.out.same ((Fr.refl _ wr).drewN nq)⟩
              generalize wr.drewN nq = wd at HT6 ⊢
              have HG6 := Aside0.mk (HT6.out.get HJ.out.2.2 HJ.out.1 HJ.out.2.1)
              have HMM : Aside0 (j ≤ T.length ∧ j < gk) := ⟨by have := HM.out; omega⟩
              have eJ : IntKind.i64.wrap ((j : Int) - 1) = (j : Int) - 1 := by rw [IntKind.wrap_i64]; omega
              clear c0 c1 c2 i1 i2 HT5 hd eL
              go_wp2_with fail
              refine (isEmpty_calls HT6.out.lx.tri HG6.out.2 (by omega)).mono ?_
              rintro e w6 ⟨b, rfl, rfl, hbb⟩
              have HBB := Aside0.mk hbb
              clear hbb
              cases b with
              | false =>
                go_wp2_with fail
                go_roundg j
                case measure => exact HMM.out.2
                case rel => exact ⟨j, nd', lv', HMM.out.1, rfl, ⟨Nat.le_refl _⟩, ⟨HT6.out.stay HJ.out.2.2 (fun h => by have := HBB.out.2 h; cases this)⟩⟩
              | true =>
                go_wp2_with fail
                refine (prune_calls HT6.out.lx.tri HG6.out.1 HG6.out.2 (by have := HT2.out t (List.mem_of_getElem? HJ.out.2.2); unfold maxLen; omega)).mono ?_
                rintro e w7 hp7
                have he7 := hp7.ret
                subst he7
                have HP7 := Aside0.mk hp7
                clear hp7
                go_wp2_with fail
                go_roundg j
                case measure => exact HMM.out.2
                case rel => exact ⟨j, _, _, HMM.out.1, rfl, ⟨Nat.le_refl _⟩, ⟨HT6.out.cut HJ.out.2.2 HG6.out.1 (HBB.out.1 trivial).1 (HBB.out.1 trivial).2 HP7.out⟩⟩
end Go.Proofs.YtimffhpnfdikoaaDoor.Ls
