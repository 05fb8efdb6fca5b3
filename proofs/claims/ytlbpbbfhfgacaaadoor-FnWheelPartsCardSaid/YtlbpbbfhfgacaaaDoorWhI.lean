/- An expiry: the walk. -/
import Derived.Test.YtlbpbbfhfgacaaaDoorWhH
namespace Go.Proofs.YtlbpbbfhfgacaaaDoor.Wh
open Go.RowKit Go.Maps Go.Proofs.YtlbpbbfhfgacaaaDoor.Bs Go.Proofs.YtlbpbbfhfgacaaaDoorW.PrintWords Go.Proofs.YtlbpbbfhfgacaaaDoorW.PrintLast Go.Proofs.YtlbpbbfhfgacaaaDoorW.PrintMore
set_option linter.unusedVariables false
set_option linter.unusedSimpArgs false
theorem wpList_callfg {P : Program} {ops : Array Oper} {rest : List Oper} {op : Oper} {a : Act} {w : World} {Q : Exit → Act → World → Prop} (hgd : Region.wanted op (yielded ops a.tmps) = true) (c : Call) (ho : op.op = .call c) (x : Operand) (hc : c.callee = .value x) {f : FuncId} {cap us : Array Value} (hx : a.eval x = .func (.func f) #[] cap) (hu : c.args.map a.eval = us)
    (hcall : ∀ vs W, (callFunc f vs).run P W = .ok (.enter f vs) W)
    (h : Calls P f (us ++ cap) w (fun e w' => match e with | .returned v => wpList P ops Q rest (a.put op.dst v) w' | .panicked ch => Q (.panic ch) a w' | .outgrown => LetsOut Q)) : wpList P ops Q (op :: rest) a w := by
  subst hu
  refine wpList_step fun K hK => ?_
  rw [if_pos hgd]
  unfold Oper.wp execOp
  simp only [ho, resolve, hc, hx, Deferred.ofValue, Sem.run_bind, Sem.run_pure, Result.andThen_ok, invoke, hcall, Array.empty_append]
  show Oper.upon P op a K Q (.ok (.enter f _) w)
  simp only [Oper.upon]
  refine h.mono fun e w' he => ?_
  cases e with
  | returned v => exact hK _ _ he
  | panicked ch => exact he
  | outgrown => exact he
structure ExpPost (W : World) (B hw K base ab : Nat) (f : Fm) (ts cnt : Int) (odd : Bool) (ex : Prop) (en : Ending) (w' : World) : Prop where
  ret : en = .returned (.tuple #[])
  out : ∃ X v, Ans w' base ab X v ∧ (X.map Prod.fst).Nodup ∧ (∀ x, x ∈ X ↔ f x.1 = some x.2 ∧ x.2 ≤ ts) ∧ Wheel w' B hw K (gone f ts odd) (IntKind.u64.wrap (cnt - (dels odd X : Int))) ex
  fr : Fr (fun k => WF B W k ∨ k = ab) W w'
section
variable {c : Cx} {w : World} {sl : Nat → Option (Nat × Nat)} {low : Nat → Int} {X : List (Int × Int)} {gl : Int}
theorem Out.last (h : Out c w sl low X 4096 gl) : ExpPost c.w0 c.B c.hw c.K c.base c.ab c.f c.ts c.c0 c.odd c.ex (.returned (.tuple #[])) (w.setCell ⟨c.hw, 1, none⟩ (.int .i64 gl)) := by
  obtain ⟨v, ha⟩ := h.ans
  obtain ⟨k0, hk0⟩ := ha.blk
  have hf := fr_set1 (F := fun k => k = c.hw) (o := 1) (Fr.refl _ w) rfl (.int .i64 gl)
  refine ⟨rfl, ⟨X, v, ha.fr hf (blk_ne hk0 h.hd (by decide)) (fun k hk e => ?_), h.xs.nd, fun x => ?_, ⟨c.A, sl, low, gl, ⟨h.bh, h.hd.set 1 (by simp [hdCells]) _, ?_, fun p x hp hx => h.gl1 p x hp hx, h.glm⟩, fun hex => ⟨?_, fun p x hp hx => ?_⟩⟩⟩, h.fr.trans (F := fun k => WF c.B c.w0 k ∨ k = c.ab) hf (fun k hk e => ?_)⟩
  · obtain ⟨cs, z, hc⟩ := ha.cells hk
    rw [e, h.hd.blk] at hc
    cases hc
  · rw [h.xs.mem]
    constructor
    · rintro ⟨h1, h2, -⟩
      exact ⟨h1, h2⟩
    · rintro ⟨h1, h2⟩
      exact ⟨h1, h2, .inl (pos_lt _)⟩
  · rw [← fq_full]
    exact h.slots.head h.hd hf
  · rw [← fq_full]
    rcases h.gl2 hex with hh | ⟨hh, h2⟩
    · exact .inl hh.1
    · refine .inr ⟨hh, fun s => ?_⟩
      cases hs : fq c.f c.ts c.odd 4096 s with
      | none => rfl
      | some e =>
        have := h2 s e hs
        have := pos_lt e
        omega
  · rw [← fq_full]
    exact h.at_ hex p x hp hx
  · subst e
    by_cases hn : WF c.B c.w0 c.hw ∨ c.hw = c.ab
    · exact hn
    · have e1 := h.fr.block _ hk hn
      exact .inl ⟨h.bh, .inr ⟨_, _, _, e1.symm.trans h.hd.blk, .inl rfl⟩⟩
end
section
variable {c : Cx} {w w1 : World} {sl : Nat → Option (Nat × Nat)} {low : Nat → Int} {X X' : List (Int × Int)} {gl slow l0 : Int} {q r n M S : Nat} {lf : Int → Bool} {x : Nat × Nat}
theorem Out.acell (h : Out c w1 sl low X q gl) (hq : q < 4096) (hx : sl q = some x) (hm : Mid c w1 w x.2 x.1 l0 (cq c X') X') : w.cell? ⟨c.A, q, none⟩ = some (.pointer (some ⟨x.1, 0, none⟩)) ∧ w.frozen? ⟨c.A, q, none⟩ = false := by
  obtain ⟨cs, hb, hl, hc⟩ := h.slots.arr
  have hA : Blk w c.A 62 cs := hb.fr hm.fr (fun hh => by
    have hwk : WK w1 c.A := .inr ⟨_, _, _, hb.blk, .inr (.inl rfl)⟩
    rcases h.turned hq hx c.A hh with (h1 | h1 | h1) | h1
    · exact (h.slots.apart h.hd hq hx).2.1 h1
    · exact (h.slots.apart h.hd hq hx).1 h1
    · exact (h.slots.apart h.hd hq hx).2.2.1 h1
    · exact h1 hwk)
  exact ⟨hA.cell q (by rw [hc q hq, hx]; rfl), hA.free q⟩
end
abbrev mkC (W : World) (B hw A K ab tb : Nat) (f : Fm) (ts lo cnt : Int) (odd : Bool) (ots : List Value) (ex : Prop) : Cx := ⟨W, B, hw, A, K, W.heap.size, ab, tb, f, ts, lo, cnt, odd, ots, ex⟩
set_option maxHeartbeats 8000000 in
set_option maxRecDepth 100000 in
theorem expire_calls {W : World} {B hw K ab tb : Nat} {f : Fm} {cnt ts k0 : Int} {odd : Bool} {ex : Prop} {o1 o2 o3 o4 : Value} {L : List (Int × Int)} (h : Wheel W B hw K f cnt ex) (ha : Blk W ab 33 [.int .i64 k0, .slice none 0 0]) (ht : Blk W tb 30 [o1, o2, o3, o4, .bool odd])
    (hL : L.length ≤ 1000 ∧ ∀ s e, f s = some e → (s, e) ∈ L) (hB : B ≤ W.heap.size) (hcnt : IntKind.u64.wrap cnt = cnt) :
    Calls Tryd.prog 30 #[.pointer (some ⟨hw, 0, none⟩), .int .i64 ts, .func (.func 27) #[] #[.pointer (some ⟨ab, 0, none⟩), .pointer (some ⟨tb, 0, none⟩)]] W (ExpPost W B hw K W.heap.size ab f ts cnt odd ex) := by
  obtain ⟨A, sl, low, lo, hW, hE⟩ := h.ex
  have HANS : Aside0 (Ans W W.heap.size ab [] (.slice none 0 0)) := ⟨⟨k0, ha⟩, ⟨rfl, .inl ⟨rfl, rfl⟩⟩⟩
  have HW := Aside0.mk hW
  have HE := Aside0.mk hE
  have HT := Aside0.mk ht
  have HL := Aside0.mk hL
  have HCN := Aside0.mk hcnt
  have c0 := hW.hd.cell 0 rfl
  have c1 := hW.hd.cell 1 rfl
  clear h hW hE ha ht hL hB hcnt
  go_enter Tryd.func30, Tryd.ntmps30
  by_cases hl : ts < lo
  · have hl1 : decide (ts < lo) = true := decide_eq_true hl
    have hl2 : decide (lo > ts) = true := decide_eq_true hl
    go_wp2
    refine bodyPost_ret (results_list (rs := []) rfl (by simp) .nil) rfl ?_
    have hno : ∀ s e, f s = some e → ts < e := fun s e he => by
      have := HW.out.lo he
      omega
    have e1 : gone f ts odd = f := funext (fm_ext (fun s e => by
      rw [gone_some]
      constructor
      · exact fun h => h.1
      · exact fun h => ⟨h, fun hh => by have := hno s e h; omega⟩))
    refine ⟨rfl, ⟨[], _, HANS.out, List.nodup_nil, fun x => ⟨fun h => (by cases h), fun h => (by have := hno _ _ h.1; omega)⟩, ?_⟩, Fr.refl _ _⟩
    rw [e1]
    refine ⟨A, sl, low, lo, ?_, HE.out⟩
    have : IntKind.u64.wrap (cnt - ((dels odd [] : Nat) : Int)) = cnt := by
      rw [show ((dels odd [] : Nat) : Int) = 0 from rfl, Int.sub_zero]
      exact HCN.out
    rw [this]
    exact HW.out
  · have hl1 : decide (ts < lo) = false := decide_eq_false hl
    have hl2 : decide (lo > ts) = false := decide_eq_false hl
    have HO : Aside0 (Out (mkC W B hw A K ab tb f ts lo cnt odd [o1, o2, o3, o4, .bool odd] ex) W sl low [] 0 maxI) := ⟨by
      refine ⟨?_, HW.out.bh, ?_, ⟨_, HANS.out⟩, HT.out, ⟨List.nodup_nil, fun x => ⟨fun h => (by cases h), fun h => ?_⟩⟩, Int.le_refl _, fun p x hp => (by omega), fun hex => .inr ⟨rfl, fun s e _ => Nat.zero_le _⟩, fun hex p x hp hx => ?_, Fr.refl _ _, rfl⟩
      · have : cq (mkC W B hw A K ab tb f ts lo cnt odd [o1, o2, o3, o4, .bool odd] ex) [] = cnt := by
          show IntKind.u64.wrap (cnt - ((dels odd [] : Nat) : Int)) = cnt
          rw [show ((dels odd [] : Nat) : Int) = 0 from rfl, Int.sub_zero]
          exact HCN.out
        rw [this]
        exact HW.out.hd
      · show Slots W B A K sl low (fq f ts odd 0)
        rw [fq_zero]
        exact HW.out.slots
      · rcases h.2.2 with h1 | h1
        · omega
        · cases h1.2
      · show ∃ s, part (fq f ts odd 0) p s = some (low p)
        rw [fq_zero]
        exact (HE.out hex).at_ p x hp hx⟩
    clear HW HE HANS HT HCN
    go_wp2
    go_loopg [6, 25] 4096 (fun kq v6 v25 wr => ∃ (q : Nat) (gl : Int) (sl' : Nat → Option (Nat × Nat)) (low' : Nat → Int) (X : List (Int × Int)), v6 = .int .i64 gl ∧ v25 = .int .i64 (q : Int) ∧ Aside0 (kq + q = 4096) ∧ Aside0 (Out (mkC W B hw A K ab tb f ts lo cnt odd [o1, o2, o3, o4, .bool odd] ex) wr sl' low' X q gl))
    case atStart => exact ⟨0, maxI, sl, low, [], rfl, rfl, ⟨rfl⟩, HO⟩
    case round =>
      clear HO c0 c1
      obtain ⟨q, gl, sl, low, X, rfl, rfl, HQ, HO⟩ := hrel
      have hq : q ≤ 4096 := by have := HQ.out; omega
      have q0 : 0 ≤ (q : Int) := by omega
      have q1 : (q : Int) ≤ 4096 := by omega
      have q2 : IntKind.i64.wrap ((q : Int) + 1) = ((q + 1 : Nat) : Int) := by rw [IntKind.wrap_i64]; omega
      by_cases hlt : q < 4096
      · have q3 : (q : Int) < 4096 := by omega
        have q4 : decide ((q : Int) < 4096) = true := decide_eq_true q3
        have ca := HO.out.slots.ptr hlt
        cases hx : sl q with
        | none =>
          simp only [hx, ptrV] at ca
          go_wp2
          go_roundg (4096 - (q + 1))
          case measure => have := HQ.out; omega
          case rel => exact ⟨q + 1, gl, sl, low, X, rfl, rfl, ⟨by omega⟩, ⟨HO.out.bare hlt hx⟩⟩
        | some x =>
          simp only [hx, ptrV] at ca
          obtain ⟨w1, hw1⟩ : ∃ w1, w1 = wr := ⟨_, rfl⟩
          subst hw1
          obtain ⟨b1, b2, hS, hM⟩ := HO.out.slots.slot q x hlt hx
          have HX := Aside0.mk hx
          have HM := Aside0.mk hM
          have d0 := hS.cell 0 rfl
          have d1 := hS.cell 1 rfl
          clear hx hS hM b1 b2
          by_cases hd : ts < low q
          · have hd1 : decide (ts < low q) = true := decide_eq_true hd
            have hd2 : decide (low q > ts) = true := decide_eq_true hd
            by_cases hg : low q < gl
            · have hg1 : decide (low q < gl) = true := decide_eq_true hg
              go_wp2
              go_roundg (4096 - (q + 1))
              case measure => have := HQ.out; omega
              case rel => exact ⟨q + 1, low q, sl, low, X, rfl, rfl, ⟨by omega⟩, ⟨by have h := HO.out.late hlt HX.out hd; rw [if_pos hg] at h; exact h⟩⟩
            · have hg1 : decide (low q < gl) = false := decide_eq_false hg
              go_wp2
              go_roundg (4096 - (q + 1))
              case measure => have := HQ.out; omega
              case rel => exact ⟨q + 1, gl, sl, low, X, rfl, rfl, ⟨by omega⟩, ⟨by have h := HO.out.late hlt HX.out hd; rw [if_neg (by omega)] at h; exact h⟩⟩
          · have hd1 : decide (ts < low q) = false := decide_eq_false hd
            have hd2 : decide (low q > ts) = false := decide_eq_false hd
            have HD := Aside0.mk hd
            go_wp2_with (first | (at_range; refine wpList_mp_range rfl _ rfl rfl HM.out ?_; intro w2 n0 hmr hsm) | go_in)
            try go_frame
            have HI0 := Aside0.mk (HO.out.enter hlt HX.out hsm (Nat.le_refl _) hmr)
            clear hmr hsm ca d0 d1
            go_loopw [9] (fun v9 wv => ∃ (lf : Int → Bool) (n : Nat) (X' : List (Int × Int)) (slow : Int), v9 = .int .i64 slow ∧ Aside0 (Inn (mkC W B hw A K ab tb f ts lo cnt odd [o1, o2, o3, o4, .bool odd] ex) w1 wv x.2 x.1 w1.heap.size (low q) q lf n X' slow)) (fun _ wv => wv.rangeLeft x.2 w1.heap.size)
            case atStart => exact ⟨_, _, _, _, rfl, HI0⟩
            case round =>
              clear HI0
              obtain ⟨lf, n, X', slow, rfl, HI⟩ := hrel
              go_wp2_with (first | (at_next; refine wpList_mp_next rfl _ rfl rfl HI.out.mr ?_ ?_) | go_in)
              · intro hl0
                have HL0 := Aside0.mk hl0
                clear hl0
                have d0 := HI.out.mid.sb.cell 0 rfl
                have d1 := HI.out.mid.sb.cell 1 rfl
                have fs := HI.out.mid.sb.free 1
                have c0 : wr.cell? ⟨hw, 0, none⟩ = some (.slice (some ⟨A, 0, none⟩) 4096 4096) := HI.out.mid.hd.cell 0 rfl
                obtain ⟨ca, fa⟩ : wr.cell? ⟨A, q, none⟩ = some (.pointer (some ⟨x.1, 0, none⟩)) ∧ wr.frozen? ⟨A, q, none⟩ = false := HO.out.acell hlt HX.out HI.out.mid
                go_upto_if 104 with (first | (at_len; refine wpList_mp_len rfl _ rfl rfl HI.out.mr.mp ?_; intro k hk hkK) | fail)
                have HK := Aside0.mk hk
                clear hk
                have hsz0 : (k : Int) = 0 ∨ (k : Int) ≠ 0 := by omega
                rcases hsz0 with hn0 | hn0
                · have b0 : ((k : Int) == 0) = true := by simpa using hn0
                  rw [b0]
                  go_wp2
                  go_roundg (4096 - (q + 1))
                  case measure => have := HQ.out; omega
                  case rel => exact ⟨q + 1, gl, _, _, X', rfl, rfl, ⟨by omega⟩, ⟨HO.out.nil hlt HX.out HI.out HL0.out (HK.out.1 (by omega))⟩⟩
                · have b0 : ((k : Int) == 0) = false := by simpa using hn0
                  rw [b0]
                  have hne : ∃ s0 e0, mi f ts odd q lf s0 = some e0 := by
                    have h1 : ¬ ∀ s, mi f ts odd q lf s = none := fun h => hn0 (by have := HK.out.2 h; omega)
                    obtain ⟨s0, hs0⟩ := Classical.not_forall.1 h1
                    obtain ⟨e0, he0⟩ := Option.ne_none_iff_exists'.1 hs0
                    exact ⟨s0, e0, he0⟩
                  have HNE := Aside0.mk hne
                  clear hne
                  by_cases hg : slow < gl
                  · have hg1 : decide (slow < gl) = true := decide_eq_true hg
                    go_wp2
                    go_roundg (4096 - (q + 1))
                    case measure => have := HQ.out; omega
                    case rel =>
                      obtain ⟨s0, e0, he0⟩ := HNE.out
                      exact ⟨q + 1, slow, _, _, X', rfl, rfl, ⟨by omega⟩, ⟨by have h := HO.out.rest hlt HX.out HI.out HL0.out he0; rw [if_pos hg] at h; exact h⟩⟩
                  · have hg1 : decide (slow < gl) = false := decide_eq_false hg
                    go_wp2
                    go_roundg (4096 - (q + 1))
                    case measure => have := HQ.out; omega
                    case rel =>
                      obtain ⟨s0, e0, he0⟩ := HNE.out
                      exact ⟨q + 1, gl, _, _, X', rfl, rfl, ⟨by omega⟩, ⟨by have h := HO.out.rest hlt HX.out HI.out HL0.out he0; rw [if_neg (by omega)] at h; exact h⟩⟩
              · intro z c w2 n' hzu hci hlz hmz hmr2 hlt2 hfr2 hen
                have HM2 := Aside0.mk (HI.out.mid.iter hfr2 HI.out.mr.iter HI.out.fresh)
                have HR2 : Aside0 (Mr w2 x.2 w1.heap.size K (mi f ts odd q lf) (lx lf z) n') := ⟨hmr2⟩
                have HMZ := Aside0.mk hmz
                have HLZ := Aside0.mk hlz
                have hn1 : n' < n := hlt2
                have HFZ : Aside0 (f z = some c ∧ pos c = q) := ⟨⟨(mi_some.1 hmz).1, (mi_some.1 hmz).2.1⟩⟩
                have HCI : Aside0 (c ≤ maxI) := ⟨(bounds_i64 hci).2⟩
                clear hmr2 hmz hlz hlt2 hfr2 hci
                by_cases hc : c ≤ ts
                · have hc1 : decide (c ≤ ts) = true := decide_eq_true hc
                  have HC := Aside0.mk hc
                  have HCALL : Aside0 (∀ vs W, (callFunc 27 vs).run Tryd.prog W = .ok (.enter 27 vs) W) := ⟨fun vs W => rfl⟩
                  obtain ⟨v, hans⟩ := HM2.out.ans
                  have HANS := Aside0.mk hans
                  have HCB : Aside0 (Calls Tryd.prog 27 #[.int .u64 z, .int .i64 c, .pointer (some ⟨ab, 0, none⟩), .pointer (some ⟨tb, 0, none⟩)] w2 (CbPost w2 W.heap.size ab X' v z c odd)) := ⟨cb_calls hans HM2.out.tb (Nat.le_trans HM2.out.bs HM2.out.fr.size) (Nat.le_trans (HI.out.xs.len HL.out.2) HL.out.1) hzu⟩
                  clear hans
                  go_wp2_with (first | (refine wpList_callfg rfl _ rfl (.tmp 68) rfl rfl rfl HCALL.out ?_) | fail)
                  refine HCB.out.mono ?_
                  rintro e w3 hp
                  have hpe := hp.ret
                  subst hpe
                  dsimp only
                  have HM3 := Aside0.mk (HM2.out.cb HANS.out hp)
                  have HR3 := Aside0.mk (mr_cb HR2.out HANS.out hp)
                  have HX3 := Aside0.mk (HI.out.xs.add HFZ.out.1 HFZ.out.2 HLZ.out hc)
                  clear hp HCB HANS HM2 HR2 hen
                  rw [kp_not]
                  cases hk : kp odd z with
                  | false =>
                    have HSM : Aside0 ((mi f ts odd q lf z).isSome = true) := ⟨by rw [HMZ.out]; rfl⟩
                    have d0 := HM3.out.sb.cell 0 rfl
                    have HKZ := Aside0.mk hk
                    clear hk
                    go_upto_if 82 with (first | (at_lookup; refine wpList_mp_lookup rfl _ _ rfl rfl HR3.out.mp hzu rfl ?_; intro c2 hc2; rw [HSM.out]) | fail)
                    have HDL : Aside0 (∀ s, mi f ts odd q (lx lf z) s = del (mi f ts odd q lf) z s) := ⟨mi_del HMZ.out ⟨HC.out, HKZ.out⟩⟩
                    have HSW : Aside0 (Sw (del (mi f ts odd q lf) z) (lx lf z) slow) := ⟨HI.out.sw.struck HLZ.out⟩
                    have HCQ : Aside0 (IntKind.u64.wrap (cq (mkC W B hw A K ab tb f ts lo cnt odd [o1, o2, o3, o4, .bool odd] ex) X' - 1) = cq (mkC W B hw A K ab tb f ts lo cnt odd [o1, o2, o3, o4, .bool odd] ex) (X' ++ [(z, c)])) := ⟨by
                      show IntKind.u64.wrap (IntKind.u64.wrap (cnt - (dels odd X' : Int)) - 1) = IntKind.u64.wrap (cnt - (dels odd (X' ++ [(z, c)]) : Int))
                      rw [wrap_dec, dels_add, if_pos HKZ.out]
                      rfl⟩
                    go_upto_region 16 with (first | (at_delete; refine wpList_mr_delete rfl _ _ rfl rfl HR3.out hzu rfl (lx_false.2 (.inr rfl)) ?_; intro w4 n4 hmr4 hle4 hf4) | fail)
                    have HM4 := Aside0.mk (HM3.out.mapw hf4 HR3.out.mp.blk)
                    have HR4 := Aside0.mk hmr4
                    clear hmr4 hf4 d0
                    have d2 : w4.cell? ⟨hw, 2, none⟩ = some (.int .u64 (cq (mkC W B hw A K ab tb f ts lo cnt odd [o1, o2, o3, o4, .bool odd] ex) X')) := HM4.out.hd.cell 2 rfl
                    have g2 := HM4.out.hd.free 2
                    have HM5 := Aside0.mk (HM4.out.count (IntKind.u64.wrap (cq (mkC W B hw A K ab tb f ts lo cnt odd [o1, o2, o3, o4, .bool odd] ex) X' - 1)))
                    have HR5 := Aside0.mk (mr_count HR4.out HM4.out.hd (.int .u64 (IntKind.u64.wrap (cq (mkC W B hw A K ab tb f ts lo cnt odd [o1, o2, o3, o4, .bool odd] ex) X' - 1))))
                    generalize hcq : cq (mkC W B hw A K ab tb f ts lo cnt odd [o1, o2, o3, o4, .bool odd] ex) X' = cqx at d2 HM5 HR5 HCQ
                    have HCX := Aside0.mk hcq
                    clear hcq
                    go_wp2
                    go_roundw
                    case rel =>
                      refine ⟨lx lf z, n4, X' ++ [(z, c)], slow, rfl, ⟨⟨?_, HR5.out.congr HDL.out, HX3.out, ?_, HI.out.fresh⟩⟩⟩
                      · have h := HM5.out
                        rw [HCQ.out] at h
                        rw [HCQ.out]
                        exact h
                      · rw [show mi f ts odd q (lx lf z) = del (mi f ts odd q lf) z from funext HDL.out]
                        exact HSW.out
                    case measure => rw [HR5.out.left_eq, HI.out.mr.left_eq]; omega
                  | true =>
                    have HSW := Aside0.mk (HI.out.sw.kept HMZ.out HCI.out)
                    have HNK : Aside0 (∀ s, mi f ts odd q (lx lf z) s = mi f ts odd q lf s) := ⟨mi_keep HMZ.out (fun h => by rw [hk] at h; cases h.2)⟩
                    have HCQ : Aside0 (cq (mkC W B hw A K ab tb f ts lo cnt odd [o1, o2, o3, o4, .bool odd] ex) (X' ++ [(z, c)]) = cq (mkC W B hw A K ab tb f ts lo cnt odd [o1, o2, o3, o4, .bool odd] ex) X') := ⟨by
                      show IntKind.u64.wrap (cnt - (dels odd (X' ++ [(z, c)]) : Int)) = IntKind.u64.wrap (cnt - (dels odd X' : Int))
                      rw [dels_add, if_neg (by rw [hk]; decide)]
                      rfl⟩
                    clear hk
                    by_cases hs : c < slow
                    · have hs1 : decide (c < slow) = true := decide_eq_true hs
                      go_wp2
                      go_roundw
                      case rel =>
                        refine ⟨_, _, X' ++ [(z, c)], c, rfl, ⟨⟨by rw [HCQ.out]; exact HM3.out, HR3.out.congr HNK.out, HX3.out, ?_, HI.out.fresh⟩⟩⟩
                        have h := HSW.out
                        rw [if_pos hs] at h
                        rw [show mi f ts odd q (lx lf z) = mi f ts odd q lf from funext HNK.out]
                        exact h
                      case measure => rw [HR3.out.left_eq, HI.out.mr.left_eq]; exact hn1
                    · have hs1 : decide (c < slow) = false := decide_eq_false hs
                      go_wp2
                      go_roundw
                      case rel =>
                        refine ⟨_, _, X' ++ [(z, c)], slow, rfl, ⟨⟨by rw [HCQ.out]; exact HM3.out, HR3.out.congr HNK.out, HX3.out, ?_, HI.out.fresh⟩⟩⟩
                        have h := HSW.out
                        rw [if_neg (by omega)] at h
                        rw [show mi f ts odd q (lx lf z) = mi f ts odd q lf from funext HNK.out]
                        exact h
                      case measure => rw [HR3.out.left_eq, HI.out.mr.left_eq]; exact hn1
                · have hc1 : decide (c ≤ ts) = false := decide_eq_false hc
                  have HX3 := Aside0.mk (HI.out.xs.late HFZ.out.1 hc)
                  have HSW := Aside0.mk (HI.out.sw.kept HMZ.out HCI.out)
                  have HNK : Aside0 (∀ s, mi f ts odd q (lx lf z) s = mi f ts odd q lf s) := ⟨mi_keep HMZ.out (fun h => hc h.1)⟩
                  by_cases hs : c < slow
                  · have hs1 : decide (c < slow) = true := decide_eq_true hs
                    go_wp2
                    go_roundw
                    case rel =>
                      refine ⟨_, _, X', c, rfl, ⟨⟨HM2.out, HR2.out.congr HNK.out, HX3.out, ?_, HI.out.fresh⟩⟩⟩
                      have h := HSW.out
                      rw [if_pos hs] at h
                      rw [show mi f ts odd q (lx lf z) = mi f ts odd q lf from funext HNK.out]
                      exact h
                    case measure => rw [HR2.out.left_eq, HI.out.mr.left_eq]; exact hn1
                  · have hs1 : decide (c < slow) = false := decide_eq_false hs
                    go_wp2
                    go_roundw
                    case rel =>
                      refine ⟨_, _, X', slow, rfl, ⟨⟨HM2.out, HR2.out.congr HNK.out, HX3.out, ?_, HI.out.fresh⟩⟩⟩
                      have h := HSW.out
                      rw [if_neg (by omega)] at h
                      rw [show mi f ts odd q (lx lf z) = mi f ts odd q lf from funext HNK.out]
                      exact h
                    case measure => rw [HR2.out.left_eq, HI.out.mr.left_eq]; exact hn1
      · obtain rfl : q = 4096 := by omega
        have q3 : ¬ ((4096 : Nat) : Int) < 4096 := by omega
        have c1 : wr.cell? ⟨hw, 1, none⟩ = some (.int .i64 lo) := HO.out.hd.cell 1 rfl
        have f1 := HO.out.hd.free 1
        go_wp2
        go_end0
        exact HO.out.last
end Go.Proofs.YtlbpbbfhfgacaaaDoor.Wh
