/- server.mqttToNATSSubjectConversion, walked (the text of its walk is printed by gen_mqb.py). -/
import Derived.Test.YtgbdjinanflhaaaDoorMqA
namespace Go.Proofs.YtgbdjinanflhaaaDoor.Mq
open Go.RowKit Go.Proofs.YtgbdjinanflhaaaDoorW.PrintWords Go.Proofs.YtgbdjinanflhaaaDoorW.PrintLast Go.Proofs.YtgbdjinanflhaaaDoorW.PrintMore
set_option linter.unusedVariables false
set_option linter.unusedSimpArgs false

/-- A byte that no subject can hold. -/
def badc (c : Int) : Prop := c = 32 ∨ c = 9 ∨ c = 10 ∨ c = 13 ∨ c = 12 ∨ c = 127
instance (c : Int) : Decidable (badc c) := by unfold badc; infer_instance
/-- The subject of a topic or of a filter: none within: an error; none: nothing is said. -/
def cv (wc : Bool) : List Int → Nat → List Int → Bool → Option (Option (List Int))
  | [], _, out, cp => if cp = true then (if out.getLast? = some 46 then some (some (out ++ [47])) else if out = [] then none else some (some out)) else some (some out)
  | c :: r, i, out, cp =>
    if c = 47 then
      (if i = 0 ∨ out.getLast? = some 46 then (if cp = true ∨ i = 0 then cv wc r (i + 1) (out ++ [47, 46]) true else none)
      else if r = [] ∨ r.head? = some 47 then cv wc r (i + 1) (out ++ [46, 47]) true
      else cv wc r (i + 1) (out ++ [46]) true)
    else if badc c then some none
    else if c = 46 then cv wc r (i + 1) (out ++ [47, 47]) true
    else if c = 43 ∨ c = 35 then (if wc = false then some none else cv wc r (i + 1) (out ++ [if c = 43 then 42 else 62]) true)
    else cv wc r (i + 1) (out ++ [c]) cp
/-- What has been written lies in a row of its own, or it is the text so far. -/
structure Res (w : World) (B : Nat) (cp : Bool) (X : Option Addr) (n c i : Nat) (l out : List Int) (v : Value) : Prop where
  own : cp = true → w.ownsRow B 5 1 v out.length (iC out)
  old : cp = false → v = .slice X n c ∧ out = l.take i
  lo : i ≤ out.length
  hi : out.length ≤ 2 * i
  B : B ≤ w.heap.size
/-- The whole state. -/
structure Ms (w1 w : World) (B bc bm br : Nat) (cp : Bool) (X : Option Addr) (n c i : Nat) (l out : List Int) (v : Value) : Prop where
  cap : Cap w bc bm br cp (.slice X n c) v
  bel : Below w1.heap.size w1 w
  res : Res w B cp X n c i l out v
  dat : Kd.C (Kd.int .u8) w X n l
structure Fix (w1 : World) (B bc bm br n c : Nat) : Prop where
  c1 : w1.heap.size ≤ bc
  r1 : w1.heap.size ≤ br
  cB : bc < B
  mB : bm < B
  rB : br < B
  B1 : w1.heap.size ≤ B
  nc : n ≤ c
  n5 : n ≤ 100000
theorem own_slice {w : World} {B n : Nat} {v : Value} {xs : List Int} (h : w.ownsRow B 5 1 v n (iC xs)) (hn : 0 < n) : ∃ g cap, v = .slice (some ⟨g, 0, none⟩) n cap ∧ n ≤ cap ∧ ∀ j x, xs[j]? = some x → w.cell? ⟨g, j, none⟩ = some (.int .u8 x) := by
  rcases h.2 with ⟨-, h0⟩ | ⟨g, cap, cur, rfl, hb, hg, h1, h2, h3, h4⟩
  · omega
  · refine ⟨g, cap, rfl, h1, fun j x hx => ?_⟩
    have := h.cells rfl j _ (by rw [iC, List.getElem?_map, hx]; rfl)
    rw [Bs.add_at] at this
    exact this
theorem Ms.last {w1 w : World} {B bc bm br n c i : Nat} {cp : Bool} {X : Option Addr} {l out : List Int} {v : Value} {z : Int} (h : Ms w1 w B bc bm br cp X n c i l out v) (hn : n ≤ c) (hi : i ≤ n) (hz : out.getLast? = some z) :
    ∃ Y nn cc q, v = .slice (some Y) nn cc ∧ out.length = q + 1 ∧ q < nn ∧ nn ≤ cc ∧ w.cell? (Y.add q) = some (.int .u8 z) := by
  have h0 : 0 < out.length := by
    rcases Nat.eq_zero_or_pos out.length with h | h
    · rw [List.length_eq_zero_iff.1 h] at hz; cases hz
    · exact h
  rw [List.getLast?_eq_getElem?] at hz
  obtain ⟨q, hq⟩ : ∃ q, out.length = q + 1 := ⟨out.length - 1, by omega⟩
  rw [hq, Nat.add_sub_cancel] at hz
  cases cp with
  | true =>
    obtain ⟨g, cap, rfl, h1, h2⟩ := own_slice (h.res.own rfl) h0
    refine ⟨⟨g, 0, none⟩, _, cap, q, rfl, hq, by omega, h1, ?_⟩
    rw [Bs.add_at]
    exact h2 q z hz
  | false =>
    obtain ⟨rfl, rfl⟩ := h.res.old rfl
    have hl : l.length = n := h.dat.1
    rw [List.length_take] at hq
    obtain ⟨ad, rfl, -⟩ := h.dat.2.2 (by omega)
    refine ⟨ad, n, c, q, rfl, by rw [List.length_take]; exact hq, by omega, hn, ?_⟩
    rw [List.getElem?_take] at hz
    split at hz
    · exact cell_of h.dat (Below.refl _ _) hz
    · cases hz
/-- A copy is made. -/
theorem Ms.made {w1 w w' : World} {B bc bm br n c i : Nat} {X : Option Addr} {l out : List Int} {v v2 : Value} (h : Ms w1 w B bc bm br false X n c i l out v) (hF : Fix w1 B bc bm br n c) (h1 : Below w1.heap.size w1 w') (h2 : w.heap.size ≤ w'.heap.size) (hc : Cap w' bc bm br true (.slice X n c) v2) (ho : w'.ownsRow w.heap.size 5 1 v2 i (iC (l.take i))) (hR : Kd.C (Kd.int .u8) w' X n l) (hi : i ≤ n) :
    Ms w1 w' B bc bm br true X n c i l out v2 := by
  obtain ⟨-, rfl⟩ := h.res.old rfl
  have hl : l.length = n := h.dat.1
  have hlen : (l.take i).length = i := by rw [List.length_take]; omega
  refine ⟨hc, h1, ⟨fun _ => by rw [hlen]; exact Bs.ownsRow_low ho h.res.B, (fun e => by cases e), h.res.lo, h.res.hi, Nat.le_trans h.res.B h2⟩, hR⟩
/-- Bytes are appended, and stored. -/
theorem Ms.more {w1 w w' : World} {B bc bm br n c i : Nat} {X : Option Addr} {l out ys : List Int} {v v2 : Value} (h : Ms w1 w B bc bm br true X n c i l out v) (hF : Fix w1 B bc bm br n c) (ho : w'.ownsRow B 5 1 v2 (out.length + ys.length) (iC out ++ iC ys)) (hg : w.grownBy w' v.ownBlock) (hat : v2.ownBlock = v.ownBlock ∨ v2.ownBlock = some w.heap.size) (hR : ∀ W, Below w1.heap.size w1 W → Kd.C (Kd.int .u8) W X n l) (h1 : 1 ≤ ys.length) (h2 : ys.length ≤ 2) :
    Ms w1 (w'.setCell ⟨br, 0, none⟩ v2) B bc bm br true X n c (i + 1) l (out ++ ys) v2 := by
  have hv : ∀ k, v.ownBlock = some k → B ≤ k := fun k hk => (Bs.own_base (h.res.own rfl) hk).1
  have hbl : ∀ k, k < B → w'.heap[k]? = w.heap[k]? := fun k hk => hg.block k (by have := h.res.B; omega) (fun e => by have := hv k e.symm; omega)
  have hv2 : ∀ k, v2.ownBlock = some k → B ≤ k := fun k hk => by
    rcases hat with e | e
    · rw [e] at hk; exact hv k hk
    · rw [e] at hk
      injection hk with hk
      have := h.res.B
      omega
  have hb : Below w1.heap.size w1 (w'.setCell ⟨br, 0, none⟩ v2) := (h.bel.trans ⟨hg.os, hg.tape, hg.output, hg.size, fun k hk => hbl k (by have := hF.B1; omega)⟩).setCell (p := ⟨br, 0, none⟩) hF.r1 v2
  refine ⟨⟨(h.cap.c.move (hbl _ hF.cB)).far (p := ⟨br, 0, none⟩) (by simpa using h.cap.cr) _, (h.cap.m.move (hbl _ hF.mB)).far (p := ⟨br, 0, none⟩) (by simpa using h.cap.mr) _, (h.cap.r.move (hbl _ hF.rB)).set 0 (by simp) _, h.cap.cm, h.cap.cr, h.cap.mr⟩, hb, ⟨fun _ => ?_, (fun e => by cases e), ?_, ?_, ?_⟩, hR _ hb⟩
  · rw [List.length_append, ← iC_app]
    exact Bs.ownsRow_block ho (fun k hk => Below.heap_setCell _ _ _ _ (by have := hv2 k hk; have := hF.rB; simp; omega))
  · have := h.res.lo; rw [List.length_append]; omega
  · have := h.res.hi; rw [List.length_append]; omega
  · rw [Bs.setCell_size]; exact Nat.le_trans h.res.B hg.size
theorem slice_of_own {w : World} {B n : Nat} {v : Value} {xs : List Value} (h : w.ownsRow B 5 1 v n xs) : ∃ q q1 q2, v = .slice q q1 q2 := by
  rcases h.2 with ⟨e, -⟩ | ⟨g, cap, cur, e, -⟩
  · exact ⟨_, _, _, e⟩
  · exact ⟨_, _, _, e⟩
theorem read_new (W : World) (ys : List Int) : Bs.ReadG (W.alloc (.cells (iC ys).toArray 5)) (some ⟨W.heap.size, 0, none⟩) ys.length 1 (iC ys) := Bs.read_newG (by rw [iC_len, Nat.mul_one]) (iC_one ys)
theorem Ms.alloc {w1 w : World} {B bc bm br n c i : Nat} {cp : Bool} {X : Option Addr} {l out : List Int} {v : Value} (h : Ms w1 w B bc bm br cp X n c i l out v) (hF : Fix w1 B bc bm br n c) (o : Obj) : Ms w1 (w.alloc o) B bc bm br cp X n c i l out v :=
  ⟨⟨h.cap.c.alloc o, h.cap.m.alloc o, h.cap.r.alloc o, h.cap.cm, h.cap.cr, h.cap.mr⟩, h.bel.alloc h.bel.size o, ⟨fun e => (h.res.own e).alloc o, h.res.old, h.res.lo, h.res.hi, by have := h.res.B; simp; omega⟩, Kd.C_alloc h.dat o⟩
theorem Ms.drew {w1 w : World} {B bc bm br n c i : Nat} {cp : Bool} {X : Option Addr} {l out : List Int} {v : Value} (h : Ms w1 w B bc bm br cp X n c i l out v) : Ms w1 w.drew B bc bm br cp X n c i l out v :=
  ⟨⟨h.cap.c.drew, h.cap.m.drew, h.cap.r.drew, h.cap.cm, h.cap.cr, h.cap.mr⟩, h.bel.drew, ⟨h.res.own, h.res.old, h.res.lo, h.res.hi, h.res.B⟩, Kd.C_drew h.dat⟩
/-- A slice that reads as a list. -/
structure Sl (w : World) (v : Value) (xs : List Int) : Prop where
  ex : ∃ A c, v = .slice A xs.length c ∧ xs.length ≤ c ∧ Kd.C (Kd.int .u8) w A xs.length xs
theorem own_C {w : World} {B n : Nat} {v : Value} {xs : List Int} (h : w.ownsRow B 5 1 v n (iC xs)) : Sl w v xs := by
  obtain ⟨A, c, rfl, hnc, hr⟩ := Bs.read_own (W := w) h (iC_one xs)
  have hl : xs.length = n := by have := h.1; rw [iC_len] at this; omega
  subst hl
  refine ⟨A, c, rfl, hnc, rfl, ?_, fun h0 => ?_⟩
  · rcases h.2 with ⟨e, h0⟩ | ⟨g, cap, cur, e, -, -, k1, k2, -⟩
    · omega
    · unfold maxLen at k2; omega
  · obtain ⟨ad, e, hc⟩ := hr.read (by rw [iC_len]; omega)
    refine ⟨ad, e, fun j p hj => ⟨[.int .u8 p], rfl, rfl, fun i u hu => ?_⟩⟩
    cases i with
    | succ i => simp at hu
    | zero =>
      simp only [List.getElem?_cons_zero, Option.some.injEq] at hu
      subst hu
      have := hc j (.int .u8 p) (by rw [iC, List.getElem?_map, hj]; rfl)
      have e1 : j * (Kd.int .u8).sz + 0 = j := Nat.mul_one j
      rw [e1]
      exact this
theorem Ms.keepr {w1 w w' : World} {B bc bm br n c i : Nat} {X : Option Addr} {l out : List Int} {v : Value} (h : Ms w1 w B bc bm br true X n c i l out v) (hF : Fix w1 B bc bm br n c) (hg : w.grownBy w' v.ownBlock) : Bs.Blk w' br 23 [v] :=
  h.cap.r.move (hg.block br (by have := h.res.B; have := hF.rB; omega) (fun e => by have := (Bs.own_base (h.res.own rfl) e.symm).1; have := hF.rB; omega))
theorem sl_len {w : World} {v : Value} {xs : List Int} {m : Nat} (h : Sl w v xs) (hm : xs.length = m) : ∃ p p2, v = .slice p m p2 ∧ m ≤ p2 := by
  obtain ⟨A, c, e, hle, -⟩ := h.ex
  subst hm
  exact ⟨A, c, e, hle⟩
def CvPost (w1 : World) (R : Option (List Int)) (e : Ending) (w' : World) : Prop := Below w1.heap.size w1 w' ∧
  match R with
  | none => ∃ t v, e = .returned (.tuple #[.slice none 0 0, .iface t v])
  | some out => ∃ v, e = .returned (.tuple #[v, .nilIface]) ∧ Sl w' v out
set_option maxHeartbeats 16000000 in
set_option maxRecDepth 100000 in
theorem cv_calls {w1 : World} {X : Option Addr} {n c : Nat} {l : List Int} {wc : Bool} {R : Option (List Int)} {t0 : TypeId} {u0 : Value} (hR : Kd.C (Kd.int .u8) w1 X n l) (hc : n ≤ c) (hn : n ≤ 100000) (hG : w1.cell? ⟨0, 0, none⟩ = some (.iface t0 u0)) (h : cv wc l 0 [] false = some R) :
    Calls Tryd.prog 31 #[.slice X n c, .bool wc] w1 (CvPost w1 R) := by
  have HR : Aside0 (∀ W, Below w1.heap.size w1 W → Kd.C (Kd.int .u8) W X n l) := ⟨fun W hW => Kd.C_below hR hW⟩
  have HN := Aside0.mk (And.intro hc hn)
  have HL : Aside0 (l.length = n) := ⟨hR.1⟩
  have HG : Aside0 (∀ W, Below w1.heap.size w1 W → W.cell? ⟨0, 0, none⟩ = some (.iface t0 u0)) := ⟨fun W hW => (hW.cell (World.block_lt_of_cell? w1 _ hG)).trans hG⟩
  have H := Aside0.mk h
  clear hR hc hn hG h
  obtain ⟨i0, hK⟩ := elem5
  have K5 := Aside0.mk hK
  clear hK
  have n0 : (0 : Int) ≤ (n : Int) := by omega
  have n1 : (n : Int) ≤ 100000 := by have := HN.out; omega
  go_enter Tryd.func31, Tryd.ntmps31
  go_upto_region 6 with (fail)
  generalize hW : (((w1.alloc (.cells #[.slice X n c] 23)).alloc (.cells #[.bool false] 4)).alloc (.cells #[.slice X n c] 23)) = w2
  obtain ⟨bm, hbm⟩ : ∃ k, k = w1.heap.size := ⟨_, rfl⟩
  obtain ⟨bc, hbc⟩ : ∃ k, k = w1.heap.size + 1 := ⟨_, rfl⟩
  obtain ⟨br, hbr⟩ : ∃ k, k = w1.heap.size + 1 + 1 := ⟨_, rfl⟩
  obtain ⟨B, hB⟩ : ∃ k, k = w1.heap.size + 1 + 1 + 1 := ⟨_, rfl⟩
  have HF : Aside0 (Fix w1 B bc bm br n c) := ⟨⟨by omega, by omega, by omega, by omega, by omega, by omega, HN.out.1, HN.out.2⟩⟩
  have HM : Aside0 (Ms w1 w2 B bc bm br false X n c 0 l [] (.slice X n c)) := ⟨by
    have k1 := Bs.Blk.new w1 23 [.slice X n c]
    have k2 := Bs.Blk.new (w1.alloc (.cells #[.slice X n c] 23)) 4 [.bool false]
    have k3 := Bs.Blk.new ((w1.alloc (.cells #[.slice X n c] 23)).alloc (.cells #[.bool false] 4)) 23 [.slice X n c]
    have s1 : (w1.alloc (.cells #[.slice X n c] 23)).heap.size = w1.heap.size + 1 := by simp
    have s2 : ((w1.alloc (.cells #[.slice X n c] 23)).alloc (.cells #[.bool false] 4)).heap.size = w1.heap.size + 1 + 1 := by simp
    rw [s1] at k2
    rw [s2] at k3
    have hb : Below w1.heap.size w1 (((w1.alloc (.cells #[.slice X n c] 23)).alloc (.cells #[.bool false] 4)).alloc (.cells #[.slice X n c] 23)) := below_alloc (below_alloc (below_alloc (Below.refl _ _) _) _) _
    subst hW
    refine ⟨⟨?_, ?_, ?_, by omega, by omega, by omega⟩, hb, ⟨(fun e => by cases e), fun _ => ⟨rfl, rfl⟩, Nat.le_refl _, Nat.le_refl _, by simp; omega⟩, HR.out _ hb⟩
    · rw [hbc]; exact k2.alloc _
    · rw [hbm]; exact (k1.alloc _).alloc _
    · rw [hbr]; exact k3⟩
  rw [← hbr, ← hbc, ← hbm]
  clear hW hbm hbc hbr hB
  go_wp2
  go_loopg [7, 11] n (fun kq v7 v11 w' => ∃ (i : Nat) (out : List Int) (cp : Bool) (v8 : Value), i ≤ n ∧ v7 = .int .i64 out.length ∧ v11 = .int .i64 i ∧ Aside0 (n - i ≤ kq ∧ cv wc (l.drop i) i out cp = some R ∧ Ms w1 w' B bc bm br cp X n c i l out v8))
  case atStart => exact ⟨0, [], false, _, Nat.zero_le _, rfl, rfl, ⟨Nat.le_refl _, by rw [List.drop_zero]; exact H.out, HM.out⟩⟩
  case round =>
    clear HM H
    obtain ⟨i, out, cp, v8, hi, rfl, rfl, HH⟩ := hrel
    have HM := Aside0.mk HH.out.2.2
    have HU := Aside0.mk HH.out.1
    have hcv := HH.out.2.1
    clear HH
    have i1 : (0 : Int) ≤ (i : Int) := by omega
    have i9 : (i : Int) ≤ 100000 := by omega
    have o1 : (0 : Int) ≤ (out.length : Int) := by omega
    have o2 : (out.length : Int) ≤ 300000 := by have := HM.out.res.hi; omega
    by_cases hlt : i < n
    · obtain ⟨x, hx⟩ : ∃ x, l[i]? = some x := ⟨_, List.getElem?_eq_getElem (by have := HL.out; omega)⟩
      have HD : Aside0 (l.drop i = x :: l.drop (i + 1)) := ⟨by rw [List.drop_eq_getElem_cons (by have := HL.out; omega), (List.getElem?_eq_some_iff.1 hx).2]⟩
      rw [HD.out, cv] at hcv
      obtain ⟨ad, rfl⟩ : ∃ ad, X = some ad := by
        obtain ⟨ad, e, -⟩ := HM.out.dat.2.2 (by omega)
        exact ⟨ad, e⟩
      have hcell := cell_of HM.out.dat (Below.refl _ _) hx
      have fm := HM.out.cap.m.cell 0 (v := .slice (some ad) n c) rfl
      have i2 : (i : Int) < (n : Int) := by omega
      clear hx
      by_cases h47 : x = 47
      · subst h47
        rw [if_pos rfl] at hcv
        by_cases hA : i = 0 ∨ out.getLast? = some 46
        · rw [if_pos hA] at hcv
          by_cases hcp : cp = true ∨ i = 0
          · rw [if_pos hcp] at hcv
            have HCV := Aside0.mk hcv
            clear hcv
            rcases Nat.eq_zero_or_pos i with hi0 | hi0
            · subst hi0
              rw [show ad.add 0 = ad from by unfold Addr.add; rw [if_pos rfl]] at hcell
              cases cp with
              | true =>
                have fc := HM.out.cap.c.cell 0 (v := .bool true) rfl
                go_upto_region 16 with (fail)
                clear fc
                obtain ⟨q, q1, q2, hq⟩ := slice_of_own (HM.out.res.own rfl)
                have fr := HM.out.cap.r.cell 0 (v := _) rfl
                rw [hq] at fr
                have HM2 := Aside0.mk (HM.out.alloc HF.out (.cells (iC [47, 46]).toArray 5))
                have HRD := Aside0.mk (read_new wr [47, 46])
                have HQ := Aside0.mk hq
                clear hq
                go_wp2_with (at_builtin; refine Bs.wpList_ownG K5.out rfl (.tmp 51) (.tmp 52) rfl (base := B) (v := .slice q q1 q2) (n := out.length) (xs := iC out) (m := 2) (ys := iC [47, 46]) rfl (by rw [← HQ.out]; exact HM2.out.res.own rfl) HM2.out.res.B rfl HRD.out (by have := HM.out.res.hi; have := HF.out.n5; omega) (fun v3 w4 h1 hg ha => ?_); rw [← HQ.out] at hg ha; have HM3 := Aside0.mk (HM2.out.more (ys := [47, 46]) HF.out h1 hg ha HR.out (by simp) (by simp)); obtain ⟨p, p1, p2, hp⟩ := slice_of_own h1; have hk4 := HM2.out.keepr HF.out hg; have fr4 := hk4.cell 0 (v := _) rfl; rw [HQ.out] at fr4; have zr4 := hk4.free 0; subst hp; clear h1 hg ha hk4 fr HRD HM2)
                go_roundg (n - (0 + 1))
                case measure => have := HU.out; omega
                case rel => exact ⟨0 + 1, out ++ [47, 46], true, _, by omega, by first | rfl | (rw [List.length_append]; rfl) | (simp; done) | exact congrArg (Value.int .i64) (by have := HQL.out; rw [List.length_append]; simp; omega), by first | rfl | go_num, ⟨Nat.le_refl _, HCV.out, HM3.out⟩⟩
              | false =>
                have fc := HM.out.cap.c.cell 0 (v := .bool false) rfl
                go_wp2_with fail
                refine (mk_calls (i := 0) HM.out.cap HM.out.bel HF.out.c1 HF.out.r1 (HR.out _ (Below.refl _ _)) HF.out.nc HF.out.n5 (by omega)).mono ?_
                rintro e w9 ⟨rfl, hb2, hs2, v2, hcap2, ho2⟩
                replace HM := Aside0.mk (HM.out.made HF.out hb2 hs2 hcap2 ho2 (HR.out _ hb2) (by omega))
                clear fc hb2 hs2 hcap2 ho2
                go_upto_region 16 with (fail)
                obtain ⟨q, q1, q2, hq⟩ := slice_of_own (HM.out.res.own rfl)
                have fr := HM.out.cap.r.cell 0 (v := _) rfl
                rw [hq] at fr
                have HM2 := Aside0.mk (HM.out.alloc HF.out (.cells (iC [47, 46]).toArray 5))
                have HRD := Aside0.mk (read_new w9 [47, 46])
                have HQ := Aside0.mk hq
                clear hq
                go_wp2_with (at_builtin; refine Bs.wpList_ownG K5.out rfl (.tmp 51) (.tmp 52) rfl (base := B) (v := .slice q q1 q2) (n := out.length) (xs := iC out) (m := 2) (ys := iC [47, 46]) rfl (by rw [← HQ.out]; exact HM2.out.res.own rfl) HM2.out.res.B rfl HRD.out (by have := HM.out.res.hi; have := HF.out.n5; omega) (fun v3 w4 h1 hg ha => ?_); rw [← HQ.out] at hg ha; have HM3 := Aside0.mk (HM2.out.more (ys := [47, 46]) HF.out h1 hg ha HR.out (by simp) (by simp)); obtain ⟨p, p1, p2, hp⟩ := slice_of_own h1; have hk4 := HM2.out.keepr HF.out hg; have fr4 := hk4.cell 0 (v := _) rfl; rw [HQ.out] at fr4; have zr4 := hk4.free 0; subst hp; clear h1 hg ha hk4 fr HRD HM2)
                go_roundg (n - (0 + 1))
                case measure => have := HU.out; omega
                case rel => exact ⟨0 + 1, out ++ [47, 46], true, _, by omega, by first | rfl | (rw [List.length_append]; rfl) | (simp; done) | exact congrArg (Value.int .i64) (by have := HQL.out; rw [List.length_append]; simp; omega), by first | rfl | go_num, ⟨Nat.le_refl _, HCV.out, HM3.out⟩⟩
            · have hl46 : out.getLast? = some 46 := by
                rcases hA with h | h
                · omega
                · exact h
              obtain rfl : cp = true := by
                rcases hcp with h | h
                · exact h
                · omega
              have hne : ((i : Int) == 0) = false := beq_eq_false_iff_ne.2 (by omega)
              have fr0 := HM.out.cap.r.cell 0 (v := _) rfl
              clear hA hcp hlt
              obtain ⟨Y, nn, cc, qj, hv8, hql, hq1, hq2, hlc⟩ := HM.out.last HF.out.nc hi hl46
              rw [hv8] at fr0
              clear hv8
              have HQL : Aside0 (out.length = qj + 1) := ⟨hql⟩
              have k1 : (0 : Int) ≤ (qj : Int) := by omega
              have k2 : (qj : Int) < (nn : Int) := by omega
              have k3 : (qj : Int) ≤ 300000 := by omega
              rw [show (out.length : Int) = (qj : Int) + 1 from by omega]
              clear hql
              have fc := HM.out.cap.c.cell 0 (v := .bool true) rfl
              go_upto_region 16 with (fail)
              clear fc
              clear fr0 hlc
              obtain ⟨q, q1, q2, hq⟩ := slice_of_own (HM.out.res.own rfl)
              have fr := HM.out.cap.r.cell 0 (v := _) rfl
              rw [hq] at fr
              have HM2 := Aside0.mk (HM.out.alloc HF.out (.cells (iC [47, 46]).toArray 5))
              have HRD := Aside0.mk (read_new wr [47, 46])
              have HQ := Aside0.mk hq
              clear hq
              go_wp2_with (at_builtin; refine Bs.wpList_ownG K5.out rfl (.tmp 51) (.tmp 52) rfl (base := B) (v := .slice q q1 q2) (n := out.length) (xs := iC out) (m := 2) (ys := iC [47, 46]) rfl (by rw [← HQ.out]; exact HM2.out.res.own rfl) HM2.out.res.B rfl HRD.out (by have := HM.out.res.hi; have := HF.out.n5; omega) (fun v3 w4 h1 hg ha => ?_); rw [← HQ.out] at hg ha; have HM3 := Aside0.mk (HM2.out.more (ys := [47, 46]) HF.out h1 hg ha HR.out (by simp) (by simp)); obtain ⟨p, p1, p2, hp⟩ := slice_of_own h1; have hk4 := HM2.out.keepr HF.out hg; have fr4 := hk4.cell 0 (v := _) rfl; rw [HQ.out] at fr4; have zr4 := hk4.free 0; subst hp; clear h1 hg ha hk4 fr HRD HM2)
              go_roundg (n - (i + 1))
              case measure => have := HU.out; omega
              case rel => exact ⟨i + 1, out ++ [47, 46], true, _, by omega, by first | rfl | (rw [List.length_append]; rfl) | (simp; done) | exact congrArg (Value.int .i64) (by have := HQL.out; rw [List.length_append]; simp; omega), by first | rfl | go_num, ⟨Nat.le_refl _, HCV.out, HM3.out⟩⟩
          · rw [if_neg hcp] at hcv
            cases hcv
        · rw [if_neg hA] at hcv
          have hi0 : 0 < i := by omega
          obtain ⟨z, hz⟩ : ∃ z, out.getLast? = some z := by
            cases hh : out.getLast? with
            | some z => exact ⟨z, rfl⟩
            | none =>
              exact absurd HM.out.res.lo (by rw [List.getLast?_eq_none_iff.1 hh]; simp; omega)
          have hz46 : (z == 46) = false := beq_eq_false_iff_ne.2 (fun e => hA (.inr (by rw [hz, e])))
          have hne : ((i : Int) == 0) = false := beq_eq_false_iff_ne.2 (by omega)
          have fr0 := HM.out.cap.r.cell 0 (v := _) rfl
          obtain ⟨Y, nn, cc, qj, hv8, hql, hq1, hq2, hlc⟩ := HM.out.last HF.out.nc hi hz
          rw [hv8] at fr0
          clear hv8
          have HQL : Aside0 (out.length = qj + 1) := ⟨hql⟩
          have k1 : (0 : Int) ≤ (qj : Int) := by omega
          have k2 : (qj : Int) < (nn : Int) := by omega
          have k3 : (qj : Int) ≤ 300000 := by omega
          rw [show (out.length : Int) = (qj : Int) + 1 from by omega]
          clear hql
          clear hA hz
          by_cases hend : i + 1 = n
          · have hdr : l.drop (i + 1) = [] := List.drop_eq_nil_of_le (by have := HL.out; omega)
            rw [if_pos (.inl hdr)] at hcv
            have HCV := Aside0.mk hcv
            have hE : ((i : Int) == (n : Int) - 1) = true := beq_iff_eq.2 (by omega)
            clear hcv hdr hend hlt
            cases cp with
            | true =>
              have fc := HM.out.cap.c.cell 0 (v := .bool true) rfl
              go_upto_region 21 with (fail)
              clear fc
              clear fr0 hlc
              obtain ⟨q, q1, q2, hq⟩ := slice_of_own (HM.out.res.own rfl)
              have fr := HM.out.cap.r.cell 0 (v := _) rfl
              rw [hq] at fr
              have HM2 := Aside0.mk (HM.out.alloc HF.out (.cells (iC [46, 47]).toArray 5))
              have HRD := Aside0.mk (read_new wr [46, 47])
              have HQ := Aside0.mk hq
              clear hq
              go_wp2_with (at_builtin; refine Bs.wpList_ownG K5.out rfl (.tmp 72) (.tmp 73) rfl (base := B) (v := .slice q q1 q2) (n := out.length) (xs := iC out) (m := 2) (ys := iC [46, 47]) rfl (by rw [← HQ.out]; exact HM2.out.res.own rfl) HM2.out.res.B rfl HRD.out (by have := HM.out.res.hi; have := HF.out.n5; omega) (fun v3 w4 h1 hg ha => ?_); rw [← HQ.out] at hg ha; have HM3 := Aside0.mk (HM2.out.more (ys := [46, 47]) HF.out h1 hg ha HR.out (by simp) (by simp)); obtain ⟨p, p1, p2, hp⟩ := slice_of_own h1; have hk4 := HM2.out.keepr HF.out hg; have fr4 := hk4.cell 0 (v := _) rfl; rw [HQ.out] at fr4; have zr4 := hk4.free 0; subst hp; clear h1 hg ha hk4 fr HRD HM2)
              go_roundg (n - (i + 1))
              case measure => have := HU.out; omega
              case rel => exact ⟨i + 1, out ++ [46, 47], true, _, by omega, by first | rfl | (rw [List.length_append]; rfl) | (simp; done) | exact congrArg (Value.int .i64) (by have := HQL.out; rw [List.length_append]; simp; omega), by first | rfl | go_num, ⟨Nat.le_refl _, HCV.out, HM3.out⟩⟩
            | false =>
              have fc := HM.out.cap.c.cell 0 (v := .bool false) rfl
              go_wp2_with fail
              refine (mk_calls (i := i) HM.out.cap HM.out.bel HF.out.c1 HF.out.r1 (HR.out _ (Below.refl _ _)) HF.out.nc HF.out.n5 (by omega)).mono ?_
              rintro e w9 ⟨rfl, hb2, hs2, v2, hcap2, ho2⟩
              replace HM := Aside0.mk (HM.out.made HF.out hb2 hs2 hcap2 ho2 (HR.out _ hb2) (by omega))
              clear fc hb2 hs2 hcap2 ho2
              go_upto_region 21 with (fail)
              clear fr0 hlc
              obtain ⟨q, q1, q2, hq⟩ := slice_of_own (HM.out.res.own rfl)
              have fr := HM.out.cap.r.cell 0 (v := _) rfl
              rw [hq] at fr
              have HM2 := Aside0.mk (HM.out.alloc HF.out (.cells (iC [46, 47]).toArray 5))
              have HRD := Aside0.mk (read_new w9 [46, 47])
              have HQ := Aside0.mk hq
              clear hq
              go_wp2_with (at_builtin; refine Bs.wpList_ownG K5.out rfl (.tmp 72) (.tmp 73) rfl (base := B) (v := .slice q q1 q2) (n := out.length) (xs := iC out) (m := 2) (ys := iC [46, 47]) rfl (by rw [← HQ.out]; exact HM2.out.res.own rfl) HM2.out.res.B rfl HRD.out (by have := HM.out.res.hi; have := HF.out.n5; omega) (fun v3 w4 h1 hg ha => ?_); rw [← HQ.out] at hg ha; have HM3 := Aside0.mk (HM2.out.more (ys := [46, 47]) HF.out h1 hg ha HR.out (by simp) (by simp)); obtain ⟨p, p1, p2, hp⟩ := slice_of_own h1; have hk4 := HM2.out.keepr HF.out hg; have fr4 := hk4.cell 0 (v := _) rfl; rw [HQ.out] at fr4; have zr4 := hk4.free 0; subst hp; clear h1 hg ha hk4 fr HRD HM2)
              go_roundg (n - (i + 1))
              case measure => have := HU.out; omega
              case rel => exact ⟨i + 1, out ++ [46, 47], true, _, by omega, by first | rfl | (rw [List.length_append]; rfl) | (simp; done) | exact congrArg (Value.int .i64) (by have := HQL.out; rw [List.length_append]; simp; omega), by first | rfl | go_num, ⟨Nat.le_refl _, HCV.out, HM3.out⟩⟩
          · obtain ⟨y, hy⟩ : ∃ y, l[i + 1]? = some y := ⟨_, List.getElem?_eq_getElem (by have := HL.out; omega)⟩
            have hdr : l.drop (i + 1) = y :: l.drop (i + 2) := by rw [List.drop_eq_getElem_cons (by have := HL.out; omega), (List.getElem?_eq_some_iff.1 hy).2]
            have hE : ((i : Int) == (n : Int) - 1) = false := beq_eq_false_iff_ne.2 (by omega)
            have hcy := cell_of HM.out.dat (Below.refl _ _) hy
            have hcy2 := hcy
            rw [show ad.add (i + 1) = ⟨ad.block, ad.off + (i + 1), none⟩ from by unfold Addr.add; rw [if_neg (by omega)]] at hcy2
            have j1 : (i : Int) + 1 < (n : Int) := by omega
            have j2 : (0 : Int) ≤ (i : Int) + 1 := by omega
            have j3 : ((i : Int) + 1).toNat = i + 1 := by omega
            by_cases hy47 : y = 47
            · rw [if_pos (.inr (by rw [hdr, hy47]; rfl))] at hcv
              subst hy47
              have HCV := Aside0.mk hcv
              clear hcv hdr hend hlt hy
              cases cp with
              | true =>
                have fc := HM.out.cap.c.cell 0 (v := .bool true) rfl
                go_upto_region 21 with (fail)
                clear fc
                clear fr0 hlc
                obtain ⟨q, q1, q2, hq⟩ := slice_of_own (HM.out.res.own rfl)
                have fr := HM.out.cap.r.cell 0 (v := _) rfl
                rw [hq] at fr
                have HM2 := Aside0.mk (HM.out.alloc HF.out (.cells (iC [46, 47]).toArray 5))
                have HRD := Aside0.mk (read_new wr [46, 47])
                have HQ := Aside0.mk hq
                clear hq
                go_wp2_with (at_builtin; refine Bs.wpList_ownG K5.out rfl (.tmp 72) (.tmp 73) rfl (base := B) (v := .slice q q1 q2) (n := out.length) (xs := iC out) (m := 2) (ys := iC [46, 47]) rfl (by rw [← HQ.out]; exact HM2.out.res.own rfl) HM2.out.res.B rfl HRD.out (by have := HM.out.res.hi; have := HF.out.n5; omega) (fun v3 w4 h1 hg ha => ?_); rw [← HQ.out] at hg ha; have HM3 := Aside0.mk (HM2.out.more (ys := [46, 47]) HF.out h1 hg ha HR.out (by simp) (by simp)); obtain ⟨p, p1, p2, hp⟩ := slice_of_own h1; have hk4 := HM2.out.keepr HF.out hg; have fr4 := hk4.cell 0 (v := _) rfl; rw [HQ.out] at fr4; have zr4 := hk4.free 0; subst hp; clear h1 hg ha hk4 fr HRD HM2)
                go_roundg (n - (i + 1))
                case measure => have := HU.out; omega
                case rel => exact ⟨i + 1, out ++ [46, 47], true, _, by omega, by first | rfl | (rw [List.length_append]; rfl) | (simp; done) | exact congrArg (Value.int .i64) (by have := HQL.out; rw [List.length_append]; simp; omega), by first | rfl | go_num, ⟨Nat.le_refl _, HCV.out, HM3.out⟩⟩
              | false =>
                have fc := HM.out.cap.c.cell 0 (v := .bool false) rfl
                go_wp2_with fail
                refine (mk_calls (i := i) HM.out.cap HM.out.bel HF.out.c1 HF.out.r1 (HR.out _ (Below.refl _ _)) HF.out.nc HF.out.n5 (by omega)).mono ?_
                rintro e w9 ⟨rfl, hb2, hs2, v2, hcap2, ho2⟩
                replace HM := Aside0.mk (HM.out.made HF.out hb2 hs2 hcap2 ho2 (HR.out _ hb2) (by omega))
                clear fc hb2 hs2 hcap2 ho2
                go_upto_region 21 with (fail)
                clear fr0 hlc
                obtain ⟨q, q1, q2, hq⟩ := slice_of_own (HM.out.res.own rfl)
                have fr := HM.out.cap.r.cell 0 (v := _) rfl
                rw [hq] at fr
                have HM2 := Aside0.mk (HM.out.alloc HF.out (.cells (iC [46, 47]).toArray 5))
                have HRD := Aside0.mk (read_new w9 [46, 47])
                have HQ := Aside0.mk hq
                clear hq
                go_wp2_with (at_builtin; refine Bs.wpList_ownG K5.out rfl (.tmp 72) (.tmp 73) rfl (base := B) (v := .slice q q1 q2) (n := out.length) (xs := iC out) (m := 2) (ys := iC [46, 47]) rfl (by rw [← HQ.out]; exact HM2.out.res.own rfl) HM2.out.res.B rfl HRD.out (by have := HM.out.res.hi; have := HF.out.n5; omega) (fun v3 w4 h1 hg ha => ?_); rw [← HQ.out] at hg ha; have HM3 := Aside0.mk (HM2.out.more (ys := [46, 47]) HF.out h1 hg ha HR.out (by simp) (by simp)); obtain ⟨p, p1, p2, hp⟩ := slice_of_own h1; have hk4 := HM2.out.keepr HF.out hg; have fr4 := hk4.cell 0 (v := _) rfl; rw [HQ.out] at fr4; have zr4 := hk4.free 0; subst hp; clear h1 hg ha hk4 fr HRD HM2)
                go_roundg (n - (i + 1))
                case measure => have := HU.out; omega
                case rel => exact ⟨i + 1, out ++ [46, 47], true, _, by omega, by first | rfl | (rw [List.length_append]; rfl) | (simp; done) | exact congrArg (Value.int .i64) (by have := HQL.out; rw [List.length_append]; simp; omega), by first | rfl | go_num, ⟨Nat.le_refl _, HCV.out, HM3.out⟩⟩
            · rw [if_neg (by
                rintro (h | h)
                · rw [hdr] at h; cases h
                · rw [hdr] at h; exact hy47 (Option.some.inj h))] at hcv
              have HCV := Aside0.mk hcv
              have hyb : (y == 47) = false := beq_eq_false_iff_ne.2 hy47
              clear hcv hdr hend hlt hy hy47
              cases cp with
              | true =>
                have fc := HM.out.cap.c.cell 0 (v := .bool true) rfl
                go_upto_region 25 with (fail)
                clear fc
                clear fr0 hlc
                obtain ⟨q, q1, q2, hq⟩ := slice_of_own (HM.out.res.own rfl)
                have fr := HM.out.cap.r.cell 0 (v := _) rfl
                rw [hq] at fr
                have HM2 := Aside0.mk (HM.out.alloc HF.out (.cells (iC [46]).toArray 5))
                have HRD := Aside0.mk (read_new wr [46])
                have HQ := Aside0.mk hq
                clear hq
                go_wp2_with (at_builtin; refine Bs.wpList_ownG K5.out rfl (.tmp 82) (.tmp 83) rfl (base := B) (v := .slice q q1 q2) (n := out.length) (xs := iC out) (m := 1) (ys := iC [46]) rfl (by rw [← HQ.out]; exact HM2.out.res.own rfl) HM2.out.res.B rfl HRD.out (by have := HM.out.res.hi; have := HF.out.n5; omega) (fun v3 w4 h1 hg ha => ?_); rw [← HQ.out] at hg ha; have HM3 := Aside0.mk (HM2.out.more (ys := [46]) HF.out h1 hg ha HR.out (by simp) (by simp)); obtain ⟨p, p1, p2, hp⟩ := slice_of_own h1; have hk4 := HM2.out.keepr HF.out hg; have fr4 := hk4.cell 0 (v := _) rfl; rw [HQ.out] at fr4; have zr4 := hk4.free 0; subst hp; clear h1 hg ha hk4 fr HRD HM2)
                go_roundg (n - (i + 1))
                case measure => have := HU.out; omega
                case rel => exact ⟨i + 1, out ++ [46], true, _, by omega, by first | rfl | (rw [List.length_append]; rfl) | (simp; done) | exact congrArg (Value.int .i64) (by have := HQL.out; rw [List.length_append]; simp; omega), by first | rfl | go_num, ⟨Nat.le_refl _, HCV.out, HM3.out⟩⟩
              | false =>
                have fc := HM.out.cap.c.cell 0 (v := .bool false) rfl
                go_wp2_with fail
                refine (mk_calls (i := i) HM.out.cap HM.out.bel HF.out.c1 HF.out.r1 (HR.out _ (Below.refl _ _)) HF.out.nc HF.out.n5 (by omega)).mono ?_
                rintro e w9 ⟨rfl, hb2, hs2, v2, hcap2, ho2⟩
                replace HM := Aside0.mk (HM.out.made HF.out hb2 hs2 hcap2 ho2 (HR.out _ hb2) (by omega))
                clear fc hb2 hs2 hcap2 ho2
                go_upto_region 25 with (fail)
                clear fr0 hlc
                obtain ⟨q, q1, q2, hq⟩ := slice_of_own (HM.out.res.own rfl)
                have fr := HM.out.cap.r.cell 0 (v := _) rfl
                rw [hq] at fr
                have HM2 := Aside0.mk (HM.out.alloc HF.out (.cells (iC [46]).toArray 5))
                have HRD := Aside0.mk (read_new w9 [46])
                have HQ := Aside0.mk hq
                clear hq
                go_wp2_with (at_builtin; refine Bs.wpList_ownG K5.out rfl (.tmp 82) (.tmp 83) rfl (base := B) (v := .slice q q1 q2) (n := out.length) (xs := iC out) (m := 1) (ys := iC [46]) rfl (by rw [← HQ.out]; exact HM2.out.res.own rfl) HM2.out.res.B rfl HRD.out (by have := HM.out.res.hi; have := HF.out.n5; omega) (fun v3 w4 h1 hg ha => ?_); rw [← HQ.out] at hg ha; have HM3 := Aside0.mk (HM2.out.more (ys := [46]) HF.out h1 hg ha HR.out (by simp) (by simp)); obtain ⟨p, p1, p2, hp⟩ := slice_of_own h1; have hk4 := HM2.out.keepr HF.out hg; have fr4 := hk4.cell 0 (v := _) rfl; rw [HQ.out] at fr4; have zr4 := hk4.free 0; subst hp; clear h1 hg ha hk4 fr HRD HM2)
                go_roundg (n - (i + 1))
                case measure => have := HU.out; omega
                case rel => exact ⟨i + 1, out ++ [46], true, _, by omega, by first | rfl | (rw [List.length_append]; rfl) | (simp; done) | exact congrArg (Value.int .i64) (by have := HQL.out; rw [List.length_append]; simp; omega), by first | rfl | go_num, ⟨Nat.le_refl _, HCV.out, HM3.out⟩⟩
      · rw [if_neg h47] at hcv
        have b47 : (x == 47) = false := beq_eq_false_iff_ne.2 h47
        by_cases hbad : badc x
        · rw [if_pos hbad] at hcv
          obtain rfl : none = R := Option.some.inj hcv
          have fg := HG.out wr HM.out.bel
          have hb := HM.out.bel
          have HB := Aside0.mk hb
          clear hcv hb HM HD HU hlt h47
          unfold badc at hbad
          rcases hbad with rfl | rfl | rfl | rfl | rfl | rfl
          all_goals
            first | (go_upto_region 31 with (fail); go_quiet (fail)) | (go_upto_region 33 with (fail); go_quiet (fail))
            go_wp2
            refine bodyPost_ret (results_list (rs := [.tmp 4, .tmp 5]) rfl (by simp) (.tmp (.tmp .nil))) rfl ?_
            exact ⟨pw_below_drewN HB.out _, _, _, rfl⟩
        · rw [if_neg hbad] at hcv
          unfold badc at hbad
          have b32 : (x == 32) = false := beq_eq_false_iff_ne.2 (fun e => hbad (by omega))
          have b9 : (x == 9) = false := beq_eq_false_iff_ne.2 (fun e => hbad (by omega))
          have b10 : (x == 10) = false := beq_eq_false_iff_ne.2 (fun e => hbad (by omega))
          have b13 : (x == 13) = false := beq_eq_false_iff_ne.2 (fun e => hbad (by omega))
          have b12 : (x == 12) = false := beq_eq_false_iff_ne.2 (fun e => hbad (by omega))
          have b127 : (x == 127) = false := beq_eq_false_iff_ne.2 (fun e => hbad (by omega))
          clear h47 hbad
          by_cases h46 : x = 46
          · subst h46
            rw [if_pos rfl] at hcv
            have HCV := Aside0.mk hcv
            clear hcv b47 b32 b9 b10 b13 b12 b127
            cases cp with
            | true =>
              have fc := HM.out.cap.c.cell 0 (v := .bool true) rfl
              go_upto_region 37 with (fail)
              clear fc
              obtain ⟨q, q1, q2, hq⟩ := slice_of_own (HM.out.res.own rfl)
              have fr := HM.out.cap.r.cell 0 (v := _) rfl
              rw [hq] at fr
              have HM2 := Aside0.mk (HM.out.alloc HF.out (.cells (iC [47, 47]).toArray 5))
              have HRD := Aside0.mk (read_new wr [47, 47])
              have HQ := Aside0.mk hq
              clear hq
              go_wp2_with (at_builtin; refine Bs.wpList_ownG K5.out rfl (.tmp 102) (.tmp 103) rfl (base := B) (v := .slice q q1 q2) (n := out.length) (xs := iC out) (m := 2) (ys := iC [47, 47]) rfl (by rw [← HQ.out]; exact HM2.out.res.own rfl) HM2.out.res.B rfl HRD.out (by have := HM.out.res.hi; have := HF.out.n5; omega) (fun v3 w4 h1 hg ha => ?_); rw [← HQ.out] at hg ha; have HM3 := Aside0.mk (HM2.out.more (ys := [47, 47]) HF.out h1 hg ha HR.out (by simp) (by simp)); obtain ⟨p, p1, p2, hp⟩ := slice_of_own h1; have hk4 := HM2.out.keepr HF.out hg; have fr4 := hk4.cell 0 (v := _) rfl; rw [HQ.out] at fr4; have zr4 := hk4.free 0; subst hp; clear h1 hg ha hk4 fr HRD HM2)
              go_roundg (n - (i + 1))
              case measure => have := HU.out; omega
              case rel => exact ⟨i + 1, out ++ [47, 47], true, _, by omega, by first | rfl | (rw [List.length_append]; rfl) | (simp; done) | exact congrArg (Value.int .i64) (by have := HQL.out; rw [List.length_append]; simp; omega), by first | rfl | go_num, ⟨Nat.le_refl _, HCV.out, HM3.out⟩⟩
            | false =>
              have fc := HM.out.cap.c.cell 0 (v := .bool false) rfl
              go_wp2_with fail
              refine (mk_calls (i := i) HM.out.cap HM.out.bel HF.out.c1 HF.out.r1 (HR.out _ (Below.refl _ _)) HF.out.nc HF.out.n5 (by omega)).mono ?_
              rintro e w9 ⟨rfl, hb2, hs2, v2, hcap2, ho2⟩
              replace HM := Aside0.mk (HM.out.made HF.out hb2 hs2 hcap2 ho2 (HR.out _ hb2) (by omega))
              clear fc hb2 hs2 hcap2 ho2
              go_upto_region 37 with (fail)
              obtain ⟨q, q1, q2, hq⟩ := slice_of_own (HM.out.res.own rfl)
              have fr := HM.out.cap.r.cell 0 (v := _) rfl
              rw [hq] at fr
              have HM2 := Aside0.mk (HM.out.alloc HF.out (.cells (iC [47, 47]).toArray 5))
              have HRD := Aside0.mk (read_new w9 [47, 47])
              have HQ := Aside0.mk hq
              clear hq
              go_wp2_with (at_builtin; refine Bs.wpList_ownG K5.out rfl (.tmp 102) (.tmp 103) rfl (base := B) (v := .slice q q1 q2) (n := out.length) (xs := iC out) (m := 2) (ys := iC [47, 47]) rfl (by rw [← HQ.out]; exact HM2.out.res.own rfl) HM2.out.res.B rfl HRD.out (by have := HM.out.res.hi; have := HF.out.n5; omega) (fun v3 w4 h1 hg ha => ?_); rw [← HQ.out] at hg ha; have HM3 := Aside0.mk (HM2.out.more (ys := [47, 47]) HF.out h1 hg ha HR.out (by simp) (by simp)); obtain ⟨p, p1, p2, hp⟩ := slice_of_own h1; have hk4 := HM2.out.keepr HF.out hg; have fr4 := hk4.cell 0 (v := _) rfl; rw [HQ.out] at fr4; have zr4 := hk4.free 0; subst hp; clear h1 hg ha hk4 fr HRD HM2)
              go_roundg (n - (i + 1))
              case measure => have := HU.out; omega
              case rel => exact ⟨i + 1, out ++ [47, 47], true, _, by omega, by first | rfl | (rw [List.length_append]; rfl) | (simp; done) | exact congrArg (Value.int .i64) (by have := HQL.out; rw [List.length_append]; simp; omega), by first | rfl | go_num, ⟨Nat.le_refl _, HCV.out, HM3.out⟩⟩
          rw [if_neg h46] at hcv
          have b46 : (x == 46) = false := beq_eq_false_iff_ne.2 h46
          by_cases h435 : x = 43 ∨ x = 35
          · rw [if_pos h435] at hcv
            cases wc with
            | false =>
              rw [if_pos rfl] at hcv
              obtain rfl : none = R := Option.some.inj hcv
              have hb := HM.out.bel
              have HB := Aside0.mk hb
              clear hcv hb HM HD HU hlt b47 b32 b9 b10 b13 b12 b127 b46 h46
              rcases h435 with rfl | rfl
              all_goals
                go_wp2_with fail
                refine (new_calls _ _).mono ?_
                rintro e w9 ⟨⟨t9, v9, rfl⟩, hb9⟩
                have HB9 := Aside0.mk (HB.out.trans (hb9.mono HB.out.size))
                clear hb9
                go_wp2
                refine bodyPost_ret (results_list (rs := [.tmp 4, .tmp 5]) rfl (by simp) (.tmp (.tmp .nil))) rfl ?_
                exact ⟨HB9.out, _, _, rfl⟩
            | true =>
              rw [if_neg (by simp)] at hcv
              have hx2 : l[i]? = some x := by
                have := congrArg List.head? HD.out
                rw [List.head?_drop] at this
                exact this
              have HX := Aside0.mk hx2
              clear hx2 b47 b32 b9 b10 b13 b12 b127 b46 h46
              rcases h435 with rfl | rfl
              · rw [if_pos rfl] at hcv
                have HCV := Aside0.mk hcv
                clear hcv
                cases cp with
                | true =>
                  have fc := HM.out.cap.c.cell 0 (v := .bool true) rfl
                  go_upto_region 46 with (fail)
                  clear fc
                  obtain ⟨q, q1, q2, hq⟩ := slice_of_own (HM.out.res.own rfl)
                  have fr := HM.out.cap.r.cell 0 (v := _) rfl
                  rw [hq] at fr
                  have HM2 := Aside0.mk (HM.out.alloc HF.out (.cells (iC [42]).toArray 5))
                  have HRD := Aside0.mk (read_new wr [42])
                  have HQ := Aside0.mk hq
                  clear hq
                  go_wp2_with (at_builtin; refine Bs.wpList_ownG K5.out rfl (.tmp 123) (.tmp 124) rfl (base := B) (v := .slice q q1 q2) (n := out.length) (xs := iC out) (m := 1) (ys := iC [42]) rfl (by rw [← HQ.out]; exact HM2.out.res.own rfl) HM2.out.res.B rfl HRD.out (by have := HM.out.res.hi; have := HF.out.n5; omega) (fun v3 w4 h1 hg ha => ?_); rw [← HQ.out] at hg ha; have HM3 := Aside0.mk (HM2.out.more (ys := [42]) HF.out h1 hg ha HR.out (by simp) (by simp)); obtain ⟨p, p1, p2, hp⟩ := slice_of_own h1; have hk4 := HM2.out.keepr HF.out hg; have fr4 := hk4.cell 0 (v := _) rfl; rw [HQ.out] at fr4; have zr4 := hk4.free 0; subst hp; clear h1 hg ha hk4 fr HRD HM2)
                  go_roundg (n - (i + 1))
                  case measure => have := HU.out; omega
                  case rel => exact ⟨i + 1, out ++ [42], true, _, by omega, by first | rfl | (rw [List.length_append]; rfl) | (simp; done) | exact congrArg (Value.int .i64) (by have := HQL.out; rw [List.length_append]; simp; omega), by first | rfl | go_num, ⟨Nat.le_refl _, HCV.out, HM3.out⟩⟩
                | false =>
                  have fc := HM.out.cap.c.cell 0 (v := .bool false) rfl
                  go_wp2_with fail
                  refine (mk_calls (i := i) HM.out.cap HM.out.bel HF.out.c1 HF.out.r1 (HR.out _ (Below.refl _ _)) HF.out.nc HF.out.n5 (by omega)).mono ?_
                  rintro e w9 ⟨rfl, hb2, hs2, v2, hcap2, ho2⟩
                  replace HM := Aside0.mk (HM.out.made HF.out hb2 hs2 hcap2 ho2 (HR.out _ hb2) (by omega))
                  clear fc hb2 hs2 hcap2 ho2
                  have fm9 := HM.out.cap.m.cell 0 (v := .slice (some ad) n c) rfl
                  have hcell9 := cell_of HM.out.dat (Below.refl _ _) HX.out
                  go_upto_region 46 with (fail)
                  obtain ⟨q, q1, q2, hq⟩ := slice_of_own (HM.out.res.own rfl)
                  have fr := HM.out.cap.r.cell 0 (v := _) rfl
                  rw [hq] at fr
                  have HM2 := Aside0.mk (HM.out.alloc HF.out (.cells (iC [42]).toArray 5))
                  have HRD := Aside0.mk (read_new w9 [42])
                  have HQ := Aside0.mk hq
                  clear hq
                  go_wp2_with (at_builtin; refine Bs.wpList_ownG K5.out rfl (.tmp 123) (.tmp 124) rfl (base := B) (v := .slice q q1 q2) (n := out.length) (xs := iC out) (m := 1) (ys := iC [42]) rfl (by rw [← HQ.out]; exact HM2.out.res.own rfl) HM2.out.res.B rfl HRD.out (by have := HM.out.res.hi; have := HF.out.n5; omega) (fun v3 w4 h1 hg ha => ?_); rw [← HQ.out] at hg ha; have HM3 := Aside0.mk (HM2.out.more (ys := [42]) HF.out h1 hg ha HR.out (by simp) (by simp)); obtain ⟨p, p1, p2, hp⟩ := slice_of_own h1; have hk4 := HM2.out.keepr HF.out hg; have fr4 := hk4.cell 0 (v := _) rfl; rw [HQ.out] at fr4; have zr4 := hk4.free 0; subst hp; clear h1 hg ha hk4 fr HRD HM2)
                  go_roundg (n - (i + 1))
                  case measure => have := HU.out; omega
                  case rel => exact ⟨i + 1, out ++ [42], true, _, by omega, by first | rfl | (rw [List.length_append]; rfl) | (simp; done) | exact congrArg (Value.int .i64) (by have := HQL.out; rw [List.length_append]; simp; omega), by first | rfl | go_num, ⟨Nat.le_refl _, HCV.out, HM3.out⟩⟩
              · rw [if_neg (by decide)] at hcv
                have HCV := Aside0.mk hcv
                clear hcv
                cases cp with
                | true =>
                  have fc := HM.out.cap.c.cell 0 (v := .bool true) rfl
                  go_upto_region 47 with (fail)
                  clear fc
                  obtain ⟨q, q1, q2, hq⟩ := slice_of_own (HM.out.res.own rfl)
                  have fr := HM.out.cap.r.cell 0 (v := _) rfl
                  rw [hq] at fr
                  have HM2 := Aside0.mk (HM.out.alloc HF.out (.cells (iC [62]).toArray 5))
                  have HRD := Aside0.mk (read_new wr [62])
                  have HQ := Aside0.mk hq
                  clear hq
                  go_wp2_with (at_builtin; refine Bs.wpList_ownG K5.out rfl (.tmp 126) (.tmp 127) rfl (base := B) (v := .slice q q1 q2) (n := out.length) (xs := iC out) (m := 1) (ys := iC [62]) rfl (by rw [← HQ.out]; exact HM2.out.res.own rfl) HM2.out.res.B rfl HRD.out (by have := HM.out.res.hi; have := HF.out.n5; omega) (fun v3 w4 h1 hg ha => ?_); rw [← HQ.out] at hg ha; have HM3 := Aside0.mk (HM2.out.more (ys := [62]) HF.out h1 hg ha HR.out (by simp) (by simp)); obtain ⟨p, p1, p2, hp⟩ := slice_of_own h1; have hk4 := HM2.out.keepr HF.out hg; have fr4 := hk4.cell 0 (v := _) rfl; rw [HQ.out] at fr4; have zr4 := hk4.free 0; subst hp; clear h1 hg ha hk4 fr HRD HM2)
                  go_roundg (n - (i + 1))
                  case measure => have := HU.out; omega
                  case rel => exact ⟨i + 1, out ++ [62], true, _, by omega, by first | rfl | (rw [List.length_append]; rfl) | (simp; done) | exact congrArg (Value.int .i64) (by have := HQL.out; rw [List.length_append]; simp; omega), by first | rfl | go_num, ⟨Nat.le_refl _, HCV.out, HM3.out⟩⟩
                | false =>
                  have fc := HM.out.cap.c.cell 0 (v := .bool false) rfl
                  go_wp2_with fail
                  refine (mk_calls (i := i) HM.out.cap HM.out.bel HF.out.c1 HF.out.r1 (HR.out _ (Below.refl _ _)) HF.out.nc HF.out.n5 (by omega)).mono ?_
                  rintro e w9 ⟨rfl, hb2, hs2, v2, hcap2, ho2⟩
                  replace HM := Aside0.mk (HM.out.made HF.out hb2 hs2 hcap2 ho2 (HR.out _ hb2) (by omega))
                  clear fc hb2 hs2 hcap2 ho2
                  have fm9 := HM.out.cap.m.cell 0 (v := .slice (some ad) n c) rfl
                  have hcell9 := cell_of HM.out.dat (Below.refl _ _) HX.out
                  go_upto_region 47 with (fail)
                  obtain ⟨q, q1, q2, hq⟩ := slice_of_own (HM.out.res.own rfl)
                  have fr := HM.out.cap.r.cell 0 (v := _) rfl
                  rw [hq] at fr
                  have HM2 := Aside0.mk (HM.out.alloc HF.out (.cells (iC [62]).toArray 5))
                  have HRD := Aside0.mk (read_new w9 [62])
                  have HQ := Aside0.mk hq
                  clear hq
                  go_wp2_with (at_builtin; refine Bs.wpList_ownG K5.out rfl (.tmp 126) (.tmp 127) rfl (base := B) (v := .slice q q1 q2) (n := out.length) (xs := iC out) (m := 1) (ys := iC [62]) rfl (by rw [← HQ.out]; exact HM2.out.res.own rfl) HM2.out.res.B rfl HRD.out (by have := HM.out.res.hi; have := HF.out.n5; omega) (fun v3 w4 h1 hg ha => ?_); rw [← HQ.out] at hg ha; have HM3 := Aside0.mk (HM2.out.more (ys := [62]) HF.out h1 hg ha HR.out (by simp) (by simp)); obtain ⟨p, p1, p2, hp⟩ := slice_of_own h1; have hk4 := HM2.out.keepr HF.out hg; have fr4 := hk4.cell 0 (v := _) rfl; rw [HQ.out] at fr4; have zr4 := hk4.free 0; subst hp; clear h1 hg ha hk4 fr HRD HM2)
                  go_roundg (n - (i + 1))
                  case measure => have := HU.out; omega
                  case rel => exact ⟨i + 1, out ++ [62], true, _, by omega, by first | rfl | (rw [List.length_append]; rfl) | (simp; done) | exact congrArg (Value.int .i64) (by have := HQL.out; rw [List.length_append]; simp; omega), by first | rfl | go_num, ⟨Nat.le_refl _, HCV.out, HM3.out⟩⟩
          rw [if_neg h435] at hcv
          have b43 : (x == 43) = false := beq_eq_false_iff_ne.2 (fun e => h435 (.inl e))
          have b35 : (x == 35) = false := beq_eq_false_iff_ne.2 (fun e => h435 (.inr e))
          have HCV := Aside0.mk hcv
          clear hcv h435 h46
          cases cp with
          | false =>
            have fc := HM.out.cap.c.cell 0 (v := .bool false) rfl
            have hx2 : l[i]? = some x := by
              have := congrArg List.head? HD.out
              rw [List.head?_drop] at this
              exact this
            have HM2 : Aside0 (Ms w1 wr B bc bm br false (some ad) n c (i + 1) l (out ++ [x]) v8) := ⟨⟨HM.out.cap, HM.out.bel, ⟨(fun e => by cases e), fun _ => ⟨(HM.out.res.old rfl).1, by rw [(HM.out.res.old rfl).2, List.take_add_one, hx2]; rfl⟩, by have := HM.out.res.lo; simp; omega, by have := HM.out.res.hi; simp; omega, HM.out.res.B⟩, HM.out.dat⟩⟩
            clear hx2
            go_wp2
            go_roundg (n - (i + 1))
            case measure => have := HU.out; omega
            case rel => exact ⟨i + 1, out ++ [x], false, _, by omega, by first | rfl | (rw [List.length_append]; rfl) | (simp; done), by first | rfl | go_num, ⟨Nat.le_refl _, HCV.out, HM2.out⟩⟩
          | true =>
            have fc := HM.out.cap.c.cell 0 (v := .bool true) rfl
            go_upto_region 11 with (fail)
            clear fc
            have fr := HM.out.cap.r.cell 0 (v := _) rfl
            obtain ⟨q, q1, q2, hq⟩ := slice_of_own (HM.out.res.own rfl)
            rw [hq] at fr
            have HQ := Aside0.mk hq
            clear hq
            have HM2 := Aside0.mk (HM.out.alloc HF.out (.cells (iC [x]).toArray 5)).drew
            have HRD := Aside0.mk (read_new wr [x]).drew
            have fa : (wr.alloc (.cells #[.int .u8 x] 5)).cell? ⟨br, 0, none⟩ = some (.slice q q1 q2) := (HM.out.cap.r.alloc (.cells #[.int .u8 x] 5)).cell 0 (by rw [← HQ.out]; rfl)
            have fa2 : (wr.alloc (.cells #[.int .u8 x] 5)).cell? ⟨bm, 0, none⟩ = some (.slice (some ad) n c) := (HM.out.cap.m.alloc (.cells #[.int .u8 x] 5)).cell 0 rfl
            go_region_law (refine Bs.step_ownG K5.out (by rfl) (.tmp 28) (.tmp 33) (by rfl) (base := B) (v := .slice q q1 q2) (n := out.length) (xs := iC out) (m := 1) (ys := iC [x]) (by rfl) (by rw [← HQ.out]; exact HM2.out.res.own rfl) HM2.out.res.B (by rfl) HRD.out (by have := HM.out.res.hi; have := HF.out.n5; omega) (fun v3 w4 h1 hg ha => ?_); rw [← HQ.out] at hg ha; have HM3 := Aside0.mk (HM2.out.more (ys := [x]) HF.out h1 hg ha HR.out (by simp) (by simp)); obtain ⟨p, p1, p2, hp⟩ := slice_of_own h1; have hk4 := HM2.out.keepr HF.out hg; have fr4 := hk4.cell 0 (v := _) rfl; rw [HQ.out] at fr4; have zr4 := hk4.free 0; subst hp; clear h1 hg ha hk4)
            all_goals go_wp2
            all_goals
              go_roundg (n - (i + 1))
              case measure => have := HU.out; omega
              case rel => exact ⟨i + 1, out ++ [x], true, _, by omega, by first | rfl | (rw [List.length_append]; rfl) | (simp; done), by first | rfl | go_num, ⟨Nat.le_refl _, HCV.out, HM3.out⟩⟩
    · obtain rfl : i = n := by omega
      have i2 : ¬ (i : Int) < (i : Int) := by omega
      rw [List.drop_eq_nil_of_le (by have := HL.out; omega), cv] at hcv
      have fm := HM.out.cap.m.cell 0 (v := .slice X i c) rfl
      have fr0 := HM.out.cap.r.cell 0 (v := _) rfl
      cases cp with
      | false =>
        rw [if_neg (by simp)] at hcv
        obtain rfl : some out = R := Option.some.inj hcv
        have fc := HM.out.cap.c.cell 0 (v := .bool false) rfl
        obtain ⟨rfl, rfl⟩ := HM.out.res.old rfl
        have ht : l.take i = l := List.take_of_length_le (by have := HL.out; omega)
        rw [ht] at hcv o1 o2 ⊢
        have HE : Aside0 (Below w1.heap.size w1 wr ∧ Sl wr (.slice X i c) (l.take i)) := ⟨HM.out.bel, by
          rw [ht]
          exact ⟨_, _, by rw [HL.out], by rw [HL.out]; exact HF.out.nc, by rw [HL.out]; exact HM.out.dat⟩⟩
        have hl : l.length = i := HL.out
        rw [hl] at o1 o2 ⊢
        have c1 : (i : Int) ≤ (c : Int) := by have := HF.out.nc; omega
        clear hcv HM ht hl hlt
        go_wp2
        refine bodyPost_ret (results_list (rs := [.tmp 4, .tmp 5]) rfl (by simp) (.tmp (.tmp .nil))) rfl ?_
        exact ⟨HE.out.1, _, rfl, HE.out.2⟩
      | true =>
        rw [if_pos rfl] at hcv
        have fc := HM.out.cap.c.cell 0 (v := .bool true) rfl
        obtain ⟨z, hz⟩ : ∃ z, out.getLast? = some z := by
          cases hh : out.getLast? with
          | some z => exact ⟨z, rfl⟩
          | none =>
            rw [hh, if_neg (by simp), if_pos (List.getLast?_eq_none_iff.1 hh)] at hcv
            cases hcv
        have hno : ¬ out = [] := fun e => by rw [e] at hz; cases hz
        have hz2 := hz
        rw [List.getLast?_eq_getElem?] at hz2
        obtain ⟨qj, hql⟩ : ∃ q, out.length = q + 1 := ⟨out.length - 1, by have := List.length_pos_iff.2 hno; omega⟩
        rw [hql, Nat.add_sub_cancel] at hz2
        obtain ⟨A, cc, hv, hle, hC⟩ := (own_C (HM.out.res.own rfl)).ex
        obtain ⟨Y, rfl, -⟩ := hC.2.2 (by omega)
        have hlc := cell_of hC (Below.refl _ _) hz2
        have HSl := Aside0.mk (own_C (HM.out.res.own rfl))
        have HQL := Aside0.mk hql
        have k1 : (0 : Int) ≤ (qj : Int) := by omega
        have k3 : (qj : Int) ≤ 300000 := by omega
        have k4 : (qj : Int) + 1 ≤ (cc : Int) := by omega
        rw [hv] at HSl fr0
        rw [hql] at HSl fr0
        rw [show (out.length : Int) = (qj : Int) + 1 from by omega]
        have HBE := Aside0.mk HM.out.bel
        clear hz2 hC hle hql
        by_cases hz46 : z = 46
        · subst hz46
          rw [if_pos hz] at hcv
          obtain rfl : some (out ++ [47]) = R := Option.some.inj hcv
          clear hcv hz hno hlt HSl hv
          go_upto_region 50 with (fail)
          clear fc fr0 hlc
          obtain ⟨q, q1, q2, hq⟩ := slice_of_own (HM.out.res.own rfl)
          have fr := HM.out.cap.r.cell 0 (v := _) rfl
          rw [hq] at fr
          have HM2 := Aside0.mk (HM.out.alloc HF.out (.cells (iC [47]).toArray 5))
          have HRD := Aside0.mk (read_new wr [47])
          have HQ := Aside0.mk hq
          clear hq
          have HL47 : Aside0 ((out ++ [47]).length = qj + 1 + 1) := ⟨by rw [List.length_append, HQL.out]; rfl⟩
          go_upto_region 51 with ((at_builtin; refine Bs.wpList_ownG K5.out rfl (.tmp 140) (.tmp 141) rfl (base := B) (v := .slice q q1 q2) (n := out.length) (xs := iC out) (m := 1) (ys := iC [47]) rfl (by rw [← HQ.out]; exact HM2.out.res.own rfl) HM2.out.res.B rfl HRD.out (by have := HM.out.res.hi; have := HF.out.n5; omega) (fun v3 w4 h1 hg ha => ?_); rw [← HQ.out] at hg ha; have HM3 := Aside0.mk (HM2.out.more (ys := [47]) HF.out h1 hg ha HR.out (by simp) (by simp)); have HS3 := Aside0.mk (own_C (HM3.out.res.own rfl)); obtain ⟨p, p2, rfl, hp2⟩ := sl_len HS3.out HL47.out; have hk4 := HM2.out.keepr HF.out hg; have fr4 := hk4.cell 0 (v := _) rfl; rw [HQ.out] at fr4; have zr4 := hk4.free 0; have k5 : (qj : Int) + 1 + 1 ≤ (p2 : Int) := (by omega); clear h1 hg ha hk4 fr HRD HM2 hp2))
          go_wp2
          refine bodyPost_ret (results_list (rs := [.tmp 4, .tmp 5]) rfl (by simp) (.tmp (.tmp .nil))) rfl ?_
          exact ⟨HM3.out.bel, _, rfl, HS3.out⟩
        · rw [if_neg (by rw [hz]; exact fun e => hz46 (Option.some.inj e)), if_neg hno] at hcv
          obtain rfl : some out = R := Option.some.inj hcv
          have b46 : (z == 46) = false := beq_eq_false_iff_ne.2 hz46
          clear hcv hz hno hlt hz46 hv
          go_wp2
          refine bodyPost_ret (results_list (rs := [.tmp 4, .tmp 5]) rfl (by simp) (.tmp (.tmp .nil))) rfl ?_
          exact ⟨HBE.out, _, rfl, HSl.out⟩
end Go.Proofs.YtgbdjinanflhaaaDoor.Mq
