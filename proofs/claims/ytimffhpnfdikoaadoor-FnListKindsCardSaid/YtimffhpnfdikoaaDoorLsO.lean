/- A script of deeds over a list: what it makes of it, plainly; one deed's walk. -/
import Derived.Test.YtimffhpnfdikoaaDoorLsN
import Derived.Test.YtimffhpnfdikoaaDoorPlList
namespace Go.Proofs.YtimffhpnfdikoaaDoor.Ls
open Go.RowKit Go.Maps Go.Proofs.YtimffhpnfdikoaaDoor.Bs Go.Proofs.YtimffhpnfdikoaaDoorW.PrintWords Go.Proofs.YtimffhpnfdikoaaDoorW.PrintLast Go.Proofs.YtimffhpnfdikoaaDoorW.PrintMore Go.Proofs.YtimffhpnfdikoaaDoor.GFnListKinds Go.Proofs.YtimffhpnfdikoaaDoor.PlFnListKinds
set_option linter.unusedVariables false
set_option linter.unusedSimpArgs false
structure LSt where
  sub : Path → Int → Option ByteArray
  cnt : Int
  kinds : List Int
  clean : Bool
def st0 : LSt := ⟨fun _ _ => none, 0, [], true⟩
def putL (st : LSt) (s : ByteArray) (v : Int) : LSt :=
  if okF false (tk s) = true then ⟨setS st.sub (tk s) (upd (st.sub (tk s)) v s), IntKind.u32.wrap (st.cnt + 1), st.kinds ++ [0], st.clean⟩
  else ⟨st.sub, st.cnt, st.kinds ++ [1], false⟩
def remL (st : LSt) (s : ByteArray) (v : Int) : LSt :=
  if okF false (tk s) = true ∧ (st.sub (tk s) v).isSome = true then ⟨setS st.sub (tk s) (del (st.sub (tk s)) v), IntKind.u32.wrap (st.cnt - 1), st.kinds ++ [0], st.clean⟩
  else ⟨st.sub, st.cnt, st.kinds ++ [1], st.clean⟩
def stepL (st : LSt) (d : S46) : LSt := if d.f0 = 0 then putL st d.f1 d.f2 else if d.f0 = 1 then remL st d.f1 d.f2 else ⟨st.sub, st.cnt, st.kinds ++ [0], st.clean⟩
def runL (ds : List S46) : LSt := ds.foldl stepL st0
theorem runL_take {ds : List S46} {i : Nat} {d : S46} (h : ds[i]? = some d) : runL (ds.take (i + 1)) = stepL (runL (ds.take i)) d := by
  obtain ⟨hi, rfl⟩ := List.getElem?_eq_some_iff.1 h
  unfold runL
  rw [List.take_add_one, List.getElem?_eq_getElem hi, Option.toList_some, List.foldl_append]
  rfl
theorem step_kinds (st : LSt) (d : S46) : (stepL st d).kinds.length = st.kinds.length + 1 := by
  unfold stepL putL remL
  repeat' split
  all_goals simp
theorem runL_kinds (ds : List S46) : (runL ds).kinds.length = ds.length := by
  have : ∀ (l : List S46) (st : LSt), (l.foldl stepL st).kinds.length = st.kinds.length + l.length := by
    intro l
    induction l with
    | nil => intro st; rfl
    | cons d l ih => intro st; rw [List.foldl_cons, ih, step_kinds, List.length_cons]; omega
  rw [runL, this]
  simp [st0]
def LiS (w : World) (B L K : Nat) (st : LSt) : Prop := Li w B L K st.sub (st.clean = true) st.cnt
theorem Li.mono {w : World} {B L K K' : Nat} {sub : Path → Int → Option ByteArray} {ex : Prop} {cnt : Int} (h : Li w B L K sub ex cnt) (hK : K ≤ K') : Li w B L K' sub ex cnt := by
  obtain ⟨nd, lv, h⟩ := h
  exact ⟨nd, lv, h.mono hK⟩
theorem Li.weaken {w : World} {B L K : Nat} {sub : Path → Int → Option ByteArray} {ex ex' : Prop} {cnt : Int} (h : Li w B L K sub ex cnt) (hx : ex' → ex) : Li w B L K sub ex' cnt := by
  obtain ⟨nd, lv, h⟩ := h
  exact ⟨nd, lv, h.congrE (fun e => ⟨hx e, fun _ e => e⟩)⟩
/-- A deed's end. -/
structure OpPost (W : World) (B L K : Nat) (st st' : LSt) (ev : Value) (w' : World) : Prop where
  kind : ∃ k, IsErr k ev ∧ st'.kinds = st.kinds ++ [k]
  fr : Fr (WF B W) W w'
  li : LiS w' B L K st'
theorem ins_op {W : World} {B L K : Nat} {st : LSt} {s : ByteArray} {v : Int} {e : Ending} {w' : World} (hs : s.size ≤ 80) (h : InsPost W B L K st.sub (st.clean = true) st.cnt (tk s) s v e w') : ∃ ev, e = .returned ev ∧ OpPost W B L (K + 82) st (putL st s v) ev w' := by
  have hl := tk_len s
  unfold putL
  by_cases ho : okF false (tk s) = true
  · obtain ⟨rfl, h2⟩ := h.ok ho
    rw [if_pos ho]
    exact ⟨_, rfl, ⟨0, .nil, rfl⟩, h.fr, Li.mono h2 (by omega)⟩
  · obtain ⟨⟨t0, a0, rfl⟩, h2⟩ := h.bad (by simpa using ho)
    rw [if_neg ho]
    exact ⟨_, rfl, ⟨1, .err _ _, rfl⟩, h.fr, Li.weaken (Li.mono h2 (by omega)) (fun e => by cases e)⟩
theorem rem_op {W : World} {B L K : Nat} {st : LSt} {s : ByteArray} {v : Int} {e : Ending} {w' : World} (h : RmPost W B L K st.sub (st.clean = true) st.cnt (tk s) v e w') : ∃ ev, e = .returned ev ∧ OpPost W B L (K + 82) st (remL st s v) ev w' := by
  unfold remL
  by_cases ho : okF false (tk s) = true ∧ (st.sub (tk s) v).isSome = true
  · obtain ⟨rfl, h2⟩ := h.ok ho.1 (by rw [← Option.isSome_iff_ne_none]; exact ho.2)
    rw [if_pos ho]
    exact ⟨_, rfl, ⟨0, .nil, rfl⟩, h.fr, Li.mono h2 (by omega)⟩
  · obtain ⟨⟨t0, a0, rfl⟩, h2⟩ := h.bad (by rw [← Option.isSome_iff_ne_none]; exact ho)
    rw [if_neg ho]
    exact ⟨_, rfl, ⟨1, .err _ _, rfl⟩, h.fr, Li.mono h2 (by omega)⟩
/-- The cells of the two laid errors. -/
structure GlL (w : World) : Prop where
  c0 : ∃ t a, w.cell? ⟨0, 0, none⟩ = some (.iface t (.pointer (some a)))
  c1 : ∃ t a, w.cell? ⟨1, 0, none⟩ = some (.iface t (.pointer (some a)))
theorem GlL.size {w : World} (h : GlL w) : 1 < w.heap.size := by
  obtain ⟨t, a, h⟩ := h.c1
  exact World.block_lt_of_cell? w _ h
theorem GlL.fr {w w1 : World} {F : Nat → Prop} (h : GlL w) (hf : Fr F w w1) (h0 : ¬ F 0) (h1 : ¬ F 1) : GlL w1 := by
  have hs := h.size
  obtain ⟨t, a, e⟩ := h.c0
  obtain ⟨t', a', e'⟩ := h.c1
  exact ⟨⟨t, a, (World.cell?_of_block (a := ⟨0, 0, none⟩) (hf.block 0 (by omega) h0)).trans e⟩, ⟨t', a', (World.cell?_of_block (a := ⟨1, 0, none⟩) (hf.block 1 (by omega) h1)).trans e'⟩⟩
theorem ins_calls {W : World} {B L K : Nat} {st : LSt} {s : ByteArray} {v : Int} (h : LiS W B L K st) (hs : s.size ≤ 80) (hv : (Lit.int .i64 v).wf = true) (hK : K < 100000) (hG : GlL W) (hB : 1 < B) :
    Calls Tryd.prog 49 #[.pointer (some ⟨L, 0, none⟩), .string s, .int .i64 v] W (fun e w' => ∃ ev, e = .returned ev ∧ OpPost W B L (K + 82) st (putL st s v) ev w') := by
  obtain ⟨kz, hz⟩ := Ev.rounds (tk_split s (by omega))
  obtain ⟨t0, a0, hg⟩ := hG.c0
  refine (insert_calls h (by omega) hv hz (tk_ne s) (by have := tk_len s; omega) (fun t ht => by have := tk_short s t ht; omega) hK hg (by omega)).mono ?_
  intro e w' hp
  exact ins_op hs hp
set_option maxHeartbeats 2000000 in
theorem rem_calls {W : World} {B L K : Nat} {st : LSt} {s : ByteArray} {v : Int} (h : LiS W B L K st) (hs : s.size ≤ 80) (hv : (Lit.int .i64 v).wf = true) (hK : K < 100000) (hG : GlL W) (hB : 1 < B) :
    Calls Tryd.prog 50 #[.pointer (some ⟨L, 0, none⟩), .string s, .int .i64 v] W (fun e w' => ∃ ev, e = .returned ev ∧ OpPost W B L (K + 82) st (remL st s v) ev w') := by
  obtain ⟨kz, hz⟩ := Ev.rounds (tk_split s (by omega))
  obtain ⟨t0, a0, hg⟩ := hG.c0
  obtain ⟨t1, a1, hg1⟩ := hG.c1
  have HC := Aside0.mk (remove_calls h (by omega) hv hz (tk_ne s) (by have := tk_len s; omega) (fun t ht => by have := tk_short s t ht; omega) hK hg hg1 hB)
  clear h hs hv hK hG hB hz hg hg1
  go_enter Tryd.func50, Tryd.ntmps50
  go_wp2_with fail
  refine HC.out.mono ?_
  intro e w' hp
  obtain ⟨ev, rfl, ho⟩ := rem_op hp
  have HO := Aside0.mk ho
  clear hp ho
  go_wp2_with fail
  go_ret
  exact ⟨_, rfl, HO.out⟩
end Go.Proofs.YtimffhpnfdikoaaDoor.Ls
