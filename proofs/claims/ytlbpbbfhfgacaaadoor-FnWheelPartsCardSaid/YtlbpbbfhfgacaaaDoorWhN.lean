/- impl.turn: what one turn makes of the wheel, in the list's words; ExpireAt. -/
import Derived.Test.YtlbpbbfhfgacaaaDoorWhM
import Derived.Test.YtlbpbbfhfgacaaaDoorWhI
namespace Go.Proofs.YtlbpbbfhfgacaaaDoor.Wh
open Go.RowKit Go.Maps Go.Proofs.YtlbpbbfhfgacaaaDoor.Bs Go.Proofs.YtlbpbbfhfgacaaaDoorW.PrintWords Go.Proofs.YtlbpbbfhfgacaaaDoorW.PrintLast Go.Proofs.YtlbpbbfhfgacaaaDoorW.PrintMore Go.Proofs.YtlbpbbfhfgacaaaDoor.GFnWheelParts
set_option linter.unusedVariables false
set_option linter.unusedSimpArgs false
theorem Slots.moreK {w : World} {B A K K' : Nat} {sl : Nat → Option (Nat × Nat)} {low : Nat → Int} {f : Fm} (h : Slots w B A K sl low f) (hk : K ≤ K') : Slots w B A K' sl low f :=
  ⟨h.arr, fun p x hp hx => by obtain ⟨h1, h2, h3, h4⟩ := h.slot p x hp hx; exact ⟨h1, h2, h3, h4.mono hk⟩, h.inj, h.empty, h.low, h.rng, h.base⟩
theorem Wheel.moreK {w : World} {B hw K K' : Nat} {f : Fm} {cnt : Int} {ex : Prop} (h : Wheel w B hw K f cnt ex) (hk : K ≤ K') : Wheel w B hw K' f cnt ex := by
  obtain ⟨A, sl, low, lo, h1, h2⟩ := h.ex
  exact ⟨A, sl, low, lo, ⟨h1.bh, h1.hd, h1.slots.moreK hk, h1.lolow, h1.lom⟩, h2⟩
theorem Wheel.weak {w : World} {B hw K : Nat} {f : Fm} {cnt : Int} {ex ex' : Prop} (h : Wheel w B hw K f cnt ex) (hk : ex' → ex) : Wheel w B hw K f cnt ex' := by
  obtain ⟨A, sl, low, lo, h1, h2⟩ := h.ex
  exact ⟨A, sl, low, lo, h1, fun e => h2 (hk e)⟩
theorem Wheel.dom {w : World} {B hw K : Nat} {f : Fm} {cnt : Int} {ex : Prop} (h : Wheel w B hw K f cnt ex) {s e : Int} (hs : f s = some e) : U64 s ∧ I64 e := by
  obtain ⟨A, sl, low, lo, h1, h2⟩ := h.ex
  exact h1.slots.dom hs
set_option maxRecDepth 100000 in
theorem expireAt_calls {W : World} {args : Array Value} {v1 v2 v3 : Value} {Q : Ending → World → Prop} (h : Calls Tryd.prog 30 #[v1, v2, v3] W (fun e w' => e = .returned (.tuple #[]) ∧ Q e w')) : Calls Tryd.prog 26 #[v1, v2, v3] W Q := by
  have H := Aside0.mk h
  clear h
  go_enter Tryd.func26, Tryd.ntmps26
  go_wp2_with fail
  refine H.out.mono ?_
  rintro e w1 ⟨rfl, hq⟩
  have HQ := Aside0.mk hq
  clear hq
  go_wp2
  go_end0
  exact HQ.out
/-- The list L is what is on the wheel, and the wheel counts it. -/
structure Cnt (L : List S42) (f : Fm) (cnt : Int) (n : Nat) : Prop where
  rep : Rep L f
  cnt : cnt = (L.length : Int)
  le : L.length ≤ n
section
variable {L : List S42} {f : Fm} {cnt : Int} {n : Nat}
theorem wrap_nat (k : Nat) (h : k ≤ 100000) : IntKind.u64.wrap (k : Int) = (k : Int) := by rw [IntKind.wrap_u64]; omega
theorem Cnt.add (h : Cnt L f cnt n) (hn : n ≤ 1000) {s e : Int} (hs : f s = none) : ∃ L', Cnt L' (upd f s e) (IntKind.u64.wrap (cnt + 1)) (n + 1) := by
  have hr : Rep (L ++ []) f := by rw [List.append_nil]; exact h.rep
  refine ⟨_, hr.put (s := s) (e := e) hs, ?_, ?_⟩
  · rw [h.cnt]
    have := h.le
    rw [show (L.length : Int) + 1 = ((L.length + 1 : Nat) : Int) by omega, wrap_nat _ (by omega)]
    simp
  · have := h.le
    simp
    omega
theorem Cnt.cut (h : Cnt L f cnt n) (hn : n ≤ 1000) {s e : Int} (hs : f s = some e) : ∃ L', Cnt L' (del f s) (IntKind.u64.wrap (cnt - 1)) n ∧ L'.length + 1 = L.length := by
  obtain ⟨i, hi⟩ := List.getElem?_of_mem ((h.rep.mem s e).1 hs)
  have hil := (List.getElem?_eq_some_iff.1 hi).1
  have hr := h.rep
  rw [split_at hi] at hr
  have hlen := take_drop_le hil
  refine ⟨_, ⟨hr.cut, ?_, ?_⟩, hlen⟩
  · rw [h.cnt]
    have := h.le
    rw [show (L.length : Int) - 1 = (((L.take i ++ L.drop (i + 1)).length : Nat) : Int) by omega, wrap_nat _ (by omega)]
  · have := h.le
    omega
theorem Cnt.turn (h : Cnt L f cnt n) (hn : n ≤ 1000) {s e c : Int} (hs : f s = some e) : ∃ L', Cnt L' (upd f s c) (IntKind.u64.wrap (IntKind.u64.wrap (cnt - 1) + 1)) (n + 1) := by
  obtain ⟨L1, h1, h2⟩ := h.cut hn hs
  obtain ⟨L2, h3⟩ := h1.add hn (s := s) (e := c) (by simp [del])
  rw [upd_del] at h3
  exact ⟨L2, h3⟩
theorem nodup_of_map {α β : Type} {g : α → β} {l : List α} (h : (l.map g).Nodup) : l.Nodup := List.Pairwise.of_map (S := (· ≠ ·)) g (fun a b hab e => hab (by rw [e])) h
theorem Cnt.expire (h : Cnt L f cnt n) (hn : n ≤ 1000) {ts : Int} {odd : Bool} {X : List (Int × Int)} (hnd : (X.map Prod.fst).Nodup) (hm : ∀ x, x ∈ X ↔ f x.1 = some x.2 ∧ x.2 ≤ ts) : ∃ L', Cnt L' (gone f ts odd) (IntKind.u64.wrap (cnt - (dels odd X : Int))) n := by
  have hlen : (L.filter fun x => !(decide (x.f1 ≤ ts) && !kp odd x.f0)).length + (L.filter fun x => (decide (x.f1 ≤ ts) && !kp odd x.f0)).length = L.length := by
    have : ∀ (M : List S42) (p : S42 → Bool), (M.filter fun x => !p x).length + (M.filter p).length = M.length := by
      intro M p
      induction M with
      | nil => rfl
      | cons y r ih => cases hp : p y <;> simp [hp] <;> omega
    exact this L _
  have hdel : dels odd X = (L.filter fun x => (decide (x.f1 ≤ ts) && !kp odd x.f0)).length := by
    have e1 : ((L.filter fun x => (decide (x.f1 ≤ ts) && !kp odd x.f0)).map fun x => (x.f0, x.f1)).length = (L.filter fun x => (decide (x.f1 ≤ ts) && !kp odd x.f0)).length := List.length_map _
    rw [← e1]
    unfold dels
    have n1 : (X.filter fun x => !kp odd x.1).Nodup := (nodup_of_map hnd).sublist List.filter_sublist
    have n2 : ((L.filter fun x => (decide (x.f1 ≤ ts) && !kp odd x.f0)).map fun x => (x.f0, x.f1)).Nodup := by
      refine nodup_of_map (g := Prod.fst) ?_
      rw [List.map_map]
      exact h.rep.nd.sublist (List.filter_sublist.map _)
    refine Nat.le_antisymm (nodup_len n1 (fun x hx => ?_)) (nodup_len n2 (fun x hx => ?_))
    · obtain ⟨hx1, hx2⟩ := List.mem_filter.1 hx
      obtain ⟨g1, g2⟩ := (hm x).1 hx1
      refine List.mem_map.2 ⟨⟨x.1, x.2⟩, List.mem_filter.2 ⟨(h.rep.mem _ _).1 g1, ?_⟩, rfl⟩
      simp [g2] at hx2 ⊢
      exact hx2
    · obtain ⟨y, hy, rfl⟩ := List.mem_map.1 hx
      obtain ⟨hy1, hy2⟩ := List.mem_filter.1 hy
      simp only [Bool.and_eq_true, decide_eq_true_eq] at hy2
      exact List.mem_filter.2 ⟨(hm _).2 ⟨(h.rep.mem _ _).2 hy1, hy2.1⟩, hy2.2⟩
  refine ⟨_, h.rep.filter ts odd, ?_, ?_⟩
  · rw [h.cnt, hdel]
    have := h.le
    rw [show (L.length : Int) - ((L.filter fun x => (decide (x.f1 ≤ ts) && !kp odd x.f0)).length : Int) = (((L.filter fun x => !(decide (x.f1 ≤ ts) && !kp odd x.f0)).length : Nat) : Int) by omega, wrap_nat _ (by omega)]
  · exact Nat.le_trans (List.length_filter_le _ _) h.le
end
/-- What each turn asks of the script ahead of it. -/
def GoodR (T : List S30) : Prop := T.length ≤ 100 ∧ ∀ (i : Nat) (t : S30), T[i]? = some t → U64 t.f1 ∧ (t.f0 = 0 → 0 ≤ t.f2 ∧ t.f2 < 2 ^ 62 ∧ fAt (T.take i) t.f1 = none) ∧
  ((t.f0 = 1 ∨ t.f0 = 2) → 0 ≤ t.f2 ∧ t.f2 < 2 ^ 62 ∧ 0 ≤ t.f3 ∧ t.f3 < 2 ^ 62 ∧ ∀ e, fAt (T.take i) t.f1 = some e → e = t.f2)
def AnsOk (T : List S30) (j : Nat) (X : List (Int × Int)) : Prop := (X.map Prod.fst).Nodup ∧ ∀ t, T[j]? = some t → t.f0 = 3 → ∀ x, x ∈ X ↔ fAt (T.take j) x.1 = some x.2 ∧ x.2 ≤ t.f2
abbrev An := Int × Value × List (Int × Int)
def acells (As : List An) : List Value := As.flatMap fun a => [.int .i64 a.1, a.2.1]
structure OutRow (w : World) (B : Nat) (v : Value) (As : List An) (T : List S30) : Prop where
  row : w.ownsRow B 33 2 v As.length (acells As)
  ans : ∀ j a, As[j]? = some a → w.ownsRow B 42 2 a.2.1 a.2.2.length (tcells a.2.2) ∧ AnsOk T j a.2.2
theorem acells_snoc (As : List An) (a : An) : acells (As ++ [a]) = acells As ++ [.int .i64 a.1, a.2.1] := by simp [acells]
theorem slice_one {w : World} {base : Nat} {e : TypeId} {size n : Nat} {v : Value} {xs : List Value} (h : w.ownsRow base e size v n xs) : v.oneCell' = true := by
  rcases h.2 with ⟨rfl, -⟩ | ⟨g, cap, cur, rfl, -⟩ <;> rfl
theorem OutRow.one {w : World} {B : Nat} {v : Value} {As : List An} {T : List S30} (h : OutRow w B v As T) : ∀ u ∈ acells As, u.oneCell' = true := by
  intro u hu
  obtain ⟨a, ha, hx⟩ := List.mem_flatMap.1 hu
  simp only [List.mem_cons, List.not_mem_nil, or_false] at hx
  rcases hx with rfl | rfl
  · rfl
  · obtain ⟨j, hj⟩ := List.getElem?_of_mem ha
    exact slice_one (h.ans j a hj).1
theorem OutRow.fr {w w' : World} {B : Nat} {v : Value} {As : List An} {T : List S30} {F : Nat → Prop} (h : OutRow w B v As T) (hf : Fr F w w') (h1 : ∀ k, v.ownBlock = some k → ¬ F k) (h2 : ∀ k cs z, w.heap[k]? = some (.cells cs 42 z) → ¬ F k) : OutRow w' B v As T :=
  ⟨ownsRow_fr h.row hf h1, fun j a ha => ⟨ownsRow_fr (h.ans j a ha).1 hf (fun k hk => by
    obtain ⟨cs, z, hc⟩ := own_type (h.ans j a ha).1 hk
    exact h2 k cs z hc), (h.ans j a ha).2⟩⟩
end Go.Proofs.YtlbpbbfhfgacaaaDoor.Wh
