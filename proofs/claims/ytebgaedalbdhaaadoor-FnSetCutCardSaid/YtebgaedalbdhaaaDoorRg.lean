/- A region whose operations may come up in any order that its edges let: its text's own order speaks for all, where of each two operations that no edge orders one is blind to memory, or both only read. -/
import Derived.Test.YtebgaedalbdhaaaDoorWMore
namespace Go.Proofs.YtebgaedalbdhaaaDoor.Rg
open Go Go.Proofs.YtebgaedalbdhaaaDoorW.PrintWords
set_option linter.unusedSimpArgs false
set_option linter.unusedVariables false

/-! ### what does not look at the world -/
def St {α : Type} (P : Program) (s : Sem α) : Prop := (∃ v, ∀ w, s.run P w = .ok v w) ∨ (∀ w v w', s.run P w ≠ .ok v w')
def Never {α : Type} (P : Program) (s : Sem α) : Prop := ∀ w v w', s.run P w ≠ .ok v w'
section
variable {P : Program} {α β : Type}
theorem Never.st {s : Sem α} (h : Never P s) : St P s := .inr h
theorem St.pure (v : α) : St P (Pure.pure v : Sem α) := .inl ⟨v, fun w => rfl⟩
theorem St.program : St P program := .inl ⟨P, fun w => rfl⟩
theorem Never.halt (h : Halt) : Never P (.halt h : Sem α) := fun w v w' e => by simp [Sem.run] at e
theorem Never.stuck (s : String) : Never P (Go.stuck s : Sem α) := Never.halt _
theorem Never.unsupported (u : Unsupported) : Never P (Go.unsupported u : Sem α) := Never.halt _
theorem Never.goPanic (v : Value) : Never P (Go.goPanic v : Sem α) := Never.halt _
theorem Never.bind {s : Sem α} {f : α → Sem β} (h : ∀ v, Never P (f v)) : Never P (s >>= f) := fun w v w' e => by
  rw [Sem.run_bind] at e
  cases hs : s.run P w with
  | ok x w1 => rw [hs] at e; exact h x w1 v w' e
  | halt x w1 => rw [hs] at e; cases e
theorem Never.bind1 {s : Sem α} {f : α → Sem β} (h : Never P s) : Never P (s >>= f) := fun w v w' e => by
  rw [Sem.run_bind] at e
  cases hs : s.run P w with
  | ok x w1 => exact h w x w1 hs
  | halt x w1 => rw [hs] at e; cases e
theorem St.bind {s : Sem α} {f : α → Sem β} (hs : St P s) (h : ∀ v, St P (f v)) : St P (s >>= f) := by
  rcases hs with ⟨x, hx⟩ | hn
  · rcases h x with ⟨v, hv⟩ | hn
    · exact .inl ⟨v, fun w => by rw [Sem.run_bind, hx w]; exact hv w⟩
    · exact .inr fun w v w' e => by rw [Sem.run_bind, hx w] at e; exact hn w v w' e
  · exact .inr (Never.bind1 hn)
theorem St.known {s : Sem α} {f : α → Sem β} {x : α} (hs : ∀ w, s.run P w = .ok x w) (h : St P (f x)) : St P (s >>= f) := by
  rcases h with ⟨v, hv⟩ | hn
  · exact .inl ⟨v, fun w => by rw [Sem.run_bind, hs w]; exact hv w⟩
  · exact .inr fun w v w' e => by rw [Sem.run_bind, hs w] at e; exact hn w v w' e
theorem Never.runtimePanic (e : RuntimeError) : Never P (Go.runtimePanic e : Sem α) := by
  unfold Go.runtimePanic
  refine Never.bind (fun p => ?_)
  cases e
  case typeAssertion => exact Never.bind fun _ => Never.bind fun _ => Never.goPanic _
  case panicNil => exact Never.bind fun _ => Never.bind fun _ => Never.goPanic _
  all_goals exact Never.goPanic _
theorem Never.boundsPanic (k : IntKind) (x y : Int) (c : BoundsCode) : Never P (Go.boundsPanic k x y c : Sem α) := by
  unfold Go.boundsPanic
  dsimp only
  split
  · exact Never.bind fun _ => Never.runtimePanic _
  · exact Never.bind fun _ => Never.runtimePanic _
theorem St.typeInfo (t : TypeId) : St P (Go.typeInfo t) := by
  unfold Go.typeInfo
  refine St.bind St.program (fun p => ?_)
  split
  · exact St.pure _
  · exact (Never.stuck _).st
theorem St.underlying (t : TypeId) : St P (Go.underlying t) := by
  unfold Go.underlying
  refine St.bind St.program (fun p => ?_)
  split
  · exact St.pure _
  · exact (Never.stuck _).st
theorem St.sizeOf (t : TypeId) : St P (Go.sizeOf t) := St.bind (St.typeInfo t) (fun _ => St.pure _)
theorem St.isAgg (t : TypeId) : St P (Go.isAgg t) := by
  unfold Go.isAgg
  refine St.bind (St.underlying t) (fun d => ?_)
  split <;> exact St.pure _
theorem St.part (t : TypeId) (cs : Array Value) (o : Nat) : St P (Go.part t cs o) := by
  unfold Go.part
  refine St.bind (St.isAgg t) (fun b => ?_)
  split
  · exact St.bind (St.sizeOf t) (fun _ => St.pure _)
  · split
    · exact St.pure _
    · exact (Never.stuck _).st
theorem St.asIntOf (v : Value) : St P (Go.asIntOf v) := by
  unfold Go.asIntOf
  split
  · exact St.pure _
  · exact (Never.unsupported _).st
  · exact (Never.stuck _).st
theorem St.asBool (v : Value) : St P (Go.asBool v) := by
  unfold Go.asBool
  split
  · exact St.pure _
  · exact (Never.stuck _).st
theorem St.asAgg (v : Value) : St P (Go.asAgg v) := by
  unfold Go.asAgg
  split
  · exact St.pure _
  · exact (Never.stuck _).st
theorem St.sureAddr (v : Value) : St P (Go.Instr.sureAddr v) := by
  unfold Go.Instr.sureAddr
  split
  · exact St.pure _
  · exact (Never.stuck _).st
end

theorem St.followBlind {P : Program} : ∀ (path : List FieldStep) (t : TypeId) (x : Option Value), St P (Go.followBlind path t x)
  | [], t, x => St.pure _
  | s :: rest, t, x => by
    unfold Go.followBlind
    refine St.bind (St.underlying _) (fun d => ?_)
    split
    · split
      · split
        · exact St.pure _
        · exact St.followBlind rest _ _
        · exact (Never.stuck _).st
        · exact St.pure _
        · exact St.bind (St.part _ _ _) (fun _ => St.followBlind rest _ _)
        · exact (Never.stuck _).st
        · exact St.followBlind rest _ _
      · exact (Never.stuck _).st
    · exact (Never.stuck _).st
theorem St.nilAhead {P : Program} : ∀ (fuel : Nat) (t : TypeId) (v : Value) (name : String), St P (Go.nilAhead fuel t v name)
  | 0, t, v, name => St.pure _
  | fuel + 1, t, v, name => by
    unfold Go.nilAhead
    refine St.bind (St.typeInfo _) (fun d => ?_)
    split
    · refine St.bind (St.followBlind _ _ _) (fun r => ?_)
      split
      · exact St.pure _
      · split
        · exact St.nilAhead fuel _ _ _
        · exact St.pure _
        · exact (Never.stuck _).st
        · exact St.pure _
        · exact St.pure _
        · refine St.bind (St.underlying _) (fun d => ?_)
          split <;> exact St.pure _
    · exact (Never.stuck _).st

/-- Operations that are blind to memory, whatever their operands. -/
def blindB (P : Program) : Op → Bool
  | .fieldAddr s _ f => match P.underlying s with
    | some (.struct fs) => match fs[f]? with
      | some fd => match P.info? fd.type with
        | some i => i.size != 0
        | none => false
      | none => false
    | _ => false
  | .nilCheck _ => true
  | .move _ | .assign _ | .pick .. | .field .. | .indexAddr .. | .index .. | .extract .. | .makeFunc .. | .makeInterface .. => true
  | _ => false
def Blind (P : Program) (o : Oper) : Prop := ∀ ρ, (∃ v, ∀ w, (execOp ρ o).run P w = .ok (.value v) w) ∨ (∀ w n w', (execOp ρ o).run P w ≠ .ok n w')
theorem blind_of {P : Program} {s : Sem Value} (h : St P s) : (∃ v, ∀ w, (do Pure.pure (Next.value (← s)) : Sem Next).run P w = .ok (.value v) w) ∨ (∀ w n w', (do Pure.pure (Next.value (← s)) : Sem Next).run P w ≠ .ok n w') := by
  rcases h with ⟨v, hv⟩ | hn
  · exact .inl ⟨v, fun w => by rw [Sem.run_bind, hv w]; rfl⟩
  · exact .inr (Never.bind1 hn)
theorem blindN {P : Program} {α : Type} {s : Sem α} {f : α → Sem Next} (hs : St P s) (h : ∀ v, (∃ u, ∀ w, (f v).run P w = .ok (.value u) w) ∨ (∀ w n w', (f v).run P w ≠ .ok n w')) : (∃ v, ∀ w, (s >>= f).run P w = .ok (.value v) w) ∨ (∀ w n w', (s >>= f).run P w ≠ .ok n w') := by
  rcases hs with ⟨x, hx⟩ | hn
  · rcases h x with ⟨v, hv⟩ | hn
    · exact .inl ⟨v, fun w => by rw [Sem.run_bind, hx w]; exact hv w⟩
    · exact .inr fun w v w' e => by rw [Sem.run_bind, hx w] at e; exact hn w v w' e
  · exact .inr (Never.bind1 hn)
theorem blind {P : Program} {o : Oper} (h : blindB P o.op = true) : Blind P o := by
  intro ρ
  obtain ⟨dst, op, type, pos, after, guard⟩ := o
  simp only at h
  cases op <;> simp only [blindB, Bool.false_eq_true] at h <;> simp only [execOp]
  case fieldAddr s x f =>
    refine blind_of ?_
    unfold Instr.fieldAt
    split at h
    · rename_i fs hs
      split at h
      · rename_i fd hfd
        split at h
        · rename_i i hi
          have h0 : ∀ w, (Go.sizeOf fd.type).run P w = .ok i.size w := fun w => by simp [Go.sizeOf, Go.typeInfo, hi]
          have hne : i.size ≠ 0 := by simpa using h
          refine St.known (run_underlying hs) ?_
          dsimp only
          rw [hfd]
          dsimp only
          refine St.bind (St.sureAddr _) (fun a => St.bind ?_ (fun _ => St.pure _))
          unfold Go.fieldPlace
          refine St.known h0 ?_
          rw [if_neg hne]
          exact St.pure _
        · cases h
      · cases h
    · cases h
  case nilCheck x =>
    split
    · exact .inr (Never.runtimePanic _)
    · exact .inr (Never.runtimePanic _)
    · exact .inr (Never.runtimePanic _)
    · split
      · exact .inr (Never.runtimePanic _)
      · refine blindN St.program (fun p => blindN (St.nilAhead _ _ _ _) (fun b => ?_))
        split
        · exact .inr (Never.bind1 (Never.unsupported _))
        · exact .inl ⟨_, fun w => rfl⟩
      · exact .inl ⟨_, fun w => rfl⟩
    · exact .inl ⟨_, fun w => rfl⟩
  case move x => exact .inl ⟨_, fun w => rfl⟩
  case assign x => exact .inl ⟨_, fun w => rfl⟩
  case pick c a b =>
    rcases St.asBool (P := P) (ρ c) with ⟨v, hv⟩ | hn
    · exact .inl ⟨if v then ρ a else ρ b, fun w => by rw [Sem.run_bind, hv w]; cases v <;> rfl⟩
    · exact .inr (Never.bind1 hn)
  case field t x f =>
    refine blind_of ?_
    unfold Instr.field
    refine St.bind (St.underlying t) (fun d => ?_)
    split
    · split
      · exact St.bind (St.asAgg _) (fun _ => St.part _ _ _)
      · exact (Never.stuck _).st
    · exact (Never.stuck _).st
  case indexAddr t x i =>
    refine blind_of ?_
    unfold Instr.indexAt
    refine St.bind (St.asIntOf _) (fun ki => ?_)
    refine St.bind (St.underlying t) (fun d => ?_)
    have key : ∀ bl : Option Addr × Nat × TypeId, St P (do
        let tiny := bl.2.1 ≤ 1 && (match ← Go.underlying t with | .array .. => true | _ => false)
        match bl.1 with
        | some a =>
          if 0 ≤ ki.2 ∧ ki.2 < bl.2.1 then Pure.pure (Value.pointer (some (a.add (ki.2.toNat * (← Go.sizeOf bl.2.2)))))
          else if tiny then Go.unsupported (.noEntry "op/indexAddr.an index out of range at an array of length 0 or 1 (ledger 616)")
          else Go.boundsPanic ki.1 ki.2 bl.2.1 .index
        | none => Go.boundsPanic ki.1 ki.2 0 .index) := by
      intro bl
      refine St.bind (St.underlying t) (fun d => ?_)
      dsimp only
      split
      · split
        · exact St.bind (St.sizeOf _) (fun _ => St.pure _)
        · split <;> first
            | exact (Never.unsupported _).st
            | exact (Never.boundsPanic _ _ _ _).st
            | (split <;> first
                | exact (Never.unsupported _).st
                | exact (Never.boundsPanic _ _ _ _).st)
      · exact (Never.boundsPanic _ _ _ _).st
    dsimp only
    split
    · exact St.bind (St.sureAddr _) (fun _ => St.bind (St.pure _) (fun bl => key bl))
    · exact St.bind (St.pure _) (fun bl => key bl)
    · exact St.bind (Never.stuck _).st (fun bl => key bl)
  case index t x i =>
    refine blind_of ?_
    unfold Instr.index
    refine St.bind (St.asIntOf _) (fun ki => ?_)
    refine St.bind (St.underlying t) (fun d => ?_)
    split
    · split
      · exact St.bind (St.sizeOf _) (fun _ => St.part _ _ _)
      · exact (Never.boundsPanic _ _ _ _).st
    · split
      · exact St.pure _
      · exact (Never.boundsPanic _ _ _ _).st
    · exact (Never.stuck _).st
  case extract t i =>
    refine blind_of ?_
    unfold Instr.extract
    split
    · split
      · exact St.pure _
      · exact (Never.stuck _).st
    · exact (Never.stuck _).st
  case makeFunc fn first captured => exact blind_of (St.pure _)
  case makeInterface t x =>
    refine blind_of ?_
    unfold Instr.makeInterface
    refine St.bind (St.underlying t) (fun d => ?_)
    split
    · exact (Never.stuck _).st
    · exact St.pure _
/-! ### what only reads -/
def readB : Op → Bool
  | .load .. => true
  | _ => false
def Reads (P : Program) (o : Oper) : Prop := ∀ ρ w n w', (execOp ρ o).run P w = .ok n w' → w' = w ∧ ∃ v, n = .value v
def Rd {α : Type} (P : Program) (s : Sem α) : Prop := ∀ w v w', s.run P w = .ok v w' → w' = w
section
variable {P : Program} {α β : Type}
theorem Rd.pure (v : α) : Rd P (Pure.pure v : Sem α) := fun w u w' h => by injection h with _ h; exact h.symm
theorem Rd.bind {s : Sem α} {f : α → Sem β} (hs : Rd P s) (h : ∀ v, Rd P (f v)) : Rd P (s >>= f) := fun w u w' e => by
  rw [Sem.run_bind] at e
  cases hr : s.run P w with
  | ok x w1 =>
    rw [hr] at e
    have e1 := hs w x w1 hr
    subst e1
    exact h x _ _ _ e
  | halt x w1 => rw [hr] at e; cases e
theorem Rd.st {s : Sem α} (h : St P s) : Rd P s := fun w v w' e => by
  rcases h with ⟨x, hx⟩ | hn
  · rw [hx w] at e; injection e with _ e; exact e.symm
  · exact absurd e (hn w v w')
theorem Rd.load (a : Addr) (m : Mode) : Rd P (Go.load a m) := fun w v w' e => by
  unfold Go.load at e
  simp only [Sem.run] at e
  split at e
  · injection e with _ e; exact e.symm
  · split at e
    · injection e with _ e; exact e.symm
    · cases e
theorem Rd.loadCellsFrom (a : Addr) : ∀ (n i : Nat) (acc : Array Value), Rd P (Go.loadCellsFrom a i n acc)
  | 0, i, acc => Rd.pure _
  | n + 1, i, acc => Rd.bind (Rd.load _ _) (fun _ => Rd.loadCellsFrom a n _ _)
theorem Rd.loadVar (t : TypeId) (a : Addr) : Rd P (Go.loadVar t a) := by
  unfold Go.loadVar
  refine Rd.bind (Rd.st (St.isAgg t)) (fun b => ?_)
  split
  · exact Rd.bind (Rd.st (St.sizeOf t)) (fun n => Rd.bind (Rd.loadCellsFrom _ _ _ _) (fun _ => Rd.pure _))
  · exact Rd.load _ _
end
theorem reads {P : Program} {o : Oper} (h : readB o.op = true) : Reads P o := by
  intro ρ w n w' e
  obtain ⟨dst, op, type, pos, after, guard⟩ := o
  cases op <;> simp only [readB, Bool.false_eq_true] at h
  case load t x =>
    simp only [execOp] at e
    rw [Sem.run_bind] at e
    cases hr : (Instr.loadAt t (ρ x)).run P w with
    | ok v w1 =>
      rw [hr] at e
      have e1 : w1 = w := Rd.bind (Rd.st (St.sureAddr _)) (fun _ => Rd.loadVar _ _) w v w1 hr
      subst e1
      injection e with e1 e2
      exact ⟨e2.symm, v, e1.symm⟩
    | halt x w1 => rw [hr] at e; cases e

/-! ### two operations turned about -/
def Only (N : Act → World → Prop) : Exit → Act → World → Prop
  | .normal, a, w => N a w
  | _, _, _ => False
section
variable {P : Program} {ops : Array Oper} {N : Act → World → Prop}
theorem no_lets : ¬ LetsOut (Only N) := fun ⟨_, _, h⟩ => h
theorem wpOp_cases {i : Nat} {o : Oper} {K : Act → World → Prop} {a : Act} {w : World} (ho : ops[i]? = some o) (h : wpOp P ops (Only N) i K a w) :
    (Region.wanted o (yielded ops a.tmps) = true ∧ o.wp P a w K (Only N)) ∨ (Region.wanted o (yielded ops a.tmps) = false ∧ K (a.put o.dst undef) w) := by
  unfold wpOp at h
  rw [ho] at h
  dsimp only at h
  split at h
  · rename_i hw
    rcases h with h | h
    · exact .inl ⟨hw, h⟩
    · exact absurd h.2 no_lets
  · rename_i hw
    exact .inr ⟨by simpa using hw, h⟩
theorem wpOp_on {i : Nat} {o : Oper} {K : Act → World → Prop} {a : Act} {w : World} (ho : ops[i]? = some o) (hw : Region.wanted o (yielded ops a.tmps) = true) (h : o.wp P a w K (Only N)) : wpOp P ops (Only N) i K a w := by
  unfold wpOp
  rw [ho]
  dsimp only
  rw [if_pos hw]
  exact .inl h
theorem wpOp_off {i : Nat} {o : Oper} {K : Act → World → Prop} {a : Act} {w : World} (ho : ops[i]? = some o) (hw : Region.wanted o (yielded ops a.tmps) = false) (h : K (a.put o.dst undef) w) : wpOp P ops (Only N) i K a w := by
  unfold wpOp
  rw [ho]
  dsimp only
  rw [if_neg (by rw [hw]; decide)]
  exact h
/-- A blind operation that comes to its end yields a value, wherever. -/
theorem blind_yields {i : Nat} {o : Oper} (hb : Blind P o) (ho : ops[i]? = some o) {K : Act → World → Prop} {a : Act} {w : World} (h : wpOp P ops (Only N) i K a w) : ∃ v, Yields P ops o v a ∧ K (a.put o.dst v) w := by
  rcases wpOp_cases ho h with ⟨hw, h⟩ | ⟨hw, h⟩
  · rcases hb a.eval with ⟨v, hv⟩ | hn
    · refine ⟨v, .inl ⟨hw, hv⟩, ?_⟩
      unfold Oper.wp at h
      rw [hv w] at h
      exact h
    · exfalso
      unfold Oper.wp at h
      cases hr : (execOp a.eval o).run P w with
      | ok n w1 => exact hn w n w1 hr
      | halt x w1 =>
        rw [hr] at h
        cases x <;> exact h
  · exact ⟨undef, .inr ⟨hw, rfl⟩, h⟩
theorem run_put {x y : Oper} (hs : ∀ cs b, y.op ≠ .select cs b) (h : ∀ d, x.dst = some d → d ∉ y.looksAt ops) (a : Act) (v : Value) : (execOp (a.put x.dst v).eval y) = execOp a.eval y := execOp_put y hs a x.dst v h
theorem want_put {x y : Oper} (h : ∀ d, x.dst = some d → d ∉ y.looksAt ops) (a : Act) (v : Value) : Region.wanted y (yielded ops (a.put x.dst v).tmps) = Region.wanted y (yielded ops a.tmps) := wanted_put y a x.dst v h
/-- x blind ahead of j: j ahead of x. -/
theorem swap_blind_first {x j : Nat} {ox oj : Oper} (hx : ops[x]? = some ox) (hj : ops[j]? = some oj) (hap : ox.apart ops oj = true) (hsx : ∀ cs b, ox.op ≠ .select cs b) (hsj : ∀ cs b, oj.op ≠ .select cs b) (hb : Blind P ox)
    {K : Act → World → Prop} {a : Act} {w : World} (h : wpOp P ops (Only N) x (wpOp P ops (Only N) j K) a w) : wpOp P ops (Only N) j (wpOp P ops (Only N) x K) a w := by
  obtain ⟨v, hy, h⟩ := blind_yields hb hx h
  have h2 := wpOp_put hj hap hsx hsj (fun c a w h => h) hy h
  exact wpOp_mono (fun a' w' ⟨hy', hk⟩ => hy'.wpOp hx hk) h2
/-- The operation's wp over a frame with another's value put in: what it leaves has it put in. -/
theorem wp_unput {x y : Oper} {v : Value} (hap : x.apart ops y = true) (hs : ∀ cs b, x.op ≠ .select cs b) {K : Act → World → Prop} {a : Act} {w : World} (h : x.wp P a w (fun a' w' => K (a'.put y.dst v) w') (Only N)) : x.wp P (a.put y.dst v) w K (Only N) := by
  obtain ⟨h1, h2, h3⟩ := Oper.apart_spec hap
  have hc : ∀ (a : Act) (u : Value), (a.put y.dst v).put x.dst u = (a.put x.dst u).put y.dst v := fun a u => (Act.put_comm a u v h2).symm
  unfold Oper.wp at *
  rw [execOp_put x hs a y.dst v h3]
  cases hr : (execOp a.eval x).run P w with
  | ok n w1 =>
    rw [hr] at h
    cases n <;> simp only [Oper.upon] at h ⊢
    case value u => rw [hc]; exact h
    case skip => rw [hc]; exact h
    case defer d =>
      have e : ({ a.put y.dst v with defers := d :: (a.put y.dst v).defers } : Act) = ({ a with defers := d :: a.defers } : Act).put y.dst v := Act.put_defers a y.dst v d
      rw [e, hc]
      exact h
    case enter f args =>
      refine Calls.mono h fun e w2 he => ?_
      cases e with
      | returned u => show K ((a.put y.dst v).put x.dst u) w2; rw [hc]; exact he
      | panicked c => exact he
      | outgrown => exact he
    case row row args => exact Rows.mono h fun u w2 he => by rw [hc]; exact he
  | halt z w1 =>
    rw [hr] at h
    cases z <;> exact h
/-- Some frame that the operation leaves: the one before, its value put in (or one deferred call more). -/
theorem wp_some {x : Oper} {K : Act → World → Prop} {a : Act} {w : World} (h : x.wp P a w K (Only N)) : ∃ (u : Value) (a1 : Act) (w1 : World), K (a1.put x.dst u) w1 ∧ a1.tmps = a.tmps := by
  unfold Oper.wp at h
  cases hr : (execOp a.eval x).run P w with
  | ok n w1 =>
    rw [hr] at h
    cases n <;> simp only [Oper.upon] at h
    case value u => exact ⟨u, a, w1, h, rfl⟩
    case skip => exact ⟨undef, a, w1, h, rfl⟩
    case defer d => exact ⟨undef, _, w1, h, rfl⟩
    case enter f args =>
      obtain ⟨e, w2, fr, hR, _⟩ := h []
      cases e with
      | returned u => exact ⟨u, a, w2, hR, rfl⟩
      | panicked c => exact hR.elim
      | outgrown => exact absurd hR no_lets
    case row row args =>
      obtain ⟨u, w2, hR, _⟩ := h default []
      exact ⟨u, a, w2, hR, rfl⟩
  | halt z w1 =>
    rw [hr] at h
    cases z <;> exact h.elim

theorem eval_tmps {a a1 : Act} (h : a1.tmps = a.tmps) : a1.eval = a.eval := by
  funext x
  cases x <;> simp [Act.eval, h]
theorem put_tmps {a a1 : Act} (h : a1.tmps = a.tmps) (d : Option Tmp) (v : Value) : (a1.put d v).tmps = (a.put d v).tmps := by
  cases d <;> simp [Act.put, h]
theorem yields_tmps {o : Oper} {v : Value} {a a1 : Act} (h : a1.tmps = a.tmps) (hy : Yields P ops o v a1) : Yields P ops o v a :=
  hy.of_same (by rw [eval_tmps h]) (by rw [h])
theorem yields_unput {x y : Oper} {v u : Value} {a : Act} (hs : ∀ cs b, y.op ≠ .select cs b) (h : ∀ d, x.dst = some d → d ∉ y.looksAt ops) (hy : Yields P ops y v (a.put x.dst u)) : Yields P ops y v a :=
  hy.of_same (execOp_put y hs a x.dst u h).symm (wanted_put y a x.dst u h).symm
theorem yields_det {o : Oper} {v u : Value} {a : Act} {w : World} (h1 : Yields P ops o v a) (h2 : Yields P ops o u a) : v = u := by
  rcases h1 with ⟨w1, r1⟩ | ⟨w1, rfl⟩ <;> rcases h2 with ⟨w2, r2⟩ | ⟨w2, rfl⟩
  · have := (r1 w).symm.trans (r2 w)
    injection this with this
    injection this
  · rw [w1] at w2; cases w2
  · rw [w1] at w2; cases w2
  · rfl
theorem wp_track {x : Oper} {K : Act → World → Prop} {a : Act} {w : World} (h : x.wp P a w K (Only N)) : x.wp P a w (fun a' w' => K a' w' ∧ ∃ (u : Value) (a1 : Act), a' = a1.put x.dst u ∧ a1.tmps = a.tmps) (Only N) := by
  unfold Oper.wp at *
  cases hr : (execOp a.eval x).run P w with
  | ok n w1 =>
    rw [hr] at h
    cases n <;> simp only [Oper.upon] at h ⊢
    case value u => exact ⟨h, u, a, rfl, rfl⟩
    case skip => exact ⟨h, undef, a, rfl, rfl⟩
    case defer d => exact ⟨h, undef, _, rfl, rfl⟩
    case enter f args =>
      refine Calls.mono h fun e w2 he => ?_
      cases e with
      | returned u => exact ⟨he, u, a, rfl, rfl⟩
      | panicked c => exact he
      | outgrown => exact he
    case row row args => exact Rows.mono h fun u w2 he => ⟨he, u, a, rfl, rfl⟩
  | halt z w1 =>
    rw [hr] at h
    cases z <;> exact h
/-- j blind behind x: j ahead of x. -/
theorem swap_blind_last {x j : Nat} {ox oj : Oper} (hx : ops[x]? = some ox) (hj : ops[j]? = some oj) (hap : ox.apart ops oj = true) (hsx : ∀ cs b, ox.op ≠ .select cs b) (hsj : ∀ cs b, oj.op ≠ .select cs b) (hb : Blind P oj)
    {K : Act → World → Prop} {a : Act} {w : World} (h : wpOp P ops (Only N) x (wpOp P ops (Only N) j K) a w) : wpOp P ops (Only N) j (wpOp P ops (Only N) x K) a w := by
  obtain ⟨h1, h2, h3⟩ := Oper.apart_spec hap
  rcases wpOp_cases hx h with ⟨hw, h⟩ | ⟨hw, h⟩
  · obtain ⟨u, a1, w1, hk, ht⟩ := wp_some h
    obtain ⟨v, hy, _⟩ := blind_yields hb hj hk
    have hya : Yields P ops oj v a := yields_tmps ht (yields_unput hsj h1 hy)
    refine hya.wpOp hj ?_
    refine wpOp_on hx (by rw [wanted_put ox a oj.dst v h3]; exact hw) (wp_unput hap hsx ?_)
    refine Oper.wp_mono ?_ (wp_track h)
    rintro a' w' ⟨hk', u', a1', rfl, ht'⟩
    obtain ⟨v', hy', hk'⟩ := blind_yields hb hj hk'
    have hya' : Yields P ops oj v' a := yields_tmps ht' (yields_unput hsj h1 hy')
    rw [yields_det (w := w) hya hya']
    exact hk'
  · obtain ⟨v, hy, hk⟩ := blind_yields hb hj h
    have hya : Yields P ops oj v a := yields_unput hsj h1 hy
    refine hya.wpOp hj (wpOp_off hx (by rw [wanted_put ox a oj.dst v h3]; exact hw) ?_)
    rw [← Act.put_comm a undef v h2]
    exact hk
def YAt (P : Program) (ops : Array Oper) (o : Oper) (v : Value) (a : Act) (w : World) : Prop :=
  (Region.wanted o (yielded ops a.tmps) = true ∧ (execOp a.eval o).run P w = .ok (.value v) w) ∨ (Region.wanted o (yielded ops a.tmps) = false ∧ v = undef)
theorem YAt.on {i : Nat} {o : Oper} {v : Value} {a : Act} {w : World} (hy : YAt P ops o v a w) (ho : ops[i]? = some o) {K : Act → World → Prop} (h : K (a.put o.dst v) w) : wpOp P ops (Only N) i K a w := by
  rcases hy with ⟨hw, hr⟩ | ⟨hw, rfl⟩
  · refine wpOp_on ho hw ?_
    unfold Oper.wp
    rw [hr]
    exact h
  · exact wpOp_off ho hw h
theorem YAt.put {x y : Oper} {v u : Value} {a : Act} {w : World} (hy : YAt P ops y v a w) (hs : ∀ cs b, y.op ≠ .select cs b) (h : ∀ d, x.dst = some d → d ∉ y.looksAt ops) : YAt P ops y v (a.put x.dst u) w := by
  unfold YAt at *
  rw [execOp_put y hs a x.dst u h, wanted_put y a x.dst u h]
  exact hy
theorem YAt.unput {x y : Oper} {v u : Value} {a : Act} {w : World} (hs : ∀ cs b, y.op ≠ .select cs b) (h : ∀ d, x.dst = some d → d ∉ y.looksAt ops) (hy : YAt P ops y v (a.put x.dst u) w) : YAt P ops y v a w := by
  unfold YAt at *
  rw [execOp_put y hs a x.dst u h, wanted_put y a x.dst u h] at hy
  exact hy
theorem reads_yields {i : Nat} {o : Oper} (hb : Reads P o) (ho : ops[i]? = some o) {K : Act → World → Prop} {a : Act} {w : World} (h : wpOp P ops (Only N) i K a w) : ∃ v, YAt P ops o v a w ∧ K (a.put o.dst v) w := by
  rcases wpOp_cases ho h with ⟨hw, h⟩ | ⟨hw, h⟩
  · unfold Oper.wp at h
    cases hr : (execOp a.eval o).run P w with
    | ok n w1 =>
      obtain ⟨rfl, v, rfl⟩ := hb a.eval w n w1 hr
      rw [hr] at h
      exact ⟨v, .inl ⟨hw, hr⟩, h⟩
    | halt z w1 =>
      rw [hr] at h
      exfalso
      cases z <;> exact h
  · exact ⟨undef, .inr ⟨hw, rfl⟩, h⟩
/-- Two that read. -/
theorem swap_reads {x j : Nat} {ox oj : Oper} (hx : ops[x]? = some ox) (hj : ops[j]? = some oj) (hap : ox.apart ops oj = true) (hsx : ∀ cs b, ox.op ≠ .select cs b) (hsj : ∀ cs b, oj.op ≠ .select cs b) (hb : Reads P ox) (hb' : Reads P oj)
    {K : Act → World → Prop} {a : Act} {w : World} (h : wpOp P ops (Only N) x (wpOp P ops (Only N) j K) a w) : wpOp P ops (Only N) j (wpOp P ops (Only N) x K) a w := by
  obtain ⟨h1, h2, h3⟩ := Oper.apart_spec hap
  obtain ⟨v, hv, h⟩ := reads_yields hb hx h
  obtain ⟨u, hu, h⟩ := reads_yields hb' hj h
  refine (hu.unput hsj h1).on hj ((hv.put hsx h3).on hx ?_)
  rw [← Act.put_comm a v u h2]
  exact h

/-! ### the region -/
/-- Operation x is waited for by j, straight or through others. -/
def anc (md : Region.Mode) (ops : Array Oper) : Nat → Nat → Nat → Bool
  | 0, _, _ => false
  | n + 1, x, j => match ops[j]? with
    | some o => o.after.any fun e => Region.binds md e && (e.on == x || anc md ops n x e.on)
    | none => false
def cls (P : Program) (o : Oper) : Nat := if blindB P o.op then 2 else if readB o.op then 1 else 0
def selB (o : Oper) : Bool := match o.op with | .select .. => true | _ => false
theorem selB_ne {o : Oper} (h : selB o = false) : ∀ cs b, o.op ≠ .select cs b := by
  intro cs b e
  unfold selB at h
  rw [e] at h
  cases h
def textB (P : Program) (md : Region.Mode) (ops : Array Oper) : Bool :=
  ops.all (fun o => !selB o) &&
  (List.range ops.size).all (fun j => match ops[j]? with
    | some o => o.after.all (fun e => !Region.binds md e || decide (e.on < j)) && (List.range j).all (fun x => anc md ops ops.size x j || match ops[x]? with
      | some ox => ox.apart ops o && (blindB P ox.op || blindB P o.op || (readB ox.op && readB o.op))
      | none => false)
    | none => false)
theorem swap_ {x j : Nat} {ox oj : Oper} (hx : ops[x]? = some ox) (hj : ops[j]? = some oj) (hsx : ∀ cs b, ox.op ≠ .select cs b) (hsj : ∀ cs b, oj.op ≠ .select cs b) (hc : (ox.apart ops oj && (blindB P ox.op || blindB P oj.op || (readB ox.op && readB oj.op))) = true)
    {K : Act → World → Prop} {a : Act} {w : World} (h : wpOp P ops (Only N) x (wpOp P ops (Only N) j K) a w) : wpOp P ops (Only N) j (wpOp P ops (Only N) x K) a w := by
  simp only [Bool.and_eq_true, Bool.or_eq_true] at hc
  obtain ⟨hap, (hb | hb) | hb⟩ := hc
  · exact swap_blind_first hx hj hap hsx hsj (blind hb) h
  · exact swap_blind_last hx hj hap hsx hsj (blind hb) h
  · exact swap_reads hx hj hap hsx hsj (reads hb.1) (reads hb.2) h
/-- j ahead of all of L1. -/
theorem front {j : Nat} {oj : Oper} (hj : ops[j]? = some oj) (hsj : ∀ cs b, oj.op ≠ .select cs b) : ∀ (L1 L2 : List Nat) (a : Act) (w : World),
    (∀ x ∈ L1, ∃ ox, ops[x]? = some ox ∧ (∀ cs b, ox.op ≠ .select cs b) ∧ (ox.apart ops oj && (blindB P ox.op || blindB P oj.op || (readB ox.op && readB oj.op))) = true) →
    wpOps P ops (Only N) (L1 ++ j :: L2) a w → wpOp P ops (Only N) j (wpOps P ops (Only N) (L1 ++ L2)) a w
  | [], L2, a, w, _, h => by rw [List.nil_append, wpOps_cons] at h; exact h
  | x :: L1, L2, a, w, hc, h => by
    rw [List.cons_append, wpOps_cons] at h
    obtain ⟨ox, hx, hsx, hcx⟩ := hc x List.mem_cons_self
    have h2 := wpOp_mono (fun a w h => front hj hsj L1 L2 a w (fun y hy => hc y (List.mem_cons_of_mem _ hy)) h) h
    have h3 := swap_ hx hj hsx hsj hcx h2
    refine wpOp_mono (fun a w h => ?_) h3
    rw [List.cons_append, wpOps_cons]
    exact h
end
section
variable {P : Program} {ops : Array Oper} {md : Region.Mode}
def unl (ops : Array Oper) (listed : Array Bool) : List Nat := (List.range ops.size).filter fun i => !listed.getD i true
def ClosedL (md : Region.Mode) (ops : Array Oper) (listed : Array Bool) : Prop := ∀ j o, ops[j]? = some o → listed.getD j false = true → ∀ e ∈ o.after, Region.binds md e = true → listed.getD e.on false = true
theorem anc_listed {listed : Array Bool} (hc : ClosedL md ops listed) : ∀ (n x j : Nat), anc md ops n x j = true → (∀ o, ops[j]? = some o → ∀ e ∈ o.after, Region.binds md e = true → listed.getD e.on false = true) → listed.getD x false = true
  | 0, _, _, h, _ => by cases h
  | n + 1, x, j, h, hr => by
    unfold anc at h
    cases ho : ops[j]? with
    | none => rw [ho] at h; cases h
    | some o =>
      rw [ho] at h
      obtain ⟨e, he, hb⟩ := Array.any_eq_true'.1 h
      simp only [Bool.and_eq_true, Bool.or_eq_true, beq_iff_eq] at hb
      have hl := hr o ho e he hb.1
      rcases hb.2 with rfl | h2
      · exact hl
      · exact anc_listed hc n x e.on h2 (fun o2 ho2 => hc e.on o2 ho2 hl)
theorem upon_mono {o : Oper} {N : Act → World → Prop} {Q : Exit → Act → World → Prop} (hQ : ∀ a w, N a w → Q .normal a w) {K K' : Act → World → Prop} {a : Act} {w : World} (hK : ∀ a w, K a w → K' a w) (h : o.wp P a w K (Only N)) : o.wp P a w K' Q := by
  unfold Oper.wp at *
  cases hr : (execOp a.eval o).run P w with
  | ok n w1 =>
    rw [hr] at h
    cases n <;> simp only [Oper.upon] at h ⊢
    case value u => exact hK _ _ h
    case skip => exact hK _ _ h
    case defer d => exact hK _ _ h
    case enter f args =>
      refine Calls.mono h fun e w2 he => ?_
      cases e with
      | returned u => exact hK _ _ he
      | panicked c => exact he.elim
      | outgrown => exact absurd he no_lets
    case row row args => exact Rows.mono h fun u w2 he => hK _ _ he
  | halt z w1 =>
    rw [hr] at h
    cases z <;> first | exact h | exact h.elim
theorem wpOp_lift {N : Act → World → Prop} {Q : Exit → Act → World → Prop} (hQ : ∀ a w, N a w → Q .normal a w) {i : Nat} {K K' : Act → World → Prop} {a : Act} {w : World} (hK : ∀ a w, K a w → K' a w) (h : wpOp P ops (Only N) i K a w) : wpOp P ops Q i K' a w := by
  unfold wpOp at *
  cases ho : ops[i]? with
  | none => rw [ho] at h; exact hK _ _ h
  | some o =>
    rw [ho] at h
    dsimp only at h ⊢
    split
    · rename_i hw
      rw [if_pos hw] at h
      rcases h with h | h
      · exact .inl (upon_mono hQ hK h)
      · exact absurd h.2 no_lets
    · rename_i hw
      rw [if_neg hw] at h
      exact hK _ _ h

theorem getD_both {listed : Array Bool} {i : Nat} (hi : i < listed.size) (d e : Bool) : listed.getD i d = listed.getD i e := by simp [hi]
theorem unl_mem {listed : Array Bool} {i : Nat} : i ∈ unl ops listed ↔ i < ops.size ∧ listed.getD i true = false := by
  unfold unl
  simp [List.mem_filter]
/-- The list of what is not listed, about i; and with i listed. -/
theorem unl_split {listed : Array Bool} (hs : listed.size = ops.size) {i : Nat} (hi : i < ops.size) (hu : listed.getD i true = false) :
    ∃ L1 L2, unl ops listed = L1 ++ i :: L2 ∧ (∀ x ∈ L1, x < i ∧ listed.getD x true = false) ∧ unl ops (listed.setIfInBounds i true) = L1 ++ L2 := by
  have hr : List.range ops.size = List.range' 0 i ++ i :: List.range' (i + 1) (ops.size - i - 1) := by
    rw [List.range_eq_range']
    have h1 : List.range' 0 i ++ List.range' (0 + i) (ops.size - i) = List.range' 0 (i + (ops.size - i)) := List.range'_append_1
    rw [show i + (ops.size - i) = ops.size by omega, Nat.zero_add] at h1
    rw [← h1]
    have h2 : List.range' i (ops.size - i) = i :: List.range' (i + 1) (ops.size - i - 1) := by
      obtain ⟨m, hm⟩ : ∃ m, ops.size - i = m + 1 := ⟨ops.size - i - 1, by omega⟩
      rw [hm, List.range'_succ]
      rfl
    rw [h2]
  refine ⟨(List.range' 0 i).filter fun x => !listed.getD x true, (List.range' (i + 1) (ops.size - i - 1)).filter fun x => !listed.getD x true, ?_, fun x hx => ?_, ?_⟩
  · unfold unl
    rw [hr, List.filter_append, List.filter_cons]
    simp [hu]
  · rw [List.mem_filter, List.mem_range'_1] at hx
    exact ⟨by omega, by simpa using hx.2⟩
  · unfold unl
    rw [hr, List.filter_append, List.filter_cons]
    have hi2 : (listed.setIfInBounds i true).getD i true = true := by simp
    rw [hi2]
    simp only [Bool.not_true, Bool.false_eq_true, if_false]
    congr 1
    · refine List.filter_congr (fun x hx => ?_)
      rw [List.mem_range'_1] at hx
      rw [getD_set_ne true (by omega)]
    · refine List.filter_congr (fun x hx => ?_)
      rw [List.mem_range'_1] at hx
      rw [getD_set_ne true (by omega)]
theorem any_of_text {N : Act → World → Prop} {Q : Exit → Act → World → Prop} (hQ : ∀ a w, N a w → Q .normal a w) (hB : textB P md ops = true) :
    ∀ (fuel : Nat) (listed : Array Bool) (a : Act) (w : World), listed.size = ops.size → ClosedL md ops listed → (unl ops listed).length = fuel → wpOps P ops (Only N) (unl ops listed) a w → wpAny P md ops Q fuel listed a w := by
  intro fuel
  induction fuel with
  | zero =>
    intro listed a w hs hc hl h
    have h0 : unl ops listed = [] := List.eq_nil_of_length_eq_zero hl
    rw [h0] at h
    refine ⟨List.eq_nil_iff_forall_not_mem.2 (fun i hi => ?_), hQ _ _ h⟩
    obtain ⟨hu, o, ho, _⟩ := mem_ready.1 hi
    have : i ∈ unl ops listed := unl_mem.2 ⟨(Array.getElem?_eq_some_iff.1 ho).1, hu⟩
    rw [h0] at this
    cases this
  | succ fuel ih =>
    intro listed a w hs hc hl h
    simp only [textB, Bool.and_eq_true] at hB
    have hsel : ∀ (j : Nat) (o : Oper), ops[j]? = some o → ∀ cs b, o.op ≠ .select cs b := fun j o ho => selB_ne (by
      have := Array.all_eq_true_iff_forall_mem.1 hB.1 o (Array.mem_of_getElem? ho)
      simpa using this)
    refine ⟨fun hr => ?_, fun i hi => ?_⟩
    · exfalso
      -- the first that is not listed is ready
      cases hL : unl ops listed with
      | nil => rw [hL] at hl; cases hl
      | cons i L =>
        have hi : i ∈ unl ops listed := by rw [hL]; exact List.mem_cons_self
        obtain ⟨hlt, hu⟩ := unl_mem.1 hi
        obtain ⟨L1, L2, e1, e2, _⟩ := unl_split hs hlt hu
        have hmin : ∀ x, x < i → listed.getD x false = true := by
          intro x hx
          cases hv : listed.getD x true with
          | false =>
            exfalso
            obtain ⟨M1, M2, g1, g2, _⟩ := unl_split (ops := ops) hs (show x < ops.size by omega) hv
            rw [hL] at g1
            cases M1 with
            | nil => injection g1 with g1 _; omega
            | cons y M1 =>
              injection g1 with g1 _
              have := g2 y List.mem_cons_self
              omega
          | true => rw [← getD_both (by omega) true false]; exact hv
        have hin : i ∈ Region.ready md ops listed := by
          refine mem_ready.2 ⟨hu, ops[i], Array.getElem?_eq_getElem hlt, fun e he hb => hmin _ ?_⟩
          have h2 := List.all_eq_true.1 hB.2 i (List.mem_range.2 hlt)
          rw [Array.getElem?_eq_getElem hlt] at h2
          simp only [Bool.and_eq_true] at h2
          have h3 := Array.all_eq_true_iff_forall_mem.1 h2.1 e he
          simp only [Bool.or_eq_true, Bool.not_eq_true', decide_eq_true_eq] at h3
          rcases h3 with h3 | h3
          · rw [hb] at h3; cases h3
          · exact h3
        rw [hr] at hin
        cases hin
    · obtain ⟨hu, o, ho, hall⟩ := mem_ready.1 hi
      have hlt : i < ops.size := (Array.getElem?_eq_some_iff.1 ho).1
      obtain ⟨L1, L2, e1, e2, e3⟩ := unl_split hs hlt hu
      rw [e1] at h
      have hf := front (N := N) ho (hsel i o ho) L1 L2 a w (fun x hx => by
        obtain ⟨hxi, hxu⟩ := e2 x hx
        have h2 := List.all_eq_true.1 hB.2 i (List.mem_range.2 hlt)
        rw [ho] at h2
        simp only [Bool.and_eq_true] at h2
        have h3 := List.all_eq_true.1 h2.2 x (List.mem_range.2 hxi)
        simp only [Bool.or_eq_true] at h3
        rcases h3 with h3 | h3
        · have h4 := anc_listed hc ops.size x i h3 (fun o2 ho2 e he hb => by rw [ho] at ho2; injection ho2 with ho2; subst ho2; exact hall e he hb)
          rw [← getD_both (by omega) true false, hxu] at h4
          cases h4
        · cases hox : ops[x]? with
          | none => rw [hox] at h3; cases h3
          | some ox =>
            rw [hox] at h3
            refine ⟨ox, rfl, hsel x ox hox, ?_⟩
            simpa [Bool.and_eq_true, Bool.or_eq_true] using h3) h
      refine wpOp_lift hQ (fun a' w' h' => ?_) hf
      refine ih (listed.setIfInBounds i true) a' w' (by simpa using hs) ?_ ?_ ?_
      · intro j oj hj hl' e he hb
        by_cases hij : i = j
        · subst hij
          rw [ho] at hj
          injection hj with hj
          subst hj
          exact getD_set_true (hall e he hb)
        · rw [getD_set_ne false hij] at hl'
          exact getD_set_true (hc j oj hj hl' e he hb)
      · rw [e3]
        rw [e1] at hl
        simp only [List.length_append, List.length_cons] at hl ⊢
        omega
      · rw [e3]; exact h'
end
/-- A REGION THAT DRAWS ITS ORDER, by its text's order. -/
theorem region_text {P : Program} {id : Nat} {Q : Exit → Act → World → Prop} {a : Act} {w : World} {l : List Oper} (hm : P.follows .mixedOrders = true) (hB : textB P .any l.toArray = true)
    (h : ∀ wd, Aside0 (wd = w.drew) → ∀ K : Act → World → Prop, (∀ a w, Q .normal a w → K a w) → wpList P l.toArray (Only K) l a wd) : (Code.region id l.toArray true).wp P Q a w := by
  refine wp_region_any hm ?_
  have hu : unl l.toArray (Array.replicate l.toArray.size false) = List.range l.toArray.size := by
    unfold unl
    rw [List.filter_eq_self]
    intro i hi
    have : i < l.length := by simpa using hi
    simp [this]
  refine any_of_text (N := Q .normal) (fun _ _ h => h) hB l.toArray.size _ a _ (by simp) (fun j o _ hl => by
    exfalso
    simp only [List.size_toArray, Array.getD_eq_getD_getElem?] at hl
    rcases Nat.lt_or_ge j l.length with h | h
    · simp [h] at hl
    · simp [Array.getElem?_eq_none (show (Array.replicate l.length false).size ≤ j by simpa using h)] at hl) (by rw [hu]; simp) ?_
  rw [hu, List.range_eq_range', show l.toArray.size = l.length by simp, wpOps_eq_wpList l 0 (by simp)]
  exact h w.drew ⟨rfl⟩ (Q .normal) (fun _ _ h => h)
theorem only_nil {K : Act → World → Prop} {a : Act} {w : World} (h : K a w) : Only K .normal a w := h
end Go.Proofs.YtebgaedalbdhaaaDoor.Rg
