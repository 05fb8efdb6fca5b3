/- The number of trailing zeros; the numbers of a word, from the lowest bit on. -/
import Derived.Test.YtebgaedalbdhaaaDoorAvV
import Derived.Lib.TrailingZeros
namespace Go.Proofs.YtebgaedalbdhaaaDoor.Av
open Go.RowKit Go.Proofs.YtebgaedalbdhaaaDoorW.PrintWords Go.Proofs.YtebgaedalbdhaaaDoorW.PrintLast Go.Proofs.YtebgaedalbdhaaaDoorW.PrintMore
set_option linter.unusedVariables false
set_option linter.unusedSimpArgs false

/-- The library's table lies where the dump has it. -/
def TabAt (w : World) : Prop := ∀ j, j < 64 → w.cell? ⟨4, j, none⟩ = some (.int .u8 ((Lib.deBruijn64tab.getD j 0 : Nat) : Int))
theorem ofInt_u64 (a : Nat) (ha : a < 18446744073709551616) : (BitVec.ofInt 64 (a : Int)).toNat = a := by
  rw [BitVec.ofInt_natCast, BitVec.toNat_ofNat]; exact Nat.mod_eq_of_lt (by omega)
theorem u64_and_nat (a b : Nat) (ha : a < 18446744073709551616) (hb : b < 18446744073709551616) : bits .and .u64 (a : Int) (b : Int) = ((a &&& b : Nat) : Int) := by
  have hx : a &&& b < 2 ^ 64 := Nat.and_lt_two_pow _ (by omega)
  show IntKind.u64.wrap ((BitVec.ofInt 64 (a : Int) &&& BitVec.ofInt 64 (b : Int)).toNat : Int) = _
  rw [BitVec.toNat_and, ofInt_u64 a ha, ofInt_u64 b hb, IntKind.wrap_u64]
  omega
theorem u64_or_nat (a b : Nat) (ha : a < 18446744073709551616) (hb : b < 18446744073709551616) : bits .or .u64 (a : Int) (b : Int) = ((a ||| b : Nat) : Int) := by
  have hx : a ||| b < 2 ^ 64 := Nat.or_lt_two_pow (by omega) (by omega)
  show IntKind.u64.wrap ((BitVec.ofInt 64 (a : Int) ||| BitVec.ofInt 64 (b : Int)).toNat : Int) = _
  rw [BitVec.toNat_or, ofInt_u64 a ha, ofInt_u64 b hb, IntKind.wrap_u64]
  omega
set_option maxRecDepth 100000 in
set_option maxHeartbeats 1000000 in
theorem tz_calls {w : World} (x : Nat) (h0 : x ≠ 0) (h1 : x < 18446744073709551616) (hT : TabAt w) :
    Calls Tryd.prog 51 #[.int .u64 (x : Int)] w fun e w' => e = .returned (.int .i64 ((Lib.ctz 64 x : Nat) : Int)) ∧ w = w' := by
  obtain ⟨l1, l2⟩ := Lib.lowest_bit 64 x h0 h1
  obtain ⟨d1, d2⟩ := Lib.deBruijn64_at (Lib.ctz 64 x) l2
  obtain ⟨k, hk⟩ : ∃ k, k = Lib.ctz 64 x := ⟨_, rfl⟩
  rw [← hk] at l1 l2 d1 d2 ⊢
  clear hk
  have e1 : IntKind.u64.wrap (-(x : Int)) = ((2 ^ 64 - x : Nat) : Int) := by rw [IntKind.wrap_u64]; omega
  have e2 : bits .and .u64 (x : Int) ((2 ^ 64 - x : Nat) : Int) = ((2 ^ k : Nat) : Int) := by rw [u64_and_nat _ _ h1 (by omega), l1]
  obtain ⟨j, hj⟩ : ∃ j, j = 2 ^ k * 285870213051353865 % 18446744073709551616 / 288230376151711744 := ⟨_, rfl⟩
  obtain ⟨n, hn⟩ : ∃ n, n = 2 ^ k * 285870213051353865 % 18446744073709551616 := ⟨_, rfl⟩
  have e3 : IntKind.u64.wrap ((2 : Int) ^ k * 285870213051353865) = (n : Int) := by
    have : ((2 : Int) ^ k) = ((2 ^ k : Nat) : Int) := by simp
    rw [this, IntKind.wrap_u64]; omega
  rw [← hj] at d1 d2
  rw [← hn] at hj
  have e4 : (n : Int) / 288230376151711744 = (j : Int) := by omega
  have f := hT j d1
  rw [d2] at f
  have n0 : ((x : Int) == 0) = false := by simp; omega
  have b1 : (0 : Int) ≤ (j : Int) := by omega
  have b2 : (j : Int) < 64 := by omega
  clear hT hj hn d2 l1
  go_enter Tryd.func51, Tryd.ntmps51
  go_wp2
  go_ret
  exact ⟨rfl, rfl⟩
/-- The numbers of a word. -/
def wordNums (base : Int) (b : Nat) : List Int := if h : b = 0 then [] else (base + (Lib.ctz 64 b : Nat)) :: wordNums base (b &&& (b - 1))
  termination_by b
  decreasing_by have := @Nat.and_le_right b (b - 1); omega
theorem wordNums_zero (base : Int) : wordNums base 0 = [] := by rw [wordNums]; rfl
theorem wordNums_step (base : Int) {b : Nat} (h : b ≠ 0) : wordNums base b = (base + (Lib.ctz 64 b : Nat)) :: wordNums base (b &&& (b - 1)) := by
  conv => lhs; rw [wordNums]
  rw [dif_neg h]
/-- The numbers of a node, from word i on. -/
def nodeFrom (x : Int) (s : List Int) (i : Nat) : List Int := (List.range' i (32 - i)).flatMap fun (j : Nat) => wordNums (x + (j : Int) * 64) (s.getD j 0).toNat
theorem nodeFrom_step (x : Int) (s : List Int) {i : Nat} (h : i < 32) : nodeFrom x s i = wordNums (x + (i : Int) * 64) (s.getD i 0).toNat ++ nodeFrom x s (i + 1) := by
  unfold nodeFrom
  obtain ⟨m, hm⟩ : ∃ m, 32 - i = m + 1 := ⟨32 - i - 1, by omega⟩
  rw [hm, List.range'_succ, List.flatMap_cons, show 32 - (i + 1) = m by omega]
theorem nodeFrom_end (x : Int) (s : List Int) : nodeFrom x s 32 = [] := rfl
def T.nums : T → List Int
  | .nil => []
  | .node _ x s l r => l.nums ++ nodeFrom x s 0 ++ r.nums
/-- A walk over numbers that may end: what was passed, and whether it came to its end. -/
def run (cont : List Int → Int → Bool) : List Int → List Int → List Int × Bool
  | done, [] => (done, true)
  | done, x :: xs => if cont done x then run cont (done ++ [x]) xs else (done ++ [x], false)
theorem run_append (cont : List Int → Int → Bool) : ∀ (xs ys done : List Int), run cont done (xs ++ ys) = if (run cont done xs).2 then run cont (run cont done xs).1 ys else run cont done xs
  | [], ys, done => rfl
  | x :: xs, ys, done => by
    rw [List.cons_append, run, run]
    split
    · exact run_append cont xs ys _
    · rfl
theorem wpList_callf {P : Program} {ops : Array Oper} {rest : List Oper} {op : Oper} {a : Act} {w : World} {Q : Exit → Act → World → Prop} (hgd : op.guard = none) (c : Call) (ho : op.op = .call c) (x : Operand) (hc : c.callee = .value x) {f : FuncId} {cap us : Array Value} (hx : a.eval x = .func (.func f) #[] cap) (hu : c.args.map a.eval = us)
    (hcall : ∀ vs W, (callFunc f vs).run P W = .ok (.enter f vs) W)
    (h : Calls P f (us ++ cap) w (fun e w' => match e with | .returned v => wpList P ops Q rest (a.put op.dst v) w' | .panicked ch => Q (.panic ch) a w' | .outgrown => LetsOut Q)) : wpList P ops Q (op :: rest) a w := by
  subst hu
  refine wpList_plain hgd fun K hK => ?_
  unfold Oper.wp execOp
  simp only [ho, resolve, hc, hx, Deferred.ofValue, Sem.run_bind, Sem.run_pure, Result.andThen_ok, invoke, hcall, Array.empty_append]
  show Oper.upon P op a K Q (.ok (.enter f _) w)
  simp only [Oper.upon]
  refine h.mono fun e w' he => ?_
  cases e with
  | returned v => exact hK _ _ he
  | panicked ch => exact he
  | outgrown => exact he
end Go.Proofs.YtebgaedalbdhaaaDoor.Av
