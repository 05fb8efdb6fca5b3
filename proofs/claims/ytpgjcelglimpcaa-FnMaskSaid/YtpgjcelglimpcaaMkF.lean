/- Bytes under a mask: server.Unmask, impl.Mask. -/
import Derived.Test.YtpgjcelglimpcaaMkE
namespace Go.Proofs.Ytpgjcelglimpcaa.Mk
open Go.Proofs.Ytpgjcelglimpcaa.Bs Go.RowKit Go.Proofs.YtpgjcelglimpcaaW.PrintWords Go.Proofs.YtpgjcelglimpcaaW.PrintLast Go.Proofs.YtpgjcelglimpcaaW.PrintMore
set_option linter.unusedVariables false
set_option linter.unusedSimpArgs false

def NilPost (w : World) (rb : Nat) (e : Ending) (w' : World) : Prop := e = .returned (.tuple #[]) ∧ Fr (fun k => k = rb) w w'
set_option maxHeartbeats 8000000 in
set_option maxRecDepth 100000 in
theorem unmask_nil {w : World} {rb c p : Nat} {X : Option Addr} {key : List Nat} (hR : Blk w rb 48 (rC (.int .u8 (p : Int)) key)) (hp : p ≤ 3) :
    Calls Try.prog 44 #[.pointer (some ⟨rb, 0, none⟩), .slice X 0 c] w (NilPost w rb) := by
  have HR0 := Aside0.mk hR
  have f5 : w.cell? ⟨rb, 5, none⟩ = some (.int .u8 (p : Int)) := hR.cell 5 rfl
  have z5 := hR.free 5
  have p0 : (0 : Int) ≤ (p : Int) := by omega
  have p1 : (p : Int) ≤ 3 := by omega
  obtain ⟨q, hq⟩ : ∃ q, q = p % 4 := ⟨_, rfl⟩
  have e9 : bits .and .i64 (p : Int) 3 = (q : Int) := by rw [hq]; exact and3 p (by omega)
  have q2 : (0 : Int) ≤ (q : Int) := by omega
  have q3 : (q : Int) < 4 := by omega
  clear hq
  have HF := Aside0.mk (Fr.refl (fun k => k = rb) w)
  clear hR
  go_enter Try.func44, Try.ntmps44
  go_wp2
  go_loopg [4, 5] 0 (fun k v4 v5 w' => v4 = .int .i64 (p : Int) ∧ v5 = .int .i64 0 ∧ w' = w)
  case atStart => exact ⟨rfl, rfl, rfl⟩
  case round =>
    obtain ⟨rfl, rfl, rfl⟩ := hrel
    go_wp2
    go_end0
    exact ⟨rfl, HF.out.set (p := ⟨rb, 5, none⟩) (.inl rfl) _⟩
def UnPost (w : World) (g : Nat) (L : List Nat) (rest : List Value) (e : Ending) (w' : World) : Prop := e = .returned (.tuple #[]) ∧ BufN w' g 5 L rest ∧ Fr (fun k => k = g) w w'
set_option maxHeartbeats 8000000 in
set_option maxRecDepth 100000 in
theorem unmaskN_calls {w : World} {X : Option Addr} {c p : Nat} {a b d e : Nat} (hp : p ≤ 3) :
    Calls Try.prog 35 #[.agg #[.int .u8 (a : Int), .int .u8 (b : Int), .int .u8 (d : Int), .int .u8 (e : Int)], .int .u8 (p : Int), .slice X 0 c] w fun e w' => e = .returned (.tuple #[]) ∧ Fr (fun _ => False) w w' := by
  go_enter Try.func35, Try.ntmps35
  go_upto_region 1 with (fail)
  have HK1 := Aside0.mk (Blk.new w 33 (bC [a, b, d, e]))
  have HF1 := Aside0.mk ((Fr.refl (fun _ => False) w).alloc (.cells (bC [a, b, d, e]).toArray 33))
  rw [show (#[.int .u8 (a : Int), .int .u8 (b : Int), .int .u8 (d : Int), .int .u8 (e : Int)] : Array Value) = (bC [a, b, d, e]).toArray from rfl]
  generalize w.alloc (.cells (bC [a, b, d, e]).toArray 33) = w1 at *
  have c0 : w1.cell? ⟨w.heap.size, 0, none⟩ = some (.int .u8 (a : Int)) := HK1.out.cell 0 rfl
  have c1 : w1.cell? ⟨w.heap.size, 1, none⟩ = some (.int .u8 (b : Int)) := HK1.out.cell 1 rfl
  have c2 : w1.cell? ⟨w.heap.size, 2, none⟩ = some (.int .u8 (d : Int)) := HK1.out.cell 2 rfl
  have c3 : w1.cell? ⟨w.heap.size, 3, none⟩ = some (.int .u8 (e : Int)) := HK1.out.cell 3 rfl
  go_upto_region 2 with (fail)
  have HR2 := Aside0.mk (Blk.new w1 48 (rC (.int .u8 (p : Int)) [a, b, d, e]))
  have HF2 := Aside0.mk (HF1.out.alloc (.cells (rC (.int .u8 (p : Int)) [a, b, d, e]).toArray 48))
  have HG2 : Aside0 (w.heap.size ≤ w1.heap.size) := ⟨HF1.out.size⟩
  rw [show (#[Value.int IntKind.u64 0, Value.bool false, Value.bool false, Value.bool false, Value.bool false, Value.int IntKind.u8 (p : Int), Value.int IntKind.u8 (a : Int), Value.int IntKind.u8 (b : Int), Value.int IntKind.u8 (d : Int), Value.int IntKind.u8 (e : Int), Value.slice none 0 0, Value.int IntKind.i64 0, Value.int IntKind.u64 0] : Array Value) = (rC (.int .u8 (p : Int)) [a, b, d, e]).toArray from rfl]
  generalize w1.alloc (.cells (rC (.int .u8 (p : Int)) [a, b, d, e]).toArray 48) = w2 at *
  clear c0 c1 c2 c3 HF1 HK1
  obtain ⟨RB, hRB⟩ : ∃ RB, RB = w1.heap.size := ⟨_, rfl⟩
  rw [← hRB] at HR2 HG2 ⊢
  clear hRB
  go_wp2_with fail
  refine (unmask_nil HR2.out hp).mono ?_
  rintro e' w3 ⟨rfl, hf⟩
  have HF3 : Aside0 (Fr (fun _ => False) w w3) := ⟨HF2.out.trans hf (fun k hk e => by have := HG2.out; omega)⟩
  clear hf
  go_wp2
  go_end0
  exact ⟨rfl, HF3.out⟩
set_option maxHeartbeats 8000000 in
set_option maxRecDepth 100000 in
theorem unmaskF_calls {w : World} {g n c p : Nat} {a b d e : Nat} {bs : List Nat} {rest : List Value} (hk : Key [a, b, d, e]) (hb : Byt bs) (hB : BufN w g 5 bs rest) (hp : p ≤ 3) (hm : bs.length ≤ 1000000) (hc : bs.length ≤ c) (hn : n = bs.length) :
    Calls Try.prog 35 #[.agg #[.int .u8 (a : Int), .int .u8 (b : Int), .int .u8 (d : Int), .int .u8 (e : Int)], .int .u8 (p : Int), .slice (some ⟨g, 0, none⟩) n c] w (UnPost w g (mk [a, b, d, e] p bs) rest) := by
  subst hn
  have HKEY := Aside0.mk hk
  have HBY := Aside0.mk hb
  have HB0 := Aside0.mk hB
  clear hk hb hB
  go_enter Try.func35, Try.ntmps35
  go_upto_region 1 with (fail)
  have HK1 := Aside0.mk (Blk.new w 33 (bC [a, b, d, e]))
  have HB1 : Aside0 (BufN (w.alloc (.cells (bC [a, b, d, e]).toArray 33)) g 5 bs rest) := ⟨Blk.alloc HB0.out _⟩
  have HF1 := Aside0.mk ((Fr.refl (fun _ => False) w).alloc (.cells (bC [a, b, d, e]).toArray 33))
  rw [show (#[.int .u8 (a : Int), .int .u8 (b : Int), .int .u8 (d : Int), .int .u8 (e : Int)] : Array Value) = (bC [a, b, d, e]).toArray from rfl]
  generalize w.alloc (.cells (bC [a, b, d, e]).toArray 33) = w1 at *
  have c0 : w1.cell? ⟨w.heap.size, 0, none⟩ = some (.int .u8 (a : Int)) := HK1.out.cell 0 rfl
  have c1 : w1.cell? ⟨w.heap.size, 1, none⟩ = some (.int .u8 (b : Int)) := HK1.out.cell 1 rfl
  have c2 : w1.cell? ⟨w.heap.size, 2, none⟩ = some (.int .u8 (d : Int)) := HK1.out.cell 2 rfl
  have c3 : w1.cell? ⟨w.heap.size, 3, none⟩ = some (.int .u8 (e : Int)) := HK1.out.cell 3 rfl
  go_upto_region 2 with (fail)
  have HB2 : Aside0 (BufN (w1.alloc (.cells (rC (.int .u8 (p : Int)) [a, b, d, e]).toArray 48)) g 5 bs rest) := ⟨Blk.alloc HB1.out _⟩
  have HR2 := Aside0.mk (Blk.new w1 48 (rC (.int .u8 (p : Int)) [a, b, d, e]))
  have HF2 := Aside0.mk (HF1.out.alloc (.cells (rC (.int .u8 (p : Int)) [a, b, d, e]).toArray 48))
  have HG2 : Aside0 (g < w.heap.size ∧ w.heap.size ≤ w1.heap.size) := ⟨Blk.lt HB0.out, HF1.out.size⟩
  rw [show (#[Value.int IntKind.u64 0, Value.bool false, Value.bool false, Value.bool false, Value.bool false, Value.int IntKind.u8 (p : Int), Value.int IntKind.u8 (a : Int), Value.int IntKind.u8 (b : Int), Value.int IntKind.u8 (d : Int), Value.int IntKind.u8 (e : Int), Value.slice none 0 0, Value.int IntKind.i64 0, Value.int IntKind.u64 0] : Array Value) = (rC (.int .u8 (p : Int)) [a, b, d, e]).toArray from rfl]
  generalize w1.alloc (.cells (rC (.int .u8 (p : Int)) [a, b, d, e]).toArray 48) = w2 at *
  clear c0 c1 c2 c3 HB1 HF1 HK1 HB0
  obtain ⟨RB, hRB⟩ : ∃ RB, RB = w1.heap.size := ⟨_, rfl⟩
  rw [← hRB] at HR2 HG2 ⊢
  clear hRB
  have hne : g ≠ RB := by have := HG2.out; omega
  have UM : Aside0 (Calls Try.prog 44 #[.pointer (some ⟨RB, 0, none⟩), .slice (some ⟨g, 0, none⟩) bs.length c] w2 (UmPost w2 g RB 5 (mk [a, b, d, e] p bs) rest)) := ⟨by
    by_cases h16 : bs.length < 16
    · exact unmask_small HKEY.out HBY.out HB2.out HR2.out hne hp h16
    · exact unmask_big HKEY.out HBY.out HB2.out HR2.out hne hp (by omega) hm hc⟩
  clear hne
  go_wp2_with fail
  refine UM.out.mono ?_
  rintro e' w3 ⟨rfl, hb, hf⟩
  have HB3 := Aside0.mk hb
  have HF3 : Aside0 (Fr (fun k => k = g) w w3) := ⟨(HF2.out.mono (fun _ h => h.elim)).trans hf (fun k hk e => by
    rcases e with e | e
    · exact e
    · have := HG2.out; omega)⟩
  clear hb hf UM
  go_wp2
  go_end0
  exact ⟨rfl, HB3.out, HF3.out⟩
set_option maxHeartbeats 8000000 in
set_option maxRecDepth 100000 in
theorem mask_calls {w : World} {X : Option Addr} {c p n : Nat} {a b d e : Nat} {bs : List Nat} (hk : Key [a, b, d, e]) (hR : BytR w X bs) (hb : Byt bs) (hp : p ≤ 3) (hm : bs.length ≤ 1000000) (hn : n = bs.length) :
    Calls Try.prog 19 #[.agg #[.int .u8 (a : Int), .int .u8 (b : Int), .int .u8 (d : Int), .int .u8 (e : Int)], .int .i64 (p : Int), .slice X n c] w (RowPost w (mk [a, b, d, e] p bs)) := by
  subst hn
  have HKEY := Aside0.mk hk
  have HBY := Aside0.mk hb
  have HR := Aside0.mk hR
  have p0 : (0 : Int) ≤ (p : Int) := by omega
  have p1 : (p : Int) ≤ 3 := by omega
  clear hk hb hR
  go_enter Try.func19, Try.ntmps19
  go_upto_region 1 with (fail)
  have HK1 := Aside0.mk (Blk.new w 33 (bC [a, b, d, e]))
  have HF1 := Aside0.mk ((Fr.refl (fun _ => False) w).alloc (.cells (bC [a, b, d, e]).toArray 33))
  rw [show (#[.int .u8 (a : Int), .int .u8 (b : Int), .int .u8 (d : Int), .int .u8 (e : Int)] : Array Value) = (bC [a, b, d, e]).toArray from rfl]
  generalize w.alloc (.cells (bC [a, b, d, e]).toArray 33) = w1 at *
  obtain ⟨KB, hKB⟩ : ∃ KB, KB = w.heap.size := ⟨_, rfl⟩
  rw [← hKB] at HK1 ⊢
  clear hKB
  go_wp2_with fail
  refine (copied_calls (HR.out.fr HF1.out (fun _ _ h => h)) hm).mono ?_
  rintro e' w2 ⟨v, rfl, h2⟩
  have H2 := Aside0.mk h2
  have HK2 := Aside0.mk (HK1.out.fr h2.fr (fun h => h))
  have HF2 : Aside0 (Fr (fun _ => False) w w2) := ⟨HF1.out.trans h2.fr (fun _ _ h => h)⟩
  have c0 : w2.cell? ⟨KB, 0, none⟩ = some (.int .u8 (a : Int)) := HK2.out.cell 0 rfl
  have c1 : w2.cell? ⟨KB, 1, none⟩ = some (.int .u8 (b : Int)) := HK2.out.cell 1 rfl
  have c2 : w2.cell? ⟨KB, 2, none⟩ = some (.int .u8 (d : Int)) := HK2.out.cell 2 rfl
  have c3 : w2.cell? ⟨KB, 3, none⟩ = some (.int .u8 (e : Int)) := HK2.out.cell 3 rfl
  rcases h2.own.2 with ⟨e1, h0⟩ | ⟨g, cap, cur, e1, hg0, hg, k1, k2, k3, k4⟩
  · have hbs : bs = [] := List.length_eq_zero_iff.1 h0
    subst hbs
    clear h2 h0
    subst e1
    go_wp2_with fail
    refine (unmaskN_calls hp).mono ?_
    rintro e' w3 ⟨rfl, hf⟩
    have HF3 : Aside0 (Fr (fun _ => False) w w3) := ⟨HF2.out.trans hf (fun _ _ h => h)⟩
    clear hf c0 c1 c2 c3
    go_wp2
    go_ret
    exact ⟨_, rfl, ⟨⟨rfl, .inl ⟨rfl, rfl⟩⟩, HF3.out⟩⟩
  · obtain ⟨rest, hrest⟩ : ∃ rest, cur.toList = bC bs ++ rest := ⟨cur.toList.drop (bs.length * 1), by
      conv => lhs; rw [← List.take_append_drop (bs.length * 1) cur.toList, k4]⟩
    have hcur : cur = (bC bs ++ rest).toArray := by rw [← hrest, Array.toArray_toList]
    have hB : BufN w2 g 5 bs rest := ⟨by rw [← hcur]; exact hg⟩
    have hlen : (bC bs ++ rest).length = cap := by have := k3; rw [hcur] at this; simpa using this
    have HB := Aside0.mk hB
    have HX := Aside0.mk (And.intro hg0 (And.intro k1 (And.intro k2 hlen)))
    clear h2 hg0 hg k1 k2 k3 k4 hrest hcur hB hlen
    subst e1
    go_wp2_with fail
    refine (unmaskF_calls HKEY.out HBY.out HB.out hp hm HX.out.2.1 rfl).mono ?_
    rintro e' w3 ⟨rfl, hb, hf⟩
    have HF3 : Aside0 (Fr (fun _ => False) w w3) := ⟨HF2.out.trans hf (fun k hk e => by have := HX.out.1; have := HF1.out.size; omega)⟩
    have HB3 := Aside0.mk hb
    clear hf hb c0 c1 c2 c3
    go_wp2
    go_ret
    refine ⟨_, rfl, ⟨⟨by rw [bC_len, Nat.mul_one], .inr ⟨g, cap, _, by rw [mk_len]; rfl, by have := HX.out.1; have := HF1.out.size; omega, HB3.out.blk, by rw [mk_len]; exact HX.out.2.1, HX.out.2.2.1, ?_, ?_⟩⟩, HF3.out⟩⟩
    · have := HX.out.2.2.2
      rw [List.length_append, bC_len] at this
      simp [bC_len, mk_len]
      exact this
    · rw [Nat.mul_one, ← bC_len]
      simp
end Go.Proofs.Ytpgjcelglimpcaa.Mk
