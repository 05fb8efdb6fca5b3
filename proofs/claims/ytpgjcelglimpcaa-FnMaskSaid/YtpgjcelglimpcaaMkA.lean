/- Bytes under a mask, as plain data; rows of bytes. -/
import Derived.Test.YtpgjcelglimpcaaBs
import Derived.Test.YtpgjcelglimpcaaProg
namespace Go.Proofs.Ytpgjcelglimpcaa.Mk
open Go.Proofs.Ytpgjcelglimpcaa.Bs Go.RowKit Go.Proofs.YtpgjcelglimpcaaW.PrintWords Go.Proofs.YtpgjcelglimpcaaW.PrintLast Go.Proofs.YtpgjcelglimpcaaW.PrintMore
set_option linter.unusedVariables false
set_option linter.unusedSimpArgs false

/-- Bytes under a mask of four. -/
def mk (key : List Nat) : Nat → List Nat → List Nat
  | _, [] => []
  | p, b :: bs => (b ^^^ key.getD (p % 4) 0) :: mk key (p + 1) bs
theorem mk_len (key : List Nat) : ∀ (bs : List Nat) (p : Nat), (mk key p bs).length = bs.length
  | [], _ => rfl
  | b :: bs, p => congrArg Nat.succ (mk_len key bs (p + 1))
theorem mk_twice (key : List Nat) : ∀ (bs : List Nat) (p : Nat), mk key p (mk key p bs) = bs
  | [], _ => rfl
  | b :: bs, p => by rw [mk, mk, mk_twice key bs (p + 1), Nat.xor_assoc, Nat.xor_self, Nat.xor_zero]
theorem mk_append (key : List Nat) : ∀ (cs bs : List Nat) (p : Nat), mk key p (cs ++ bs) = mk key p cs ++ mk key (p + cs.length) bs
  | [], bs, p => rfl
  | a :: cs, bs, p => by
    rw [List.cons_append, mk, mk, mk_append key cs bs (p + 1), List.cons_append, List.length_cons, show p + 1 + cs.length = p + (cs.length + 1) by omega]
theorem mk_snoc (key : List Nat) (bs : List Nat) (p : Nat) {i b : Nat} (h : bs[i]? = some b) : mk key p (bs.take (i + 1)) = mk key p (bs.take i) ++ [b ^^^ key.getD ((p + i) % 4) 0] := by
  have hi := (List.getElem?_eq_some_iff.1 h).1
  have e : bs.take (i + 1) = bs.take i ++ [b] := by rw [List.take_add_one, h]; rfl
  rw [e, mk_append]
  have : (bs.take i).length = i := by rw [List.length_take]; omega
  rw [this]
  rfl
theorem mk_mod (key : List Nat) : ∀ (bs : List Nat) (p : Nat), mk key (p % 4) bs = mk key p bs
  | [], p => rfl
  | b :: bs, p => by
    rw [mk, mk, Nat.mod_mod, ← mk_mod key bs (p + 1), ← mk_mod key bs (p % 4 + 1), Nat.mod_add_mod]
def Byt (bs : List Nat) : Prop := ∀ b ∈ bs, b < 256
theorem xor_lt {a b : Nat} (ha : a < 256) (hb : b < 256) : a ^^^ b < 256 := Nat.xor_lt_two_pow (n := 8) ha hb
theorem getD_lt {key : List Nat} (h : Byt key) (i : Nat) : key.getD i 0 < 256 := by
  rw [List.getD_eq_getElem?_getD]
  cases hk : key[i]? with
  | none => simp
  | some v => exact h v (List.mem_of_getElem? hk)
theorem mk_byt {key : List Nat} (hk : Byt key) : ∀ (bs : List Nat) (p : Nat), Byt bs → Byt (mk key p bs)
  | [], _, _ => fun b h => by cases h
  | b :: bs, p, h => fun c hc => by
    rw [mk] at hc
    rcases List.mem_cons.1 hc with rfl | hc
    · exact xor_lt (h b List.mem_cons_self) (getD_lt hk _)
    · exact mk_byt hk bs (p + 1) (fun b hb => h b (List.mem_cons_of_mem _ hb)) c hc

/-! ### numbers of the machine -/
theorem ofInt_u8 (a : Nat) (ha : a < 256) : (BitVec.ofInt 8 (a : Int)).toNat = a := by
  rw [BitVec.ofInt_natCast, BitVec.toNat_ofNat]; exact Nat.mod_eq_of_lt (by omega)
theorem ofInt_u64 (a : Nat) (ha : a < 18446744073709551616) : (BitVec.ofInt 64 (a : Int)).toNat = a := by
  rw [BitVec.ofInt_natCast, BitVec.toNat_ofNat]; exact Nat.mod_eq_of_lt (by omega)
theorem u8_xor {a b : Nat} (ha : a < 256) (hb : b < 256) : bits .xor .u8 (a : Int) (b : Int) = ((a ^^^ b : Nat) : Int) := by
  have hx := xor_lt ha hb
  show IntKind.u8.wrap ((BitVec.ofInt 8 (a : Int) ^^^ BitVec.ofInt 8 (b : Int)).toNat : Int) = _
  rw [BitVec.toNat_xor, ofInt_u8 a ha, ofInt_u8 b hb, IntKind.wrap_u8]
  omega
theorem u64_xor {a b : Nat} (ha : a < 18446744073709551616) (hb : b < 18446744073709551616) : bits .xor .u64 (a : Int) (b : Int) = ((a ^^^ b : Nat) : Int) := by
  have hx : a ^^^ b < 2 ^ 64 := Nat.xor_lt_two_pow (by omega) (by omega)
  show IntKind.u64.wrap ((BitVec.ofInt 64 (a : Int) ^^^ BitVec.ofInt 64 (b : Int)).toNat : Int) = _
  rw [BitVec.toNat_xor, ofInt_u64 a ha, ofInt_u64 b hb, IntKind.wrap_u64]
  omega
theorem u64_or {a b : Nat} (ha : a < 18446744073709551616) (hb : b < 18446744073709551616) : bits .or .u64 (a : Int) (b : Int) = ((a ||| b : Nat) : Int) := by
  have hx : a ||| b < 2 ^ 64 := Nat.or_lt_two_pow (by omega) (by omega)
  show IntKind.u64.wrap ((BitVec.ofInt 64 (a : Int) ||| BitVec.ofInt 64 (b : Int)).toNat : Int) = _
  rw [BitVec.toNat_or, ofInt_u64 a ha, ofInt_u64 b hb, IntKind.wrap_u64]
  omega
theorem and3 (p : Nat) (hp : p < 4294967296) : bits .and .i64 (p : Int) 3 = ((p % 4 : Nat) : Int) := by
  show IntKind.i64.wrap ((BitVec.ofInt 64 (p : Int) &&& BitVec.ofInt 64 ((3 : Nat) : Int)).toNat : Int) = _
  rw [BitVec.toNat_and, ofInt_u64 p (by omega), ofInt_u64 3 (by omega)]
  have e : p &&& 3 = p % 4 := Nat.and_two_pow_sub_one_eq_mod p 2
  rw [e, IntKind.wrap_i64]
  omega
theorem or_low {a b k : Nat} (ha : a < 2 ^ k) : a ||| (b * 2 ^ k) = a + b * 2 ^ k := by
  have h := Nat.two_pow_add_eq_or_of_lt (i := k) ha b
  rw [Nat.or_comm, Nat.mul_comm b (2 ^ k), ← h]
  omega
/-- Eight bytes, the greatest first. -/
def be8 (a b c d e f g h : Nat) : Nat := h + g * 256 + f * 65536 + e * 16777216 + d * 4294967296 + c * 1099511627776 + b * 281474976710656 + a * 72057594037927936
theorem or_step {x y s : Nat} (k : Nat) (hx : x < 2 ^ k) (hs : s = 2 ^ k) (hk : x + y * s < 18446744073709551616) : bits .or .u64 (x : Int) ((y : Int) * (s : Int)) = ((x + y * s : Nat) : Int) := by
  have e : ((y : Int) * (s : Int)) = ((y * s : Nat) : Int) := by simp
  rw [e, u64_or (by omega) (by omega), hs, or_low hx]
theorem be8_or {a b c d e f g h : Nat} (ha : a < 256) (hb : b < 256) (hc : c < 256) (hd : d < 256) (he : e < 256) (hf : f < 256) (hg : g < 256) (hh : h < 256) :
    bits .or .u64 (bits .or .u64 (bits .or .u64 (bits .or .u64 (bits .or .u64 (bits .or .u64 (bits .or .u64 (h : Int) ((g : Int) * 256)) ((f : Int) * 65536)) ((e : Int) * 16777216)) ((d : Int) * 4294967296)) ((c : Int) * 1099511627776)) ((b : Int) * 281474976710656)) ((a : Int) * 72057594037927936) = ((be8 a b c d e f g h : Nat) : Int) := by
  have e1 : bits .or .u64 ((h : Nat) : Int) ((g : Int) * 256) = ((h + g * 256 : Nat) : Int) := or_step (x := h) (y := g) (s := 256) 8 (by omega) (by decide) (by omega)
  have e2 : bits .or .u64 ((h + g * 256 : Nat) : Int) ((f : Int) * 65536) = ((h + g * 256 + f * 65536 : Nat) : Int) := or_step (x := h + g * 256) (y := f) (s := 65536) 16 (by omega) (by decide) (by omega)
  have e3 : bits .or .u64 ((h + g * 256 + f * 65536 : Nat) : Int) ((e : Int) * 16777216) = ((h + g * 256 + f * 65536 + e * 16777216 : Nat) : Int) := or_step (x := h + g * 256 + f * 65536) (y := e) (s := 16777216) 24 (by omega) (by decide) (by omega)
  have e4 : bits .or .u64 ((h + g * 256 + f * 65536 + e * 16777216 : Nat) : Int) ((d : Int) * 4294967296) = ((h + g * 256 + f * 65536 + e * 16777216 + d * 4294967296 : Nat) : Int) := or_step (x := h + g * 256 + f * 65536 + e * 16777216) (y := d) (s := 4294967296) 32 (by omega) (by decide) (by omega)
  have e5 : bits .or .u64 ((h + g * 256 + f * 65536 + e * 16777216 + d * 4294967296 : Nat) : Int) ((c : Int) * 1099511627776) = ((h + g * 256 + f * 65536 + e * 16777216 + d * 4294967296 + c * 1099511627776 : Nat) : Int) := or_step (x := h + g * 256 + f * 65536 + e * 16777216 + d * 4294967296) (y := c) (s := 1099511627776) 40 (by omega) (by decide) (by omega)
  have e6 : bits .or .u64 ((h + g * 256 + f * 65536 + e * 16777216 + d * 4294967296 + c * 1099511627776 : Nat) : Int) ((b : Int) * 281474976710656) = ((h + g * 256 + f * 65536 + e * 16777216 + d * 4294967296 + c * 1099511627776 + b * 281474976710656 : Nat) : Int) := or_step (x := h + g * 256 + f * 65536 + e * 16777216 + d * 4294967296 + c * 1099511627776) (y := b) (s := 281474976710656) 48 (by omega) (by decide) (by omega)
  have e7 : bits .or .u64 ((h + g * 256 + f * 65536 + e * 16777216 + d * 4294967296 + c * 1099511627776 + b * 281474976710656 : Nat) : Int) ((a : Int) * 72057594037927936) = ((h + g * 256 + f * 65536 + e * 16777216 + d * 4294967296 + c * 1099511627776 + b * 281474976710656 + a * 72057594037927936 : Nat) : Int) := or_step (x := h + g * 256 + f * 65536 + e * 16777216 + d * 4294967296 + c * 1099511627776 + b * 281474976710656) (y := a) (s := 72057594037927936) 56 (by omega) (by decide) (by omega)
  rw [e1, e2, e3, e4, e5, e6, e7]
  rfl
theorem byte_xor (x y s : Nat) : (x ^^^ y) / 2 ^ s % 256 = (x / 2 ^ s % 256) ^^^ (y / 2 ^ s % 256) := by
  have h1 : ∀ z : Nat, z / 2 ^ s % 256 = (z >>> s) % 2 ^ 8 := fun z => by rw [Nat.shiftRight_eq_div_pow]
  rw [h1, h1, h1, Nat.shiftRight_xor_distrib, Nat.xor_mod_two_pow]

/-! ### rows of bytes -/
def bC (bs : List Nat) : List Value := bs.map (fun (b : Nat) => Value.int .u8 (b : Int))
theorem bC_len (bs : List Nat) : (bC bs).length = bs.length := by simp [bC]
theorem bC_get {bs : List Nat} {i b : Nat} (h : bs[i]? = some b) : (bC bs)[i]? = some (.int .u8 (b : Int)) := by simp [bC, h]
theorem bC_one (bs : List Nat) : ∀ u ∈ bC bs, u.oneCell' = true := fun u hu => by
  obtain ⟨b, _, rfl⟩ := List.mem_map.1 hu
  rfl
theorem bC_append (cs bs : List Nat) : bC (cs ++ bs) = bC cs ++ bC bs := by simp [bC]
theorem info5 : (Try.prog.info? 5).map (fun i => (i.zero, i.size, i.bytes)) = some (some (.int .u8 0), 1, 1) := by kernel_rfl
theorem elem5 : ∃ i, ElemK Try.prog 24 5 i (.int .u8 0) 1 1 := elem_of (by kernel_rfl) info5 (by kernel_rfl) (by omega) (by omega)
/-- Bytes that are read. -/
abbrev BytR (W : World) (X : Option Addr) (bs : List Nat) : Prop := ReadG W X bs.length 1 (bC bs)
theorem BytR.get {W : World} {X : Option Addr} {bs : List Nat} (h : BytR W X bs) {i b : Nat} (hb : bs[i]? = some b) : ∃ ad, X = some ad ∧ W.cell? (ad.add i) = some (.int .u8 (b : Int)) := by
  obtain ⟨ad, rfl, hc⟩ := h.read (by rw [bC_len]; have := (List.getElem?_eq_some_iff.1 hb).1; omega)
  exact ⟨ad, rfl, hc _ _ (bC_get hb)⟩
end Go.Proofs.Ytpgjcelglimpcaa.Mk
