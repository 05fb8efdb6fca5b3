/- fnv, Itoa, getHashPartition. -/
import Derived.Test.YtoopmpjgmgffoaaDoorTrXp
namespace Go.Proofs.YtoopmpjgmgffoaaDoor.Tr
open Go.RowKit Go.Proofs.YtoopmpjgmgffoaaDoor.Pl Go.Proofs.YtoopmpjgmgffoaaDoor.Bs Go.Proofs.YtoopmpjgmgffoaaDoorW.PrintWords Go.Proofs.YtoopmpjgmgffoaaDoorW.PrintLast Go.Proofs.YtoopmpjgmgffoaaDoorW.PrintMore Go.Proofs.YtoopmpjgmgffoaaDoor.GFnTransformBack Go.Proofs.YtoopmpjgmgffoaaDoor.PlFnTransformBack
set_option linter.unusedVariables false
set_option linter.unusedSimpArgs false
def smalls : List UInt8 := 48 :: 48 :: 48 :: 49 :: 48 :: 50 :: 48 :: 51 :: 48 :: 52 :: 48 :: 53 :: 48 :: 54 :: 48 :: 55 :: 48 :: 56 :: 48 :: 57 :: 49 :: 48 :: 49 :: 49 :: 49 :: 50 :: 49 :: 51 :: 49 :: 52 :: 49 :: 53 :: 49 :: 54 :: 49 :: 55 :: 49 :: 56 :: 49 :: 57 :: 50 :: 48 :: 50 :: 49 :: 50 :: 50 :: 50 :: 51 :: 50 :: 52 :: 50 :: 53 :: 50 :: 54 :: 50 :: 55 :: 50 :: 56 :: 50 :: 57 :: 51 :: 48 :: 51 :: 49 :: 51 :: 50 :: 51 :: 51 :: 51 :: 52 :: 51 :: 53 :: 51 :: 54 :: 51 :: 55 :: 51 :: 56 :: 51 :: 57 :: 52 :: 48 :: 52 :: 49 :: 52 :: 50 :: 52 :: 51 :: 52 :: 52 :: 52 :: 53 :: 52 :: 54 :: 52 :: 55 :: 52 :: 56 :: 52 :: 57 :: 53 :: 48 :: 53 :: 49 :: 53 :: 50 :: 53 :: 51 :: 53 :: 52 :: 53 :: 53 :: 53 :: 54 :: 53 :: 55 :: 53 :: 56 :: 53 :: 57 :: 54 :: 48 :: 54 :: 49 :: 54 :: 50 :: 54 :: 51 :: 54 :: 52 :: 54 :: 53 :: 54 :: 54 :: 54 :: 55 :: 54 :: 56 :: 54 :: 57 :: 55 :: 48 :: 55 :: 49 :: 55 :: 50 :: 55 :: 51 :: 55 :: 52 :: 55 :: 53 :: 55 :: 54 :: 55 :: 55 :: 55 :: 56 :: 55 :: 57 :: 56 :: 48 :: 56 :: 49 :: 56 :: 50 :: 56 :: 51 :: 56 :: 52 :: 56 :: 53 :: 56 :: 54 :: 56 :: 55 :: 56 :: 56 :: 56 :: 57 :: 57 :: 48 :: 57 :: 49 :: 57 :: 50 :: 57 :: 51 :: 57 :: 52 :: 57 :: 53 :: 57 :: 54 :: 57 :: 55 :: 57 :: 56 :: 57 :: 57 :: []
theorem smalls_at : ∀ m : Nat, m < 100 → 10 ≤ m → (smalls.take (m * 2 + 2)).drop (m * 2) = numB m := by decide +kernel
section
set_option maxHeartbeats 8000000
set_option maxRecDepth 100000
theorem small_calls {w : World} {n : Nat} (hn : n ≤ 99) : Calls Tryd.prog 89 #[.int .i64 (n : Int)] w fun e w' => e = .returned (.string (ba (numB n))) ∧ w' = w := by
  obtain ⟨x1, hx1⟩ : ∃ x1, x1 = n + 1 := ⟨_, rfl⟩
  obtain ⟨x2, hx2⟩ : ∃ x2, x2 = n * 2 := ⟨_, rfl⟩
  obtain ⟨x3, hx3⟩ : ∃ x3, x3 = x2 + 2 := ⟨_, rfl⟩
  have w1 : IntKind.i64.wrap ((n : Int) + 1) = (x1 : Int) := by rw [IntKind.wrap_i64]; omega
  have w2 : IntKind.i64.wrap ((n : Int) * 2) = (x2 : Int) := by rw [IntKind.wrap_i64]; omega
  have w3 : IntKind.i64.wrap ((x2 : Int) + 2) = (x3 : Int) := by rw [IntKind.wrap_i64]; omega
  have n0 : (0 : Int) ≤ (n : Int) := by omega
  have n1 : (n : Int) ≤ (x1 : Int) := by omega
  have n3 : (x2 : Int) ≤ (x3 : Int) := by omega
  have n4 : (x3 : Int) ≤ 200 := by omega
  have n5 : (0 : Int) ≤ (x2 : Int) := by omega
  by_cases h : n < 10
  · have h1 : decide ((n : Int) < 10) = true := decide_eq_true (by omega)
    have h2 : decide (n < 10) = true := decide_eq_true h
    have n6 : (x1 : Int) ≤ 36 := by omega
    have e : (⟨#[48, 49, 50, 51, 52, 53, 54, 55, 56, 57, 97, 98, 99, 100, 101, 102, 103, 104, 105, 106, 107, 108, 109, 110, 111, 112, 113, 114, 115, 116, 117, 118, 119, 120, 121, 122]⟩ : ByteArray).extract n x1 = ba (numB n) := by
      have : n = 0 ∨ n = 1 ∨ n = 2 ∨ n = 3 ∨ n = 4 ∨ n = 5 ∨ n = 6 ∨ n = 7 ∨ n = 8 ∨ n = 9 := by omega
      subst hx1
      rcases this with rfl | rfl | rfl | rfl | rfl | rfl | rfl | rfl | rfl | rfl <;> rfl
    have hz : (⟨#[48, 49, 50, 51, 52, 53, 54, 55, 56, 57, 97, 98, 99, 100, 101, 102, 103, 104, 105, 106, 107, 108, 109, 110, 111, 112, 113, 114, 115, 116, 117, 118, 119, 120, 121, 122]⟩ : ByteArray).size = 36 := rfl
    have HE := Aside0.mk e
    clear e h hx1 hx2 hx3 w2 w3 n3 n4 n5
    go_enter Tryd.func89, Tryd.ntmps89
    go_wp2_with fail
    go_ret
    exact ⟨congrArg (fun s => Ending.returned (Value.string s)) HE.out, rfl⟩
  have h1 : decide ((n : Int) < 10) = false := decide_eq_false (by omega)
  have h2 : decide (n < 10) = false := decide_eq_false h
  have HX := Aside0.mk (And.intro hx2 hx3)
  clear h hx1 hx2 hx3 w1 n1
  go_enter Tryd.func89, Tryd.ntmps89
  go_wp2_with fail
  go_ret
  refine ⟨?_, rfl⟩
  obtain ⟨hx2, hx3⟩ := HX.out
  subst hx3 hx2
  have key : (ba smalls).extract (n * 2) (n * 2 + 2) = ba (numB n) := by rw [ba_extract, smalls_at n (by omega) (by simpa using h2)]
  exact congrArg (fun s => Ending.returned (Value.string s)) key
theorem itoa_calls {w : World} {n : Nat} (hn : n ≤ 99) : Calls Tryd.prog 75 #[.int .i64 (n : Int)] w fun e w' => e = .returned (.string (ba (numB n))) ∧ w' = w := by
  have c88 : Calls Tryd.prog 88 #[.int .i64 (n : Int), .int .i64 10] w fun e w' => e = .returned (.string (ba (numB n))) ∧ w' = w := by
    have n0 : decide ((0 : Int) ≤ (n : Int)) = true := decide_eq_true (by omega)
    have n1 : decide ((n : Int) < 100) = true := decide_eq_true (by omega)
    have n2 : decide (n < 100) = true := decide_eq_true (by omega)
    have HS := Aside0.mk (small_calls (w := w) hn)
    clear hn
    go_enter Tryd.func88, Tryd.ntmps88
    go_wp2_with fail
    refine HS.out.mono ?_
    rintro e w' ⟨rfl, rfl⟩
    go_wp2_with fail
    go_ret
    exact ⟨rfl, rfl⟩
  have c83 : Calls Tryd.prog 83 #[.int .i64 (n : Int)] w fun e w' => e = .returned (.string (ba (numB n))) ∧ w' = w := by
    have HS := Aside0.mk c88
    clear c88
    go_enter Tryd.func83, Tryd.ntmps83
    go_wp2_with fail
    refine HS.out.mono ?_
    rintro e w' ⟨rfl, rfl⟩
    go_wp2_with fail
    go_ret
    exact ⟨rfl, rfl⟩
  have HS := Aside0.mk c83
  clear c83 c88
  go_enter Tryd.func75, Tryd.ntmps75
  go_wp2_with fail
  refine HS.out.mono ?_
  rintro e w' ⟨rfl, rfl⟩
  go_wp2_with fail
  go_ret
  exact ⟨rfl, rfl⟩
theorem sum_calls {w : World} {p h : Nat} (hp : w.cell? ⟨p, 0, none⟩ = some (.int .u32 (h : Int))) : Calls Tryd.prog 122 #[.pointer (some ⟨p, 0, none⟩)] w fun e w' => e = .returned (.int .u32 (h : Int)) ∧ w' = w := by
  go_enter Tryd.func122, Tryd.ntmps122
  go_wp2_with fail
  go_ret
  exact ⟨rfl, rfl⟩
theorem fnv_step (h : Nat) (x : UInt8) (y : Nat) (hy : h ^^^ x.toNat = y) : IntKind.u32.wrap ((y : Int) * 16777619) = ((fnvS h x : Nat) : Int) := by
  rw [IntKind.wrap_u32]
  unfold fnvS
  rw [hy]
  omega
theorem fold_one (h : Nat) (x : UInt8) : (Option.toList (some x)).foldl fnvS h = fnvS h x := by
  rw [Option.toList_some, List.foldl_cons, List.foldl_nil]
theorem fnv_lt (h : Nat) (x : UInt8) : fnvS h x < 4294967296 := Nat.mod_lt _ (by decide)
theorem fnv_fold : ∀ (l : List UInt8) (h : Nat), h < 4294967296 → l.foldl fnvS h < 4294967296
  | [], h, hh => hh
  | c :: l, h, hh => by rw [List.foldl_cons]; exact fnv_fold l _ (fnv_lt h c)
theorem write_calls {w : World} {p h0 : Nat} {A : Option Addr} {c : Nat} {l : List UInt8} (hp : Blk w p 108 [.int .u32 (h0 : Int)]) (hh : h0 < 4294967296) (hr : ReadG w A l.length 1 (Lib.byteCells l)) (hl : l.length ≤ 1000000) :
    Calls Tryd.prog 123 #[.pointer (some ⟨p, 0, none⟩), .slice A l.length c] w fun e w' => e = .returned (.tuple #[.int .i64 (l.length : Int), .nilIface]) ∧ Blk w' p 108 [.int .u32 ((l.foldl fnvS h0 : Nat) : Int)] ∧ Fr (fun k => k = p) w w' := by
  have HR := Aside0.mk hr
  have HB := Aside0.mk hp
  have HL := Aside0.mk hl
  have HH0 := Aside0.mk hh
  have c0 := hp.cell 0 rfl
  have f0 := hp.free 0
  clear hr hp hl hh
  go_enter Tryd.func123, Tryd.ntmps123
  go_wp2_with fail
  go_loopg [6, 14] l.length (fun kq v6 v14 wr => ∃ (i h : Nat), v14 = .int .i64 (i : Int) ∧ v6 = .int .u32 (h : Int) ∧ Aside0 (kq + i = l.length ∧ i ≤ l.length) ∧ Aside0 (h = (l.take i).foldl fnvS h0 ∧ h < 4294967296) ∧ wr = w)
  case atStart => exact ⟨0, h0, rfl, rfl, ⟨by omega⟩, ⟨rfl, HH0.out⟩, rfl⟩
  case round =>
    obtain ⟨i, h, rfl, rfl, HI, HH, rfl⟩ := hrel
    have i0 : (0 : Int) ≤ (i : Int) := by omega
    by_cases hlt : i < l.length
    · have i1 : (i : Int) < (l.length : Int) := by omega
      have i2 : decide ((i : Int) < (l.length : Int)) = true := decide_eq_true i1
      have i5 : IntKind.i64.wrap ((i : Int) + 1) = ((i + 1 : Nat) : Int) := by rw [IntKind.wrap_i64]; have := HL.out; omega
      obtain ⟨x, hx⟩ : ∃ x, l[i]? = some x := ⟨_, List.getElem?_eq_getElem hlt⟩
      obtain ⟨aa, rfl, hra⟩ := HR.out.read (by unfold Lib.byteCells; simp; omega)
      have ua := hra i (.int .u8 (x.toNat : Int)) (by unfold Lib.byteCells; rw [List.getElem?_map, hx]; rfl)
      have hxl := x.toNat_lt
      have u1 : IntKind.u32.wrap (x.toNat : Int) = (x.toNat : Int) := by rw [IntKind.wrap_u32]; omega
      have u2 : bits .xor .u32 (h : Int) (x.toNat : Int) = ((h ^^^ x.toNat : Nat) : Int) := u32_xor_nat h x.toNat HH.out.2 (by omega)
      obtain ⟨y, hy⟩ : ∃ y, h ^^^ x.toNat = y := ⟨_, rfl⟩
      rw [hy] at u2
      have u3 : IntKind.u32.wrap ((y : Int) * 16777619) = ((fnvS h x : Nat) : Int) := fnv_step h x y hy
      have HN : Aside0 (fnvS h x = (l.take (i + 1)).foldl fnvS h0 ∧ fnvS h x < 4294967296) := ⟨by
        rw [List.take_add_one, hx, List.foldl_append, ← HH.out.1, fold_one], fnv_lt h x⟩
      have HLT := Aside0.mk hlt
      clear hra hx hlt hxl hy
      generalize fnvS h x = h2 at u3 HN
      go_wp2_with fail
      go_roundg (l.length - (i + 1))
      case measure => have := HI.out; have := HLT.out; omega
      case rel => exact ⟨i + 1, h2, rfl, rfl, ⟨by have := HLT.out; omega⟩, HN, rfl⟩
    have hie : i = l.length := by have := HI.out; omega
    subst hie
    have i2 : decide ((l.length : Int) < (l.length : Int)) = false := decide_eq_false (by omega)
    have HH2 : Aside0 (h = l.foldl fnvS h0) := ⟨by have := HH.out.1; rw [List.take_length] at this; exact this⟩
    clear hlt
    go_wp2_with fail
    have HX := HB.out.set 0 (by simp) (.int .u32 (h : Int))
    have HF : Fr (fun k => k = p) wr (wr.setCell ⟨p, 0, none⟩ (.int .u32 (h : Int))) := (Fr.refl (fun k => k = p) wr).set (p := ⟨p, 0, none⟩) (.inl rfl) _
    go_ret2
    exact ⟨rfl, by rw [← HH2.out]; exact HX, HF⟩
theorem newh_calls {w : World} : Calls Tryd.prog 74 #[] w fun e w' => e = .returned (.iface 109 (.pointer (some ⟨w.heap.size, 0, none⟩))) ∧ w' = (w.alloc (.cells #[.int .u32 2166136261] 108)) := by
  go_enter Tryd.func74, Tryd.ntmps74
  go_wp2_with fail
  go_ret
  exact ⟨rfl, rfl⟩
theorem m_write (g : Nat) (w : World) : Sem.run Tryd.prog (method 245 109 (.pointer (some ⟨g, 0, none⟩)) "Write") w = .ok (123, .pointer (some ⟨g, 0, none⟩)) w := by kernel_rfl
theorem m_sum (g : Nat) (w : World) : Sem.run Tryd.prog (method 245 109 (.pointer (some ⟨g, 0, none⟩)) "Sum32") w = .ok (122, .pointer (some ⟨g, 0, none⟩)) w := by kernel_rfl
theorem hash_calls {w : World} {m : Value} {A : Option Addr} {c n : Nat} {l : List UInt8} (hr : ReadG w A l.length 1 (Lib.byteCells l)) (hl : l.length ≤ 1000000) (hn : 1 ≤ n ∧ n ≤ 99) :
    Calls Tryd.prog 64 #[m, .slice A l.length c, .int .i64 (n : Int)] w fun e w' => e = .returned (.string (ba (numB (fnvB l % n)))) ∧ Same w w' := by
  have HR := Aside0.mk hr
  have HL := Aside0.mk hl
  have HN := Aside0.mk hn
  have n0 : ((n : Int) == 0) = false := by rw [beq_eq_false_iff_ne]; omega
  have n1 : IntKind.u32.wrap (n : Int) = (n : Int) := by rw [IntKind.wrap_u32]; omega
  clear hr hl hn
  go_enter Tryd.func64, Tryd.ntmps64
  go_wp2_with fail
  refine newh_calls.mono ?_
  rintro e w1 ⟨rfl, rfl⟩
  obtain ⟨h0, hh0⟩ : ∃ h0 : Nat, h0 = 2166136261 := ⟨_, rfl⟩
  have HH0 := Aside0.mk hh0
  have HB : Aside0 (Blk (w.alloc (.cells #[.int .u32 2166136261] 108)) w.heap.size 108 [.int .u32 (h0 : Int)]) := ⟨by rw [hh0]; exact Blk.new _ _ _⟩
  have HS : Aside0 (Same w (w.alloc (.cells #[.int .u32 2166136261] 108))) := ⟨(Fr.refl _ w).alloc _⟩
  clear hh0
  obtain ⟨g, hg⟩ : ∃ g, w.heap.size = g := ⟨_, rfl⟩
  rw [hg] at HB ⊢
  have HG := Aside0.mk hg
  clear hg
  generalize w.alloc (.cells #[.int .u32 2166136261] 108) = w1 at HB HS ⊢
  have hm1 := m_write g
  have hm2 := m_sum g
  go_wp2_with fail
  refine (write_calls HB.out (by rw [HH0.out]; decide) (HR.out.fr HS.out (fun _ _ h => h)) HL.out).mono ?_
  rintro e w2 ⟨rfl, hb2, hf2⟩
  have HB2 := Aside0.mk hb2
  have HS2 : Aside0 (Same w w2) := ⟨HS.out.trans hf2 (fun k hk e => by have := HG.out; omega)⟩
  have hlt := fnv_fold l h0 (by rw [HH0.out]; decide)
  have hfn : l.foldl fnvS h0 = fnvB l := by rw [HH0.out]; rfl
  rw [hfn] at HB2 hlt
  have HFB := Aside0.mk hlt
  obtain ⟨fv, hfv⟩ : ∃ fv, fnvB l = fv := ⟨_, rfl⟩
  rw [hfv] at HB2 HFB
  have HFV := Aside0.mk hfv
  clear hb2 hf2 hlt hfn hfv
  go_wp2_with fail
  refine (sum_calls (HB2.out.cell 0 rfl)).mono ?_
  rintro e w3 ⟨rfl, rfl⟩
  have hr0 : Int.tmod (fv : Int) (n : Int) = ((fv % n : Nat) : Int) := by rw [Int.tmod_eq_emod_of_nonneg (by omega)]; omega
  obtain ⟨rm, hrm⟩ : ∃ rm, fv % n = rm := ⟨_, rfl⟩
  rw [hrm] at hr0
  have HRQ : Aside0 (fnvB l % n = rm) := ⟨by rw [HFV.out]; exact hrm⟩
  have HRM : Aside0 (rm ≤ 98) := ⟨by have := Nat.mod_lt fv (show n > 0 by have := HN.out; omega); have := HN.out; omega⟩
  have hr1 : IntKind.u32.wrap (rm : Int) = (rm : Int) := by rw [IntKind.wrap_u32]; have := HRM.out; omega
  have hr2 : IntKind.i64.wrap (rm : Int) = (rm : Int) := by rw [IntKind.wrap_i64]; have := HRM.out; omega
  have hr3 : ¬ (n : Int) = 0 := by have := HN.out; omega
  have hr4 : ¬ n = 0 := by have := HN.out; omega
  clear hrm
  go_wp2_with fail
  refine (itoa_calls (n := rm) (by have := HRM.out; omega)).mono ?_
  rintro e w4 ⟨rfl, rfl⟩
  go_wp2_with fail
  go_ret
  exact ⟨by rw [HRQ.out]; rfl, HS2.out⟩
end
end Go.Proofs.YtoopmpjgmgffoaaDoor.Tr
