/- server.getHeader, impl.HeaderGet, by hand. -/
import Derived.Test.YtnkioieocjgekaaHgA
import Derived.Laws.Cover3
import Derived.Laws.MakeOwn
namespace Go.Proofs.Ytnkioieocjgekaa.Hg
open Go.RowKit Go.Proofs.YtnkioieocjgekaaW.PrintWords Go.Proofs.YtnkioieocjgekaaW.PrintLast Go.Proofs.YtnkioieocjgekaaW.PrintMore
set_option linter.unusedVariables false
set_option linter.unusedSimpArgs false

/-- A line's value, behind its separator. -/
def value (l : List Int) (p : Nat) : List Int := (l.take (p + skip (l.drop p) + toEnd (l.drop (p + skip (l.drop p))))).drop (p + skip (l.drop p))
def iC (xs : List Int) : List Value := xs.map (Value.int .u8)
theorem iC_one (xs : List Int) : ∀ u ∈ iC xs, u.oneCell' = true := fun u hu => by
  obtain ⟨b, _, rfl⟩ := List.mem_map.1 hu
  rfl
theorem info5 : (Try.prog.info? 5).map (fun i => (i.zero, i.size, i.bytes)) = some (some (.int .u8 0), 1, 1) := by kernel_rfl
theorem elem5 : ∃ i, Bs.ElemK Try.prog 28 5 i (.int .u8 0) 1 1 := Bs.elem_of (by kernel_rfl) info5 (by kernel_rfl) (by omega) (by omega)
theorem row_madeG {w2 W : World} {g n : Nat} {e : TypeId} {cur : List Value} (hf : Bs.Fr (fun _ => False) w2 W) (hb : W.heap[g]? = some (.cells cur.toArray e (0, 0))) (hh : w2.heap.size ≤ g) (hn : n ≤ maxLen) (hc : cur.length = n) : Bs.RowG w2 W e 1 (.slice (some ⟨g, 0, none⟩) 0 n) 0 [] :=
  ⟨⟨by simp, .inr ⟨g, n, cur.toArray, rfl, hh, hb, Nat.zero_le _, hn, by simp; omega, by simp⟩⟩, hf⟩
theorem read_mid {w : World} {ad X : Addr} {l : List Int} {i j : Nat} (hR : Kd.C (Kd.int .u8) w (some ad) l.length l) (hij : i ≤ j) (hj : j ≤ l.length) (hX : i < j → X = ad.add i) : Bs.ReadG w (some X) (j - i) 1 (iC ((l.take j).drop i)) := by
  have hlen : ((l.take j).drop i).length = j - i := by rw [List.length_drop, List.length_take]; omega
  refine ⟨by rw [iC, List.length_map, hlen, Nat.mul_one], iC_one _, fun h0 => ⟨X, rfl, fun k u hu => ?_⟩⟩
  rw [iC, List.length_map, hlen] at h0
  rw [iC, List.getElem?_map, Option.map_eq_some_iff] at hu
  obtain ⟨z, hz, rfl⟩ := hu
  rw [List.getElem?_drop, List.getElem?_take] at hz
  split at hz
  · rw [hX (by omega), Bs.add_add']
    exact cell_of hR (Below.refl _ _) hz
  · cases hz
theorem eq_nil (w : World) (X : Option Addr) (n c : Nat) : (binOp .eql 28 (.slice X n c) (.slice none 0 0)).run Try.prog w = .ok (.bool X.isNone) w := by
  have h := run_equal_slice_nil (P := Try.prog) w 28 5 X n c Try.underlying28
  simp [binOp, h]
def GetPost (w : World) (l : List Int) (m : Nat) (ix : Int) (e : Ending) (w' : World) : Prop := Below w.heap.size w w' ∧ ((ix = -1 ∧ e = .returned (.slice none 0 0)) ∨
  (0 ≤ ix ∧ ∃ Y n c, e = .returned (.slice (some Y) n c) ∧ Bs.RowG w w' 5 1 (.slice (some Y) n c) n (iC (value l (ix.toNat + m + 1)))))
set_option maxHeartbeats 8000000 in
set_option maxRecDepth 100000 in
theorem get_calls {w : World} {ad : Addr} {c : Nat} {l : List Int} {key : ByteArray} {ix : Int} (hR : Kd.C (Kd.int .u8) w (some ad) l.length l) (hl : l.length ≤ 1000000) (hx : ix = -1 ∨ 0 ≤ ix ∧ ix + key.size + 1 ≤ l.length)
    (hS : Calls Try.prog 27 #[.string key, .slice (some ad) l.length c] w (SlPost w ad l key.size ix)) :
    Calls Try.prog 25 #[.string key, .slice (some ad) l.length c] w (GetPost w l key.size ix) := by
  obtain ⟨i0, hK⟩ := elem5
  have K5 := Aside0.mk hK
  have HR := Aside0.mk hR
  have HL := Aside0.mk hl
  have HS := Aside0.mk hS
  have HX := Aside0.mk hx
  clear hR hl hS hK hx
  go_enter Try.func25, Try.ntmps25
  go_wp2_with fail
  refine HS.out.mono ?_
  rintro e w1 ⟨hb, ⟨rfl, rfl⟩ | ⟨hx0, i, j, X, hi, hj, rfl, hX⟩⟩
  · have HB := Aside0.mk hb
    clear hb
    have hq := eq_nil w1 none 0 0
    simp only [Option.isNone] at hq
    go_wp2
    go_ret
    exact ⟨HB.out, .inl ⟨by first | rfl | trivial, rfl⟩⟩
  · have HB := Aside0.mk hb
    have hij : i ≤ j := by omega
    have hjl : j ≤ l.length := by
      have h1 := toEnd_le (l.drop i)
      have h2 := skip_le (l.drop (ix.toNat + key.size + 1))
      rw [List.length_drop] at h1 h2
      have := HX.out
      omega
    have HRD := Aside0.mk (fun (W : World) (hB : Below w.heap.size w W) => read_mid (Kd.C_below HR.out hB) hij hjl hX)
    have HV : Aside0 ((l.take j).drop i = value l (ix.toNat + key.size + 1)) := ⟨by unfold value; rw [hj, hi]⟩
    obtain ⟨n, hn⟩ : ∃ n, n = j - i := ⟨_, rfl⟩
    have HN : Aside0 (n ≤ 1000000 ∧ n = j - i) := ⟨by have := HL.out; omega, hn⟩
    have n0 : (0 : Int) ≤ (n : Int) := by omega
    have n1 : (n : Int) ≤ 9223372036854775807 := by have := HN.out.1; omega
    have n2 : (n : Int) ≤ 140737488355328 := by have := HN.out.1; omega
    have n3 : n ≤ 140737488355328 := by have := HN.out.1; omega
    rw [← hn] at HRD ⊢
    have HHX := Aside0.mk hx0
    clear hb hi hj hX hij hjl hn hx0
    have hq := eq_nil w1 (some X) n n
    simp only [Option.isNone] at hq
    obtain ⟨w2, hm, ho, hg⟩ := run_make_own (P := Try.prog) w1 w.heap.size 28 5 i0 (.int .u8 0) 1 K5.out.under K5.out.info K5.out.zero K5.out.sz .i64 .i64 n (by rw [K5.out.by_]; have := HN.out.1; omega) (by have := HN.out.1; unfold maxLen; omega) HB.out.size
    have HRW : Aside0 (Bs.RowG w w2 5 1 (.slice (some ⟨w1.heap.size, 0, none⟩) 0 n) 0 []) := ⟨⟨ho, (Bs.fr_of_below HB.out).trans (Bs.Fr.grown hg) (fun _ _ h => by cases h)⟩⟩
    have HRR : Aside0 (∀ W, Bs.Fr (fun _ => False) w W → Bs.ReadG W (some X) n 1 (iC ((l.take j).drop i))) := ⟨fun W hf => HRD.out W (Bs.below_of_fr hf)⟩
    clear ho hg
    go_wp2_with (at_builtin; refine Bs.wpList_rowG K5.out rfl (.tmp 13) (.tmp 14) rfl (w2 := w) (n := 0) (xs := []) (m := n) (ys := iC ((l.take j).drop i)) rfl HRW.out rfl (HRR.out _) (by have := HN.out.1; omega) (fun v1 w3 h1 hg1 ha1 => ?_))
    obtain ⟨Y, c1, rfl⟩ : ∃ Y c1, v1 = .slice (some Y) n c1 := by
      rcases h1.own.2 with ⟨rfl, h0⟩ | ⟨g, cap, cur, rfl, -⟩
      · rcases ha1 with ha | ha <;> (have hb : (none : Option Nat) = some _ := ha; cases hb)
      · exact ⟨_, cap, by rw [Nat.zero_add]⟩
    have H1 := Aside0.mk h1
    clear h1 hg1 ha1
    go_wp2
    go_ret
    refine ⟨Bs.below_of_fr H1.out.fr, .inr ⟨HHX.out, Y, n, c1, rfl, ?_⟩⟩
    have := H1.out
    rw [Nat.zero_add, List.nil_append, HV.out] at this
    exact this
theorem neq_nil (w : World) (X : Option Addr) (n c : Nat) : (binOp .neq 28 (.slice X n c) (.slice none 0 0)).run Try.prog w = .ok (.bool (!X.isNone)) w := run_neq_slice_nil w 28 5 X n c Try.underlying28
def HgPost (w : World) (l : List Int) (m : Nat) (ix : Int) (e : Ending) (w' : World) : Prop := Below w.heap.size w w' ∧ ((ix = -1 ∧ e = .returned (.tuple #[.slice none 0 0, .bool false])) ∨
  (0 ≤ ix ∧ ∃ Y n c, e = .returned (.tuple #[.slice (some Y) n c, .bool true]) ∧ Bs.RowG w w' 5 1 (.slice (some Y) n c) n (iC (value l (ix.toNat + m + 1)))))
set_option maxHeartbeats 8000000 in
set_option maxRecDepth 100000 in
theorem header_calls {w : World} {ad : Addr} {c : Nat} {l : List Int} {key : ByteArray} {ix : Int}
    (hG : Calls Try.prog 25 #[.string key, .slice (some ad) l.length c] w (GetPost w l key.size ix)) :
    Calls Try.prog 10 #[.slice (some ad) l.length c, .string key] w (HgPost w l key.size ix) := by
  have HG := Aside0.mk hG
  clear hG
  have H20 : Aside0 (Calls Try.prog 20 #[.string key, .slice (some ad) l.length c] w (GetPost w l key.size ix)) := ⟨by
    go_enter Try.func20, Try.ntmps20
    go_wp2_with fail
    refine HG.out.mono ?_
    rintro e w1 ⟨hb, ⟨hx, rfl⟩ | ⟨hx, Y, n, c1, rfl, hr⟩⟩
    · have HB := Aside0.mk hb
      have HX := Aside0.mk hx
      clear hb hx
      go_wp2
      go_ret
      exact ⟨HB.out, .inl ⟨HX.out, rfl⟩⟩
    · have HB := Aside0.mk hb
      have HX := Aside0.mk hx
      have H1 := Aside0.mk hr
      clear hb hx hr
      go_wp2
      go_ret
      exact ⟨HB.out, .inr ⟨HX.out, Y, n, c1, rfl, H1.out⟩⟩⟩
  clear HG
  go_enter Try.func10, Try.ntmps10
  go_wp2_with fail
  refine H20.out.mono ?_
  rintro e w1 ⟨hb, ⟨hx, rfl⟩ | ⟨hx, Y, n, c1, rfl, hr⟩⟩
  · have HB := Aside0.mk hb
    have HX := Aside0.mk hx
    have hq := neq_nil w1 none 0 0
    simp only [Option.isNone, Bool.not_true] at hq
    clear hb hx
    go_wp2
    refine bodyPost_ret (results_list (rs := [.tmp 4, .tmp 5]) rfl (by simp) (.tmp (.tmp .nil))) rfl ?_
    exact ⟨HB.out, .inl ⟨HX.out, rfl⟩⟩
  · have HB := Aside0.mk hb
    have HX := Aside0.mk hx
    have H1 := Aside0.mk hr
    have hq := neq_nil w1 (some Y) n c1
    simp only [Option.isNone, Bool.not_false] at hq
    clear hb hx hr
    go_wp2
    refine bodyPost_ret (results_list (rs := [.tmp 4, .tmp 5]) rfl (by simp) (.tmp (.tmp .nil))) rfl ?_
    exact ⟨HB.out, .inr ⟨HX.out, Y, n, c1, rfl, H1.out⟩⟩
end Go.Proofs.Ytnkioieocjgekaa.Hg
