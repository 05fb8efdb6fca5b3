/- impl.HeaderGet over the walk of getHeaderKeyIndex; laws.awakeHeader. -/
import Derived.Test.YtnkioieocjgekaaHgC
import Derived.Test.YtnkioieocjgekaaGFnHeaderRemovePrefixx4
namespace Go.Proofs.Ytnkioieocjgekaa.Hq
open Go.Proofs.Ytnkioieocjgekaa.Hg Go.RowKit Go.Proofs.YtnkioieocjgekaaW.PrintWords Go.Proofs.YtnkioieocjgekaaW.PrintLast Go.Proofs.YtnkioieocjgekaaW.PrintMore Go.Proofs.Ytnkioieocjgekaa.GFnHeaderRemovePrefix
set_option linter.unusedVariables false
set_option linter.unusedSimpArgs false

theorem headerGet_calls (k : Nat) {w : World} {ad : Addr} {c : Nat} {l : List Int} {key : ByteArray} {ix : Int} (h : server_getHeaderKeyIndex.f k key l = some ix)
    (hR : Kd.C (Kd.int .u8) w (some ad) l.length l) (hc : l.length ≤ c) (hl : l.length ≤ 1000000) (h0 : 0 < l.length) (hk : key.size ≤ 1000000) (hx : ix = -1 ∨ 0 ≤ ix ∧ ix + key.size + 1 ≤ l.length) :
    Calls Try.prog 10 #[.slice (some ad) l.length c, .string key] w (HgPost w l key.size ix) := by
  have hK := server_getHeaderKeyIndex.calls k key (some ad) c l ix w hR hc h
  exact header_calls (get_calls hR hl hx (slice_calls hR hc hl h0 hk hx (hK.mono (fun e w' hh => hh))))
/-- The bytes of "NATS/1.0 .. Id: 7 ..". -/
def awakeText : ByteArray := ⟨#[78, 65, 84, 83, 47, 49, 46, 48, 13, 10, 73, 100, 58, 32, 55, 13, 10, 13, 10]⟩
theorem awake_header : spec_Header.f 3 [⟨⟨#[73, 100]⟩, ⟨#[55]⟩⟩] = some awakeText := by decide +kernel
theorem awake_index : server_getHeaderKeyIndex.f 40 ⟨#[73, 100]⟩ (bytesOf awakeText) = some 10 := by decide +kernel
theorem awake_value : value (bytesOf awakeText) 13 = [55] := by decide +kernel
theorem line_C {W : World} {g : Nat} (a b : ByteArray) (h0 : W.cell? ⟨g, 0, none⟩ = some (.string a)) (h1 : W.cell? ⟨g, 1, none⟩ = some (.string b)) : Kd.C k34 W (some ⟨g, 0, none⟩) 1 [⟨a, b⟩] := by
  refine ⟨rfl, by omega, fun _ => ⟨_, rfl, fun j p hj => ?_⟩⟩
  cases j with
  | succ j => simp at hj
  | zero =>
    simp only [List.getElem?_cons_zero, Option.some.injEq] at hj
    subst hj
    refine ⟨[.string a, .string b], rfl, ⟨[.string a], [.string b], rfl, rfl, rfl⟩, fun i u hu => ?_⟩
    rw [Bs.add_at]
    match i with
    | 0 => simp at hu; subst hu; simpa using h0
    | 1 => simp at hu; subst hu; simpa using h1
    | i + 2 => simp at hu
theorem row_C {w W : World} {Y : Addr} {n c : Nat} {xs : List Int} (h : Bs.RowG w W 5 1 (.slice (some Y) n c) n (iC xs)) : Kd.C (Kd.int .u8) W (some Y) n xs := by
  have hl : xs.length = n := by have := h.own.1; rw [iC, List.length_map] at this; omega
  obtain ⟨A, c', e, hnc, hr⟩ := Bs.read_own (W := W) h.own (iC_one xs)
  injection e with e1 e2 e3
  subst e1
  have hm : n ≤ 9223372036854775807 := by
    rcases h.own.2 with ⟨e, -⟩ | ⟨g, cap, cur, e, -, -, k1, k2, -⟩
    · cases e
    · unfold maxLen at k2; omega
  refine ⟨hl, hm, fun h0 => ?_⟩
  obtain ⟨ad, e, hc⟩ := hr.read (by rw [iC, List.length_map]; omega)
  refine ⟨ad, e, fun j p hj => ⟨[.int .u8 p], rfl, rfl, fun i u hu => ?_⟩⟩
  cases i with
  | succ i => simp at hu
  | zero =>
    simp only [List.getElem?_cons_zero, Option.some.injEq] at hu
    subst hu
    have := hc j (.int .u8 p) (by rw [iC, List.getElem?_map, hj]; rfl)
    have e1 : j * (Kd.int .u8).sz + 0 = j := Nat.mul_one j
    rw [e1]
    exact this
theorem row_string {w W : World} {Y : Addr} {n c : Nat} {xs : List Int} (h : Bs.RowG w W 5 1 (.slice (some Y) n c) n (iC xs)) : (convert 28 9 (.slice (some Y) n c)).run Try.prog W = .ok (.string (strOfNums xs)) W :=
  Kd.C_string Try.underlying28 Try.underlying5 Try.underlying9 (row_C h)
theorem conv_L {w : World} (s : ByteArray) (L : List Int) (hL : L = bytesOf s) (hsz : s.size ≤ 140737488351232) : ∃ ad c w1, (convert 9 28 (.string s)).run Try.prog w = .ok (.slice (some ad) L.length c) w1 ∧ Kd.C (Kd.int .u8) w1 (some ad) L.length L ∧ L.length ≤ c ∧ Below w.heap.size w w1 := by
  subst hL
  obtain ⟨c, w1, h1, h2, h3, h4⟩ := conv_V (w := w) s hsz
  obtain ⟨k1, k2, k3⟩ := Kd.V_reads' h2
  exact ⟨_, c, w1, by rw [bytesOf_length]; exact h1, k3, by rw [bytesOf_length]; exact h3, h4⟩
set_option maxHeartbeats 8000000 in
set_option maxRecDepth 100000 in
theorem awake_calls (w : World) : Calls Try.prog 8 #[] w fun e w' => e = .returned (.bool true) ∧ Below w.heap.size w w' := by
  go_enter Try.func8, Try.ntmps8
  go_wp2_with fail
  refine (spec_Header.calls 3 _ 1 [⟨⟨#[73, 100]⟩, ⟨#[55]⟩⟩] awakeText _ (line_C _ _ (Bs.cell_at (cur := [_, _]) (heap_alloc_new _ _)) (Bs.cell_at (cur := [_, _]) (heap_alloc_new _ _))) (Nat.le_refl _) awake_header).mono ?_
  rintro e w' ⟨rfl, ⟨nd, rfl⟩⟩
  have HB1 := Aside0.mk (pw_below_drewN (below_alloc (Below.refl w.heap.size w) (.cells #[.string ⟨#[73, 100]⟩, .string ⟨#[55]⟩] 34)) nd)
  generalize (w.alloc (.cells #[.string ⟨#[73, 100]⟩, .string ⟨#[55]⟩] 34)).drewN nd = W1 at *
  obtain ⟨L, hL⟩ : ∃ L, L = bytesOf awakeText := ⟨_, rfl⟩
  obtain ⟨ad, c, w2, hrun, hC, hcc, hb⟩ := conv_L (w := W1) awakeText L hL (by decide)
  have hx : server_getHeaderKeyIndex.f 40 ⟨#[73, 100]⟩ L = some 10 := by rw [hL]; exact awake_index
  have hv : value L 13 = [55] := by rw [hL]; exact awake_value
  have hlen : L.length = 19 := by rw [hL]; decide +kernel
  have HC := Aside0.mk (headerGet_calls 40 (key := ⟨#[73, 100]⟩) hx hC hcc (by omega) (by omega) (by decide) (.inr ⟨by omega, by rw [hlen]; decide⟩))
  have HB2 := Aside0.mk (below_step HB1.out hb)
  have HV := Aside0.mk hv
  generalize awakeText = T at *
  clear hL hC hcc hb hx hv hlen HB1
  go_wp2_with fail
  refine HC.out.mono ?_
  rintro e w3 ⟨hb, ⟨hx, rfl⟩ | ⟨hx, Y, n, c1, rfl, hr⟩⟩
  · exact absurd hx (by decide)
  · have HB3 := Aside0.mk (below_step HB2.out hb)
    have hs := row_string hr
    have e1 : (10 : Int).toNat + (⟨#[73, 100]⟩ : ByteArray).size + 1 = 13 := by decide
    rw [e1, HV.out, show strOfNums [55] = (⟨#[55]⟩ : ByteArray) by decide +kernel] at hs
    clear hb hr hx HC hrun
    go_wp2
    go_ret
    exact ⟨by first | rfl | simp, HB3.out⟩
end Go.Proofs.Ytnkioieocjgekaa.Hq
