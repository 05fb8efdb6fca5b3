/- impl.HeaderRemovePrefix, by hand. -/
import Derived.Test.YtnkioieocjgekaaHqA
namespace Go.Proofs.Ytnkioieocjgekaa.Hq
open Go.Proofs.Ytnkioieocjgekaa.Hg Go.Proofs.Ytnkioieocjgekaa.PlHq Go.Proofs.Ytnkioieocjgekaa.Pl Go.RowKit Go.Proofs.YtnkioieocjgekaaW.PrintWords Go.Proofs.YtnkioieocjgekaaW.PrintLast Go.Proofs.YtnkioieocjgekaaW.PrintMore Go.Proofs.Ytnkioieocjgekaa.GFnHeaderRemovePrefix
set_option linter.unusedVariables false
set_option linter.unusedSimpArgs false

theorem rms_calls {w2 w : World} {v : Value} {p : ByteArray} {r : List UInt8} (h : Calls Try.prog 26 #[v, .string p] w (RmPost w2 r)) : Calls Try.prog 21 #[v, .string p] w (RmPost w2 r) := by
  have H := Aside0.mk h
  clear h
  go_enter Try.func21, Try.ntmps21
  go_wp2_with fail
  refine H.out.mono ?_
  rintro e w' ⟨A, c, rfl, h1, h2, h3⟩
  have H1 := Aside0.mk h1
  have H2 := Aside0.mk h2
  have H3 := Aside0.mk h3
  clear h1 h2 h3
  go_wp2
  go_ret
  exact ⟨A, c, rfl, H1.out, H2.out, H3.out⟩
theorem rp_calls (k : Nat) {w : World} {A0 : Option Addr} {n c0 : Nat} {T p r : List UInt8} (h : rmp p k T 0 = some r) (hn : n = T.length) (h0 : 0 < n) (hL : n ≤ 100000) (hp : p.length ≤ 1000) (hp0 : 0 < p.length) (hR : Kd.C (Kd.int .u8) w A0 n (nm T)) (hc : n ≤ c0) :
    Calls Try.prog 15 #[.slice A0 n c0, .string (ba p)] w (RmPost w r) := by
  have HC : Aside0 (Calls Try.prog 22 #[.slice A0 n c0] w fun e w' => ∃ v0_ : Value, e = .returned (v0_) ∧ Kd.R (Kd.int .u8) 5 w' w.heap.size (fun _ => True) v0_ (nm T) ∧ Below w.heap.size w w') := ⟨by
    obtain rfl : n = (nm T).length := by rw [nm_len]; exact hn
    refine impl_copied.calls A0 c0 (nm T) (nm T) w hR hc ?_
    rw [impl_copied.f, Option.bind_some, List.nil_append, List.length_nil, Nat.zero_add, if_pos (by omega)]⟩
  have HK := Aside0.mk (fun {W : World} {Y : Addr} {c : Nat} hR' hc' => rms_calls (rm_calls (w2 := w) (w := W) (Y := Y) (c := c) (ix := 0) k h hn hL hp hp0 hR' hc'))
  have HN := Aside0.mk (And.intro hn h0)
  clear h hn h0 hL hp hp0 hR hc
  go_enter Try.func15, Try.ntmps15
  go_wp2_with fail
  refine HC.out.mono ?_
  rintro e w1 ⟨v, rfl, hr, hb⟩
  have hown := Kd.own_of_R hr
  obtain ⟨A, c, e1, hnc, -⟩ := Kd.R_reads hr
  have hown2 : w1.ownsRow w.heap.size 5 1 v n (iC (nm T)) := by
    have e2 : n = (nm T).length := by rw [nm_len]; exact HN.out.1
    rw [e2]; exact hown
  rw [nm_len, ← HN.out.1] at e1 hnc
  subst e1
  obtain ⟨Y, rfl⟩ : ∃ Y, A = some Y := by
    rcases hown2.2 with ⟨-, h0⟩ | ⟨g, cap, cur, e, -⟩
    · have := HN.out.2; omega
    · injection e with e; exact ⟨_, e⟩
  have HH := Aside0.mk (HK.out (W := w1) (Y := Y) (c := c) ⟨hown2, Bs.fr_of_below hb⟩ hnc)
  clear hr hb hown hown2 hnc HK
  go_wp2_with fail
  refine HH.out.mono ?_
  rintro e w' ⟨A, c, rfl, h1, h2, h3⟩
  have H1 := Aside0.mk h1
  have H2 := Aside0.mk h2
  have H3 := Aside0.mk h3
  clear h1 h2 h3
  go_wp2
  go_ret
  exact ⟨A, c, rfl, H1.out, H2.out, H3.out⟩
end Go.Proofs.Ytnkioieocjgekaa.Hq
