/- Trees of subjects: delete, whole; the tree: its root and its size; New, Size, Insert, Delete. -/
import Derived.Test.YtjhmpcbpbdkddaaGreatTeW
import Derived.Test.YtjhmpcbpbdkddaaGreatTeY
namespace Go.Proofs.YtjhmpcbpbdkddaaGreat.Te
open Go.RowKit Go.Proofs.YtjhmpcbpbdkddaaGreat.Bs Go.Proofs.YtjhmpcbpbdkddaaGreatW.PrintWords Go.Proofs.YtjhmpcbpbdkddaaGreatW.PrintLast Go.Proofs.YtjhmpcbpbdkddaaGreatW.PrintMore
set_option linter.unusedVariables false
set_option linter.unusedSimpArgs false
set_option maxRecDepth 100000
theorem delete_calls (tb : Nat) (t : T) : DelAll tb t := by
  induction t using T.ind with
  | h1 b v0 s => trivial
  | h2 b k p ks ih =>
    by_cases hp : p = []
    · exact delete_bare ih hp
    · exact delete_pre ih hp
/-- A take at the root, that is a leaf. -/
theorem delete_leaf {w : World} {tb g o b n c : Nat} {v0 : Int} {s l : BL} {A : Option Addr} (H : InsPre w g o (.leaf b v0 s) A n c l 0) (hn0 : 0 < n) :
    Calls Tryz.prog 59 #[.pointer (some ⟨tb, 0, none⟩), .pointer (some ⟨g, o, none⟩), .slice A n c, .int .i64 0] w fun e w' =>
      (l ≠ s ∧ e = .returned (.tuple #[.pointer none, .bool false]) ∧ Same w w') ∨
      (l = s ∧ e = .returned (.tuple #[.pointer (some ⟨b, 0, none⟩), .bool true]) ∧ w'.cell? ⟨b, 0, none⟩ = some (.int .i64 v0) ∧ Fr (fun k => k = g) w w' ∧ (∀ Tx cs, Blk w g Tx cs → cs[o]? = some (T.leaf b v0 s).val → Blk w' g Tx (cs.set o .nilIface))) := by
  have HH := Aside0.mk H
  obtain ⟨cn, zn⟩ := H.np
  have ml := l_isLeaf b
  have mt := ta_leaf b
  have HL : Aside0 (LeafAt w b v0 s) := ⟨lies_leaf.1 H.lies⟩
  have i2 : (n : Int) ≤ (c : Int) := by have := H.cap; omega
  have i1 : (0 : Int) ≤ (n : Int) := by omega
  have i3 : (0 : Int) ≤ (c : Int) := by omega
  have hne : ((n : Int) == 0) = false := by simp; omega
  clear H hn0
  unfold T.val pa at cn
  go_enter Tryz.func59, Tryz.ntmps59
  go_wp2_with fail
  refine (isLeaf_leaf _).mono ?_
  rintro e w' ⟨rfl, hw'⟩
  subst w'
  go_wp2_with fail
  refine (match_calls HL.out HH.out.bytes).mono ?_
  rintro e w3 ⟨rfl, hs3⟩
  have HS3 := Aside0.mk hs3
  obtain ⟨Tg, cs, hbg, hcs⟩ := HH.out.cell
  have hbg3 := hbg.fr hs3 (fun h => h)
  have cn3 := hbg3.cell o hcs
  have zn3 := hbg3.free o
  unfold T.val pa at cn3
  have HGB : Aside0 (b ≠ g) := ⟨fun e => HH.out.out (by rw [← e]; exact id_mem (.leaf b v0 s))⟩
  clear hbg hcs hbg3 hs3 cn zn
  by_cases hls : l = s
  · rw [decide_eq_true hls]
    have HLS := Aside0.mk hls
    clear hls
    go_wp2_with fail
    refine bodyPost_ret (results_list (rs := [.tmp 8, .tmp 9]) rfl (by simp) (.tmp (.tmp .nil))) rfl ?_
    refine .inr ⟨HLS.out, rfl, ((Blk.fr HL.out HS3.out (fun h => h)).far (p := ⟨g, o, none⟩) HGB.out _).cell 0 rfl, (HS3.out.mono (G := fun k => k = g) (fun _ h => h.elim)).set (p := ⟨g, o, none⟩) (.inl rfl) _, fun Tx cs hb hc => Blk.set (hb.fr HS3.out (fun h => h)) o (List.getElem?_eq_some_iff.1 hc).1 _⟩
  · rw [decide_eq_false hls]
    have HLS := Aside0.mk hls
    clear hls
    go_wp2_with fail
    refine bodyPost_ret (results_list (rs := [.tmp 8, .tmp 9]) rfl (by simp) (.tmp (.tmp .nil))) rfl ?_
    exact .inl ⟨HLS.out, rfl, HS3.out⟩
end Go.Proofs.YtjhmpcbpbdkddaaGreat.Te
