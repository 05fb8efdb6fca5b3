/- A set told its least number first: impl.SetFrom. -/
import Derived.Test.YtebgaedalbdhaaaDoorSaG
namespace Go.Proofs.YtebgaedalbdhaaaDoor.Av
open Go.RowKit Go.Proofs.YtebgaedalbdhaaaDoorW.PrintWords Go.Proofs.YtebgaedalbdhaaaDoorW.PrintLast Go.Proofs.YtebgaedalbdhaaaDoorW.PrintMore
set_option linter.unusedVariables false
set_option linter.unusedSimpArgs false

set_option maxHeartbeats 4000000 in
set_option maxRecDepth 100000 in
theorem setFrom_calls (mo : Option Int) {w : World} {A : Option Addr} {acts : List Deed} {c : Nat} {mn : Int} (hA : ActsR w A acts) (hok : ∀ a ∈ acts, okDeed mo a) (hs : ∀ id, Safe mo (told id mn)) (hn : acts.length ≤ 900) (h0 : 0 ≤ mn) (h1 : mn + 2048 < 18446744073709551616) (hT : TabAt w) :
    Calls Tryd.prog 22 #[.int .u64 mn, .slice A acts.length c] w fun e w' => ∃ v, e = .returned (.tuple #[.int .i64 0, v]) ∧ NumRow w w' v (plays [] acts) := by
  have HA := Aside0.mk hA
  have HOK := Aside0.mk hok
  have HSF := Aside0.mk hs
  have HT := Aside0.mk hT
  have HAP := Aside0.mk (acts_apart hA)
  clear hA hok hs hT
  go_enter Tryd.func22, Tryd.ntmps22
  go_wp2_with fail
  have HB := Aside0.mk (set_blank w)
  have HF0 := Aside0.mk ((Fr.refl (fun _ => False) w).alloc (.cells #[.pointer none, .int .i64 0, .int .i64 0, .bool false] 63))
  have HZ0 : Aside0 ((w.alloc (.cells #[.pointer none, .int .i64 0, .int .i64 0, .bool false] 63)).heap.size = w.heap.size + 1) := ⟨by simp⟩
  generalize w.alloc (.cells #[.pointer none, .int .i64 0, .int .i64 0, .bool false] 63) = w1 at *
  obtain ⟨g, hg⟩ : ∃ g, g = w.heap.size := ⟨_, rfl⟩
  have HGW := Aside0.mk hg
  rw [← hg] at HB HAP ⊢
  clear hg
  refine (told_new HB.out mn h0 h1).mono ?_
  rintro e w2 ⟨id, hid, rfl, hs, hf⟩
  have HS := Aside0.mk hs
  have HID := Aside0.mk hid
  have HF2 : Aside0 (Fr (fun _ => False) w w2) := ⟨HF0.out.trans hf (fun k hk e => by have := HGW.out; omega)⟩
  clear hs hf hid
  go_wp2_with fail
  refine one_nil.mono ?_
  rintro e w' ⟨rfl, hw⟩
  subst w'
  have HSEP : Aside0 (0 < acts.length → ∀ ad, A = some ad → ad.block ≠ g ∧ ad.block ∉ (told id mn).ids) := ⟨fun hz ad e => ⟨(HAP.out hz ad e).1, fun hm => by
    have h2 : ad.block = id := List.mem_singleton.1 hm
    obtain ⟨ad2, e2, hc⟩ := HA.out hz
    rw [e] at e2
    injection e2 with e2
    subst e2
    have := World.block_lt_of_cell? w _ (hc 0 _ (List.getElem?_eq_getElem hz)).1
    rw [add_block] at this
    have := HID.out
    have := HZ0.out
    omega⟩⟩
  go_wp2_with fail
  refine (change_calls mo [] 1 HS.out (told_rep id mn) (Int.le_refl _) (HSF.out id) (HA.out.fr HF2.out (fun _ _ h => h)) HSEP.out HOK.out (by omega) (by omega) (Nat.zero_le _)).mono ?_
  rintro e w3 ⟨v, rfl, t2, sz2, nd2, hc⟩
  unfold CIn at hc
  rw [List.take_length] at hc
  have HC := Aside0.mk hc
  have HF3 : Aside0 (Fr (fun _ => False) w w3) := ⟨HF2.out.trans hc.fr (fun k hk e => by
    rcases e with e | e
    · have := HGW.out; omega
    · have h2 : k = id := List.mem_singleton.1 e
      have := HID.out
      have := HZ0.out
      omega)⟩
  clear hc
  go_wp2_with fail
  refine (all_calls HC.out.is (HT.out.fr HF3.out (fun h => h)) HC.out.rep.nums (by have := plays_len acts []; simp at this; omega)).mono ?_
  rintro e w4 ⟨v4, rfl, h4⟩
  have H4 := Aside0.mk h4
  clear h4
  go_wp2
  refine bodyPost_ret (results_list (rs := [.tmp 4, .tmp 5]) rfl (by simp) (.tmp (.tmp .nil))) rfl ?_
  exact ⟨_, rfl, ownsRow_low H4.out.own HF3.out.size, HF3.out.trans H4.out.fr (fun _ _ h => h)⟩
end Go.Proofs.YtebgaedalbdhaaaDoor.Av
