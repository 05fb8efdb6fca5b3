/- ReadHeadPub, impl.fault, impl.HeadPub, by hand. -/
import Derived.Test.YtnkioieocjgekaaDoorHdC
import Derived.Test.YtnkioieocjgekaaDoorGFnHeadPubx2
import Derived.LaidEql
namespace Go.Proofs.YtnkioieocjgekaaDoor.Hd
open Go.RowKit Go.Proofs.YtnkioieocjgekaaDoorW.PrintWords Go.Proofs.YtnkioieocjgekaaDoorW.PrintLast Go.Proofs.YtnkioieocjgekaaDoorW.PrintMore Go.Proofs.YtnkioieocjgekaaDoor.GFnHeadPub
set_option linter.unusedVariables false
set_option linter.unusedSimpArgs false

def RhPost (w1 : World) (ad : Addr) (c : Nat) (t : Option (Nat × Nat) × Option (Nat × Nat) × Int × Int × Int) (e : Ending) (w' : World) : Prop :=
  ∃ err, e = .returned (.tuple #[ov ad c t.1, ov ad c t.2.1, .int .i64 t.2.2.1, .int .i64 t.2.2.2.1, err]) ∧ ErrK w1 w' t.2.2.2.2 err ∧ Below w1.heap.size w1 w'
set_option maxHeartbeats 8000000 in
set_option maxRecDepth 100000 in
theorem rh_calls {w1 : World} {X : Option Addr} {ad ga : Addr} {n c : Nat} {l : List Int} {most : Int} (hX : 0 < n → X = some ad) (hR : Kd.C (Kd.int .u8) w1 X n l) (hc : n ≤ c) (hl : n ≤ 1000000) (hby : ∀ x ∈ l, 0 ≤ x ∧ x < 256)
    (hG : w1.cell? ⟨0, 0, none⟩ = some (.iface 73 (.pointer (some ga)))) (hm : -2147483648 ≤ most ∧ most ≤ 2147483647) :
    Calls Tryd.prog 19 #[.slice X n c, .int .i32 most] w1 (RhPost w1 ad c (hps (sp l 0 none) l most)) := by
  have hB : Below w1.heap.size w1 (w1.alloc (.cells (cs0 most).toArray 61)) := below_alloc (Below.refl _ _) _
  have HP := Aside0.mk (hp_calls (w := w1.alloc (.cells (cs0 most).toArray 61)) (b := w1.heap.size) (v1 := .nilIface) hX hR hc hl hby hB (Nat.le_refl _) (Bs.Blk.new _ _ _) hG hm)
  generalize hps (sp l 0 none) l most = t at *
  clear hX hR hc hl hby hG hm hB
  go_enter Tryd.func19, Tryd.ntmps19
  go_wp2_with fail
  refine HP.out.mono ?_
  rintro e w2 ⟨err, cs, rfl, he, hb, h4, h5, h9, h8, hbel⟩
  have HE := Aside0.mk he
  have HB := Aside0.mk hbel
  obtain ⟨S, hS⟩ : ∃ S, S = ov ad c t.1 := ⟨_, rfl⟩
  obtain ⟨R, hR⟩ : ∃ S, S = ov ad c t.2.1 := ⟨_, rfl⟩
  rw [← hS] at h4
  rw [← hR] at h5
  have c4 := hb.cell 4 h4
  have c5 := hb.cell 5 h5
  have c9 := hb.cell 9 h9
  have c8 := hb.cell 8 h8
  have HS := Aside0.mk hS
  have HRR := Aside0.mk hR
  clear HP he hb h4 h5 h9 h8 hbel hS hR
  go_wp2
  go_quiet (fail)
  go_wp2
  refine bodyPost_ret (results_list (rs := [.tmp 4, .tmp 5, .tmp 6, .tmp 7, .tmp 8]) rfl (by simp) (.tmp (.tmp (.tmp (.tmp (.tmp .nil)))))) rfl ?_
  exact ⟨err, by rw [← HS.out, ← HRR.out]; rfl, HE.out, pw_below_drewN HB.out _⟩
theorem block_of_cell {w : World} {b : Addr} {x : Value} (h : w.cell? b = some x) : ∃ cs t lo hi, w.heap[b.block]? = some (.cells cs t (lo, hi)) ∧ 0 < cs.size := by
  unfold World.cell? at h
  split at h
  · rename_i cs t fr hb
    split at h
    · cases h
    · exact ⟨cs, t, fr.1, fr.2, hb, by have := (Array.getElem?_eq_some_iff.1 h).1; omega⟩
  · cases h
theorem run_sameAddr_fresh {P : Program} {w : World} {g : Nat} {b : Addr} {x v : Value} {tb : TypeId} (hne : g ≠ b.block) (ha : w.heap[g]? = some (.cells #[v] tb (0, 0))) (hb : w.cell? b = some x) :
    (sameAddr ⟨g, 0, none⟩ b).run P w = .ok false w := by
  obtain ⟨cs, t, lo, hi, hblk, hsz⟩ := block_of_cell hb
  obtain ⟨n, hn⟩ : ∃ n, cs.size = n + 1 := ⟨cs.size - 1, by omega⟩
  simp [sameAddr, hne, World.frozen?, ha, hblk, noView, viewAt, World.shape?, mayBeOne, stringish, hn]
theorem eql_fresh {P : Program} {w : World} {ti tp te : TypeId} {ms : Array (String × TypeId)} {i j : TypeInfo} {g : Nat} {b : Addr} {x v : Value} {tb : TypeId}
    (hi : P.underlying ti = some (.interface ms)) (hp : P.underlying tp = some (.pointer te)) (hinfo : P.info? tp = some i) (hcomp : i.comparable = true) (hte : P.info? te = some j) (hsz : j.size ≠ 0)
    (hne : g ≠ b.block) (ha : w.heap[g]? = some (.cells #[v] tb (0, 0))) (hb : w.cell? b = some x) :
    (binOp .eql ti (.iface tp (.pointer (some ⟨g, 0, none⟩))) (.iface tp (.pointer (some b)))).run P w = .ok (.bool false) w := by
  have h : ∀ d : Nat, (Op.equalIn (d + 2) ti (.iface tp (.pointer (some ⟨g, 0, none⟩))) (.iface tp (.pointer (some b)))).run P w = .ok false w := fun d => by
    simp [Op.equalIn, run_underlying hi, run_underlying hp, typeInfo, hinfo, hcomp, sizeOf, hte, hsz, run_sameAddr_fresh hne ha hb]
  simp only [binOp]
  simp [Op.equal, Op.maxDepth, h 9998]
theorem inf73 : (Tryd.prog.info? 73).map (fun i => i.comparable) = some true := by kernel_rfl
theorem inf75 : (Tryd.prog.info? 75).map (fun i => i.size) = some 1 := by kernel_rfl
theorem und45 : ∃ ms, Tryd.prog.underlying 45 = some (.interface ms) := ⟨_, Tryd.underlying45⟩
theorem eql_new {w : World} {g : Nat} {b : Addr} {x v : Value} {tb : TypeId} (hne : g ≠ b.block) (ha : w.heap[g]? = some (.cells #[v] tb (0, 0))) (hb : w.cell? b = some x) :
    (binOp .eql 45 (.iface 73 (.pointer (some ⟨g, 0, none⟩))) (.iface 73 (.pointer (some b)))).run Tryd.prog w = .ok (.bool false) w := by
  obtain ⟨i, hi, hc⟩ := Option.map_eq_some_iff.1 inf73
  obtain ⟨j, hj, hz⟩ := Option.map_eq_some_iff.1 inf75
  exact eql_fresh Tryd.underlying45 Tryd.underlying73 hi hc hj (by omega) hne ha hb
theorem eql_same (w : World) (a : Addr) : (binOp .eql 45 (.iface 73 (.pointer (some a))) (.iface 73 (.pointer (some a)))).run Tryd.prog w = .ok (.bool true) w := by
  obtain ⟨i, hi, hc⟩ := Option.map_eq_some_iff.1 inf73
  obtain ⟨j, hj, hz⟩ := Option.map_eq_some_iff.1 inf75
  exact run_eql_iface_ptr_same w a Tryd.underlying45 Tryd.underlying73 hi hc hj
theorem fault_calls {w1 w : World} {ga : Addr} {k : Int} {err : Value} {s : ByteArray} (hk : k = 0 ∨ k = 1 ∨ k = 2) (he : ErrK w1 w k err) (hG : w1.cell? ⟨0, 0, none⟩ = some (.iface 73 (.pointer (some ga)))) (hb : Below w1.heap.size w1 w) (hga : w1.cell? ga = some (.string s)) :
    Calls Tryd.prog 21 #[err] w fun e w' => e = .returned (.int .i64 k) ∧ w = w' := by
  have hg : w.cell? ⟨0, 0, none⟩ = some (.iface 73 (.pointer (some ga))) := (hb.cell (World.block_lt_of_cell? w1 _ hG)).trans hG
  rcases hk with rfl | rfl | rfl
  · obtain rfl := he.1 rfl
    clear he hG hb hga
    go_enter Tryd.func21, Tryd.ntmps21
    go_wp2
    go_ret
    exact ⟨rfl, rfl⟩
  · obtain ⟨g, s2, rfl, hlt, hh⟩ := he.2.1 rfl
    have hq := eql_new (g := g) (b := ga) (by have := World.block_lt_of_cell? w1 _ hga; omega) hh ((hb.cell (World.block_lt_of_cell? w1 _ hga)).trans hga)
    clear he hG hb hga hh
    go_enter Tryd.func21, Tryd.ntmps21
    go_wp2
    go_ret
    exact ⟨rfl, rfl⟩
  · have h2 := he.2.2 rfl
    rw [hG] at h2
    obtain rfl := Option.some.inj h2
    have hq := eql_same w ga
    clear he hG hb hga h2
    go_enter Tryd.func21, Tryd.ntmps21
    go_wp2
    go_ret
    exact ⟨rfl, rfl⟩
end Go.Proofs.YtnkioieocjgekaaDoor.Hd
