/- Plain lemmas on texts as lists of bytes, on wrap64 and on 'Ev': no program in sight. -/
import Derived.Test.YtjhmpcbpbdkddaaGreatWMore
namespace Go.Proofs.YtjhmpcbpbdkddaaGreat.Pl
open Go.RowKit Go.Proofs.YtjhmpcbpbdkddaaGreatW.PrintWords Go.Proofs.YtjhmpcbpbdkddaaGreatW.PrintLast Go.Proofs.YtjhmpcbpbdkddaaGreatW.PrintMore

theorem w64 {x : Int} (h0 : -9223372036854775808 ≤ x) (h1 : x < 9223372036854775808) : wrap64 x = x := by unfold wrap64; omega

/-- A text made of bytes. -/
def ba (l : List UInt8) : ByteArray := ⟨l.toArray⟩
theorem ba_surj (s : ByteArray) : ∃ l, s = ba l := ⟨s.data.toList, rfl⟩
theorem ba_toList (l : List UInt8) : (ba l).toList = l := by rw [ByteArray.toList_eq]; rfl
theorem ba_data (l : List UInt8) : (ba l).data.toList = l := rfl
theorem ba_size (l : List UInt8) : (ba l).size = l.length := rfl
theorem ba_inj {l l' : List UInt8} : ba l = ba l' ↔ l = l' := ⟨fun h => by have := congrArg (fun s => s.data.toList) h; exact this, fun h => h ▸ rfl⟩
theorem ba_nil : ba [] = ByteArray.empty := rfl
theorem ba_append (l l' : List UInt8) : ba l ++ ba l' = ba (l ++ l') := by
  apply ByteArray.ext; rw [ByteArray.data_append]; simp [ba]
theorem ba_extract (l : List UInt8) (a b : Nat) : (ba l).extract a b = ba ((l.take b).drop a) := by
  apply ByteArray.ext; rw [ByteArray.data_extract]; simp [ba, List.extract_eq_take_drop, List.drop_take]
theorem ba_bt (l : List UInt8) (i : Int) : bt (ba l) i = ((l.getD i.toNat 0).toNat : Int) := by
  unfold bt
  split
  · rename_i h
    have h' : i.toNat < l.length := h
    rw [List.getD_eq_getElem?_getD, List.getElem?_eq_getElem h']; rfl
  · rename_i h
    have h' : ¬ i.toNat < l.length := h
    rw [List.getD_eq_getElem?_getD, List.getElem?_eq_none (by omega)]; rfl
theorem ba_bt_at (pre : List UInt8) (c : UInt8) (rest : List UInt8) : bt (ba (pre ++ c :: rest)) (pre.length : Int) = (c.toNat : Int) := by
  rw [ba_bt]; simp [List.getD_eq_getElem?_getD]
theorem rdOf_ba (L : List (List UInt8)) (i : Int) : rdOf ByteArray.empty (L.map ba) i = ba (L.getD i.toNat []) := by
  unfold rdOf
  rw [List.getD_eq_getElem?_getD, List.getD_eq_getElem?_getD, List.getElem?_map]
  cases L[i.toNat]? <;> rfl
theorem map_ba_surj (L : List ByteArray) : ∃ M : List (List UInt8), L = M.map ba := by
  induction L with
  | nil => exact ⟨[], rfl⟩
  | cons s L ih => obtain ⟨M, rfl⟩ := ih; exact ⟨s.data.toList :: M, rfl⟩
theorem strOfNums_bytes (l : List UInt8) : strOfNums (l.map fun b => (b.toNat : Int)) = ba l := by
  unfold strOfNums ba
  rw [List.map_map]
  congr 2
  conv => rhs; rw [← List.map_id l]
  apply List.map_congr_left
  intro b _
  simp
theorem nums_surj (xs : List Int) (h : ∀ x ∈ xs, (Lit.int .u8 x).wf = true) : ∃ l : List UInt8, xs = l.map fun b => (b.toNat : Int) := by
  refine ⟨xs.map fun x => UInt8.ofNat x.toNat, ?_⟩
  rw [List.map_map]
  conv => lhs; rw [← List.map_id xs]
  apply List.map_congr_left
  intro x hx
  have := h x hx
  have h2 : 0 ≤ x ∧ x ≤ 255 := by
    simp [Lit.wf, IntKind.min, IntKind.max, IntKind.signed, IntKind.bits] at this
    omega
  simp
  omega

/-- The byte behind 'pre'. -/
theorem bt_mid {s : ByteArray} {i : Int} (pre : List UInt8) (c : UInt8) (rest : List UInt8) (h : s = ba (pre ++ c :: rest)) (hi : i = (pre.length : Int)) : bt s i = (c.toNat : Int) := by
  subst h hi; exact ba_bt_at _ _ _
theorem ext_mid {s : ByteArray} {a b : Int} (pre p rest : List UInt8) (h : s = ba (pre ++ p ++ rest)) (ha : a = (pre.length : Int)) (hb : b = (pre.length : Int) + p.length) : s.extract a.toNat b.toNat = ba p := by
  subst h ha hb
  rw [ba_extract]
  congr 1
  have e : ((pre.length : Int) + p.length).toNat = (pre ++ p).length := by simp; omega
  have e2 : List.take (pre ++ p).length (pre ++ p ++ rest) = pre ++ p := List.take_left' rfl
  rw [e, e2]
  exact List.drop_left' (by simp)
theorem ext_end {s : ByteArray} {a : Int} (pre p : List UInt8) (h : s = ba (pre ++ p)) (ha : a = (pre.length : Int)) : s.extract a.toNat s.size = ba p := by
  subst h ha
  rw [ba_extract, ba_size, List.take_length]
  congr 1
  exact List.drop_left' (by simp)
theorem toNat_eq {c : UInt8} {n : Nat} (hn : n < 256) : ((c.toNat : Int) = (n : Int)) ↔ c = UInt8.ofNat n := by
  constructor
  · intro h
    apply UInt8.toNat_inj.1
    simp
    omega
  · rintro rfl
    simp
    omega
theorem rd_bytes (l : List UInt8) (i : Int) : rd (l.map fun b => (b.toNat : Int)) i = bt (ba l) i := by
  rw [ba_bt]
  unfold rd
  rw [List.getD_eq_getElem?_getD, List.getD_eq_getElem?_getD, List.getElem?_map]
  cases l[i.toNat]? <;> rfl
theorem rd_mid {xs : List Int} {i : Int} (pre : List Int) (c : Int) (rest : List Int) (h : xs = pre ++ c :: rest) (hi : i = (pre.length : Int)) : rd xs i = c := by
  subst h hi
  unfold rd
  simp [List.getD_eq_getElem?_getD]
theorem rdOf_mid {α : Type} (d : α) {xs : List α} {i : Int} (pre : List α) (c : α) (rest : List α) (h : xs = pre ++ c :: rest) (hi : i = (pre.length : Int)) : rdOf d xs i = c := by
  subst h hi
  unfold rdOf
  simp [List.getD_eq_getElem?_getD]

/-- From some number of rounds on, two that agree. -/
theorem Ev.det {α : Type} {g : Nat → Option α} {r q : α} (h : Ev g r) (h' : Ev g q) : r = q := by
  obtain ⟨K, h⟩ := h
  obtain ⟨K', h'⟩ := h'
  have h1 := h (max K K') (by omega)
  have h2 := h' (max K K') (by omega)
  rw [h1] at h2
  exact Option.some.inj h2
theorem Ev.det' {α : Type} {g : Nat → Option α} {r q : α} (h : Ev g r) (e : r = q) : Ev g q := e ▸ h
theorem Ev.pos {α : Type} {c : Prop} [Decidable c] {f g : Nat → Option α} {r : α} (h : c) (k : Ev f r) : Ev (fun n => if c then f n else g n) r := Ev.congr (fun _ => by rw [if_pos h]) k
theorem Ev.neg {α : Type} {c : Prop} [Decidable c] {f g : Nat → Option α} {r : α} (h : ¬ c) (k : Ev g r) : Ev (fun n => if c then f n else g n) r := Ev.congr (fun _ => by rw [if_neg h]) k
theorem Ev.some_ {α β : Type} {a : α} {f : Nat → α → Option β} {r : β} (k : Ev (fun n => f n a) r) : Ev (fun n => (some a).bind (f n)) r := Ev.congr (fun _ => rfl) k
theorem Ev.const {α : Type} {o : Option α} {r : α} (h : o = some r) : Ev (fun _ => o) r := ⟨0, fun _ _ => h⟩

end Go.Proofs.YtjhmpcbpbdkddaaGreat.Pl
