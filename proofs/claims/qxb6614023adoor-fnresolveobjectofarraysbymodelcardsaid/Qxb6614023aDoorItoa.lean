/-
  The walks of zzItoa and zzIndexAmong.
-/
import Derived.Test.Qxb6614023aDoorIdx
import Derived.Laws.IdiomStrings
namespace Go.Proofs.Qxb6614023aDoor
open Go.RowKit

/-- What is still to be written, of the number m. -/
def pre (m : Nat) : List UInt8 := if m = 0 then [] else Lib.decDigits m
theorem pre_step {m : Nat} (h : 0 < m) : pre m = pre (m / 10) ++ [UInt8.ofNat (48 + m % 10)] := by
  unfold pre
  rw [if_neg (by omega)]
  by_cases h10 : m < 10
  · rw [if_pos (by omega), Dec.decDigits_small h10, Nat.mod_eq_of_lt h10]
    rfl
  · rw [if_neg (by omega), Dec.decDigits_big h10]

/-- Behind some rounds of zzItoa's loop: the digits D lie from place k on. -/
structure Itoa (w wr : World) (n m k : Nat) (D : List UInt8) : Prop where
  row : wr.rowIs w.heap.size 45 24 (fun j => .int .u8 (if j < k then 0 else ((D.getD (j - k) 0).toNat : Int)))
  len : D.length + k = 24
  text : pre m ++ D = Lib.decDigits n
  below : Below w.heap.size w wr

theorem itoa_start (w : World) (n : Nat) (h : 0 < n) (cs : Array Value) (hs : cs.size = 24) (hc : ∀ i, i < 24 → cs[i]? = some (.int .u8 0)) : Itoa w (w.alloc (.cells cs 45)) n n 24 [] := by
  refine ⟨?_, rfl, ?_, (Below.refl _ _).alloc (Nat.le_refl _) _⟩
  · have := (w.rowIs_alloc cs 45 (fun _ => .int .u8 0) (fun i hi => hc i (by omega)))
    rw [hs] at this
    refine this.congr ?_
    intro i hi
    rw [if_pos hi]
  · unfold pre
    rw [if_neg (by omega), List.append_nil]

theorem itoa_step {w wr : World} {n m k : Nat} {D : List UInt8} (h : Itoa w wr n m (k + 1) D) (hm : 0 < m) :
    Itoa w (wr.setCell ⟨w.heap.size, k, none⟩ (.int .u8 (48 + (m : Int) % 10))) n (m / 10) k (UInt8.ofNat (48 + m % 10) :: D) := by
  have hl := h.len
  refine ⟨(h.row.set k _).congr ?_, by simp; omega, ?_, h.below.setCell (Nat.le_refl _) _⟩
  · intro j hj
    show (if j = k then _ else _) = _
    by_cases e : j = k
    · subst e
      rw [if_pos rfl, if_neg (by omega)]
      have : (UInt8.ofNat (48 + m % 10)).toNat = 48 + m % 10 := by
        rw [UInt8.toNat_ofNat']
        omega
      simp only [Nat.sub_self, List.getD_cons_zero, this]
      congr 1
    · rw [if_neg e]
      show Value.int .u8 (if j < k + 1 then _ else _) = Value.int .u8 (if j < k then _ else _)
      by_cases e2 : j < k
      · rw [if_pos (by omega), if_pos e2]
      · rw [if_neg (by omega), if_neg e2]
        obtain ⟨q, hq⟩ : ∃ q, j - k = q + 1 := ⟨j - k - 1, by omega⟩
        have hq2 : j - (k + 1) = q := by omega
        rw [hq, hq2, List.getD_cons_succ]
  · rw [← h.text, pre_step hm, List.append_assoc]
    rfl

theorem itoa_room {w wr : World} {n m k : Nat} {D : List UInt8} (h : Itoa w wr n m k D) (hm : 0 < m) (hn : n ≤ 1048576) : 0 < k := by
  have hl := h.len
  have ht := congrArg List.length h.text
  rw [List.length_append] at ht
  have hd : (Lib.decDigits n).length ≤ 20 := by
    rw [Lib.decDigits_length]
    exact Lib.nDigits_le20 _ (by omega)
  have hp : 0 < (pre m).length := by
    rw [pre_step hm]
    simp
  omega

theorem itoa_conv {w wr : World} {n k : Nat} {D : List UInt8} (h : Itoa w wr n 0 k D) :
    (convert 46 9 (.slice (some ⟨w.heap.size, k, none⟩) (24 - k) (24 - k))).run Tryd.prog wr = .ok (.string ⟨(Lib.decDigits n).toArray⟩) wr := by
  have hl := h.len
  have ht : D = Lib.decDigits n := by
    have := h.text
    unfold pre at this
    rw [if_pos rfl] at this
    exact this
  have e : 24 - k = D.length := by omega
  rw [e, ← ht]
  refine run_convert_bytes_back wr 46 9 5 ⟨w.heap.size, k, none⟩ D.length D Tryd.underlying46 Tryd.underlying5 Tryd.underlying9 ?_
  intro j hj
  have hadd : (⟨w.heap.size, k, none⟩ : Addr).add j = ⟨w.heap.size, k + j, none⟩ := by simp [Addr.add]
  rw [hadd]
  have hc := h.row.cell (i := k + j) (by omega)
  rw [if_neg (by omega), show k + j - k = j from by omega, List.getD_eq_getElem?_getD, List.getElem?_eq_getElem hj] at hc
  exact hc

theorem itoa_lt {w wr : World} {n k : Nat} {D : List UInt8} (h : Itoa w wr n 0 k D) : k < 24 := by
  have hl := h.len
  have ht : D = Lib.decDigits n := by
    have := h.text
    unfold pre at this
    rw [if_pos rfl] at this
    exact this
  have : D ≠ [] := by rw [ht]; exact (Dec.decDigits_facts n n (Nat.le_refl _)).1
  have := List.length_pos_iff.2 this
  omega

theorem Tryd.arr45 : Tryd.prog.underlying 45 = some (.array (Tryd.prog.arrayLen 45) (Tryd.prog.elem 45)) := by kernel_rfl
theorem Tryd.len45 : Tryd.prog.arrayLen 45 = 24 := by kernel_rfl
theorem Tryd.size45 (w : World) : (sizeOf (Tryd.prog.elem 45)).run Tryd.prog w = .ok 1 w := by kernel_rfl

theorem slice_arr (w wr : World) (k : Nat) (h : k < 24) : (Instr.sliceAt 45 (.pointer (some ⟨w.heap.size, 0, none⟩)) (some (.int .i64 (k : Int))) none none).run Tryd.prog wr = .ok (.slice (some ⟨w.heap.size, k, none⟩) (24 - k) (24 - k)) wr := by
  rw [run_sliceAt_array_l wr 45 ⟨w.heap.size, 0, none⟩ Tryd.arr45 .i64 k (by omega) (by rw [Tryd.len45]; omega), Tryd.size45, Tryd.len45]
  have hne : ¬ 24 = k := by omega
  simp [slicedAt, Result.andThen, Addr.add, hne]
  exact fun e => e.symm

set_option maxRecDepth 100000 in
set_option maxHeartbeats 400000 in
theorem itoa_pos (n : Nat) (w : World) (h0 : 0 < n) (h1 : n ≤ 1048576) :
    Calls Tryd.prog 16 #[.int .i64 n] w fun e w' => e = .returned (.string ⟨(Lib.decDigits n).toArray⟩) ∧ Below w.heap.size w w' := by
  have hz : ((n : Int) == 0) = false := beq_eq_false_iff_ne.2 (by omega)
  go_enter Tryd.func16, Tryd.ntmps16
  go_wp2
  go_loopw [0, 4] (fun z j wr => ∃ (m k : Nat), m ≤ n ∧ k ≤ 24 ∧ z = .int .i64 m ∧ j = .int .i64 k ∧ Hid (∃ D, Itoa w wr n m k D)) (fun z _ _ => (intOf z).toNat)
  case atStart => exact ⟨n, 24, Nat.le_refl _, Nat.le_refl _, rfl, rfl, [], itoa_start w n h0 _ rfl (fun i hi => by
    match i, hi with
    | 0, _ => exact rfl
    | 1, _ => exact rfl
    | 2, _ => exact rfl
    | 3, _ => exact rfl
    | 4, _ => exact rfl
    | 5, _ => exact rfl
    | 6, _ => exact rfl
    | 7, _ => exact rfl
    | 8, _ => exact rfl
    | 9, _ => exact rfl
    | 10, _ => exact rfl
    | 11, _ => exact rfl
    | 12, _ => exact rfl
    | 13, _ => exact rfl
    | 14, _ => exact rfl
    | 15, _ => exact rfl
    | 16, _ => exact rfl
    | 17, _ => exact rfl
    | 18, _ => exact rfl
    | 19, _ => exact rfl
    | 20, _ => exact rfl
    | 21, _ => exact rfl
    | 22, _ => exact rfl
    | 23, _ => exact rfl
    | n + 24, h => exact absurd h (by omega))⟩
  case round =>
    obtain ⟨m, k, hm, hk, rfl, rfl, HI⟩ := hrel
    obtain ⟨D, hI⟩ := HI.out
    have HD := hide hI
    clear hI HI
    by_cases hpos : 0 < m
    · have hk0 := itoa_room HD.out hpos h1
      obtain ⟨k', rfl⟩ : ∃ k', k = k' + 1 := ⟨k - 1, by omega⟩
      have hc1 := HD.out.row.cell (i := k') (by omega)
      have hf1 := HD.out.row.frozen k'
      have HS := hide (itoa_step HD.out hpos)
      go_wp2
      go_roundw
      case rel => exact ⟨m / 10, k', by omega, by omega, by go_num, rfl, _, HS.out⟩
      case measure => simp [intOf]; omega
    · obtain rfl : m = 0 := by omega
      have hcv := itoa_conv HD.out
      have hsl := slice_arr w wr k (itoa_lt HD.out)
      have HB := hide HD.out.below
      go_wp2
      go_ret
      exact ⟨rfl, HB.out⟩

theorem itoa_any (n : Nat) (w : World) (h1 : n ≤ 1048576) :
    Calls Tryd.prog 16 #[.int .i64 n] w fun e w' => e = .returned (.string ⟨(Lib.decDigits n).toArray⟩) ∧ Below w.heap.size w w' := by
  by_cases h0 : n = 0
  · subst h0
    have e : (⟨(Lib.decDigits 0).toArray⟩ : ByteArray) = ⟨#[48]⟩ := by
      rw [Dec.decDigits_small (by omega)]
      rfl
    rw [e]
    go_enter Tryd.func16, Tryd.ntmps16
    go_wp2
    go_ret
    exact ⟨rfl, Below.refl _ _⟩
  · exact itoa_pos n w (by omega) h1

/-- The index below n that l spells, in the canonical way. -/
def idx (l : List UInt8) (n : Nat) : Option Nat := (List.range n).find? (fun j => Lib.decDigits j == l)

theorem idx_some {l : List UInt8} {n k : Nat} (hk : k < n) (h : Lib.decDigits k = l) : idx l n = some k := by
  unfold idx
  cases hq : (List.range n).find? (fun j => Lib.decDigits j == l) with
  | none =>
    have := List.find?_eq_none.1 hq k (List.mem_range.2 hk)
    simp [h] at this
  | some j =>
    have h2 := List.find?_some hq
    rw [beq_iff_eq] at h2
    rw [Dec.dec_inj (h2.trans h.symm)]
theorem idx_none {l : List UInt8} {n : Nat} (h : ∀ k, k < n → Lib.decDigits k ≠ l) : idx l n = none := by
  unfold idx
  rw [List.find?_eq_none]
  intro j hj
  have := h j (List.mem_range.1 hj)
  simpa using this
theorem idx_spec {l : List UInt8} {n k : Nat} (h : idx l n = some k) : k < n ∧ Lib.decDigits k = l := by
  unfold idx at h
  have h2 := List.find?_some h
  rw [beq_iff_eq] at h2
  exact ⟨List.mem_range.1 (List.mem_of_find?_eq_some h), h2⟩

/-- The same as an int: -1 where there is none. -/
def idxI (l : List UInt8) (n : Nat) : Int := match idx l n with
  | some j => (j : Int)
  | none => -1

theorem idxI_some {l : List UInt8} {n k : Nat} (h : idx l n = some k) : idxI l n = k := by unfold idxI; rw [h]
theorem idxI_none {l : List UInt8} {n : Nat} (h : idx l n = none) : idxI l n = -1 := by unfold idxI; rw [h]

theorem ret_int {k : IntKind} {a b : Int} (h : a = b) : Ending.returned (.int k a) = .returned (.int k b) := by rw [h]

set_option maxHeartbeats 400000 in
theorem indexAmong_any (tok : ByteArray) (n : Nat) (w : World) (hn : n ≤ 1048576) :
    Calls Tryd.prog 9 #[.string tok, .int .i64 n] w fun e w' => e = .returned (.int .i64 (idxI tok.data.toList n)) ∧ Below w.heap.size w w' := by
  go_enter Tryd.func9, Tryd.ntmps9
  go_wp2
  go_loopw [5] (fun j wr => ∃ k : Nat, k ≤ n ∧ j = .int .i64 k ∧ Hid (∀ i, i < k → Lib.decDigits i ≠ tok.data.toList) ∧ Hid (Below w.heap.size w wr)) (fun j _ => n - (intOf j).toNat)
  case atStart => exact ⟨0, Nat.zero_le _, rfl, fun i hi => by omega, Below.refl _ _⟩
  case round =>
    obtain ⟨k, hk, rfl, HK, HB⟩ := hrel
    by_cases hlt : k < n
    · by_cases hq : Lib.decDigits k = tok.data.toList
      · have hqb : (tok.toList == Lib.decDigits k) = true := by
          rw [ByteArray.toList_eq, hq]
          simp
        have HX := hide (idxI_some (idx_some hlt hq))
        clear hq
        go_wp2_with fail
        refine (itoa_any k _ (by omega)).mono ?_
        rintro e w1 ⟨rfl, hb1⟩
        have HB1 : Hid (Below w.heap.size w w1) := HB.out.trans (hb1.mono HB.out.size)
        clear hb1
        go_wp2
        go_ret
        exact ⟨ret_int HX.out.symm, HB1.out⟩
      · have hqb : (tok.toList == Lib.decDigits k) = false := by
          rw [ByteArray.toList_eq]
          exact beq_eq_false_iff_ne.2 (fun e => hq e.symm)
        have HK2 : Hid (∀ i, i < k + 1 → Lib.decDigits i ≠ tok.data.toList) := fun i hi => by
          by_cases e : i = k
          · subst e; exact hq
          · exact HK.out i (by omega)
        clear hq
        go_wp2_with fail
        refine (itoa_any k _ (by omega)).mono ?_
        rintro e w1 ⟨rfl, hb1⟩
        have HB1 : Hid (Below w.heap.size w w1) := HB.out.trans (hb1.mono HB.out.size)
        clear hb1
        go_wp2
        go_roundw
        case rel => exact ⟨k + 1, by omega, by go_num, HK2, HB1⟩
        case measure => simp [intOf]; omega
    · have HX := hide (idxI_none (idx_none (n := n) (fun i hi => HK.out i (by omega))))
      go_wp2
      go_ret
      exact ⟨ret_int HX.out.symm, HB.out⟩

end Go.Proofs.Qxb6614023aDoor
