/-
  The walk of the law.
-/
import Derived.Test.Qxb6613586aHeap
import Derived.Deep.QuietTactic
import Derived.BigQuiet
namespace Go.Proofs.Qxb6613586a
open Go.RowKit

set_option maxHeartbeats 400000 in
theorem bytes_small (a : Option Addr) (len cap : Nat) (d : Int) (w : World) (h : len ≤ 131072) :
    Calls Try.prog 4 #[.slice a len cap, .int .i64 d] w fun e w' => e = .returned (.bool true) ∧ w' = w := by
  go_enter Try.func4, Try.ntmps4
  go_wp2
  go_ret
  exact ⟨rfl, rfl⟩

set_option maxHeartbeats 400000 in
theorem law_big (a : Option Addr) (len cap : Nat) (d : Int) (w : World) (h : 131072 < len) (hm : len ≤ maxLen) :
    Calls Try.prog 3 #[.slice a len cap, .int .i64 d] w fun e w' => e = .returned (.bool true) ∧ w' = w := by
  unfold maxLen at hm
  by_cases h2 : 1048576 < len
  · go_enter Try.func3, Try.ntmps3
    go_wp2
    go_ret
    exact ⟨rfl, rfl⟩
  · go_enter Try.func3, Try.ntmps3
    go_wp2
    go_ret
    exact ⟨rfl, rfl⟩

set_option maxHeartbeats 400000 in
theorem law_small (b off len cap : Nat) (zs : List Int) (d : Int) (w : World) (h : len ≤ 131072) (hz : zs.length = len) (hc : ∀ i, i < len → w.cell? ⟨b, off + i, none⟩ = some (.int .i64 (zs.getD i 0))) (hb : 0 < len → b < w.heap.size)
    (hr : ∀ i, -9223372036854775808 ≤ zs.getD i 0 ∧ zs.getD i 0 ≤ 9223372036854775807) (h0 : -9223372036854775808 ≤ d) (h1 : d ≤ 9223372036854775807) :
    Calls Try.prog 3 #[.slice (some ⟨b, off, none⟩) len cap, .int .i64 d] w fun e w' => e = .returned (.bool true) ∧ Below w.heap.size w w' := by
  have HC : Hid (∀ i, i < len → w.cell? ⟨b, off + i, none⟩ = some (.int .i64 (zs.getD i 0))) := hc
  have HR : Hid (∀ i, -9223372036854775808 ≤ zs.getD i 0 ∧ zs.getD i 0 ≤ 9223372036854775807) := hr
  have HZ : Hid (zs.length = len) := hz
  clear hc hr hz
  go_enter Try.func3, Try.ntmps3
  go_wp2_with fail
  refine (bytes_small _ _ _ _ _ h).mono ?_
  rintro e w' ⟨rfl, rfl⟩
  go_wp2_with fail
  refine (new_any _).mono ?_
  rintro e w1 ⟨rfl, hh, hb1⟩
  have HH : Hid (HeapAt w'.heap.size (w'.heap.size + 1) w1 w'.heap.size 0 []) := hh
  have HB1 : Hid (Below w'.heap.size w' w1) := hb1
  clear hh hb1
  have hd0 : decide (131072 < (len : Int)) = false := by simp; omega
  go_wp2_with fail
  go_loopw [6] (fun i wr => ∃ k : Nat, k ≤ len ∧ i = .int .i64 k ∧ Hid (∃ g c, HeapAt w'.heap.size (w'.heap.size + 1) wr g c (zs.take k)) ∧ Hid (Below w'.heap.size w' wr)) (fun i _ => len - (intOf i).toNat)
  case atStart => exact ⟨0, Nat.zero_le _, rfl, ⟨_, _, by simpa using HH.out⟩, HB1⟩
  case round =>
    clear HH HB1
    obtain ⟨k, hk, rfl, HHr, HBr⟩ := hrel
    by_cases hlt : k < len
    · have hcell : wr.cell? ⟨b, off + k, none⟩ = some (.int .i64 (zs.getD k 0)) := by
        rw [HBr.out.cell (p := ⟨b, off + k, none⟩) (hb (by omega))]
        exact HC.out k hlt
      have hrk := HR.out k
      have HT : Hid (zs.take (k + 1) = zs.take k ++ [zs.getD k 0]) := by
        have hz := HZ.out
        have hkl : k < zs.length := by omega
        show zs.take (k + 1) = _
        rw [List.take_succ_eq_append_getElem hkl, List.getD_eq_getElem?_getD, List.getElem?_eq_getElem hkl]
        rfl
      have HL : Hid ((zs.take k).length ≤ 1000000) := by
        show (zs.take k).length ≤ 1000000
        rw [List.length_take]
        omega
      generalize zs.getD k 0 = x at *
      obtain ⟨g, c, hg⟩ := HHr.out
      have HG : Hid (HeapAt w'.heap.size (w'.heap.size + 1) wr g c (zs.take k)) := hg
      clear hg HHr
      go_wp2_with fail
      refine (pushAt_any x HG.out HL.out hrk.1 hrk.2 HBr.out.size).mono ?_
      rintro e w2 ⟨rfl, h2, hb2⟩
      have H2 : Hid (∃ g c, HeapAt w'.heap.size (w'.heap.size + 1) w2 g c (zs.take k ++ [x])) := h2
      have HB2 : Hid (Below w'.heap.size wr w2) := hb2
      clear h2 hb2
      go_wp2
      go_roundw
      case rel => exact ⟨k + 1, by omega, by go_num, by rw [HT.out]; exact H2, HBr.out.trans HB2.out⟩
      case measure => simp [intOf]; omega
    · obtain rfl : k = len := by omega
      have HA : Hid (zs.take k = zs) := by
        have hz := HZ.out
        exact List.take_of_length_le (by omega)
      rw [HA.out] at HHr
      obtain ⟨g, c, hg⟩ := HHr.out
      have hgc := hg.cell
      rw [HZ.out] at hgc
      have HG : Hid (HeapAt w'.heap.size (w'.heap.size + 1) wr g c zs) := hg
      clear hg HHr
      go_wp2_with fail
      refine (heapLen_any _ g k c _ hgc).mono ?_
      rintro e w3 ⟨rfl, rfl⟩
      go_wp2_with fail
      have HL : Hid (zs.length ≤ 1000000) := by
        have hz := HZ.out
        show zs.length ≤ 1000000
        omega
      refine (pushAt_any d HG.out HL.out h0 h1 HBr.out.size).mono ?_
      rintro e w4 ⟨rfl, h4, hb4⟩
      have HB4 : Hid (Below w'.heap.size w' w4) := HBr.out.trans hb4
      obtain ⟨g2, c2, hg2⟩ := h4
      have HG2 : Hid (HeapAt w'.heap.size (w'.heap.size + 1) w4 g2 c2 (zs ++ [d])) := hg2
      have hgc2 := hg2.cell
      rw [List.length_append, HZ.out] at hgc2
      have hgc2 : w4.cell? ⟨w'.heap.size + 1, 0, none⟩ = some (.slice (some ⟨g2, 0, none⟩) (k + 1) c2) := hgc2
      clear hb4 hg2 HBr HG hgc
      go_wp2_with fail
      refine (heapLen_any _ g2 (k + 1) c2 _ hgc2).mono ?_
      rintro e w5 ⟨rfl, rfl⟩
      clear hgc2
      go_wp2_with fail
      go_loopw [7] (fun i wr => ∃ j : Nat, j ≤ k ∧ i = .int .i64 j ∧ Hid (HeapAt w'.heap.size (w'.heap.size + 1) wr g2 c2 (zs ++ [d])) ∧ Hid (Below w'.heap.size w' wr)) (fun i _ => k - (intOf i).toNat)
      case atStart => exact ⟨0, Nat.zero_le _, rfl, HG2, HB4⟩
      case round =>
        clear HG2 HB4
        obtain ⟨j, hj, rfl, HHr, HBr⟩ := hrel
        by_cases hlt2 : j < k
        · have hcell : wr.cell? ⟨b, off + j, none⟩ = some (.int .i64 (zs.getD j 0)) := by
            rw [HBr.out.cell (p := ⟨b, off + j, none⟩) (hb (by omega))]
            exact HC.out j hlt2
          have hbr : b < wr.heap.size := Nat.lt_of_lt_of_le (hb (by omega)) HBr.out.size
          have hrk := HR.out j
          have HX : Hid ((zs ++ [d])[j]? = some (zs.getD j 0)) := by
            have hz := HZ.out
            have hkl : j < zs.length := by omega
            show (zs ++ [d])[j]? = _
            rw [List.getElem?_append_left hkl, List.getD_eq_getElem?_getD, List.getElem?_eq_getElem hkl]
            rfl
          generalize zs.getD j 0 = x at *
          have j0 : (0 : Int) ≤ (j : Int) := Int.natCast_nonneg _
          have j1 : (j : Int) < (k : Int) := by omega
          have HD : Hid (HeapAt w'.heap.size (w'.heap.size + 1) wr.drew g2 c2 (zs ++ [d])) := HHr.out.below (Below.refl _ _).drew
          go_wp2_with fail
          go_region_held3 (fun x1 => x1.cell? ⟨b, off + j, none⟩ = some (.int .i64 x)) (first | go_keep | (rw [hb3.cell (p := ⟨b, off + j, none⟩) hbr]; exact hcell))
            (first | (go_at_call 8; refine (heapAt_heap HD.out j x HX.out hrk.1 hrk.2).mono ?_; rintro e w3 ⟨rfl, hb3⟩))
          have HB3 : Hid (Below wr.drew.heap.size wr.drew w3) := hb3
          clear hb3
          go_wp2
          go_roundw
          case rel => exact ⟨j + 1, by omega, by go_num, HD.out.below HB3.out, HBr.out.trans ((Below.refl _ _).drew.trans (HB3.out.mono HBr.out.size))⟩
          case measure => simp [intOf]; omega
        · have HX : Hid ((zs ++ [d])[k]? = some d) := by
            have hz := HZ.out
            show (zs ++ [d])[k]? = _
            rw [← hz]
            simp
          go_wp2_with fail
          refine (heapAt_heap HHr.out k d HX.out h0 h1).mono ?_
          rintro e w3 ⟨rfl, hb3⟩
          have HB3 : Hid (Below w'.heap.size w' w3) := HBr.out.trans (hb3.mono HBr.out.size)
          clear hb3
          go_wp2
          go_ret
          exact ⟨rfl, HB3.out⟩

set_option maxHeartbeats 400000 in
theorem law_nil (ao : Option Addr) (cap : Nat) (d : Int) (w : World) (h0 : -9223372036854775808 ≤ d) (h1 : d ≤ 9223372036854775807) :
    Calls Try.prog 3 #[.slice ao 0 cap, .int .i64 d] w fun e w' => e = .returned (.bool true) ∧ Below w.heap.size w w' := by
  go_enter Try.func3, Try.ntmps3
  go_wp2_with fail
  refine (bytes_small ao 0 cap d _ (by omega)).mono ?_
  rintro e w' ⟨rfl, rfl⟩
  go_wp2_with fail
  refine (new_any _).mono ?_
  rintro e w1 ⟨rfl, hh, hb1⟩
  have HH : Hid (HeapAt w'.heap.size (w'.heap.size + 1) w1 w'.heap.size 0 []) := hh
  have HB1 : Hid (Below w'.heap.size w' w1) := hb1
  clear hh hb1
  go_wp2_with fail
  go_loopw [6] (fun i wr => i = .int .i64 0 ∧ Hid (HeapAt w'.heap.size (w'.heap.size + 1) wr w'.heap.size 0 []) ∧ Hid (Below w'.heap.size w' wr)) (fun _ _ => 0)
  case atStart => exact ⟨rfl, HH, HB1⟩
  case round =>
    clear HH HB1
    obtain ⟨rfl, HG, HBr⟩ := hrel
    have hgc := HG.out.cell
    go_wp2_with fail
    refine (heapLen_any _ _ 0 0 _ hgc).mono ?_
    rintro e w3 ⟨rfl, rfl⟩
    go_wp2_with fail
    refine (pushAt_any d HG.out (by simp) h0 h1 HBr.out.size).mono ?_
    rintro e w4 ⟨rfl, h4, hb4⟩
    have HB4 : Hid (Below w'.heap.size w' w4) := HBr.out.trans hb4
    obtain ⟨g2, c2, hg2⟩ := h4
    have HG2 : Hid (HeapAt w'.heap.size (w'.heap.size + 1) w4 g2 c2 [d]) := hg2
    have hgc2 : w4.cell? ⟨w'.heap.size + 1, 0, none⟩ = some (.slice (some ⟨g2, 0, none⟩) 1 c2) := hg2.cell
    clear hb4 hg2 HBr HG hgc
    go_wp2_with fail
    refine (heapLen_any _ g2 1 c2 _ hgc2).mono ?_
    rintro e w5 ⟨rfl, rfl⟩
    clear hgc2
    go_wp2_with fail
    go_loopw [7] (fun i wr => i = .int .i64 0 ∧ Hid (HeapAt w'.heap.size (w'.heap.size + 1) wr g2 c2 [d]) ∧ Hid (Below w'.heap.size w' wr)) (fun _ _ => 0)
    case atStart => exact ⟨rfl, HG2, HB4⟩
    case round =>
      clear HG2 HB4
      obtain ⟨rfl, HHr, HBr⟩ := hrel
      go_wp2_with fail
      refine (heapAt_heap HHr.out 0 d rfl h0 h1).mono ?_
      rintro e w3 ⟨rfl, hb3⟩
      have HB3 : Hid (Below w'.heap.size w' w3) := HBr.out.trans (hb3.mono HBr.out.size)
      clear hb3
      go_wp2
      go_ret
      exact ⟨rfl, HB3.out⟩

end Go.Proofs.Qxb6613586a
