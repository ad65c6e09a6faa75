/-
  The walk of ZZInListOperand: operand i of x IN (list).
-/
import Derived.Test.Qxb6613630aProg
import Derived.WalkKit
import Derived.WalkSpells
import Derived.WalkLawsBesides
import Derived.OwnWalk
import Derived.Deep.OwnRows
import Derived.KernelRfl
namespace Go.Proofs.Qxb6613630a
open Go.RowKit

theorem Try.info33 : (Try.prog.info? 33).map (fun i => (i.zero, i.size, i.bytes)) = some (some .nilIface, 1, 16) := by kernel_rfl
theorem Try.info9 : (Try.prog.info? 9).map (fun i => (i.zero, i.size, i.bytes)) = some (some (.string ⟨#[]⟩), 1, 16) := by kernel_rfl

/-- Element k of ss; the empty string beyond its end. -/
def sAt (ss : List ByteArray) (k : Nat) : ByteArray := ss.getD k ⟨#[]⟩

/-- In world w the slice that begins at ao holds the strings ss. -/
structure StrAt (w : World) (ao : Option Addr) (b off : Nat) (ss : List ByteArray) : Prop where
  at_ : 0 < ss.length → ao = some ⟨b, off, none⟩
  lt : 0 < ss.length → b < w.heap.size
  cell : ∀ i, i < ss.length → w.cell? ⟨b, off + i, none⟩ = some (.string (sAt ss i))

theorem StrAt.below {w w' : World} {ao : Option Addr} {b off : Nat} {ss : List ByteArray} (h : StrAt w ao b off ss) (hb : Below w.heap.size w w') : StrAt w' ao b off ss :=
  ⟨h.at_, fun h0 => Nat.lt_of_lt_of_le (h.lt h0) hb.size, fun i hi => by rw [hb.cell (p := ⟨b, off + i, none⟩) (h.lt (by omega))]; exact h.cell i hi⟩

/-- What the operand's name is. -/
def opS (x : ByteArray) (ss : List ByteArray) (i : Int) : ByteArray := if i = 0 then x else sAt ss (i - 1).toNat

theorem assert28 (v : Value) (w : World) : (Instr.typeAssert (.iface 28 v) 33 28 true).run Try.prog w = .ok (.tuple #[v, .bool true]) w := by kernel_rfl
theorem assertNil (w : World) : (Instr.typeAssert .nilIface 33 28 true).run Try.prog w = .ok (.tuple #[.pointer none, .bool false]) w := by kernel_rfl

/-- The world behind k rounds of the loop that lays the items. -/
structure Items (w wr : World) (n k : Nat) (ss : List ByteArray) : Prop where
  size : wr.heap.size = w.heap.size + 1 + k
  row : wr.rowIs w.heap.size 33 n (fun j => if j < k then .iface 28 (.pointer (some ⟨w.heap.size + 1 + j, 0, none⟩)) else .nilIface)
  cell : ∀ j, j < k → wr.cell? ⟨w.heap.size + 1 + j, 1, none⟩ = some (.string (sAt ss j))
  below : Below w.heap.size w wr

theorem items_start (w : World) (n : Nat) (ss : List ByteArray) : Items w (w.alloc (.cells (madeCells #[.nilIface] n) 33)) n 0 ss :=
  ⟨by simp, (w.rowIs_made .nilIface n 33).congr (fun i _ => by simp), fun j hj => by omega, (Below.refl _ _).alloc (Nat.le_refl _) _⟩

theorem items_step {w wr : World} {n k : Nat} {ss : List ByteArray} {c2 c3 c4 : Value} (h : Items w wr n k ss) (hk : k < n) :
    Items w ((wr.setCell ⟨w.heap.size, k, none⟩ (.iface 28 (.pointer (some ⟨wr.heap.size, 0, none⟩)))).alloc (.cells #[.nilIface, .string (sAt ss k), c2, c3, c4] 35)) n (k + 1) ss := by
  have hs := h.size
  have hsz : (wr.setCell ⟨w.heap.size, k, none⟩ (.iface 28 (.pointer (some ⟨wr.heap.size, 0, none⟩)))).heap.size = wr.heap.size := by simp [World.setCell]
  refine ⟨by simp [World.setCell]; omega, ?_, ?_, ?_⟩
  · refine ((h.row.set k _).alloc _).congr ?_
    intro j hj
    show (if j = k then _ else _) = _
    by_cases e : j = k
    · subst e
      rw [if_pos rfl, if_pos (by omega), hs]
    · rw [if_neg e]
      show (if j < k then _ else _) = _
      by_cases e2 : j < k
      · rw [if_pos e2, if_pos (by omega)]
      · rw [if_neg e2, if_neg (by omega)]
  · intro j hj
    have hB := (Below.refl (wr.setCell ⟨w.heap.size, k, none⟩ (.iface 28 (.pointer (some ⟨wr.heap.size, 0, none⟩)))).heap.size _).alloc (Nat.le_refl _) (.cells #[.nilIface, .string (sAt ss k), c2, c3, c4] 35)
    by_cases e : j = k
    · subst e
      have e2 : w.heap.size + 1 + j = (wr.setCell ⟨w.heap.size, j, none⟩ (.iface 28 (.pointer (some ⟨wr.heap.size, 0, none⟩)))).heap.size := by rw [hsz, hs]
      rw [e2]
      have := heap_alloc_new (wr.setCell ⟨w.heap.size, j, none⟩ (.iface 28 (.pointer (some ⟨wr.heap.size, 0, none⟩)))) (.cells #[.nilIface, .string (sAt ss j), c2, c3, c4] 35)
      simp only [World.cell?, this]
      rfl
    · have hne : (⟨w.heap.size, k, none⟩ : Addr) ≠ ⟨w.heap.size + 1 + j, 1, none⟩ := fun e => by
        have := congrArg Addr.block e
        simp only at this
        omega
      rw [hB.cell (p := ⟨w.heap.size + 1 + j, 1, none⟩) (by rw [hsz]; show w.heap.size + 1 + j < _; omega)]
      exact (World.cell?_setCell_other _ _ _ _ hne).trans (h.cell j (by omega))
  · exact (h.below.setCell (Nat.le_refl _) _).alloc (by rw [hsz]; omega) _

theorem hide {p : Prop} (h : p) : Hid p := h

set_option maxHeartbeats 400000 in
theorem opn_zero (g : Nat) (v : Value) (w : World) (hc : w.cell? ⟨g, 0, none⟩ = some v) :
    Calls Try.prog 8 #[.pointer (some ⟨g, 0, none⟩), .int .i64 0] w fun e w' => e = .returned v ∧ w' = w := by
  go_enter Try.func8, Try.ntmps8
  go_wp2
  go_ret
  exact ⟨rfl, rfl⟩

set_option maxHeartbeats 400000 in
theorem opn_in (g B n m : Nat) (v : Value) (w : World) (hn : n ≤ 2100000) (hm : m < n) (hc : w.cell? ⟨g, 1, none⟩ = some (.slice (some ⟨B, 0, none⟩) n n)) (hv : w.cell? ⟨B, m, none⟩ = some v) :
    Calls Try.prog 8 #[.pointer (some ⟨g, 0, none⟩), .int .i64 ((m : Int) + 1)] w fun e w' => e = .returned v ∧ w' = w := by
  go_enter Try.func8, Try.ntmps8
  go_wp2
  go_ret
  exact ⟨rfl, rfl⟩

set_option maxHeartbeats 400000 in
theorem opn_out (g B n : Nat) (i : Int) (w : World) (hn : n ≤ 2100000) (hi : (n : Int) < i) (h1 : i ≤ 9223372036854775807) (hc : w.cell? ⟨g, 1, none⟩ = some (.slice (some ⟨B, 0, none⟩) n n)) :
    Calls Try.prog 8 #[.pointer (some ⟨g, 0, none⟩), .int .i64 i] w fun e w' => e = .returned .nilIface ∧ w' = w := by
  go_enter Try.func8, Try.ntmps8
  go_wp2
  go_ret
  exact ⟨rfl, rfl⟩

theorem two_alloc {w : World} {o1 o2 : Obj} {g j : Nat} (h : g < w.heap.size) : ((w.alloc o1).alloc o2).cell? ⟨g, j, none⟩ = w.cell? ⟨g, j, none⟩ :=
  (((Below.refl w.heap.size w).alloc (Nat.le_refl _) o1).alloc (by simp) o2).cell (p := ⟨g, j, none⟩) h

theorem items_end {w wr : World} {n k : Nat} {ss : List ByteArray} (h : Items w wr n k ss) {o1 o2 : Obj} : Below w.heap.size w ((wr.alloc o1).alloc o2) := by
  have hs := h.size
  exact (h.below.alloc (by omega) _).alloc (by simp; omega) _

set_option maxHeartbeats 400000 in
theorem operand_any (x : ByteArray) (ao : Option Addr) (b off n cap : Nat) (ss : List ByteArray) (i : Int) (w : World) (hn : ss.length = n) (hb : n ≤ 2100000) (h : StrAt w ao b off ss) (h0 : 0 ≤ i) (h1 : i ≤ 9223372036854775807) :
    Calls Try.prog 6 #[.string x, .slice ao n cap, .int .i64 i] w fun e w' => e = .returned (.tuple #[.string (opS x ss i), .bool (decide (i ≤ n))]) ∧ Below w.heap.size w w' := by
  have HN : Hid (ss.length = n) := hn
  have HH : Hid (StrAt w ao b off ss) := h
  clear hn h
  have hmk := fun W => run_make_row' (P := Try.prog) 27 33 .nilIface 16 Try.underlying27 Try.info33 rfl .i64 .i64 n (by omega) (by omega) W
  go_enter Try.func6, Try.ntmps6
  go_wp2_with fail
  go_loopw [9] (fun j wr => ∃ k : Nat, k ≤ n ∧ j = .int .i64 k ∧ Hid (Items w wr n k ss)) (fun j _ => n - (intOf j).toNat)
  case atStart => exact ⟨0, Nat.zero_le _, rfl, items_start w n ss⟩
  case round =>
    obtain ⟨k, hk, rfl, HI⟩ := hrel
    by_cases hlt : k < n
    · obtain rfl : ao = some ⟨b, off, none⟩ := HH.out.at_ (by have := HN.out; omega)
      have hc0 : wr.cell? ⟨b, off + k, none⟩ = some (.string (sAt ss k)) := by
        rw [HI.out.below.cell (p := ⟨b, off + k, none⟩) (HH.out.lt (by have := HN.out; omega))]
        exact HH.out.cell k (by have := HN.out; omega)
      have hc1 := HI.out.row.cell hlt
      rw [if_neg (Nat.lt_irrefl k)] at hc1
      have hf1 := HI.out.row.frozen k
      have hblt : w.heap.size < wr.heap.size := by have := HI.out.size; omega
      have hblt2 : b < wr.heap.size := by have := HH.out.lt (by have := HN.out; omega); omega
      go_wp2
      go_roundw
      case rel => exact ⟨k + 1, by omega, by go_num, items_step HI.out hlt⟩
      case measure => simp [intOf]; omega
    · obtain rfl : k = n := by omega
      have hsz := HI.out.size
      have hnlt : w.heap.size < wr.heap.size := by omega
      clear hsz
      by_cases hi0 : i = 0
      · subst hi0
        have hta := fun W => assert28 (.pointer (some ⟨wr.heap.size, 0, none⟩)) W
        go_wp2_with fail
        refine (opn_zero _ (.iface 28 (.pointer (some ⟨wr.heap.size, 0, none⟩))) _ (by simp)).mono ?_
        rintro e w' ⟨rfl, rfl⟩
        go_wp2
        go_ret2
        refine ⟨?_, items_end HI.out⟩
        simp [opS]
      · by_cases hin : i ≤ k
        · obtain ⟨m, rfl⟩ : ∃ m : Nat, i = (m : Int) + 1 := ⟨(i - 1).toNat, by omega⟩
          have hc1 := HI.out.row.cell (i := m) (by omega)
          rw [if_pos (by omega)] at hc1
          have hc2 := HI.out.cell m (by omega)
          have hgl : w.heap.size + 1 + m < wr.heap.size := by have := HI.out.size; omega
          generalize w.heap.size + 1 + m = g at *
          have hta := fun W => assert28 (.pointer (some ⟨g, 0, none⟩)) W
          have HC1 : Hid (∀ o1 o2, ((wr.alloc o1).alloc o2).cell? ⟨w.heap.size, m, none⟩ = some (.iface 28 (.pointer (some ⟨g, 0, none⟩)))) := fun o1 o2 => (two_alloc hnlt).trans hc1
          have hc3 : ∀ o1 o2, ((wr.alloc o1).alloc o2).cell? ⟨g, 1, none⟩ = some (.string (sAt ss m)) := fun o1 o2 => (two_alloc hgl).trans hc2
          clear hc1 hc2
          go_wp2_with fail
          refine (opn_in _ _ k m (.iface 28 (.pointer (some ⟨g, 0, none⟩))) _ (by omega) (by omega) (by simp) (HC1.out _ _)).mono ?_
          rintro e w' ⟨rfl, rfl⟩
          go_wp2
          go_ret2
          refine ⟨?_, items_end HI.out⟩
          have e1 : opS x ss ((m : Int) + 1) = sAt ss m := by
            unfold opS
            rw [if_neg hi0]
            congr 1
            omega
          rw [e1, decide_eq_true hin]
          rfl
        · have hta := assertNil
          have HE : Hid (opS x ss i = ⟨#[]⟩) := by
            have hz := HN.out
            show opS x ss i = ⟨#[]⟩
            unfold opS sAt
            rw [if_neg hi0, List.getD_eq_getElem?_getD, List.getElem?_eq_none (by omega)]
            rfl
          go_wp2_with fail
          refine (opn_out _ w.heap.size k i _ (by omega) (by omega) h1 (by simp)).mono ?_
          rintro e w' ⟨rfl, rfl⟩
          go_wp2
          go_ret2
          refine ⟨?_, items_end HI.out⟩
          rw [HE.out, decide_eq_false (Int.not_le.2 hin)]
          rfl

theorem operand_yes (x : ByteArray) (ao : Option Addr) (b off n cap : Nat) (ss : List ByteArray) (i : Int) (s : ByteArray) (w : World) (hn : ss.length = n) (hb : n ≤ 2100000) (h : StrAt w ao b off ss) (h0 : 0 ≤ i) (h1 : i ≤ n) (hs : opS x ss i = s) :
    Calls Try.prog 6 #[.string x, .slice ao n cap, .int .i64 i] w fun e w' => e = .returned (.tuple #[.string s, .bool true]) ∧ Below w.heap.size w w' := by
  refine (operand_any x ao b off n cap ss i w hn hb h h0 (by omega)).mono ?_
  rintro e w' ⟨rfl, hb⟩
  rw [hs, decide_eq_true h1]
  exact ⟨rfl, hb⟩

theorem operand_no (x : ByteArray) (ao : Option Addr) (b off n cap : Nat) (ss : List ByteArray) (i : Int) (w : World) (hn : ss.length = n) (hb : n ≤ 2100000) (h : StrAt w ao b off ss) (h0 : (n : Int) < i) (h1 : i ≤ 9223372036854775807) :
    Calls Try.prog 6 #[.string x, .slice ao n cap, .int .i64 i] w fun e w' => e = .returned (.tuple #[.string ⟨#[]⟩, .bool false]) ∧ Below w.heap.size w w' := by
  refine (operand_any x ao b off n cap ss i w hn hb h (by omega) h1).mono ?_
  rintro e w' ⟨rfl, hb⟩
  have e1 : opS x ss i = ⟨#[]⟩ := by
    unfold opS sAt
    rw [if_neg (by omega), List.getD_eq_getElem?_getD, List.getElem?_eq_none (by omega)]
    rfl
  rw [e1, decide_eq_false (Int.not_le.2 h0)]
  exact ⟨rfl, hb⟩

end Go.Proofs.Qxb6613630a
