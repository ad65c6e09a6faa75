/-
  Slices of strings and slices of such slices, as the walks take them; the sizes' walks.
-/
import Derived.Test.Qxb6614023aDoorProg
import Derived.WalkKit
import Derived.WalkSpells
import Derived.WalkLawsBesides
import Derived.OwnWalk
import Derived.Deep.OwnRows
import Derived.KernelRfl
namespace Go.Proofs.Qxb6614023aDoor
open Go.RowKit

theorem hide {p : Prop} (h : p) : Hid p := h

/-- Element k of ss; the empty string beyond its end. -/
def sAt (ss : List ByteArray) (k : Nat) : ByteArray := ss.getD k ⟨#[]⟩

/-- In world w the slice that begins at ao holds the strings ss. -/
structure StrAt (w : World) (ao : Option Addr) (b off : Nat) (ss : List ByteArray) : Prop where
  at_ : 0 < ss.length → ao = some ⟨b, off, none⟩
  lt : 0 < ss.length → b < w.heap.size
  cell : ∀ i, i < ss.length → w.cell? ⟨b, off + i, none⟩ = some (.string (sAt ss i))

theorem StrAt.below {w w' : World} {ao : Option Addr} {b off : Nat} {ss : List ByteArray} (h : StrAt w ao b off ss) (hb : Below w.heap.size w w') : StrAt w' ao b off ss :=
  ⟨h.at_, fun h0 => Nat.lt_of_lt_of_le (h.lt h0) hb.size, fun i hi => by rw [hb.cell (p := ⟨b, off + i, none⟩) (h.lt (by omega))]; exact h.cell i hi⟩

/-- One row of a grid: its slice value and its strings. -/
structure RowV where
  ao : Option Addr
  b : Nat
  off : Nat
  cap : Nat
  ss : List ByteArray

/-- Row k of R; an empty one beyond its end. -/
def rAt (R : List RowV) (k : Nat) : RowV := R.getD k ⟨none, 0, 0, 0, []⟩

/-- In world w the slice that begins at ao holds the rows R. -/
structure GridAt (w : World) (ao : Option Addr) (b off : Nat) (R : List RowV) : Prop where
  at_ : 0 < R.length → ao = some ⟨b, off, none⟩
  lt : 0 < R.length → b < w.heap.size
  cell : ∀ i, i < R.length → w.cell? ⟨b, off + i, none⟩ = some (.slice (rAt R i).ao (rAt R i).ss.length (rAt R i).cap)
  row : ∀ i, i < R.length → StrAt w (rAt R i).ao (rAt R i).b (rAt R i).off (rAt R i).ss

theorem GridAt.below {w w' : World} {ao : Option Addr} {b off : Nat} {R : List RowV} (h : GridAt w ao b off R) (hb : Below w.heap.size w w') : GridAt w' ao b off R :=
  ⟨h.at_, fun h0 => Nat.lt_of_lt_of_le (h.lt h0) hb.size, fun i hi => by rw [hb.cell (p := ⟨b, off + i, none⟩) (h.lt (by omega))]; exact h.cell i hi, fun i hi => (h.row i hi).below hb⟩

/-- Each of the strings is at most 1<<20 bytes long. -/
def Short (ss : List ByteArray) : Prop := ∀ j, j < ss.length → (sAt ss j).size ≤ 1048576

/-- No length of the rows is beyond an int. -/
structure Fits (R : List RowV) : Prop where
  len : ∀ i, (rAt R i).ss.length ≤ maxLen
  size : ∀ i j, (sAt (rAt R i).ss j).size ≤ maxLen

/-- It answers some int from -1 to 1<<20, and writes nothing. -/
def AnInt (w : World) (e : Ending) (w' : World) : Prop := ∃ r : Int, e = .returned (.int .i64 r) ∧ w' = w ∧ -1 ≤ r ∧ r ≤ 1048576
theorem anInt_of {w : World} {r : Int} (h0 : -1 ≤ r) (h1 : r ≤ 1048576) : AnInt w (.returned (.int .i64 r)) w := ⟨r, rfl, rfl, h0, h1⟩

set_option maxHeartbeats 400000 in
theorem addStrings (size : Int) (ao : Option Addr) (b off n cap : Nat) (ss : List ByteArray) (w : World) (h0 : -1 ≤ size) (h1 : size ≤ 1048576) (hn : ss.length = n) (hnm : n ≤ maxLen) (hs : StrAt w ao b off ss) (hsz : ∀ j, (sAt ss j).size ≤ maxLen) :
    Calls Tryd.prog 6 #[.int .i64 size, .slice ao n cap] w fun e w' => AnInt w e w' := by
  unfold maxLen at hnm
  have HN := hide hn
  have HS := hide hs
  have HSZ := hide hsz
  clear hn hs hsz
  by_cases g1 : size < 0
  · go_enter Tryd.func6, Tryd.ntmps6
    go_wp2
    go_ret
    exact anInt_of (by omega) (by omega)
  have g1d : decide (size < 0) = false := by simpa using g1
  by_cases g2 : 65536 < n
  · go_enter Tryd.func6, Tryd.ntmps6
    go_wp2
    go_ret
    exact anInt_of (by omega) (by omega)
  by_cases g3 : 1048576 < size + 16 * n
  · go_enter Tryd.func6, Tryd.ntmps6
    go_wp2
    go_ret
    exact anInt_of (by omega) (by omega)
  go_enter Tryd.func6, Tryd.ntmps6
  go_wp2
  go_loop [0, 23] (fun z j => ∃ (k : Nat) (q : Int), k ≤ n ∧ j = .int .i64 k ∧ z = .int .i64 q ∧ 0 ≤ q ∧ q ≤ 1048576) (fun _ j => n - (intOf j).toNat)
  case atStart => exact ⟨0, size + 16 * n, Nat.zero_le _, rfl, by go_num, by omega, by omega⟩
  case round =>
    obtain ⟨k, q, hk, rfl, rfl, hq0, hq⟩ := hrel
    by_cases hlt : k < n
    · obtain rfl : ao = some ⟨b, off, none⟩ := HS.out.at_ (by have := HN.out; omega)
      have hc0 := HS.out.cell k (by have := HN.out; omega)
      have hz0 := HSZ.out k
      unfold maxLen at hz0
      generalize sAt ss k = s at *
      by_cases g4 : 1048576 < s.size
      · go_wp2
        go_ret
        exact anInt_of (by omega) (by omega)
      · by_cases g5 : 1048576 < q + s.size
        · go_wp2
          go_ret
          exact anInt_of (by omega) (by omega)
        · go_wp2
          go_round
          case rel => exact ⟨k + 1, q + s.size, by omega, by go_num, by go_num, by omega, by omega⟩
          case measure => simp [intOf]; omega
    · go_wp2
      go_ret
      exact anInt_of (by omega) (by omega)

set_option maxHeartbeats 400000 in
theorem addGrid (size : Int) (ao : Option Addr) (b off n cap : Nat) (R : List RowV) (w : World) (h0 : -1 ≤ size) (h1 : size ≤ 1048576) (hn : R.length = n) (hnm : n ≤ maxLen) (hs : GridAt w ao b off R) (hf : Fits R) :
    Calls Tryd.prog 7 #[.int .i64 size, .slice ao n cap] w fun e w' => AnInt w e w' := by
  unfold maxLen at hnm
  have HN := hide hn
  have HS := hide hs
  have HF := hide hf
  clear hn hs hf
  by_cases g1 : size < 0
  · go_enter Tryd.func7, Tryd.ntmps7
    go_wp2
    go_ret
    exact anInt_of (by omega) (by omega)
  have g1d : decide (size < 0) = false := by simpa using g1
  by_cases g2 : 65536 < n
  · go_enter Tryd.func7, Tryd.ntmps7
    go_wp2
    go_ret
    exact anInt_of (by omega) (by omega)
  by_cases g3 : 1048576 < size + 24 * n
  · go_enter Tryd.func7, Tryd.ntmps7
    go_wp2
    go_ret
    exact anInt_of (by omega) (by omega)
  go_enter Tryd.func7, Tryd.ntmps7
  go_wp2
  go_loop [0, 23] (fun z j => ∃ (k : Nat) (q : Int), k ≤ n ∧ j = .int .i64 k ∧ z = .int .i64 q ∧ 0 ≤ q ∧ q ≤ 1048576) (fun _ j => n - (intOf j).toNat)
  case atStart => exact ⟨0, size + 24 * n, Nat.zero_le _, rfl, by go_num, by omega, by omega⟩
  case round =>
    obtain ⟨k, q, hk, rfl, rfl, hq0, hq⟩ := hrel
    by_cases hlt : k < n
    · obtain rfl : ao = some ⟨b, off, none⟩ := HS.out.at_ (by have := HN.out; omega)
      have hc0 := HS.out.cell k (by have := HN.out; omega)
      have HR := hide (HS.out.row k (by have := HN.out; omega))
      have HL := hide (HF.out.len k)
      have HZ := hide (HF.out.size k)
      generalize rAt R k = r at *
      go_wp2_with fail
      refine (addStrings q r.ao r.b r.off r.ss.length r.cap r.ss _ (by omega) (by omega) rfl HL.out HR.out HZ.out).mono ?_
      rintro e w' ⟨q2, rfl, rfl, hq2, hq3⟩
      by_cases g4 : q2 < 0
      · go_wp2
        go_ret
        exact anInt_of (by omega) (by omega)
      · go_wp2
        go_round
        case rel => exact ⟨k + 1, q2, by omega, by go_num, rfl, by omega, by omega⟩
        case measure => simp [intOf]; omega
    · go_wp2
      go_ret
      exact anInt_of (by omega) (by omega)

end Go.Proofs.Qxb6614023aDoor
