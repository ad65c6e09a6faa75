/-
  What the row's step needs of a slice of strings that came in.
-/
import Derived.Test.Qxb6613630aRows
import Derived.Test.Qxb6613630aOperand
import Derived.ProofKit
import Derived.OpenShut
import Derived.ShutString
import Derived.ChangeOld
import Derived.SliceStrings
namespace Go.Proofs.Qxb6613630a
open Go.ChangeShapes Go.WideShapes Go.ChangeAt Go.RowKit

theorem Try.own : ownKnob Try.prog.godebug = none := by kernel_rfl
theorem Try.laidOut : laidOutB Try.prog = true := by kernel_rfl
theorem Try.cells9 : Try.prog.cellsOf 9 = 1 := by kernel_rfl

/-- A slice of strings as the walk takes it. -/
structure InStrs (w : World) (ao : Option Addr) (len b off : Nat) (ss : List ByteArray) : Prop where
  length : ss.length = len
  lenLe : len ≤ maxLen
  strs : StrAt w ao b off ss
  short : ∀ j, (sAt ss j).size ≤ maxLen

theorem inStrs_of {H : Type} {enc : TypeId × Value → H} {w : World} {base : Nat} {a0 : Option Addr} {len cap fuel : Nat} {x : DataW H × List MemPlace}
    (hf : DataW.trod enc Try.prog w base (fun _ => true) true fuel 22 (Value.slice a0 len cap).cells.toList = some x) : ∃ b off ss, InStrs w a0 len b off ss := by
  rcases open_strings Try.underlying22 Try.underlying9 Try.cells9 hf with ⟨hcs, _⟩ | ⟨a, l, c, ss, hcs, _, hl, hm, hz, _, hcell, hsz⟩
  · simp [Value.cells] at hcs
    obtain ⟨rfl, rfl, rfl⟩ := hcs
    exact ⟨0, 0, [], rfl, Nat.zero_le _, ⟨fun h => absurd h (by simp), fun h => absurd h (by simp), fun i hi => absurd hi (by simp)⟩, fun j => by simp [sAt, ByteArray.size]⟩
  · simp [Value.cells] at hcs
    obtain ⟨rfl, rfl, rfl⟩ := hcs
    simp only [if_true] at hz
    have hshort : ∀ j, (sAt (ss.take len) j).size ≤ maxLen := fun j => by
      unfold sAt
      rw [List.getD_eq_getElem?_getD]
      cases hq : (ss.take len)[j]? with
      | none => simp [ByteArray.size]
      | some s => exact hsz s (List.mem_of_mem_take (List.mem_of_getElem? hq))
    have hlen : (ss.take len).length = len := by rw [List.length_take]; omega
    by_cases h0 : len = 0
    · refine ⟨0, 0, ss.take len, hlen, by omega, ⟨fun h => absurd h (by omega), fun h => absurd h (by omega), fun i hi => absurd hi (by omega)⟩, hshort⟩
    · obtain ⟨b, off, spot⟩ := a
      have hspot : spot = none := by simpa [Addr.add] using World.cell?_spot (hcell 0 (by omega))
      subst hspot
      have hc : ∀ j, j < ss.length → w.cell? ⟨b, off + j, none⟩ = some (.string (ss.getD j ByteArray.empty)) := fun j hj => by
        rw [← Go.WideShapes.add_plain]; exact hcell j hj
      refine ⟨b, off, ss.take len, hlen, by omega, ⟨fun _ => rfl, fun _ => World.block_lt_of_cell? w ⟨b, off + 0, none⟩ (hc 0 (by omega)), fun i hi => ?_⟩, hshort⟩
      rw [hlen] at hi
      rw [hc i (by omega)]
      congr 2
      unfold sAt
      rw [List.getD_eq_getElem?_getD, List.getD_eq_getElem?_getD, List.getElem?_take_of_lt hi]
      rfl

end Go.Proofs.Qxb6613630a
