/-
  What the rows' steps need of the arguments and of the variables that a row lists.
-/
import Derived.Test.Qxb6614023aDoorRows
import Derived.Test.Qxb6614023aDoorResolve
import Derived.ProofKit
import Derived.OpenShut
import Derived.ShutString
import Derived.ChangeOld
import Derived.SliceStrings
import Derived.Deep.Slices
import Derived.Stop.Joined
import Derived.Stop.LaidErr
import Derived.LaidMore
import Derived.Lay
namespace Go.Proofs.Qxb6614023aDoor
open Go.ChangeShapes Go.WideShapes Go.ChangeAt Go.RowKit

theorem Tryd.own : ownKnob Tryd.prog.godebug = none := by kernel_rfl
theorem Tryd.laidOut : laidOutB Tryd.prog = true := by kernel_rfl
theorem Tryd.cells9 : Tryd.prog.cellsOf 9 = 1 := by kernel_rfl
theorem Tryd.cells23 : Tryd.prog.cellsOf 23 = 1 := by kernel_rfl
theorem Tryd.cells66 : Tryd.prog.cellsOf 66 = 1 := by kernel_rfl
theorem Tryd.gEST : (Tryd.prog.globals[0]?).map (·.type) = some 41 := by kernel_rfl
theorem Tryd.gERT : (Tryd.prog.globals[1]?).map (·.type) = some 41 := by kernel_rfl
/-- The type's name that the rows write at the two sentinels. -/
def errName : String := match Rows.laid_strconv_ErrRange (H := Unit) with
  | .iface nm _ => nm
  | _ => ""
theorem Tryd.row64 (u : TypeId) (h : Tryd.prog.typeName? 3 u = some errName) : u = 64 :=
  typeName_ptr_named (nm := "errors.errorString") (by kernel_rfl) (by kernel_rfl) (by decide) u (h.trans (congrArg some (by kernel_rfl)))

/-- What both rows list. -/
def laid5 : List (String × DataW Unit) := Rows.fnResolveGridByIndexModelRow.laid

theorem vars_of {W : World} (h0 : laidMetH Tryd.prog laid5 W) : Vars W := by
  have h : laidMet Tryd.prog laid5 W := by
    rw [MakeChecks.laidMetH_plain _ _ _ (by kernel_rfl)] at h0
    exact h0
  obtain ⟨a0, s0, hv0, hc0, -, -⟩ := laid_sentinel h.tail.tail.tail.tail Tryd.gES Tryd.gEST Tryd.underlying41 Tryd.row64 Tryd.underlying64 Tryd.underlying66 rfl rfl Tryd.underlying9 Tryd.cells66 Tryd.cells9
  obtain ⟨a1, s1, hv1, -, -, -⟩ := laid_sentinel h.tail.tail.tail Tryd.gER Tryd.gERT Tryd.underlying41 Tryd.row64 Tryd.underlying64 Tryd.underlying66 rfl rfl Tryd.underlying9 Tryd.cells66 Tryd.cells9
  refine ⟨⟨_, _, hv0⟩, ⟨_, _, hv1⟩, ?_⟩
  have e := World.var?_cell Tryd.gER hv1 0
  have e2 : W.cell? ⟨1, 0, none⟩ = some (.iface 64 (.pointer (some a1))) := by simpa using e
  exact World.block_lt_of_cell? W ⟨1, 0, none⟩ e2

/-- A slice of strings as the walk takes it. -/
structure InStrs (w : World) (ao : Option Addr) (len b off : Nat) (ss : List ByteArray) : Prop where
  length : ss.length = len
  lenLe : len ≤ maxLen
  strs : StrAt w ao b off ss
  short : ∀ j, (sAt ss j).size ≤ maxLen

theorem inStrs_of {H : Type} {enc : TypeId × Value → H} {w : World} {base : Nat} {a0 : Option Addr} {len cap fuel : Nat} {x : DataW H × List MemPlace}
    (hf : DataW.trod enc Tryd.prog w base (fun _ => true) true fuel 23 [Value.slice a0 len cap] = some x) : ∃ b off ss, InStrs w a0 len b off ss := by
  rcases open_strings Tryd.underlying23 Tryd.underlying9 Tryd.cells9 hf with ⟨hcs, _⟩ | ⟨a, l, c, ss, hcs, _, hl, hm, hz, _, hcell, hsz⟩
  · simp at hcs
    obtain ⟨rfl, rfl, rfl⟩ := hcs
    exact ⟨0, 0, [], rfl, Nat.zero_le _, ⟨fun h => absurd h (by simp), fun h => absurd h (by simp), fun i hi => absurd hi (by simp)⟩, fun j => by simp [sAt, ByteArray.size]⟩
  · simp at hcs
    obtain ⟨rfl, rfl, rfl⟩ := hcs
    simp only [if_true] at hz
    have hshort : ∀ j, (sAt (ss.take len) j).size ≤ maxLen := fun j => by
      unfold sAt
      rw [List.getD_eq_getElem?_getD]
      cases hq : (ss.take len)[j]? with
      | none => simp [ByteArray.size]
      | some s => exact hsz s (List.mem_of_mem_take (List.mem_of_getElem? hq))
    have hlen : (ss.take len).length = len := by rw [List.length_take]; omega
    by_cases h0 : len = 0
    · refine ⟨0, 0, ss.take len, hlen, by omega, ⟨fun h => absurd h (by omega), fun h => absurd h (by omega), fun i hi => absurd hi (by omega)⟩, hshort⟩
    · obtain ⟨b, off, spot⟩ := a
      have hspot : spot = none := by simpa [Addr.add] using World.cell?_spot (hcell 0 (by omega))
      subst hspot
      have hc : ∀ j, j < ss.length → w.cell? ⟨b, off + j, none⟩ = some (.string (ss.getD j ByteArray.empty)) := fun j hj => by
        rw [← Go.WideShapes.add_plain]; exact hcell j hj
      refine ⟨b, off, ss.take len, hlen, by omega, ⟨fun _ => rfl, fun _ => World.block_lt_of_cell? w ⟨b, off + 0, none⟩ (hc 0 (by omega)), fun i hi => ?_⟩, hshort⟩
      rw [hlen] at hi
      rw [hc i (by omega)]
      congr 2
      unfold sAt
      rw [List.getD_eq_getElem?_getD, List.getD_eq_getElem?_getD, List.getElem?_take_of_lt hi]
      rfl

/-- A slice of slices of strings as the walk takes it. -/
structure InGrid (w : World) (ao : Option Addr) (len b off : Nat) (R : List RowV) : Prop where
  length : R.length = len
  lenLe : len ≤ maxLen
  grid : GridAt w ao b off R
  fits : Fits R

theorem one_slice {H : Type} {enc : TypeId × Value → H} {w : World} {base fuel : Nat} {v : Value} {x : DataW H × List MemPlace}
    (hf : DataW.trod enc Tryd.prog w base (fun _ => true) true fuel 23 [v] = some x) : ∃ ao n c, v = .slice ao n c := by
  rcases open_strings Tryd.underlying23 Tryd.underlying9 Tryd.cells9 hf with ⟨hcs, _⟩ | ⟨a, l, c, ss, hcs, _⟩
  · exact ⟨_, _, _, List.cons.inj hcs |>.1⟩
  · exact ⟨_, _, _, List.cons.inj hcs |>.1⟩

theorem rAt_range {f : Nat → RowV} {n i : Nat} (h : i < n) : rAt ((List.range n).map f) i = f i := by
  unfold rAt
  simp [List.getD_eq_getElem?_getD, h]
theorem rAt_past {f : Nat → RowV} {n i : Nat} (h : ¬ i < n) : rAt ((List.range n).map f) i = ⟨none, 0, 0, 0, []⟩ := by
  unfold rAt
  rw [List.getD_eq_getElem?_getD, List.getElem?_eq_none (by simp; omega)]
  rfl

theorem inGrid_of {H : Type} {enc : TypeId × Value → H} {w : World} {base : Nat} {a0 : Option Addr} {len cap fuel : Nat} {x : DataW H × List MemPlace}
    (hf : DataW.trod enc Tryd.prog w base (fun _ => true) true fuel 22 [Value.slice a0 len cap] = some x) : ∃ b off R, InGrid w a0 len b off R := by
  rcases Deep.open_slice1 Tryd.underlying22 Tryd.cells23 hf with ⟨hcs, _⟩ | ⟨a, l, c, m, n, V, D, Pl, hcs, _, hl, hm, hmm, _, hx⟩
  · simp at hcs
    obtain ⟨rfl, rfl, rfl⟩ := hcs
    refine ⟨0, 0, [], rfl, Nat.zero_le _, ⟨fun h => absurd h (by simp), fun h => absurd h (by simp), fun i hi => absurd hi (by simp), fun i hi => absurd hi (by simp)⟩, ⟨fun i => ?_, fun i j => ?_⟩⟩
    · simp [rAt]
    · simp [rAt, sAt, ByteArray.size]
  · simp at hcs
    obtain ⟨rfl, rfl, rfl⟩ := hcs
    simp only [if_true] at hmm
    subst hmm
    have each : ∀ i, i < len → ∃ r : Option Addr × Nat × Nat × Nat × List ByteArray, V i = .slice r.1 r.2.2.2.2.length r.2.2.2.1 ∧ InStrs w r.1 r.2.2.2.2.length r.2.1 r.2.2.1 r.2.2.2.2 := fun i hi => by
      obtain ⟨h1, h2⟩ := hx i (by omega)
      obtain ⟨ao, k, cp, he⟩ := one_slice h2
      rw [he] at h2
      obtain ⟨b, off, ss, hi⟩ := inStrs_of h2
      exact ⟨(ao, b, off, cp, ss), by rw [he, hi.length], by have := hi; rw [← hi.length] at this; exact this⟩
    obtain ⟨f, hF⟩ := Deep.choose_lt each
    have hlen : ((List.range len).map fun i => (⟨(f i).1, (f i).2.1, (f i).2.2.1, (f i).2.2.2.1, (f i).2.2.2.2⟩ : RowV)).length = len := by simp
    have hfits : Fits ((List.range len).map fun i => (⟨(f i).1, (f i).2.1, (f i).2.2.1, (f i).2.2.2.1, (f i).2.2.2.2⟩ : RowV)) := by
      refine ⟨fun i => ?_, fun i j => ?_⟩
      · by_cases hi : i < len
        · rw [rAt_range hi]
          exact (hF i hi).2.lenLe
        · rw [rAt_past hi]
          exact Nat.zero_le _
      · by_cases hi : i < len
        · rw [rAt_range hi]
          exact (hF i hi).2.short j
        · rw [rAt_past hi]
          simp [sAt, ByteArray.size]
    by_cases h0 : len = 0
    · exact ⟨0, 0, _, hlen, by omega, ⟨fun h => absurd h (by omega), fun h => absurd h (by omega), fun i hi => absurd hi (by omega), fun i hi => absurd hi (by omega)⟩, hfits⟩
    · obtain ⟨b, off, spot⟩ := a
      have hspot : spot = none := by simpa [Addr.add] using World.cell?_spot (hx 0 (by omega)).1
      subst hspot
      have hc : ∀ j, j < len → w.cell? ⟨b, off + j, none⟩ = some (V j) := fun j hj => by
        rw [← Go.WideShapes.add_plain]; exact (hx j (by omega)).1
      refine ⟨b, off, _, hlen, by omega, ⟨fun _ => rfl, fun _ => World.block_lt_of_cell? w ⟨b, off + 0, none⟩ (hc 0 (by omega)), fun i hi => ?_, fun i hi => ?_⟩, hfits⟩
      · rw [hlen] at hi
        rw [rAt_range hi, hc i hi, (hF i hi).1]
      · rw [hlen] at hi
        rw [rAt_range hi]
        exact (hF i hi).2.strs

end Go.Proofs.Qxb6614023aDoor
