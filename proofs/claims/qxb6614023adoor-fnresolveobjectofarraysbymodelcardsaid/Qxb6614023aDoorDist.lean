/-
  How many keys there are: the walk of zzDistinct.
-/
import Derived.Test.Qxb6614023aDoorItoa
import Derived.Deep.DeepCutAuto
import Derived.Deep.CutBlock
import Derived.Deep.QuietTactic
import Derived.BigQuiet
namespace Go.Proofs.Qxb6614023aDoor
open Go.RowKit

/-- Do keys j and k agree? -/
def same (ks : List ByteArray) (j k : Nat) : Bool := (sAt ks j).toList == (sAt ks k).toList
/-- Does key k agree with an earlier one? -/
def seen (ks : List ByteArray) (k : Nat) : Bool := (List.range k).any (fun j => same ks j k)
/-- How many different keys there are among the first k. -/
def dist (ks : List ByteArray) : Nat → Nat
  | 0 => 0
  | k + 1 => dist ks k + (if seen ks k then 0 else 1)

theorem seen_yes {ks : List ByteArray} {j k : Nat} (hj : j < k) (h : same ks j k = true) : seen ks k = true := by
  unfold seen
  rw [List.any_eq_true]
  exact ⟨j, List.mem_range.2 hj, h⟩
theorem seen_no {ks : List ByteArray} {k : Nat} (h : ∀ j, j < k → same ks j k = false) : seen ks k = false := by
  unfold seen
  rw [List.any_eq_false]
  intro j hj
  rw [h j (List.mem_range.1 hj)]
  simp
theorem dist_le (ks : List ByteArray) : ∀ k, dist ks k ≤ k
  | 0 => Nat.le_refl _
  | k + 1 => by
    unfold dist
    have := dist_le ks k
    split <;> omega
theorem dist_seen {ks : List ByteArray} {k : Nat} (h : seen ks k = true) : dist ks (k + 1) = dist ks k := by
  rw [dist, if_pos h]; rfl
theorem dist_new {ks : List ByteArray} {k : Nat} (h : seen ks k = false) : dist ks (k + 1) = dist ks k + 1 := by
  rw [dist, h]; rfl

theorem below_drewN {B : Nat} {w w' : World} (h : Below B w w') : ∀ n, Below B w (w'.drewN n)
  | 0 => h
  | n + 1 => (below_drewN h n).drew

set_option maxRecDepth 100000 in
set_option maxHeartbeats 800000 in
theorem distinct_any (ao : Option Addr) (b off n cap : Nat) (ks : List ByteArray) (w : World) (hn : ks.length = n) (hnm : n ≤ 1048576) (hs : StrAt w ao b off ks) :
    Calls Tryd.prog 12 #[.slice ao n cap] w fun e w' => e = .returned (.int .i64 (dist ks n)) ∧ Below w.heap.size w w' := by
  have HN := hide hn
  have HS := hide hs
  clear hn hs
  go_enter Tryd.func12, Tryd.ntmps12
  go_wp2
  go_loopw [3, 4] (fun z j wr => ∃ (k d : Nat), k ≤ n ∧ j = .int .i64 k ∧ z = .int .i64 d ∧ d ≤ k ∧ Hid (d = dist ks k) ∧ Hid (Below w.heap.size w wr)) (fun _ j _ => n - (intOf j).toNat)
  case atStart => exact ⟨0, 0, Nat.zero_le _, rfl, rfl, Nat.le_refl _, rfl, Below.refl _ _⟩
  case round =>
    obtain ⟨k, d, hk, rfl, rfl, hd, HD, HB⟩ := hrel
    by_cases hlt : k < n
    · obtain rfl : ao = some ⟨b, off, none⟩ := HS.out.at_ (by have := HN.out; omega)
      have HCK := hide (HS.out.cell k (by have := HN.out; omega))
      have HLT := hide (HS.out.lt (by have := HN.out; omega))
      go_wp2
      go_loopw [5, 6] (fun z j wr => ∃ (i : Nat), i ≤ k ∧ j = .int .i64 i ∧ z = .bool false ∧ Hid (∀ j, j < i → same ks j k = false) ∧ Hid (Below w.heap.size w wr)) (fun _ j _ => k - (intOf j).toNat)
      case atStart => exact ⟨0, Nat.zero_le _, rfl, rfl, fun j hj => by omega, HB⟩
      case round =>
        clear HB
        obtain ⟨i, hi, rfl, rfl, HI, HB⟩ := hrel
        by_cases hlt2 : i < k
        · have hc0 : wr.cell? ⟨b, off + k, none⟩ = some (.string (sAt ks k)) := by
            rw [HB.out.cell (p := ⟨b, off + k, none⟩) HLT.out]
            exact HCK.out
          have hc1 : wr.cell? ⟨b, off + i, none⟩ = some (.string (sAt ks i)) := by
            rw [HB.out.cell (p := ⟨b, off + i, none⟩) HLT.out]
            exact HS.out.cell i (by have := HN.out; omega)
          by_cases hq : same ks i k = true
          · have HX : Hid (d = dist ks (k + 1)) := HD.out.trans (dist_seen (seen_yes hlt2 hq)).symm
            unfold same at hq
            generalize sAt ks k = s at *
            generalize sAt ks i = s2 at *
            go_upto_region 9 with fail
            go_quiet (fail)
            have HB2 : Hid (Below w.heap.size w (wr.drewN nq)) := below_drewN HB.out nq
            go_wp2
            go_roundw
            case rel => exact ⟨k + 1, d, by omega, by go_num, rfl, by omega, HX, HB2⟩
            case measure => simp [intOf]; omega
          · have HI2 : Hid (∀ j, j < i + 1 → same ks j k = false) := fun j hj => by
              by_cases e : j = i
              · subst e; simpa using hq
              · exact HI.out j (by omega)
            have hq3 : ((sAt ks i).toList == (sAt ks k).toList) = false := by simpa [same] using hq
            clear hq
            generalize sAt ks k = s at *
            generalize sAt ks i = s2 at *
            go_upto_region 9 with fail
            go_quiet (fail)
            have HB2 : Hid (Below w.heap.size w (wr.drewN nq)) := below_drewN HB.out nq
            go_wp2
            go_roundw
            case rel => exact ⟨i + 1, by omega, by go_num, rfl, HI2, HB2⟩
            case measure => simp [intOf]; omega
        · obtain rfl : i = k := by omega
          have HX : Hid (d + 1 = dist ks (i + 1)) := by
            rw [dist_new (seen_no HI.out)]
            exact congrArg (· + 1) HD.out
          go_wp2
          go_roundw
          case rel => exact ⟨i + 1, d + 1, by omega, by go_num, by go_num, by omega, HX, HB⟩
          case measure => simp [intOf]; omega
    · obtain rfl : k = n := by omega
      go_wp2
      go_ret
      exact ⟨ret_int (by rw [← HD.out]), HB.out⟩

end Go.Proofs.Qxb6614023aDoor
