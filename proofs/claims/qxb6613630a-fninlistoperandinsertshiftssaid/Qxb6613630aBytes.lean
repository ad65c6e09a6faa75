/-
  The walks of the two bounds on the total length.
-/
import Derived.Test.Qxb6613630aOperand
namespace Go.Proofs.Qxb6613630a
open Go.RowKit

/-- Each of the strings is at most 1<<20 bytes long. -/
def Short (ss : List ByteArray) : Prop := ∀ j, j < ss.length → (sAt ss j).size ≤ 1048576

/-- It answers yes or no, writes nothing, and says yes only where G. -/
def Guarded (G : Prop) (w : World) (e : Ending) (w' : World) : Prop := ∃ r : Bool, e = .returned (.bool r) ∧ w' = w ∧ (r = true → G)
theorem guarded_no (G : Prop) (w : World) : Guarded G w (.returned (.bool false)) w := ⟨false, rfl, rfl, fun h => by cases h⟩
theorem guarded_yes {G : Prop} (w : World) (h : G) : Guarded G w (.returned (.bool true)) w := ⟨true, rfl, rfl, fun _ => h⟩

set_option maxHeartbeats 800000 in
theorem bytes5 (x : ByteArray) (ao bo : Option Addr) (b off b2 off2 n m cap cap2 : Nat) (ss ts : List ByteArray) (i : Int) (w : World) (hx : x.size ≤ maxLen) (hn : ss.length = n) (hm : ts.length = m) (hnm : n ≤ maxLen) (hmm : m ≤ maxLen)
    (hs : StrAt w ao b off ss) (ht : StrAt w bo b2 off2 ts) (hsz : ∀ j, (sAt ss j).size ≤ maxLen) (htz : ∀ j, (sAt ts j).size ≤ maxLen) :
    Calls Try.prog 5 #[.string x, .slice ao n cap, .slice bo m cap2, .int .i64 i] w fun e w' => Guarded (x.size ≤ 1048576 ∧ n ≤ 1048576 ∧ m ≤ 1048576 ∧ Short ss ∧ Short ts) w e w' := by
  unfold maxLen at hx hnm hmm
  have HN := hide hn
  have HM := hide hm
  have HS := hide hs
  have HT := hide ht
  have HSZ := hide hsz
  have HTZ := hide htz
  clear hn hm hs ht hsz htz
  by_cases g1 : 1048576 < x.size
  · go_enter Try.func5, Try.ntmps5
    go_wp2
    go_ret
    exact guarded_no _ _
  by_cases g2 : 1048576 < n
  · go_enter Try.func5, Try.ntmps5
    go_wp2
    go_ret
    exact guarded_no _ _
  by_cases g3 : 1048576 < x.size + n
  · go_enter Try.func5, Try.ntmps5
    go_wp2
    go_ret
    exact guarded_no _ _
  go_enter Try.func5, Try.ntmps5
  go_wp2
  go_loop [9, 10] (fun z j => ∃ (k : Nat) (q : Nat), k ≤ n ∧ j = .int .i64 k ∧ z = .int .i64 q ∧ q ≤ 1048576 ∧ Hid (∀ j, j < k → (sAt ss j).size ≤ 1048576)) (fun _ j => n - (intOf j).toNat)
  case atStart => exact ⟨0, x.size + n, Nat.zero_le _, rfl, by go_num, by omega, fun j hj => by omega⟩
  case round =>
    obtain ⟨k, q, hk, rfl, rfl, hq, HK⟩ := hrel
    by_cases hlt : k < n
    · obtain rfl : ao = some ⟨b, off, none⟩ := HS.out.at_ (by have := HN.out; omega)
      have hc0 := HS.out.cell k (by have := HN.out; omega)
      have hz0 := HSZ.out k
      unfold maxLen at hz0
      have HK2 : Hid ((sAt ss k).size ≤ 1048576 → ∀ j, j < k + 1 → (sAt ss j).size ≤ 1048576) := fun h j hj => by
        by_cases e : j = k
        · subst e; exact h
        · exact HK.out j (by omega)
      generalize sAt ss k = s at *
      by_cases g4 : 1048576 < s.size
      · go_wp2
        go_ret
        exact guarded_no _ _
      · by_cases g5 : 1048576 < q + s.size
        · go_wp2
          go_ret
          exact guarded_no _ _
        · go_wp2
          go_round
          case rel => exact ⟨k + 1, q + s.size, by omega, by go_num, by go_num, by omega, HK2.out (by omega)⟩
          case measure => simp [intOf]; omega
    · obtain rfl : k = n := by omega
      by_cases g6 : 1048576 < m
      · go_wp2
        go_ret
        exact guarded_no _ _
      by_cases g7 : 1048576 < q + m
      · go_wp2
        go_ret
        exact guarded_no _ _
      go_wp2
      go_loop [9, 11] (fun z j => ∃ (l : Nat) (q : Nat), l ≤ m ∧ j = .int .i64 l ∧ z = .int .i64 q ∧ q ≤ 1048576 ∧ Hid (∀ j, j < l → (sAt ts j).size ≤ 1048576)) (fun _ j => m - (intOf j).toNat)
      case atStart => exact ⟨0, q + m, Nat.zero_le _, rfl, by go_num, by omega, fun j hj => by omega⟩
      case round =>
        obtain ⟨l, q2, hl, rfl, rfl, hq2, HL⟩ := hrel
        by_cases hlt2 : l < m
        · obtain rfl : bo = some ⟨b2, off2, none⟩ := HT.out.at_ (by have := HM.out; omega)
          have hc0 := HT.out.cell l (by have := HM.out; omega)
          have hz0 := HTZ.out l
          unfold maxLen at hz0
          have HK2 : Hid ((sAt ts l).size ≤ 1048576 → ∀ j, j < l + 1 → (sAt ts j).size ≤ 1048576) := fun h j hj => by
            by_cases e : j = l
            · subst e; exact h
            · exact HL.out j (by omega)
          generalize sAt ts l = s at *
          by_cases g4 : 1048576 < s.size
          · go_wp2
            go_ret
            exact guarded_no _ _
          · by_cases g5 : 1048576 < q2 + s.size
            · go_wp2
              go_ret
              exact guarded_no _ _
            · go_wp2
              go_round
              case rel => exact ⟨l + 1, q2 + s.size, by omega, by go_num, by go_num, by omega, HK2.out (by omega)⟩
              case measure => simp [intOf]; omega
        · obtain rfl : l = m := by omega
          go_wp2
          go_ret
          exact guarded_yes _ ⟨by omega, by omega, by omega, fun j hj => HK.out j (by have := HN.out; omega), fun j hj => HL.out j (by have := HM.out; omega)⟩

end Go.Proofs.Qxb6613630a
