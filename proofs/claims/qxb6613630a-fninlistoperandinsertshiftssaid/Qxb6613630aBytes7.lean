/-
  The walk of the second law's bound on the total length.
-/
import Derived.Test.Qxb6613630aBytes
namespace Go.Proofs.Qxb6613630a
open Go.RowKit

set_option maxHeartbeats 800000 in
theorem bytes7 (x v : ByteArray) (ao : Option Addr) (b off n cap : Nat) (ss : List ByteArray) (p i : Int) (w : World) (hx : x.size ≤ maxLen) (hv : v.size ≤ maxLen) (hn : ss.length = n) (hnm : n ≤ maxLen)
    (hs : StrAt w ao b off ss) (hsz : ∀ j, (sAt ss j).size ≤ maxLen) :
    Calls Try.prog 7 #[.string x, .slice ao n cap, .string v, .int .i64 p, .int .i64 i] w fun e w' => Guarded (x.size ≤ 1048576 ∧ n ≤ 1048576 ∧ v.size ≤ 1048576 ∧ Short ss) w e w' := by
  unfold maxLen at hx hnm hv
  have HN := hide hn
  have HS := hide hs
  have HSZ := hide hsz
  clear hn hs hsz
  by_cases g1 : 1048576 < x.size
  · go_enter Try.func7, Try.ntmps7
    go_wp2
    go_ret
    exact guarded_no _ _
  by_cases g2 : 1048576 < n
  · go_enter Try.func7, Try.ntmps7
    go_wp2
    go_ret
    exact guarded_no _ _
  by_cases g3 : 1048576 < x.size + n
  · go_enter Try.func7, Try.ntmps7
    go_wp2
    go_ret
    exact guarded_no _ _
  go_enter Try.func7, Try.ntmps7
  go_wp2
  go_loop [11, 12] (fun z j => ∃ (k : Nat) (q : Nat), k ≤ n ∧ j = .int .i64 k ∧ z = .int .i64 q ∧ q ≤ 1048576 ∧ Hid (∀ j, j < k → (sAt ss j).size ≤ 1048576)) (fun _ j => n - (intOf j).toNat)
  case atStart => exact ⟨0, x.size + n, Nat.zero_le _, rfl, by go_num, by omega, fun j hj => by omega⟩
  case round =>
    obtain ⟨k, q, hk, rfl, rfl, hq, HK⟩ := hrel
    by_cases hlt : k < n
    · obtain rfl : ao = some ⟨b, off, none⟩ := HS.out.at_ (by have := HN.out; omega)
      have hc0 := HS.out.cell k (by have := HN.out; omega)
      have hz0 := HSZ.out k
      unfold maxLen at hz0
      have HK2 : Hid ((sAt ss k).size ≤ 1048576 → ∀ j, j < k + 1 → (sAt ss j).size ≤ 1048576) := fun h j hj => by
        by_cases e : j = k
        · subst e; exact h
        · exact HK.out j (by omega)
      generalize sAt ss k = s at *
      by_cases g4 : 1048576 < s.size
      · go_wp2
        go_ret
        exact guarded_no _ _
      · by_cases g5 : 1048576 < q + s.size
        · go_wp2
          go_ret
          exact guarded_no _ _
        · go_wp2
          go_round
          case rel => exact ⟨k + 1, q + s.size, by omega, by go_num, by go_num, by omega, HK2.out (by omega)⟩
          case measure => simp [intOf]; omega
    · obtain rfl : k = n := by omega
      by_cases g6 : 1048576 < v.size
      · go_wp2
        go_ret
        exact guarded_no _ _
      by_cases g7 : 1048576 < q + v.size
      · go_wp2
        go_ret
        exact guarded_no _ _
      go_wp2
      go_ret
      exact guarded_yes _ ⟨by omega, by omega, by omega, fun j hj => HK.out j (by have := HN.out; omega)⟩

end Go.Proofs.Qxb6613630a
