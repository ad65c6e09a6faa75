/-
  The walk of the bound on the total length, for a grid and its tokens.
-/
import Derived.Test.Qxb6614023aDoorBase
namespace Go.Proofs.Qxb6614023aDoor
open Go.RowKit

/-- It answers yes or no, writes nothing, and says yes only where G. -/
def Guarded (G : Prop) (w : World) (e : Ending) (w' : World) : Prop := ∃ r : Bool, e = .returned (.bool r) ∧ w' = w ∧ (r = true → G)
theorem guarded_no (G : Prop) (w : World) : Guarded G w (.returned (.bool false)) w := ⟨false, rfl, rfl, fun h => by cases h⟩
theorem guarded_yes {G : Prop} (w : World) (h : G) : Guarded G w (.returned (.bool true)) w := ⟨true, rfl, rfl, fun _ => h⟩

set_option maxHeartbeats 1600000 in
theorem bytes5 (ao tao : Option Addr) (b off N cap tb toff t tcap : Nat) (R : List RowV) (ts : List ByteArray) (w : World) (hn : R.length = N) (hm : ts.length = t) (hnm : N ≤ maxLen) (hmm : t ≤ maxLen)
    (hg : GridAt w ao b off R) (hf : Fits R) (ht : StrAt w tao tb toff ts) (htz : ∀ j, (sAt ts j).size ≤ maxLen) :
    Calls Tryd.prog 5 #[.slice ao N cap, .slice tao t tcap] w fun e w' => Guarded (N ≤ 1048576 ∧ (∀ i, i < N → (rAt R i).ss.length ≤ 1048576) ∧ t ≤ 1048576 ∧ Short ts) w e w' := by
  unfold maxLen at hnm hmm
  have HN := hide hn
  have HM := hide hm
  have HG := hide hg
  have HF := hide hf
  have HT := hide ht
  have HTZ := hide htz
  clear hn hm hg hf ht htz
  by_cases g2 : 1048576 < N
  · go_enter Tryd.func5, Tryd.ntmps5
    go_wp2
    go_ret
    exact guarded_no _ _
  go_enter Tryd.func5, Tryd.ntmps5
  go_wp2
  go_loop [5, 6] (fun z j => ∃ (k : Nat) (q : Nat), k ≤ N ∧ j = .int .i64 k ∧ z = .int .i64 q ∧ q ≤ 1048576 ∧ Hid (∀ j, j < k → (rAt R j).ss.length ≤ 1048576)) (fun _ j => N - (intOf j).toNat)
  case atStart => exact ⟨0, N, Nat.zero_le _, rfl, by go_num, by omega, fun j hj => by omega⟩
  case round =>
    obtain ⟨k, q, hk, rfl, rfl, hq, HK⟩ := hrel
    by_cases hlt : k < N
    · obtain rfl : ao = some ⟨b, off, none⟩ := HG.out.at_ (by have := HN.out; omega)
      have hc0 := HG.out.cell k (by have := HN.out; omega)
      have HR := hide (HG.out.row k (by have := HN.out; omega))
      have HZ := hide (HF.out.size k)
      have hl0 := HF.out.len k
      unfold maxLen at hl0
      have HK2 : Hid ((rAt R k).ss.length ≤ 1048576 → ∀ j, j < k + 1 → (rAt R j).ss.length ≤ 1048576) := fun h j hj => by
        by_cases e : j = k
        · subst e; exact h
        · exact HK.out j (by omega)
      generalize rAt R k = r at *
      obtain ⟨rao, rb, roff, rcap, rss⟩ := r
      simp only at hc0 HR HZ hl0 HK2
      have HRL : Hid (rss.length = rss.length) := rfl
      generalize hrn : rss.length = rn at hc0 hl0 HK2
      have HRN := hide hrn
      clear hrn HRL
      by_cases g4 : 1048576 < rn
      · go_wp2
        go_ret
        exact guarded_no _ _
      · by_cases g5 : 1048576 < q + rn
        · go_wp2
          go_ret
          exact guarded_no _ _
        · go_wp2
          go_loop [5, 7] (fun z j => ∃ (l : Nat) (q : Nat), l ≤ rn ∧ j = .int .i64 l ∧ z = .int .i64 q ∧ q ≤ 1048576) (fun _ j => rn - (intOf j).toNat)
          case atStart => exact ⟨0, q + rn, Nat.zero_le _, rfl, by go_num, by omega⟩
          case round =>
            obtain ⟨l, q2, hl, rfl, rfl, hq2⟩ := hrel
            by_cases hlt2 : l < rn
            · obtain rfl : rao = some ⟨rb, roff, none⟩ := HR.out.at_ (by have := HRN.out; omega)
              have hc1 := HR.out.cell l (by have := HRN.out; omega)
              have hz1 := HZ.out l
              unfold maxLen at hz1
              generalize sAt rss l = s at *
              by_cases g6 : 1048576 < s.size
              · go_wp2
                go_ret
                exact guarded_no _ _
              · by_cases g7 : 1048576 < q2 + s.size
                · go_wp2
                  go_ret
                  exact guarded_no _ _
                · go_wp2
                  go_round
                  case rel => exact ⟨l + 1, q2 + s.size, by omega, by go_num, by go_num, by omega⟩
                  case measure => simp [intOf]; omega
            · obtain rfl : l = rn := by omega
              go_wp2
              go_round
              case rel => exact ⟨k + 1, q2, by omega, by go_num, by go_num, by omega, HK2.out (by omega)⟩
              case measure => simp [intOf]; omega
    · obtain rfl : k = N := by omega
      by_cases g6 : 1048576 < t
      · go_wp2
        go_ret
        exact guarded_no _ _
      by_cases g7 : 1048576 < q + t
      · go_wp2
        go_ret
        exact guarded_no _ _
      go_wp2
      go_loop [5, 8] (fun z j => ∃ (l : Nat) (q : Nat), l ≤ t ∧ j = .int .i64 l ∧ z = .int .i64 q ∧ q ≤ 1048576 ∧ Hid (∀ j, j < l → (sAt ts j).size ≤ 1048576)) (fun _ j => t - (intOf j).toNat)
      case atStart => exact ⟨0, q + t, Nat.zero_le _, rfl, by go_num, by omega, fun j hj => by omega⟩
      case round =>
        obtain ⟨l, q2, hl, rfl, rfl, hq2, HL⟩ := hrel
        by_cases hlt2 : l < t
        · obtain rfl : tao = some ⟨tb, toff, none⟩ := HT.out.at_ (by have := HM.out; omega)
          have hc0 := HT.out.cell l (by have := HM.out; omega)
          have hz0 := HTZ.out l
          unfold maxLen at hz0
          have HK2 : Hid ((sAt ts l).size ≤ 1048576 → ∀ j, j < l + 1 → (sAt ts j).size ≤ 1048576) := fun h j hj => by
            by_cases e : j = l
            · subst e; exact h
            · exact HL.out j (by omega)
          generalize sAt ts l = s at *
          by_cases g4 : 1048576 < s.size
          · go_wp2
            go_ret
            exact guarded_no _ _
          · by_cases g5 : 1048576 < q2 + s.size
            · go_wp2
              go_ret
              exact guarded_no _ _
            · go_wp2
              go_round
              case rel => exact ⟨l + 1, q2 + s.size, by omega, by go_num, by go_num, by omega, HK2.out (by omega)⟩
              case measure => simp [intOf]; omega
        · obtain rfl : l = t := by omega
          go_wp2
          go_ret
          exact guarded_yes _ ⟨by omega, HK.out, by omega, fun j hj => HL.out j (by have := HM.out; omega)⟩

end Go.Proofs.Qxb6614023aDoor
