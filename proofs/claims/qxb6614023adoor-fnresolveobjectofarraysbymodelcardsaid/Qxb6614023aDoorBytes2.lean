/-
  The walk of the bound on the total length, for keys, rows and tokens.
-/
import Derived.Test.Qxb6614023aDoorBytes
namespace Go.Proofs.Qxb6614023aDoor
open Go.RowKit

set_option maxRecDepth 100000 in
set_option maxHeartbeats 1600000 in
theorem bytes10 (kao ao tao : Option Addr) (kb koff n kcap b off N cap tb toff t tcap : Nat) (ks : List ByteArray) (R : List RowV) (ts : List ByteArray) (w : World) (hkn : ks.length = n) (hn : R.length = N) (hm : ts.length = t)
    (hkm : n ≤ maxLen) (hnm : N ≤ maxLen) (hmm : t ≤ maxLen) (hk : StrAt w kao kb koff ks) (hkz : ∀ j, (sAt ks j).size ≤ maxLen) (hg : GridAt w ao b off R) (hf : Fits R) (ht : StrAt w tao tb toff ts) (htz : ∀ j, (sAt ts j).size ≤ maxLen) :
    Calls Tryd.prog 10 #[.slice kao n kcap, .slice ao N cap, .slice tao t tcap] w fun e w' => Guarded (n ≤ 1048576 ∧ Short ks ∧ N ≤ 1048576 ∧ (∀ i, i < N → (rAt R i).ss.length ≤ 1048576) ∧ t ≤ 1048576 ∧ Short ts) w e w' := by
  unfold maxLen at hkm hnm hmm
  have HKN := hide hkn
  have HN := hide hn
  have HM := hide hm
  have HKS := hide hk
  have HKZ := hide hkz
  have HG := hide hg
  have HF := hide hf
  have HT := hide ht
  have HTZ := hide htz
  clear hkn hn hm hk hkz hg hf ht htz
  by_cases g2 : 1048576 < n
  · go_enter Tryd.func10, Tryd.ntmps10
    go_wp2
    go_ret
    exact guarded_no _ _
  go_enter Tryd.func10, Tryd.ntmps10
  go_wp2
  go_loop [7, 8] (fun z j => ∃ (l : Nat) (q : Nat), l ≤ n ∧ j = .int .i64 l ∧ z = .int .i64 q ∧ q ≤ 1048576 ∧ Hid (∀ j, j < l → (sAt ks j).size ≤ 1048576)) (fun _ j => n - (intOf j).toNat)
  case atStart => exact ⟨0, n, Nat.zero_le _, rfl, by go_num, by omega, fun j hj => by omega⟩
  case round =>
    obtain ⟨kk, q0, hkk, rfl, rfl, hq0, HKK⟩ := hrel
    by_cases hlt0 : kk < n
    · obtain rfl : kao = some ⟨kb, koff, none⟩ := HKS.out.at_ (by have := HKN.out; omega)
      have hc0 := HKS.out.cell kk (by have := HKN.out; omega)
      have hz0 := HKZ.out kk
      unfold maxLen at hz0
      have HK2 : Hid ((sAt ks kk).size ≤ 1048576 → ∀ j, j < kk + 1 → (sAt ks j).size ≤ 1048576) := fun h j hj => by
        by_cases e : j = kk
        · subst e; exact h
        · exact HKK.out j (by omega)
      generalize sAt ks kk = s at *
      by_cases g4 : 1048576 < s.size
      · go_wp2
        go_ret
        exact guarded_no _ _
      · by_cases g5 : 1048576 < q0 + s.size
        · go_wp2
          go_ret
          exact guarded_no _ _
        · go_wp2
          go_round
          case rel => exact ⟨kk + 1, q0 + s.size, by omega, by go_num, by go_num, by omega, HK2.out (by omega)⟩
          case measure => simp [intOf]; omega
    · obtain rfl : kk = n := by omega
      by_cases g20 : 1048576 < N
      · go_wp2
        go_ret
        exact guarded_no _ _
      by_cases g21 : 1048576 < q0 + N
      · go_wp2
        go_ret
        exact guarded_no _ _
      go_wp2
      go_loop [7, 9] (fun z j => ∃ (k : Nat) (q : Nat), k ≤ N ∧ j = .int .i64 k ∧ z = .int .i64 q ∧ q ≤ 1048576 ∧ Hid (∀ j, j < k → (rAt R j).ss.length ≤ 1048576)) (fun _ j => N - (intOf j).toNat)
      case atStart => exact ⟨0, q0 + N, Nat.zero_le _, rfl, by go_num, by omega, fun j hj => by omega⟩
      case round =>
        obtain ⟨k, q, hk, rfl, rfl, hq, HK⟩ := hrel
        by_cases hlt : k < N
        · obtain rfl : ao = some ⟨b, off, none⟩ := HG.out.at_ (by have := HN.out; omega)
          have hc0 := HG.out.cell k (by have := HN.out; omega)
          have HR := hide (HG.out.row k (by have := HN.out; omega))
          have HZ := hide (HF.out.size k)
          have hl0 := HF.out.len k
          unfold maxLen at hl0
          have HK2 : Hid ((rAt R k).ss.length ≤ 1048576 → ∀ j, j < k + 1 → (rAt R j).ss.length ≤ 1048576) := fun h j hj => by
            by_cases e : j = k
            · subst e; exact h
            · exact HK.out j (by omega)
          generalize rAt R k = r at *
          obtain ⟨rao, rb, roff, rcap, rss⟩ := r
          simp only at hc0 HR HZ hl0 HK2
          generalize hrn : rss.length = rn at hc0 hl0 HK2
          have HRN := hide hrn
          clear hrn
          by_cases g4 : 1048576 < rn
          · go_wp2
            go_ret
            exact guarded_no _ _
          · by_cases g5 : 1048576 < q + rn
            · go_wp2
              go_ret
              exact guarded_no _ _
            · go_wp2
              go_loop [7, 10] (fun z j => ∃ (l : Nat) (q : Nat), l ≤ rn ∧ j = .int .i64 l ∧ z = .int .i64 q ∧ q ≤ 1048576) (fun _ j => rn - (intOf j).toNat)
              case atStart => exact ⟨0, q + rn, Nat.zero_le _, rfl, by go_num, by omega⟩
              case round =>
                obtain ⟨l, q2, hl, rfl, rfl, hq2⟩ := hrel
                by_cases hlt2 : l < rn
                · obtain rfl : rao = some ⟨rb, roff, none⟩ := HR.out.at_ (by have := HRN.out; omega)
                  have hc1 := HR.out.cell l (by have := HRN.out; omega)
                  have hz1 := HZ.out l
                  unfold maxLen at hz1
                  generalize sAt rss l = s at *
                  by_cases g6 : 1048576 < s.size
                  · go_wp2
                    go_ret
                    exact guarded_no _ _
                  · by_cases g7 : 1048576 < q2 + s.size
                    · go_wp2
                      go_ret
                      exact guarded_no _ _
                    · go_wp2
                      go_round
                      case rel => exact ⟨l + 1, q2 + s.size, by omega, by go_num, by go_num, by omega⟩
                      case measure => simp [intOf]; omega
                · obtain rfl : l = rn := by omega
                  go_wp2
                  go_round
                  case rel => exact ⟨k + 1, q2, by omega, by go_num, by go_num, by omega, HK2.out (by omega)⟩
                  case measure => simp [intOf]; omega
        · obtain rfl : k = N := by omega
          by_cases g6 : 1048576 < t
          · go_wp2
            go_ret
            exact guarded_no _ _
          by_cases g7 : 1048576 < q + t
          · go_wp2
            go_ret
            exact guarded_no _ _
          go_wp2
          go_loop [7, 11] (fun z j => ∃ (l : Nat) (q : Nat), l ≤ t ∧ j = .int .i64 l ∧ z = .int .i64 q ∧ q ≤ 1048576 ∧ Hid (∀ j, j < l → (sAt ts j).size ≤ 1048576)) (fun _ j => t - (intOf j).toNat)
          case atStart => exact ⟨0, q + t, Nat.zero_le _, rfl, by go_num, by omega, fun j hj => by omega⟩
          case round =>
            obtain ⟨l, q2, hl, rfl, rfl, hq2, HL⟩ := hrel
            by_cases hlt2 : l < t
            · obtain rfl : tao = some ⟨tb, toff, none⟩ := HT.out.at_ (by have := HM.out; omega)
              have hc0 := HT.out.cell l (by have := HM.out; omega)
              have hz0 := HTZ.out l
              unfold maxLen at hz0
              have HK2 : Hid ((sAt ts l).size ≤ 1048576 → ∀ j, j < l + 1 → (sAt ts j).size ≤ 1048576) := fun h j hj => by
                by_cases e : j = l
                · subst e; exact h
                · exact HL.out j (by omega)
              generalize sAt ts l = s at *
              by_cases g4 : 1048576 < s.size
              · go_wp2
                go_ret
                exact guarded_no _ _
              · by_cases g5 : 1048576 < q2 + s.size
                · go_wp2
                  go_ret
                  exact guarded_no _ _
                · go_wp2
                  go_round
                  case rel => exact ⟨l + 1, q2 + s.size, by omega, by go_num, by go_num, by omega, HK2.out (by omega)⟩
                  case measure => simp [intOf]; omega
            · obtain rfl : l = t := by omega
              go_wp2
              go_ret
              exact guarded_yes _ ⟨by omega, fun j hj => HKK.out j (by have := HKN.out; omega), by omega, HK.out, by omega, fun j hj => HL.out j (by have := HM.out; omega)⟩

end Go.Proofs.Qxb6614023aDoor
