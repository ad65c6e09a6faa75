/-
  The walks of isIndex, zzItoa and zzIndexAmong.
-/
import Derived.Test.Qxb6614023aDoorBase
import Derived.Test.Qxb6614023aDoorDec
import Derived.Deep.DeepCutAuto
import Derived.Deep.CutBlock
namespace Go.Proofs.Qxb6614023aDoor
open Go.RowKit

theorem data_get (s : ByteArray) (k : Nat) (h : k < s.size) : s.data.toList[k]? = some s[k] := by
  have h' : k < s.data.toList.length := by simpa using h
  rw [List.getElem?_eq_getElem h']
  rfl

theorem isDig_of {c : UInt8} (h0 : 48 ≤ (c.toNat : Int)) (h1 : (c.toNat : Int) ≤ 57) : Dec.isDig c = true := by
  simp [Dec.isDig]; omega
theorem notDig_of {c : UInt8} (h : (c.toNat : Int) < 48 ∨ 57 < (c.toNat : Int)) : Dec.isDig c = false := by
  simp [Dec.isDig]; omega

theorem idx_no {s : ByteArray} {k : Nat} (hk : k < s.size) (h : Dec.isDig s[k] = false) : Dec.isIdx s.data.toList = false := by
  cases hq : Dec.isIdx s.data.toList with
  | false => rfl
  | true =>
    have := List.all_eq_true.1 (Dec.isIdx_parts hq).2.2 s[k] (List.mem_of_getElem? (data_get s k hk))
    rw [h] at this
    cases this

theorem head_data (s : ByteArray) (h : 0 < s.size) : s.data.toList.head? = some s[0] := by
  rw [List.head?_eq_getElem?]
  exact data_get s 0 h

theorem idx_zero {s : ByteArray} (h : 0 < s.size) (h0 : (s[0]'h).toNat = 48) (h1 : 1 < s.size) : Dec.isIdx s.data.toList = false := by
  cases hq : Dec.isIdx s.data.toList with
  | false => rfl
  | true =>
    have := (Dec.isIdx_parts hq).2.1 (by rw [head_data s h]; exact congrArg some (UInt8.toNat.inj h0))
    have e : s.data.toList.length = s.size := by cases s; simp [ByteArray.size]
    omega

theorem idx_yes {s : ByteArray} (h : 0 < s.size) (h0 : ¬ ((s[0]'h).toNat = 48 ∧ 1 < s.size)) (hd : ∀ i (h : i < s.size), Dec.isDig s[i] = true) : Dec.isIdx s.data.toList = true := by
  have e : s.data.toList.length = s.size := by cases s; simp [ByteArray.size]
  simp only [Dec.isIdx, Bool.and_eq_true, Bool.not_eq_true', decide_eq_true_eq, Bool.and_eq_false_iff, decide_eq_false_iff_not]
  refine ⟨⟨fun hn => ?_, ?_⟩, ?_⟩
  · rw [hn] at e
    simp at e
    omega
  · by_cases hc : s.data.toList.head? = some 48
    · right
      rw [head_data s h] at hc
      have : s[0] = 48 := Option.some.inj hc
      rw [e]
      intro h2
      exact h0 ⟨by rw [this]; rfl, h2⟩
    · exact Or.inl hc
  · rw [List.all_eq_true]
    intro c hc
    obtain ⟨k, hk⟩ := List.getElem?_of_mem hc
    have hlt : k < s.size := by
      rw [← e]
      rcases Nat.lt_or_ge k s.data.toList.length with h' | h'
      · exact h'
      · rw [List.getElem?_eq_none h'] at hk; cases hk
    rw [data_get s k hlt] at hk
    rw [← Option.some.inj hk]
    exact hd k hlt

set_option maxHeartbeats 400000 in
theorem isIndex_any (s : ByteArray) (hs : s.size ≤ 1048576) (w : World) :
    Calls Tryd.prog 18 #[.string s] w fun e w' => e = .returned (.bool (Dec.isIdx s.data.toList)) ∧ w' = w := by
  by_cases h0 : s.size = 0
  · obtain rfl : s = ⟨#[]⟩ := by
      cases s with
      | mk d => 
        have : d = #[] := Array.eq_empty_of_size_eq_zero h0
        rw [this]
    go_enter Tryd.func18, Tryd.ntmps18
    go_wp2
    go_ret
    exact ⟨rfl, rfl⟩
  · have hpos : 0 < s.size := by omega
    have he : s.toList.isEmpty = false := by
      rw [ByteArray.toList_eq]
      cases hq : s.data.toList with
      | nil => exact absurd (by have := congrArg List.length hq; simpa using this) h0
      | cons a l => rfl
    by_cases h1 : (s[0]'hpos).toNat = 48 ∧ 1 < s.size
    · have e1 : (((s[0]'hpos).toNat : Int) == 48) = true := by simpa using (by omega : ((s[0]'hpos).toNat : Int) = 48)
      have HX : Hid (Dec.isIdx s.data.toList = false) := idx_zero hpos h1.1 h1.2
      go_enter Tryd.func18, Tryd.ntmps18
      go_wp2
      go_ret
      rw [HX.out]
      exact ⟨rfl, rfl⟩
    · have HY : Hid (¬ ((s[0]'hpos).toNat = 48 ∧ 1 < s.size)) := h1
      have hcase : ((((s[0]'hpos).toNat : Int) == 48) = false) ∨ ((((s[0]'hpos).toNat : Int) == 48) = true ∧ decide (1 < (s.size : Int)) = false) := by
        by_cases hc : (s[0]'hpos).toNat = 48
        · right
          exact ⟨beq_iff_eq.2 (by omega), by simp; omega⟩
        · left
          exact beq_eq_false_iff_ne.2 (by omega)
      clear h1
      rcases hcase with e1 | ⟨e1, e2⟩
      all_goals
        go_enter Tryd.func18, Tryd.ntmps18
        go_wp2
        go_loop [3] (fun j => ∃ k : Nat, k ≤ s.size ∧ j = .int .i64 k ∧ Hid (∀ i (_ : i < k) (h : i < s.size), Dec.isDig s[i] = true)) (fun j => s.size - (intOf j).toNat)
        case atStart => exact ⟨0, Nat.zero_le _, rfl, fun i h => by omega⟩
        case round =>
          obtain ⟨k, hk, rfl, HK⟩ := hrel
          by_cases hlt : k < s.size
          · by_cases g1 : (s[k].toNat : Int) < 48
            · have HX : Hid (Dec.isIdx s.data.toList = false) := idx_no hlt (notDig_of (Or.inl g1))
              go_wp2
              go_ret
              rw [HX.out]
              exact ⟨rfl, rfl⟩
            · have g1d : decide ((s[k].toNat : Int) < 48) = false := by simpa using g1
              by_cases g2 : 57 < (s[k].toNat : Int)
              · have HX : Hid (Dec.isIdx s.data.toList = false) := idx_no hlt (notDig_of (Or.inr g2))
                go_wp2
                go_ret
                rw [HX.out]
                exact ⟨rfl, rfl⟩
              · have HK2 : Hid (∀ i (_ : i < k + 1) (h : i < s.size), Dec.isDig s[i] = true) := fun i hi h => by
                  by_cases e : i = k
                  · subst e; exact isDig_of (by omega) (by omega)
                  · exact HK.out i (by omega) h
                go_wp2
                go_round
                case rel => exact ⟨k + 1, by omega, by go_num, HK2⟩
                case measure => simp [intOf]; omega
          · have HX : Hid (Dec.isIdx s.data.toList = true) := idx_yes hpos HY.out (fun i h => HK.out i (by omega) h)
            go_wp2
            go_ret
            rw [HX.out]
            exact ⟨rfl, rfl⟩

end Go.Proofs.Qxb6614023aDoor
