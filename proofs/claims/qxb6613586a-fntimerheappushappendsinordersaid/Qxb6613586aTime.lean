/-
  The walks of package time's functions at a zero time and a duration.
-/
import Derived.Test.Qxb6613586aProg
import Derived.WalkKit
import Derived.WalkSpells
import Derived.WalkLawsBesides
import Derived.Laws.BitsAllLaws
namespace Go.Proofs.Qxb6613586a
open Go.RowKit

theorem ret_int {k : IntKind} {a b : Int} (h : a = b) : Ending.returned (.int k a) = .returned (.int k b) := by rw [h]

/-- A time as the zero time plus s seconds and n nanoseconds. -/
def tm (s n : Int) : Value := .agg #[.int .u64 n, .int .i64 s, .pointer none]

theorem mask30 (n : Int) (h0 : 0 ≤ n) (h1 : n < 1000000000) : bits .and .u64 n 1073741823 = n := by
  rw [u64_and n 1073741823 h0 (by omega) (by omega) (by omega)]
  have e : (1073741823 : Int).toNat = 2 ^ 30 - 1 := by decide
  rw [e, Nat.and_two_pow_sub_one_eq_mod]
  omega
theorem bit63 (n : Int) (h0 : 0 ≤ n) (h1 : n < 1000000000) : bits .and .u64 n 9223372036854775808 = 0 := by
  rw [u64_and n 9223372036854775808 h0 (by omega) (by omega) (by omega)]
  have e : (9223372036854775808 : Int).toNat = 2 ^ 63 := by decide
  rw [e, nat_bit]
  have e2 : n.toNat / 2 ^ 63 = 0 := Nat.div_eq_of_lt (by have : (2 : Nat) ^ 63 = 9223372036854775808 := by decide
                                                         omega)
  rw [e2]
  rfl
theorem or_zero (n : Int) (h0 : 0 ≤ n) (h1 : n < 1000000000) : bits .or .u64 0 n = n := by
  rw [u64_or 0 n (by omega) (by omega) h0 (by omega)]
  have e : (0 : Int).toNat = 0 := by decide
  rw [e, Nat.zero_or]
  omega

set_option maxHeartbeats 400000 in
theorem nsec_any (b o : Nat) (n : Int) (w : World) (h0 : 0 ≤ n) (h1 : n < 1000000000) (hc : w.cell? ⟨b, o, none⟩ = some (.int .u64 n)) :
    Calls Try.prog 13 #[.pointer (some ⟨b, o, none⟩)] w fun e w' => e = .returned (.int .i32 n) ∧ w' = w := by
  have hb : bits .and .u64 n 1073741823 = n := mask30 n h0 h1
  go_enter Try.func13, Try.ntmps13
  go_wp2
  go_ret
  exact ⟨rfl, rfl⟩

set_option maxHeartbeats 400000 in
theorem sec_any (b o : Nat) (n s : Int) (w : World) (h0 : 0 ≤ n) (h1 : n < 1000000000) (hc : w.cell? ⟨b, o, none⟩ = some (.int .u64 n)) (hc1 : w.cell? ⟨b, o + 1, none⟩ = some (.int .i64 s)) :
    Calls Try.prog 17 #[.pointer (some ⟨b, o, none⟩)] w fun e w' => e = .returned (.int .i64 s) ∧ w' = w := by
  have hb : bits .and .u64 n 9223372036854775808 = 0 := bit63 n h0 h1
  go_enter Try.func17, Try.ntmps17
  go_wp2
  go_ret
  exact ⟨rfl, rfl⟩

set_option maxHeartbeats 400000 in
theorem addSec_any (b o : Nat) (n s : Int) (w : World) (h0 : 0 ≤ n) (h1 : n < 1000000000) (s0 : -10000000000 ≤ s) (s1 : s ≤ 10000000000) (hc : w.cell? ⟨b, o, none⟩ = some (.int .u64 n)) (hc1 : w.cell? ⟨b, o + 1, none⟩ = some (.int .i64 0)) (hf : w.frozen? ⟨b, o + 1, none⟩ = false) :
    Calls Try.prog 14 #[.pointer (some ⟨b, o, none⟩), .int .i64 s] w fun e w' => e = .returned (.tuple #[]) ∧ w' = w.setCell ⟨b, o + 1, none⟩ (.int .i64 s) := by
  have hb : bits .and .u64 n 9223372036854775808 = 0 := bit63 n h0 h1
  go_enter Try.func14, Try.ntmps14
  go_wp2
  go_end0
  exact ⟨rfl, rfl⟩

theorem quo_rem (d : Int) (h0 : -9223372036854775808 ≤ d) (h1 : d ≤ 9223372036854775807) :
    ∃ q r : Int, d.tdiv 1000000000 = q ∧ d.tmod 1000000000 = r ∧ -9223372036 ≤ q ∧ q ≤ 9223372036 ∧ -999999999 ≤ r ∧ r ≤ 999999999 ∧
      (if r < 0 then d / 1000000000 = q - 1 ∧ d % 1000000000 = r + 1000000000 else d / 1000000000 = q ∧ d % 1000000000 = r) := by
  rcases Int.le_total 0 d with h | h
  · refine ⟨_, _, Int.tdiv_eq_ediv_of_nonneg h, Int.tmod_eq_emod_of_nonneg h, by omega, by omega, by omega, by omega, ?_⟩
    split <;> omega
  · obtain ⟨m, rfl⟩ : ∃ m, d = -m := ⟨-d, by omega⟩
    have hm : 0 ≤ m := by omega
    refine ⟨_, _, (Int.neg_tdiv (a := m) (b := 1000000000)).trans (congrArg Neg.neg (Int.tdiv_eq_ediv_of_nonneg hm)), (Int.neg_tmod m 1000000000).trans (congrArg Neg.neg (Int.tmod_eq_emod_of_nonneg hm)), by omega, by omega, by omega, by omega, ?_⟩
    split <;> omega

set_option maxHeartbeats 400000 in
theorem add_zero (d : Int) (w : World) (h0 : -9223372036854775808 ≤ d) (h1 : d ≤ 9223372036854775807) :
    Calls Try.prog 10 #[.agg #[.int .u64 0, .int .i64 0, .pointer none], .int .i64 d] w fun e w' => e = .returned (tm (d / 1000000000) (d % 1000000000)) ∧ Below w.heap.size w w' := by
  obtain ⟨q, r, hq, hr, q0, q1, r0, r1, hd⟩ := quo_rem d h0 h1
  by_cases hneg : r < 0
  · rw [if_pos hneg] at hd
    rw [hd.1, hd.2]
    have hor := or_zero (r + 1000000000) (by omega) (by omega)
    have hbb := bit63 (r + 1000000000) (by omega) (by omega)
    have hz : bits .andNot .u64 0 1073741823 = 0 := by decide
    clear hd
    go_enter Try.func10, Try.ntmps10
    go_wp2_with fail
    refine (nsec_any _ _ 0 _ (by omega) (by omega) (by simp)).mono ?_
    rintro e w' ⟨rfl, rfl⟩
    go_wp2_with fail
    refine (addSec_any _ 0 (r + 1000000000) (q - 1) _ (by omega) (by omega) (by omega) (by omega) (by simp) (by simp) (by simp)).mono ?_
    rintro e w' ⟨rfl, rfl⟩
    go_wp2_with fail
    exact bodyPost_ret (v := tm (q - 1) (r + 1000000000)) (by simp [results, Try.results10, go_sem, tm]) rfl ⟨rfl, ((Below.refl _ _).alloc (Nat.le_refl _) _).alloc (by simp) _⟩
  · rw [if_neg hneg] at hd
    rw [hd.1, hd.2]
    have hor := or_zero r (by omega) (by omega)
    have hbb := bit63 r (by omega) (by omega)
    have hz : bits .andNot .u64 0 1073741823 = 0 := by decide
    clear hd
    go_enter Try.func10, Try.ntmps10
    go_wp2_with fail
    refine (nsec_any _ _ 0 _ (by omega) (by omega) (by simp)).mono ?_
    rintro e w' ⟨rfl, rfl⟩
    go_wp2_with fail
    refine (addSec_any _ 0 r q _ (by omega) (by omega) (by omega) (by omega) (by simp) (by simp) (by simp)).mono ?_
    rintro e w' ⟨rfl, rfl⟩
    go_wp2_with fail
    exact bodyPost_ret (v := tm q r) (by simp [results, Try.results10, go_sem, tm]) rfl ⟨rfl, ((Below.refl _ _).alloc (Nat.le_refl _) _).alloc (by simp) _⟩

end Go.Proofs.Qxb6613586a
