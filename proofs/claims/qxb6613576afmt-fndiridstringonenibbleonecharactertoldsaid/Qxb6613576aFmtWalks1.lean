/-
  The walks of hexValue, decodeHex16 and hexDigit.
-/
import Derived.Test.Qxb6613576aFmtFmt
import Derived.WalkLawsBesides
import Derived.Laws.BitsAllLaws
namespace Go.Proofs.Qxb6613576aFmt
open Go.RowKit Go.Kit

theorem ret_int {k : IntKind} {a b : Int} (h : a = b) : Ending.returned (.int k a) = .returned (.int k b) := by rw [h]
theorem ret_u64b {a b : Int} (h : a = b) : Ending.returned (.tuple #[.int .u64 a, .bool true]) = .returned (.tuple #[.int .u64 b, .bool true]) := by rw [h]

set_option maxHeartbeats 400000 in
theorem hexValue_low (c : Int) (w : World) (h0 : 48 ≤ c) (h1 : c ≤ 57) :
    Calls Tryf.prog 9 #[.int .u8 c] w fun e w' => e = .returned (.tuple #[.int .u64 (c - 48), .bool true]) ∧ w' = w := by
  go_enter Tryf.func9, Tryf.ntmps9
  go_wp2
  go_ret2
  exact ⟨rfl, rfl⟩

set_option maxHeartbeats 400000 in
theorem hexValue_high (c : Int) (w : World) (h0 : 97 ≤ c) (h1 : c ≤ 102) :
    Calls Tryf.prog 9 #[.int .u8 c] w fun e w' => e = .returned (.tuple #[.int .u64 (c - 87), .bool true]) ∧ w' = w := by
  go_enter Tryf.func9, Tryf.ntmps9
  go_wp2
  go_ret2
  exact ⟨ret_u64b (by omega), rfl⟩

set_option maxHeartbeats 400000 in
theorem hexDigit_any (n : Int) (w : World) (h0 : 0 ≤ n) (h1 : n ≤ 15) :
    Calls Tryf.prog 7 #[.int .u64 n] w fun e w' => e = .returned (.int .u8 (if n < 10 then 48 + n else 87 + n)) ∧ w' = w := by
  by_cases h : n < 10
  · go_enter Tryf.func7, Tryf.ntmps7
    go_wp2
    go_ret
    exact ⟨rfl, rfl⟩
  · go_enter Tryf.func7, Tryf.ntmps7
    go_wp2
    go_ret
    exact ⟨ret_int (by omega), rfl⟩

/-- Digit n as a number. -/
def dg (n : Nat) : Int := if n < 10 then 48 + (n : Int) else 87 + (n : Int)

theorem hexValue_dg (n : Nat) (w : World) (hn : n < 16) :
    Calls Tryf.prog 9 #[.int .u8 (dg n)] w fun e w' => e = .returned (.tuple #[.int .u64 n, .bool true]) ∧ w' = w := by
  by_cases h : n < 10
  · have e : dg n = 48 + (n : Int) := by simp [dg, h]
    rw [e]
    refine (hexValue_low _ w (by omega) (by omega)).mono ?_
    rintro e w' ⟨rfl, rfl⟩
    exact ⟨ret_u64b (by omega), rfl⟩
  · have e : dg n = 87 + (n : Int) := by simp [dg, h]
    rw [e]
    refine (hexValue_high _ w (by omega) (by omega)).mono ?_
    rintro e w' ⟨rfl, rfl⟩
    exact ⟨ret_u64b (by omega), rfl⟩

/-- The number that the first k of sixteen digits of x spell. -/
def pre (x k : Nat) : Int := ((x / 16 ^ (16 - k) : Nat) : Int)
theorem pre_zero (x : Nat) (hx : x < 18446744073709551616) : pre x 0 = 0 := by
  have e : (16 : Nat) ^ (16 - 0) = 18446744073709551616 := by decide
  unfold pre
  rw [e, Nat.div_eq_of_lt hx]
  rfl
theorem pre_full (x : Nat) : pre x 16 = x := by
  have e : (16 : Nat) ^ (16 - 16) = 1 := by decide
  unfold pre
  rw [e, Nat.div_one]
theorem pre_nonneg (x k : Nat) : 0 ≤ pre x k := Int.natCast_nonneg _
theorem pre_succ (x k : Nat) (h : k < 16) : pre x (k + 1) = 16 * pre x k + ((x / 16 ^ (15 - k) % 16 : Nat) : Int) := by
  unfold pre
  have e1 : 16 - (k + 1) = 15 - k := by omega
  have e2 : 16 - k = (15 - k) + 1 := by omega
  have e3 : x / 16 ^ (16 - k) = x / 16 ^ (15 - k) / 16 := by rw [e2, Nat.pow_succ, Nat.div_div_eq_div_mul]
  rw [e1, e3]
  omega
theorem pre_lt (x k : Nat) (hx : x < 18446744073709551616) (h : k < 16) : pre x k ≤ 1152921504606846975 := by
  unfold pre
  have hp : 16 ^ 1 ≤ 16 ^ (16 - k) := Nat.pow_le_pow_right (by omega) (by omega)
  have h2 : x / 16 ^ (16 - k) ≤ x / 16 ^ 1 := Nat.div_le_div_left hp (by decide)
  generalize x / 16 ^ (16 - k) = y at *
  omega
theorem or_step (v : Int) (n : Nat) (h0 : 0 ≤ v) (h1 : v ≤ 1152921504606846975) (hn : n < 16) : bits .or .u64 (v * 16) (n : Int) = 16 * v + n := by
  rw [u64_or _ _ (by omega) (by omega) (by omega) (by omega), nat_join 4 _ _ (by omega) (by omega)]
  omega

set_option maxHeartbeats 400000 in
theorem decode_any (s : ByteArray) (x : Nat) (w : World) (hx : x < 18446744073709551616) (hs : s.size = 16) (hd : Hid (∀ i (h : i < s.size), (s[i].toNat : Int) = dg (x / 16 ^ (15 - i) % 16))) :
    Calls Tryf.prog 6 #[.string s] w fun e w' => e = .returned (.tuple #[.int .u64 x, .bool true]) ∧ w' = w := by
  go_enter Tryf.func6, Tryf.ntmps6
  go_wp2
  go_loop [4, 5] (fun v i => ∃ k : Nat, k ≤ 16 ∧ i = .int .i64 k ∧ v = .int .u64 (pre x k)) (fun _ i => 16 - (intOf i).toNat)
  case atStart => exact ⟨0, Nat.zero_le _, rfl, by rw [pre_zero x hx]⟩
  case round =>
    obtain ⟨k, hk, rfl, rfl⟩ := hrel
    by_cases hlt : k < 16
    · have p0 := pre_nonneg x k
      have p1 := pre_lt x k hx hlt
      have P2 : Hid (pre x (k + 1) = 16 * pre x k + ((x / 16 ^ (15 - k) % 16 : Nat) : Int)) := pre_succ x k hlt
      have hn : x / 16 ^ (15 - k) % 16 < 16 := Nat.mod_lt _ (by decide)
      have hd2 : Hid (∀ h : k < s.size, (s[k].toNat : Int) = dg (x / 16 ^ (15 - k) % 16)) := fun h => hd.out k h
      clear hd
      generalize x / 16 ^ (15 - k) % 16 = n at *
      generalize pre x k = v at *
      go_wp2_with fail
      rw [hd2.out (by omega)]
      refine (hexValue_dg n _ hn).mono ?_
      rintro e w' ⟨rfl, rfl⟩
      go_wp2_with fail
      go_round
      case rel => exact ⟨k + 1, by omega, by go_num, by rw [P2.out, or_step v n p0 p1 hn]⟩
      case measure => simp [intOf]; omega
    · obtain rfl : k = 16 := by omega
      rw [pre_full]
      go_wp2
      go_ret2
      exact ⟨rfl, rfl⟩

theorem dg_digit (n : Nat) (hn : n < 16) : ((Go.Extern.FmtText.digit false n).toNat : Int) = dg n := by
  have key : ∀ a : Fin 16, ((Go.Extern.FmtText.digit false a.val).toNat : Int) = dg a.val := by decide
  exact key ⟨n, hn⟩

theorem str_get (x : Int) (i : Nat) (h : i < (str x).size) : (((str x)[i]'h).toNat : Int) = dg (x.toNat / 16 ^ (15 - i) % 16) := by
  have h2 : i < 16 := by rw [str_size] at h; exact h
  have e := Hex.hx_get 16 x.toNat i h2
  have hl : i < (Hex.hx 16 x.toNat).length := by rw [Hex.hx_length]; exact h2
  rw [List.getElem?_eq_getElem hl] at e
  have e2 : (str x)[i]'h = (Hex.hx 16 x.toNat)[i]'hl := rfl
  rw [e2, Option.some.inj e]
  exact dg_digit _ (Nat.mod_lt _ (by decide))

theorem str_toList (x : Int) : (str x).toList = Hex.hx 16 x.toNat := by
  rw [str, ByteArray.toList_mk]

theorem str_less (a b : Int) (ha : 0 ≤ a) (ha2 : a ≤ 18446744073709551615) (hb : 0 ≤ b) (hb2 : b ≤ 18446744073709551615) :
    Op.bytesLess (str a).toList (str b).toList = decide (a < b) := by
  have e : (16 : Nat) ^ 16 = 18446744073709551616 := by decide
  rw [str_toList, str_toList, Hex.bytesLess_hx, e, Bool.eq_iff_iff, decide_eq_true_eq, decide_eq_true_eq]
  omega

theorem str_eq (a b : Int) (ha : 0 ≤ a) (ha2 : a ≤ 18446744073709551615) (hb : 0 ≤ b) (hb2 : b ≤ 18446744073709551615) :
    ((str a).toList == (str b).toList) = (a == b) := by
  have e : (16 : Nat) ^ 16 = 18446744073709551616 := by decide
  rw [Bool.eq_iff_iff, beq_iff_eq, beq_iff_eq, str_toList, str_toList]
  constructor
  · intro h
    have := Hex.hx_inj 16 _ _ h
    rw [e] at this
    omega
  · intro h
    rw [h]

theorem decode_str (x : Int) (w : World) (h0 : 0 ≤ x) (h1 : x ≤ 18446744073709551615) :
    Calls Tryf.prog 6 #[.string (str x)] w fun e w' => e = .returned (.tuple #[.int .u64 x, .bool true]) ∧ w' = w := by
  refine (decode_any (str x) x.toNat w (by omega) (str_size x) (fun i h => str_get x i h)).mono ?_
  rintro e w' ⟨rfl, rfl⟩
  exact ⟨ret_u64b (by omega), rfl⟩

end Go.Proofs.Qxb6613576aFmt
