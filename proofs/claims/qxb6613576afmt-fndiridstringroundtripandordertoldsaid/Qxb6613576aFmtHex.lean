/-
  The plain mathematics of sixteen hexadecimal digits: no Go in sight.
-/
import Derived.Stop.FmtTextBases
import GoSem.Op.String
namespace Go.Proofs.Qxb6613576aFmt
namespace Hex
open Go.Extern

/-- The last k hexadecimal digits of x, the highest first. -/
def hx : Nat → Nat → List UInt8
  | 0, _ => []
  | k + 1, x => FmtText.digit false (x / 16 ^ k % 16) :: hx k x

theorem hx_length : ∀ k x, (hx k x).length = k
  | 0, _ => rfl
  | k + 1, x => by simp [hx, hx_length k x]

theorem hx_zero : ∀ k x, x < 1 → hx k x = List.replicate k 48
  | 0, _, _ => rfl
  | k + 1, x, h => by
    have e : x = 0 := by omega
    subst e
    rw [hx, hx_zero k 0 (by omega), List.replicate_succ, Nat.zero_div]
    rfl

theorem hx_snoc : ∀ k x, hx (k + 1) x = hx k (x / 16) ++ [FmtText.digit false (x % 16)]
  | 0, x => by simp [hx]
  | k + 1, x => by
    rw [hx, hx_snoc k x, hx]
    have e : x / 16 ^ (k + 1) = x / 16 / 16 ^ k := by
      rw [Nat.div_div_eq_div_mul, Nat.pow_succ, Nat.mul_comm]
    rw [e]
    rfl

theorem digitsFrom_hx : ∀ (N fuel u : Nat) (acc : List UInt8), N < fuel → u < 16 ^ (N + 1) →
    List.replicate (N + 1 + acc.length - (FmtText.digitsFrom 16 false fuel u acc).length) 48 ++ FmtText.digitsFrom 16 false fuel u acc = hx (N + 1) u ++ acc
  | N, 0, _, _, h, _ => by omega
  | N, fuel + 1, u, acc, h, hu => by
    rw [FmtText.digitsFrom]
    by_cases h16 : u < 16
    · rw [if_pos h16, hx_snoc, hx_zero N (u / 16) (by omega), Nat.mod_eq_of_lt h16]
      have e : N + 1 + acc.length - (FmtText.digit false u :: acc).length = N := by simp; omega
      rw [e]
      simp
    · rw [if_neg h16]
      cases N with
      | zero => simp at hu; omega
      | succ M =>
        have hq : u / 16 < 16 ^ (M + 1) := by
          rw [Nat.div_lt_iff_lt_mul (by omega), ← Nat.pow_succ]
          exact hu
        have ih := digitsFrom_hx M fuel (u / 16) (FmtText.digit false (u % 16) :: acc) (by omega) hq
        rw [hx_snoc]
        have e : M + 1 + (FmtText.digit false (u % 16) :: acc).length = M + 1 + 1 + acc.length := by simp; omega
        rw [e] at ih
        rw [ih]
        simp

theorem hexZeros_hx (x : Int) (h0 : 0 ≤ x) (h1 : x ≤ 18446744073709551615) : FmtText.hexZeros false false 16 x = hx 16 x.toNat := by
  have e : x.natAbs = x.toNat := by omega
  have hn : ¬ x < 0 := by omega
  have hu : x.toNat < 16 ^ (15 + 1) := by
    have : (16 : Nat) ^ (15 + 1) = 18446744073709551616 := by decide
    omega
  have := digitsFrom_hx 15 64 x.toNat [] (by omega) hu
  simp only [List.length_nil, List.append_nil, Nat.add_zero] at this
  simp only [FmtText.hexZeros, if_neg hn, e, FmtText.numeral, Bool.false_eq_true, if_false, List.nil_append]
  exact this

theorem hx_get : ∀ (k x i : Nat) (_ : i < k), (hx k x)[i]? = some (FmtText.digit false (x / 16 ^ (k - 1 - i) % 16))
  | 0, _, _, h => by omega
  | k + 1, x, 0, _ => by simp [hx]
  | k + 1, x, i + 1, h => by
    rw [hx, List.getElem?_cons_succ, hx_get k x i (by omega)]
    have e : k - 1 - i = k + 1 - 1 - (i + 1) := by omega
    rw [e]

theorem digit_lt {m n : Nat} (hm : m < 16) (hn : n < 16) : (FmtText.digit false m < FmtText.digit false n) ↔ m < n := by
  have key : ∀ a b : Fin 16, (FmtText.digit false a.val < FmtText.digit false b.val) ↔ a.val < b.val := by decide
  exact key ⟨m, hm⟩ ⟨n, hn⟩
theorem digit_eq {m n : Nat} (hm : m < 16) (hn : n < 16) : (FmtText.digit false m = FmtText.digit false n) ↔ m = n := by
  have key : ∀ a b : Fin 16, (FmtText.digit false a.val = FmtText.digit false b.val) ↔ a.val = b.val := by decide
  exact key ⟨m, hm⟩ ⟨n, hn⟩

theorem mod_succ (k x : Nat) : x % 16 ^ (k + 1) = 16 ^ k * (x / 16 ^ k % 16) + x % 16 ^ k := by
  rw [Nat.pow_succ, Nat.mod_mul]
  omega

theorem bytesLess_hx : ∀ (k a b : Nat), Op.bytesLess (hx k a) (hx k b) = decide (a % 16 ^ k < b % 16 ^ k)
  | 0, a, b => by simp [hx, Op.bytesLess, Nat.mod_one]
  | k + 1, a, b => by
    rw [hx, hx, Op.bytesLess, bytesLess_hx k a b, mod_succ k a, mod_succ k b]
    have ha : a / 16 ^ k % 16 < 16 := Nat.mod_lt _ (by omega)
    have hb : b / 16 ^ k % 16 < 16 := Nat.mod_lt _ (by omega)
    have hp : 0 < 16 ^ k := Nat.pow_pos (by omega)
    have ra : a % 16 ^ k < 16 ^ k := Nat.mod_lt _ hp
    have rb : b % 16 ^ k < 16 ^ k := Nat.mod_lt _ hp
    generalize a / 16 ^ k % 16 = m at *
    generalize b / 16 ^ k % 16 = n at *
    generalize a % 16 ^ k = r at *
    generalize b % 16 ^ k = s at *
    generalize 16 ^ k = P at *
    rw [Bool.eq_iff_iff]
    simp only [Bool.or_eq_true, Bool.and_eq_true, decide_eq_true_eq, beq_iff_eq]
    rw [digit_lt ha hb, digit_eq ha hb]
    constructor
    · rintro (h | ⟨rfl, h⟩)
      · have : P * (m + 1) ≤ P * n := Nat.mul_le_mul_left P h
        rw [Nat.mul_add, Nat.mul_one] at this
        omega
      · omega
    · intro h
      rcases Nat.lt_trichotomy m n with h1 | h1 | h1
      · exact Or.inl h1
      · subst h1
        exact Or.inr ⟨rfl, by omega⟩
      · have : P * (n + 1) ≤ P * m := Nat.mul_le_mul_left P h1
        rw [Nat.mul_add, Nat.mul_one] at this
        omega

theorem hx_inj (k a b : Nat) (h : hx k a = hx k b) : a % 16 ^ k = b % 16 ^ k := by
  have h1 := bytesLess_hx k a b
  have h2 := bytesLess_hx k b a
  rw [h] at h1 h2
  have e := bytesLess_hx k b b
  rw [e] at h1 h2
  simp at h1 h2
  omega

/-- Nibble k of d set to v. -/
def setNib (d k v : Nat) : Nat := (d &&& (18446744073709551615 - 15 * 2 ^ (4 * k))) ||| (v * 2 ^ (4 * k))

theorem pow_le (k : Nat) (hk : k ≤ 15) : 2 ^ (4 * k) ≤ 1152921504606846976 := by
  have h : 2 ^ (4 * k) ≤ 2 ^ 60 := Nat.pow_le_pow_right (by omega) (by omega)
  have e : (2 : Nat) ^ 60 = 1152921504606846976 := by decide
  omega

theorem setNib_bit (d k v i : Nat) (hd : d < 18446744073709551616) (hk : k ≤ 15) (hv : v < 16) :
    (setNib d k v).testBit i = if 4 * k ≤ i ∧ i < 4 * k + 4 then v.testBit (i - 4 * k) else d.testBit i := by
  have hp := pow_le k hk
  have e64 : (18446744073709551615 : Nat) - 15 * 2 ^ (4 * k) = 2 ^ 64 - (15 * 2 ^ (4 * k) + 1) := by
    have : (2 : Nat) ^ 64 = 18446744073709551616 := by decide
    omega
  have hlt : 15 * 2 ^ (4 * k) < 2 ^ 64 := by
    have : (2 : Nat) ^ 64 = 18446744073709551616 := by decide
    omega
  have e15 : (15 : Nat) = 2 ^ 4 - 1 := by decide
  unfold setNib
  rw [e64, Nat.testBit_or, Nat.testBit_and, Nat.testBit_two_pow_sub_succ hlt, Nat.testBit_mul_two_pow, Nat.testBit_mul_two_pow, e15, Nat.testBit_two_pow_sub_one]
  by_cases h : 4 * k ≤ i ∧ i < 4 * k + 4
  · rw [if_pos h]
    have h1 : decide (4 * k ≤ i) = true := by simpa using h.1
    have h2 : decide (i - 4 * k < 4) = true := by simp; omega
    rw [h1, h2]
    simp
  · rw [if_neg h]
    by_cases h1 : 4 * k ≤ i
    · have h2 : decide (i - 4 * k < 4) = false := by simp; omega
      have h3 : v.testBit (i - 4 * k) = false := by
        apply Nat.testBit_lt_two_pow
        have : 2 ^ 4 ≤ 2 ^ (i - 4 * k) := Nat.pow_le_pow_right (by omega) (by omega)
        omega
      rw [h2, h3]
      by_cases h4 : i < 64
      · simp [h4]
      · have h5 : d.testBit i = false := by
          apply Nat.testBit_lt_two_pow
          have h6 : 2 ^ 64 ≤ 2 ^ i := Nat.pow_le_pow_right (by omega) (by omega)
          have : (2 : Nat) ^ 64 = 18446744073709551616 := by decide
          omega
        simp [h5]
    · have h2 : decide (4 * k ≤ i) = false := by simpa using h1
      have h4 : i < 64 := by omega
      rw [h2]
      simp [h4]

theorem setNib_lt (d k v : Nat) (hd : d < 18446744073709551616) (hk : k ≤ 15) (hv : v < 16) : setNib d k v < 18446744073709551616 := by
  have e : (18446744073709551616 : Nat) = 2 ^ 64 := by decide
  rw [e]
  apply Nat.lt_pow_two_of_testBit
  intro i hi
  rw [setNib_bit d k v i hd hk hv]
  rw [if_neg (by omega)]
  apply Nat.testBit_lt_two_pow
  have h6 : 2 ^ 64 ≤ 2 ^ i := Nat.pow_le_pow_right (by omega) hi
  omega

theorem pow16 (j : Nat) : 16 ^ j = 2 ^ (4 * j) := by
  rw [Nat.pow_mul]

theorem nib_bit (x j i : Nat) : (x / 16 ^ j % 16).testBit i = (decide (i < 4) && x.testBit (4 * j + i)) := by
  have e : (16 : Nat) = 2 ^ 4 := by decide
  rw [pow16 j]
  rw [show x / 2 ^ (4 * j) % 16 = x / 2 ^ (4 * j) % 2 ^ 4 from by rw [← e]]
  rw [Nat.testBit_mod_two_pow, Nat.testBit_div_two_pow, Nat.add_comm]

theorem setNib_nib (d k v j : Nat) (hd : d < 18446744073709551616) (hk : k ≤ 15) (hv : v < 16) :
    setNib d k v / 16 ^ j % 16 = if j = k then v else d / 16 ^ j % 16 := by
  apply Nat.eq_of_testBit_eq
  intro i
  rw [nib_bit, setNib_bit d k v _ hd hk hv]
  by_cases hj : j = k
  · subst hj
    rw [if_pos rfl]
    by_cases hi : i < 4
    · rw [if_pos (by omega)]
      have e : 4 * j + i - 4 * j = i := by omega
      simp [hi, e]
    · have : v.testBit i = false := by
        apply Nat.testBit_lt_two_pow
        have : 2 ^ 4 ≤ 2 ^ i := Nat.pow_le_pow_right (by omega) (by omega)
        omega
      simp [hi, this]
  · rw [if_neg hj, nib_bit]
    by_cases hi : i < 4
    · rw [if_neg (by omega)]
    · simp [hi]

end Hex
end Go.Proofs.Qxb6613576aFmt
