/-
  The walk of the second law.
-/
import Derived.Test.Qxb6613576aFmtWalks1
import Derived.Deep.QuietTactic
import Derived.BigQuiet
namespace Go.Proofs.Qxb6613576aFmt
open Go.RowKit Go.Kit Go.Extern.Stop Go.Stop Go.Extern

theorem hide {p : Prop} (h : p) : Hid p := h

set_option maxHeartbeats 400000 in
theorem nibble_out (d k v : Int) (w : World) (h : 15 < k ∨ 15 < v) :
    Calls Tryf.prog 4 #[.int .u64 d, .int .u64 k, .int .u64 v] w fun e w' => e = .returned (.bool true) ∧ w' = w := by
  by_cases h1 : 15 < k
  · go_enter Tryf.func4, Tryf.ntmps4
    go_wp2
    go_ret
    exact ⟨rfl, rfl⟩
  · have h2 : 15 < v := by omega
    clear h
    go_enter Tryf.func4, Tryf.ntmps4
    go_wp2
    go_ret
    exact ⟨rfl, rfl⟩

/-- The new ID, as the walk writes it. -/
theorem setNib_bits (d : Int) (k : Nat) (v : Int) (hd : 0 ≤ d) (hd2 : d ≤ 18446744073709551615) (hk : k ≤ 15) (hv : 0 ≤ v) (hv2 : v ≤ 15) :
    bits BinOp.or IntKind.u64 (bits BinOp.andNot IntKind.u64 d (IntKind.u64.wrap (15 * 2 ^ (4 * k)))) (IntKind.u64.wrap (v * 2 ^ (4 * k))) = (Hex.setNib d.toNat k v.toNat : Int) := by
  have hp := Hex.pow_le k hk
  have e1 : IntKind.u64.wrap (15 * 2 ^ (4 * k)) = ((15 * 2 ^ (4 * k) : Nat) : Int) := by
    rw [IntKind.wrap_u64]
    have : (15 * 2 ^ (4 * k) : Int) = ((15 * 2 ^ (4 * k) : Nat) : Int) := by simp
    rw [this]
    generalize 2 ^ (4 * k) = P at *
    omega
  have hvm : v.toNat * 2 ^ (4 * k) ≤ 15 * 2 ^ (4 * k) := Nat.mul_le_mul_right _ (by omega)
  have e2 : IntKind.u64.wrap (v * 2 ^ (4 * k)) = ((v.toNat * 2 ^ (4 * k) : Nat) : Int) := by
    rw [IntKind.wrap_u64]
    have : (v * 2 ^ (4 * k) : Int) = ((v.toNat * 2 ^ (4 * k) : Nat) : Int) := by
      rw [Int.natCast_mul, Int.toNat_of_nonneg hv]
      simp
    rw [this]
    generalize hq : v.toNat * 2 ^ (4 * k) = Q at *
    generalize 2 ^ (4 * k) = P at *
    omega
  have e0 : d = ((d.toNat : Nat) : Int) := by omega
  rw [e1, e2]
  generalize hq : v.toNat * 2 ^ (4 * k) = Q at *
  have hlt : d.toNat &&& (18446744073709551615 - 15 * 2 ^ (4 * k)) < 18446744073709551616 := Nat.lt_of_le_of_lt Nat.and_le_left (by omega)
  rw [e0, u64_andNot_nat _ _ (by omega) (by generalize 2 ^ (4 * k) = P at *; omega), u64_or_nat _ _ hlt (by generalize 2 ^ (4 * k) = P at *; omega), Int.toNat_natCast, Hex.setNib, hq]

theorem old_bits (d : Int) (k : Nat) (hd : 0 ≤ d) (hd2 : d ≤ 18446744073709551615) :
    bits BinOp.and IntKind.u64 (d / 2 ^ (4 * k)) 15 = ((d.toNat / 16 ^ k % 16 : Nat) : Int) := by
  have e0 : d / 2 ^ (4 * k) = ((d.toNat / 2 ^ (4 * k) : Nat) : Int) := by
    have : d = ((d.toNat : Nat) : Int) := by omega
    rw [Int.natCast_ediv, Int.toNat_of_nonneg hd]
    simp
  have hl : d.toNat / 2 ^ (4 * k) ≤ d.toNat := Nat.div_le_self _ _
  rw [e0, show (15 : Int) = ((15 : Nat) : Int) from rfl, u64_and_nat _ _ (by generalize d.toNat / 2 ^ (4 * k) = q at *; omega) (by omega), nat_mask4, Hex.pow16]

/-- A digit as a number, over Int. -/
def dgI (n : Int) : Int := dg n.toNat

theorem hexDigit_dg (n : Int) (w : World) (h0 : 0 ≤ n) (h1 : n ≤ 15) :
    Calls Tryf.prog 7 #[.int .u64 n] w fun e w' => e = .returned (.int .u8 (dgI n)) ∧ w' = w := by
  refine (hexDigit_any n w h0 h1).mono ?_
  rintro e w' ⟨rfl, rfl⟩
  refine ⟨ret_int ?_, rfl⟩
  unfold dgI dg
  split <;> split <;> omega

/-- All that the walk needs to know of the two IDs and of their texts. -/
theorem nib_facts (d : Int) (k : Nat) (v : Int) (hd : 0 ≤ d) (hd2 : d ≤ 18446744073709551615) (hk : k ≤ 15) (hv : 0 ≤ v) (hv2 : v ≤ 15) :
    ∃ e o : Int, bits BinOp.or IntKind.u64 (bits BinOp.andNot IntKind.u64 d (IntKind.u64.wrap (15 * 2 ^ (4 * k)))) (IntKind.u64.wrap (v * 2 ^ (4 * k))) = e ∧
      bits BinOp.and IntKind.u64 (d / 2 ^ (4 * k)) 15 = o ∧ 0 ≤ e ∧ e ≤ 18446744073709551615 ∧ 0 ≤ o ∧ o ≤ 15 ∧
      (∀ i (h1 : i < (str d).size) (h2 : i < (str e).size), i ≠ 15 - k → (((str d)[i]'h1).toNat : Int) = (((str e)[i]'h2).toNat : Int)) ∧
      (∀ h : 15 - k < (str e).size, (((str e)[15 - k]'h).toNat : Int) = dgI v) ∧ (∀ h : 15 - k < (str d).size, (((str d)[15 - k]'h).toNat : Int) = dgI o) := by
  have hlt := Hex.setNib_lt d.toNat k v.toNat (by omega) hk (by omega)
  have hmod : d.toNat / 16 ^ k % 16 < 16 := Nat.mod_lt _ (by decide)
  have e15 : 15 - (15 - k) = k := by omega
  refine ⟨_, _, setNib_bits d k v hd hd2 hk hv hv2, old_bits d k hd hd2, by omega, by omega, Int.natCast_nonneg _, by generalize d.toNat / 16 ^ k % 16 = m at *; omega, ?_, ?_, ?_⟩
  · intro i h1 h2 hne
    have h3 : i < 16 := by rw [str_size] at h1; exact h1
    rw [str_get, str_get, Int.toNat_natCast, Hex.setNib_nib _ _ _ _ (by omega) hk (by omega), if_neg (by omega)]
  · intro h
    rw [str_get, Int.toNat_natCast, e15, Hex.setNib_nib _ _ _ _ (by omega) hk (by omega), if_pos rfl, dgI]
  · intro h
    rw [str_get, e15, dgI, Int.toNat_natCast]

set_option maxHeartbeats 400000 in
theorem nibble_in (F : Interp) (d : Int) (k : Nat) (v : Int) (w : World) (hd : 0 ≤ d) (hd2 : d ≤ 18446744073709551615) (hk : k ≤ 15) (hv : 0 ≤ v) (hv2 : v ≤ 15) (hF : F.told.answers w.tape) :
    Calls Tryf.prog 4 #[.int .u64 d, .int .u64 k, .int .u64 v] w fun e w' => e = .returned (.bool true) ∧ Below w.heap.size w w' := by
  have HF : Hid (F.told.answers w.tape) := hF
  clear hF
  obtain ⟨e, o, q1, q2, he, he2, ho, ho2, f1, f2, f3⟩ := nib_facts d k v hd hd2 hk hv hv2
  have F1 := hide f1
  have F2 := hide f2
  have F3 := hide f3
  clear f1 f2 f3
  have s1 := str_size d
  have s2 := str_size e
  go_enter Tryf.func4, Tryf.ntmps4
  go_wp2_with fail
  refine (string_any F d _ hd hd2 HF.out).mono ?_
  rintro e w1 ⟨rfl, hb1⟩
  have HF1 : Hid (F.told.answers w1.tape) := by rw [hb1.tape]; exact HF
  have HB1 : Hid (Below w.heap.size w w1) := hb1
  clear hb1
  go_wp2_with fail
  refine (string_any F e _ he he2 HF1.out).mono ?_
  rintro e w2 ⟨rfl, hb2⟩
  have HB2 : Hid (Below w1.heap.size w1 w2) := hb2
  clear hb2 q1 q2
  generalize str d = s at *
  generalize str e = t at *
  have ep : ∃ p : Nat, 15 - k = p ∧ (15 : Int) - (k : Int) = (p : Int) ∧ p ≤ 15 := ⟨15 - k, rfl, by omega, by omega⟩
  obtain ⟨p, ep1, ep2, hp⟩ := ep
  rw [ep1] at F1 F2 F3
  clear ep1
  have g1 : decide (15 < (k : Int)) = false := by simp; omega
  have g2 : decide (15 < v) = false := by simp; omega
  go_wp2_with fail
  have HB : Hid (Below w.heap.size w w2) := HB1.out.trans (HB2.out.mono HB1.out.size)
  clear HB1 HB2 HF HF1
  go_loopw [13] (fun i wr => ∃ j : Nat, j ≤ 16 ∧ i = .int .i64 j ∧ Hid (Below w.heap.size w wr)) (fun i _ => 16 - (intOf i).toNat)
  case atStart => exact ⟨0, Nat.zero_le _, rfl, HB⟩
  case round =>
    obtain ⟨j, hj, rfl, HBr⟩ := hrel
    by_cases hlt : j < 16
    · by_cases hjp : j = p
      · have hjp1 : ((j : Int) == (p : Int)) = true := by simp; omega
        go_wp2
        go_roundw
        case rel => exact ⟨j + 1, by omega, by go_num, HBr⟩
        case measure => simp [intOf]; omega
      · have hjp1 : ((j : Int) == (p : Int)) = false := by simp; omega
        have G1 := F1.out j (by omega) (by omega) hjp
        go_wp2_with fail
        go_quiet (fail)
        go_wp2
        go_roundw
        case rel => exact ⟨j + 1, by omega, by go_num, below_drewN HBr.out _⟩
        case measure => simp [intOf]; omega
    · obtain rfl : j = 16 := by omega
      have G2 := F2.out (by omega)
      have G3 := F3.out (by omega)
      go_wp2_with fail
      go_quiet ((go_at_call 7; exact Calls.quiet_of_same (hexDigit_dg _ _ (by assumption) (by assumption))))
      go_wp2
      go_ret
      exact ⟨rfl, below_drewN HBr.out _⟩

theorem nibble_any (F : Interp) (d k v : Int) (w : World) (hd : 0 ≤ d ∧ d ≤ 18446744073709551615) (hk : 0 ≤ k ∧ k ≤ 18446744073709551615) (hv : 0 ≤ v ∧ v ≤ 18446744073709551615) (hF : F.told.answers w.tape) :
    Calls Tryf.prog 4 #[.int .u64 d, .int .u64 k, .int .u64 v] w fun e w' => e = .returned (.bool true) ∧ Below w.heap.size w w' := by
  by_cases h : 15 < k ∨ 15 < v
  · refine (nibble_out d k v w h).mono ?_
    rintro e w' ⟨rfl, rfl⟩
    exact ⟨rfl, Below.refl _ _⟩
  · obtain ⟨n, rfl⟩ := Int.eq_ofNat_of_zero_le hk.1
    exact nibble_in F d n v w hd.1 hd.2 (by omega) hv.1 (by omega) hF

end Go.Proofs.Qxb6613576aFmt
