/-
  Canonical decimal numerals: no Go in sight.
-/
import Derived.Lib.AtoiAll
import Derived.Lib.AtoiAllCases
import Derived.Lib.ItoaLen
namespace Go.Proofs.Qxb6614023aDoor
namespace Dec

/-- Is the byte a decimal digit? -/
def isDig (c : UInt8) : Bool := decide (48 ≤ c.toNat) && decide (c.toNat ≤ 57)
/-- "0", or digits without a leading zero. -/
def isIdx (l : List UInt8) : Bool := decide (l ≠ []) && !(decide (l.head? = some 48) && decide (1 < l.length)) && l.all isDig
/-- What the digits spell, behind acc. -/
def val (acc : Nat) (l : List UInt8) : Nat := l.foldl (fun a c => a * 10 + (c.toNat - 48)) acc

theorem val_nil (acc : Nat) : val acc [] = acc := by simp only [val, List.foldl_nil]
theorem val_cons (acc : Nat) (c : UInt8) (r : List UInt8) : val acc (c :: r) = val (acc * 10 + (c.toNat - 48)) r := by simp only [val, List.foldl_cons]
theorem val_snoc (l : List UInt8) (c : UInt8) (acc : Nat) : val acc (l ++ [c]) = val acc l * 10 + (c.toNat - 48) := by
  simp only [val, List.foldl_append, List.foldl_cons, List.foldl_nil]
theorem val_ge : ∀ (l : List UInt8) (acc : Nat), acc ≤ val acc l
  | [], _ => Nat.le_refl _
  | c :: l, acc => by
    rw [val_cons]
    exact Nat.le_trans (by omega) (val_ge l _)

theorem parse_val : ∀ (l : List UInt8) (acc u : Nat), Lib.parseUint10 acc l = .ok u → u = val acc l
  | [], acc, u, h => by
    simp only [Lib.parseUint10] at h
    injection h with h
    rw [val_nil, h]
  | c :: r, acc, u, h => by
    simp only [Lib.parseUint10] at h
    split at h
    · split at h
      · cases h
      · split at h
        · cases h
        · rw [val_cons]
          exact parse_val r _ u h
    · cases h

theorem parse_ok : ∀ (l : List UInt8) (acc : Nat), l.all isDig = true → val acc l < 18446744073709551616 → Lib.parseUint10 acc l = .ok (val acc l)
  | [], acc, _, _ => rfl
  | c :: r, acc, hd, hv => by
    simp only [List.all_cons, Bool.and_eq_true] at hd
    have hc := hd.1
    simp only [isDig, Bool.and_eq_true, decide_eq_true_eq] at hc
    rw [val_cons] at hv
    have hg := val_ge r (acc * 10 + (c.toNat - 48))
    simp only [Lib.parseUint10]
    rw [if_pos hc, if_neg (by omega), if_neg (by omega), val_cons]
    exact parse_ok r _ hd.2 hv

theorem isDig_toNat {c : UInt8} (h : isDig c = true) : 48 ≤ c.toNat ∧ c.toNat ≤ 57 := by
  simpa [isDig] using h
theorem dig_ofNat {c : UInt8} (h : isDig c = true) : UInt8.ofNat (48 + (c.toNat - 48)) = c := by
  have := isDig_toNat h
  rw [show 48 + (c.toNat - 48) = c.toNat from by omega]
  exact UInt8.ofNat_toNat

theorem decDigits_small {u : Nat} (h : u < 10) : Lib.decDigits u = [UInt8.ofNat (48 + u)] := by
  rw [Lib.decDigits, dif_pos h]
theorem decDigits_big {u : Nat} (h : ¬ u < 10) : Lib.decDigits u = Lib.decDigits (u / 10) ++ [UInt8.ofNat (48 + u % 10)] := by
  rw [Lib.decDigits, dif_neg h]

/-- No leading zero: the numeral of what it spells is itself. -/
theorem dec_val : ∀ (n : Nat) (l : List UInt8), l.length = n + 1 → l.all isDig = true → l.head? ≠ some 48 → 1 ≤ val 0 l ∧ Lib.decDigits (val 0 l) = l
  | 0, l, hl, hd, hh => by
    match l, hl with
    | [c], _ =>
      have hc : isDig c = true := by simpa using hd
      have h1 := isDig_toNat hc
      have hne : c.toNat ≠ 48 := fun e => hh (by
        have : c = 48 := UInt8.toNat.inj e
        rw [this]
        rfl)
      have e : val 0 [c] = c.toNat - 48 := by rw [val_cons, val_nil]; omega
      rw [e]
      refine ⟨by omega, ?_⟩
      rw [decDigits_small (by omega), dig_ofNat hc]
  | n + 1, l, hl, hd, hh => by
    have hne : l ≠ [] := by intro e; subst e; simp at hl
    obtain ⟨l', c, rfl⟩ : ∃ l' c, l = l' ++ [c] := ⟨l.dropLast, l.getLast hne, (List.dropLast_concat_getLast hne).symm⟩
    rw [List.all_append, Bool.and_eq_true] at hd
    have hl' : l'.length = n + 1 := by simpa using hl
    have hne' : l' ≠ [] := by intro e; subst e; simp at hl'
    have hh' : l'.head? ≠ some 48 := by
      intro e
      apply hh
      cases l' with
      | nil => exact absurd rfl hne'
      | cons a r => simpa using e
    have ih := dec_val n l' hl' hd.1 hh'
    have hc : isDig c = true := by simpa using hd.2
    have h1 := isDig_toNat hc
    rw [val_snoc]
    refine ⟨by omega, ?_⟩
    rw [decDigits_big (by omega)]
    have e1 : (val 0 l' * 10 + (c.toNat - 48)) / 10 = val 0 l' := by omega
    have e2 : (val 0 l' * 10 + (c.toNat - 48)) % 10 = c.toNat - 48 := by omega
    rw [e1, e2, ih.2, dig_ofNat hc]

theorem isIdx_parts {l : List UInt8} (h : isIdx l = true) : l ≠ [] ∧ (l.head? = some 48 → l.length ≤ 1) ∧ l.all isDig = true := by
  simp only [isIdx, Bool.and_eq_true, Bool.not_eq_true', decide_eq_true_eq, Bool.and_eq_false_iff, decide_eq_false_iff_not] at h
  refine ⟨h.1.1, fun e => ?_, h.2⟩
  rcases h.1.2 with h2 | h2
  · exact absurd e h2
  · omega

theorem dec_isIdx {l : List UInt8} (h : isIdx l = true) : Lib.decDigits (val 0 l) = l := by
  obtain ⟨h0, h1, h2⟩ := isIdx_parts h
  by_cases hh : l.head? = some 48
  · have hl := h1 hh
    match l, h0, hl with
    | [c], _, _ =>
      have hc : c = 48 := by simpa using hh
      subst hc
      rw [show val 0 [(48 : UInt8)] = 0 from rfl, decDigits_small (by omega)]
      rfl
  · have hl : l.length = (l.length - 1) + 1 := by
      have : 0 < l.length := List.length_pos_iff.2 h0
      omega
    exact (dec_val _ l hl h2 hh).2

theorem not_sign {c : UInt8} (h : isDig c = true) : ¬ (c.toNat = 43 ∨ c.toNat = 45) := by
  have := isDig_toNat h
  omega

theorem atoi_of_parse {l : List UInt8} (h : isIdx l = true) : Lib.atoiAll l = (match Lib.parseUint10 0 l with
    | .ok u => if 9223372036854775808 ≤ u then .range else .ok (u : Int)
    | .range => .range
    | _ => Lib.atoiAll []) := by
  obtain ⟨h0, _, h2⟩ := isIdx_parts h
  cases l with
  | nil => exact absurd rfl h0
  | cons c r =>
    have hc : isDig c = true := by
      simp only [List.all_cons, Bool.and_eq_true] at h2
      exact h2.1
    have hs := not_sign hc
    have h45 : ¬ c.toNat = 45 := fun e => hs (Or.inr e)
    simp only [Lib.atoiAll, if_neg hs, Lib.parseMag, if_neg h0]
    rcases Lib.parseUint10 0 (c :: r) with u | _ | _
    · by_cases hu : 9223372036854775808 ≤ u <;> simp [h45, hu]
    · rfl
    · rfl

/-- (A) Where Atoi gives a number at an index, that number's numeral is the index. -/
theorem atoi_isIdx {l : List UInt8} {v : Int} (h : isIdx l = true) (ha : Lib.atoiAll l = .ok v) : 0 ≤ v ∧ Lib.decDigits v.toNat = l := by
  rw [atoi_of_parse h] at ha
  rcases hp : Lib.parseUint10 0 l with u | _ | _
  · rw [hp] at ha
    simp only at ha
    split at ha
    · cases ha
    · injection ha with ha
      subst ha
      refine ⟨Int.natCast_nonneg _, ?_⟩
      rw [Int.toNat_natCast, parse_val l 0 u hp]
      exact dec_isIdx h
  · rw [hp] at ha
    simp only [Lib.atoiAll] at ha
    cases ha
  · rw [hp] at ha
    cases ha

theorem decDigits_facts : ∀ (n u : Nat), u ≤ n → (Lib.decDigits u) ≠ [] ∧ (Lib.decDigits u).all isDig = true ∧ val 0 (Lib.decDigits u) = u ∧ (1 ≤ u → (Lib.decDigits u).head? ≠ some 48) := by
  intro n
  induction n with
  | zero =>
    intro u hu
    obtain rfl : u = 0 := by omega
    rw [decDigits_small (by omega)]
    exact ⟨by simp, by decide, rfl, fun h => by omega⟩
  | succ n ih =>
    intro u hu
    by_cases h : u < 10
    · rw [decDigits_small h]
      have key : ∀ k : Fin 10, [UInt8.ofNat (48 + k.val)].all isDig = true ∧ val 0 [UInt8.ofNat (48 + k.val)] = k.val ∧ (1 ≤ k.val → [UInt8.ofNat (48 + k.val)].head? ≠ some 48) := by decide
      exact ⟨by simp, key ⟨u, h⟩⟩
    · obtain ⟨a, b, c, d⟩ := ih (u / 10) (by omega)
      rw [decDigits_big h]
      have key : ∀ k : Fin 10, isDig (UInt8.ofNat (48 + k.val)) = true ∧ (UInt8.ofNat (48 + k.val)).toNat - 48 = k.val := by decide
      have hk := key ⟨u % 10, Nat.mod_lt _ (by omega)⟩
      refine ⟨by simp, ?_, ?_, fun _ => ?_⟩
      · rw [List.all_append, b]
        simpa using hk.1
      · rw [val_snoc, c, hk.2]
        show u / 10 * 10 + u % 10 = u
        omega
      · have hd := d (by omega)
        cases hq : Lib.decDigits (u / 10) with
        | nil => exact absurd hq a
        | cons x r =>
          rw [hq] at hd
          simpa using hd

theorem isIdx_dec (u : Nat) : isIdx (Lib.decDigits u) = true := by
  obtain ⟨a, b, _, d⟩ := decDigits_facts u u (Nat.le_refl _)
  simp only [isIdx, Bool.and_eq_true, Bool.not_eq_true', decide_eq_true_eq, Bool.and_eq_false_iff, decide_eq_false_iff_not]
  refine ⟨⟨a, ?_⟩, b⟩
  by_cases hu : 1 ≤ u
  · exact Or.inl (d hu)
  · right
    rw [decDigits_small (by omega)]
    simp

/-- (B) Atoi of a numeral is its number. -/
theorem atoi_dec (u : Nat) (h : u < 9223372036854775808) : Lib.atoiAll (Lib.decDigits u) = .ok (u : Int) := by
  obtain ⟨_, b, c, _⟩ := decDigits_facts u u (Nat.le_refl _)
  rw [atoi_of_parse (isIdx_dec u), parse_ok _ 0 b (by rw [c]; omega), c]
  simp only
  rw [if_neg (by omega)]

theorem dec_inj {u v : Nat} (h : Lib.decDigits u = Lib.decDigits v) : u = v := by
  have h1 := (decDigits_facts u u (Nat.le_refl _)).2.2.1
  have h2 := (decDigits_facts v v (Nat.le_refl _)).2.2.1
  rw [← h1, ← h2, h]

end Dec
end Go.Proofs.Qxb6614023aDoor
