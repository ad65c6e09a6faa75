/-
  The walk of Resolve, over whatever document of arrays, strings and one map.
-/
import Derived.Test.Qxb6614023aDoorShelf
import Derived.Test.Qxb6614023aDoorItoa
import Derived.Lib.AtoiErrMem
namespace Go.Proofs.Qxb6614023aDoor
open Go.RowKit

/-- The two sentinels of strconv are laid. -/
structure Vars (w : World) : Prop where
  syn : ∃ tp p, w.var? Tryd.prog "strconv.ErrSyntax" = some #[.iface tp p]
  rng : ∃ tp p, w.var? Tryd.prog "strconv.ErrRange" = some #[.iface tp p]
  size : 1 < w.heap.size

theorem Tryd.gES : Tryd.prog.globalNamed "strconv.ErrSyntax" = some 0 := by kernel_rfl
theorem Tryd.gER : Tryd.prog.globalNamed "strconv.ErrRange" = some 1 := by kernel_rfl

theorem Vars.below {w w' : World} (h : Vars w) (hb : Below w.heap.size w w') : Vars w' := by
  obtain ⟨t0, p0, h0⟩ := h.syn
  obtain ⟨t1, p1, h1⟩ := h.rng
  have hs := h.size
  exact ⟨⟨t0, p0, var?_below hb Tryd.gES (by omega) h0⟩, ⟨t1, p1, var?_below hb Tryd.gER (by omega) h1⟩, Nat.lt_of_lt_of_le hs hb.size⟩

/-- How strconv.Atoi ends. -/
def AtoiPost (l : List UInt8) (w : World) (e : Ending) (w' : World) : Prop :=
  (∃ v : Int, e = .returned (.tuple #[.int .i64 v, .nilIface]) ∧ Below w.heap.size w w' ∧ Lib.atoiAll l = .ok v) ∨
  (∃ (v : Int) (N : Nat), e = .returned (.tuple #[.int .i64 v, .iface 51 (.pointer (some ⟨N, 0, none⟩))]) ∧ Below w.heap.size w w' ∧ ∀ u, Lib.atoiAll l ≠ .ok u)

theorem atoi_any (s : ByteArray) (hs : s.size ≤ 1048576) (w : World) (hv : Vars w) : Calls Tryd.prog 17 #[.string s] w fun e w' => AtoiPost s.data.toList w e w' := by
  obtain ⟨t0, p0, h0⟩ := hv.syn
  obtain ⟨t1, p1, h1⟩ := hv.rng
  rcases hq : Lib.atoiAll s.data.toList with v | _ | _
  · refine (Any.strconv_Atoi_ok Tryd.laysC172 s (by omega) v hq w).mono ?_
    rintro e w' ⟨rfl, hw⟩
    refine Or.inl ⟨v, rfl, ?_, hq⟩
    rcases hw with rfl | ⟨t, rfl⟩
    · exact Below.refl _ _
    · exact Lib.bytesWorld_below _ _ _
  · refine (Any.strconv_Atoi_syntax_var Tryd.laysC172 s (by omega) hq t0 p0 w h0).mono ?_
    rintro e w' ⟨N, rfl, _, _, hb⟩
    exact Or.inr ⟨_, N, rfl, hb, fun u hu => by rw [hq] at hu; cases hu⟩
  · refine (Any.strconv_Atoi_range_var Tryd.laysC172 s (by omega) hq t1 p1 w h1).mono ?_
    rintro e w' ⟨N, rfl, _, _, hb⟩
    exact Or.inr ⟨_, N, rfl, hb, fun u hu => by rw [hq] at hu; cases hu⟩

theorem ta33_39 (v : Value) (w : World) : (Instr.typeAssert (.iface 33 v) 20 39 true).run Tryd.prog w = .ok (.tuple #[.map none, .bool false]) w := by kernel_rfl
theorem ta33_33 (v : Value) (w : World) : (Instr.typeAssert (.iface 33 v) 20 33 true).run Tryd.prog w = .ok (.tuple #[v, .bool true]) w := by kernel_rfl
theorem ta9_39 (v : Value) (w : World) : (Instr.typeAssert (.iface 9 v) 20 39 true).run Tryd.prog w = .ok (.tuple #[.map none, .bool false]) w := by kernel_rfl
theorem ta9_33 (v : Value) (w : World) : (Instr.typeAssert (.iface 9 v) 20 33 true).run Tryd.prog w = .ok (.tuple #[.slice none 0 0, .bool false]) w := by kernel_rfl
theorem ta39_39 (v : Value) (w : World) : (Instr.typeAssert (.iface 39 v) 20 39 true).run Tryd.prog w = .ok (.tuple #[v, .bool true]) w := by kernel_rfl

/-- One step of Resolve: F: what the arrays' blocks hold; L: what the map holds. -/
def step (F : Nat → Nat → Value) (L : List UInt8 → Option Value) (v : Value) (tok : List UInt8) : Option Value :=
  match v with
  | .iface 33 (.slice (some a) n _) => (idx tok n).map (fun i => F a.block i)
  | .iface 39 (.map _) => L tok
  | _ => none

/-- Resolve: the value and whether there is one. -/
def follow (F : Nat → Nat → Value) (L : List UInt8 → Option Value) (v : Value) : List ByteArray → Value × Bool
  | [] => (v, true)
  | t :: r => match step F L v t.data.toList with
    | none => (.nilIface, false)
    | some v' => follow F L v' r

theorem follow_nil {F : Nat → Nat → Value} {L : List UInt8 → Option Value} {v : Value} : follow F L v [] = (v, true) := by simp only [follow]
theorem follow_none {F : Nat → Nat → Value} {L : List UInt8 → Option Value} {v : Value} {t : ByteArray} {r : List ByteArray} (h : step F L v t.data.toList = none) : follow F L v (t :: r) = (.nilIface, false) := by
  simp only [follow, h]
theorem follow_some {F : Nat → Nat → Value} {L : List UInt8 → Option Value} {v v' : Value} {t : ByteArray} {r : List ByteArray} (h : step F L v t.data.toList = some v') : follow F L v (t :: r) = follow F L v' r := by
  simp only [follow, h]

theorem drop_at {ts : List ByteArray} {k : Nat} (h : k < ts.length) : ts.drop k = sAt ts k :: ts.drop (k + 1) := by
  rw [List.drop_eq_getElem_cons h]
  congr 1
  simp [sAt, List.getD_eq_getElem?_getD, List.getElem?_eq_getElem h]

/-- What a value of the document may be, in world w. -/
def IsDoc (w : World) (F : Nat → Nat → Value) (L : List UInt8 → Option Value) (G : Value → Prop) (v : Value) : Prop :=
  (∃ g n, v = .iface 33 (.slice (some ⟨g, 0, none⟩) n n) ∧ n ≤ 1048576 ∧ w.rowIs g 20 n (F g) ∧ ∀ i, i < n → G (F g i)) ∨
  (∃ s, v = .iface 9 (.string s)) ∨
  (∃ r, v = .iface 39 (.map (some r)) ∧ (∀ wr, Below w.heap.size w wr → ∀ tok : ByteArray, tok.size ≤ 1048576 → (Instr.lookup 39 (.map (some r)) (.string tok) true).run Tryd.prog wr = .ok (.tuple #[(L tok.data.toList).getD .nilIface, .bool (L tok.data.toList).isSome]) wr) ∧ ∀ l u, L l = some u → G u)

theorem step_idx {F : Nat → Nat → Value} {L : List UInt8 → Option Value} {g n : Nat} {tok : List UInt8} : step F L (.iface 33 (.slice (some ⟨g, 0, none⟩) n n)) tok = (idx tok n).map (fun i => F g i) := rfl
theorem step_str {F : Nat → Nat → Value} {L : List UInt8 → Option Value} {s : ByteArray} {tok : List UInt8} : step F L (.iface 9 (.string s)) tok = none := rfl
theorem step_map {F : Nat → Nat → Value} {L : List UInt8 → Option Value} {r : Nat} {tok : List UInt8} : step F L (.iface 39 (.map (some r))) tok = L tok := rfl

theorem idx_no_idx {l : List UInt8} {n : Nat} (h : Dec.isIdx l = false) : idx l n = none := idx_none (fun k _ e => by
  have := Dec.isIdx_dec k
  rw [e, h] at this
  cases this)
theorem idx_no_atoi {l : List UInt8} {n : Nat} (hn : n ≤ 1048576) (h : ∀ u, Lib.atoiAll l ≠ .ok u) : idx l n = none := idx_none (fun k hk e => by
  have := Dec.atoi_dec k (by omega)
  rw [e] at this
  exact h _ this)
theorem idx_big {l : List UInt8} {n : Nat} {v : Int} (hi : Dec.isIdx l = true) (h : Lib.atoiAll l = .ok v) (hv : (n : Int) ≤ v) : idx l n = none := idx_none (fun k hk e => by
  have h2 := (Dec.atoi_isIdx hi h).2
  have := Dec.dec_inj (e.trans h2.symm)
  omega)
theorem idx_hit {l : List UInt8} {n : Nat} {v : Int} (hi : Dec.isIdx l = true) (h : Lib.atoiAll l = .ok v) (hv : v < (n : Int)) : idx l n = some v.toNat := by
  have h2 := Dec.atoi_isIdx hi h
  exact idx_some (by omega) h2.2

theorem ret_res {a b : Value × Bool} (h : a = b) : Ending.returned (.tuple #[a.1, .bool a.2]) = .returned (.tuple #[b.1, .bool b.2]) := by rw [h]

set_option maxRecDepth 100000 in
set_option maxHeartbeats 1600000 in
theorem resolve_any (F : Nat → Nat → Value) (L : List UInt8 → Option Value) (G : Value → Prop) (v0 : Value) (tao : Option Addr) (tb toff t tcap : Nat) (ts : List ByteArray) (w : World)
    (hG0 : G v0) (hG : ∀ v, G v → IsDoc w F L G v) (ht : ts.length = t) (htm : t ≤ 1048576) (hts : StrAt w tao tb toff ts) (hsh : Short ts) (hv : Vars w) :
    Calls Tryd.prog 15 #[v0, .slice tao t tcap] w fun e w' => e = .returned (.tuple #[(follow F L v0 ts).1, .bool (follow F L v0 ts).2]) ∧ Below w.heap.size w w' := by
  have HG0 := hide hG0
  have HG := hide hG
  have HT := hide ht
  have HS := hide hts
  have HSH := hide hsh
  have HV := hide hv
  clear hG0 hG ht hts hsh hv
  obtain ⟨A, hA⟩ : ∃ A, follow F L v0 ts = A := ⟨_, rfl⟩
  rw [hA]
  have HA : Hid (follow F L v0 (ts.drop 0) = A) := hA
  clear hA
  go_enter Tryd.func15, Tryd.ntmps15
  go_wp2
  go_loopw [0, 17] (fun v j wr => ∃ k : Nat, k ≤ t ∧ j = .int .i64 k ∧ Hid (G v) ∧ Hid (follow F L v (ts.drop k) = A) ∧ Hid (Below w.heap.size w wr)) (fun _ j _ => t - (intOf j).toNat)
  case atStart => exact ⟨0, Nat.zero_le _, rfl, HG0, HA, Below.refl _ _⟩
  case round =>
    clear HG0 HA
    obtain ⟨k, hk, rfl, HGv, HFv, HB⟩ := hrel
    by_cases hlt : k < t
    · obtain rfl : tao = some ⟨tb, toff, none⟩ := HS.out.at_ (by have := HT.out; omega)
      have hc0 : wr.cell? ⟨tb, toff + k, none⟩ = some (.string (sAt ts k)) := by
        rw [HB.out.cell (p := ⟨tb, toff + k, none⟩) (HS.out.lt (by have := HT.out; omega))]
        exact HS.out.cell k (by have := HT.out; omega)
      have HD := hide (drop_at (ts := ts) (k := k) (by have := HT.out; omega))
      have hz0 := HSH.out k (by have := HT.out; omega)
      rw [HD.out] at HFv
      generalize sAt ts k = tok at *
      have HVr : Hid (Vars wr) := HV.out.below HB.out
      rcases HG.out _ HGv.out with ⟨g, n, rfl, hn, hrow, hcl⟩ | ⟨s, rfl⟩ | ⟨r, rfl, hlk, hcl⟩
      · -- an array
        have hta1 := ta33_39 (.slice (some ⟨g, 0, none⟩) n n)
        have hta2 := ta33_33 (.slice (some ⟨g, 0, none⟩) n n)
        have HROW := hide hrow
        have HCL := hide hcl
        have HGL := hide hrow.lt
        clear hrow hcl
        cases hI : Dec.isIdx tok.data.toList with
        | false =>
          have HII : Hid (∀ W, Calls Tryd.prog 18 #[.string tok] W fun e w' => e = .returned (.bool false) ∧ w' = W) := fun W => by
            have := isIndex_any tok hz0 W
            rw [hI] at this
            exact this
          have HN : Hid (A = (.nilIface, false)) := by
            rw [← HFv.out]
            exact follow_none (by rw [step_idx, idx_no_idx hI]; rfl)
          clear hI
          go_wp2_with fail
          refine (atoi_any tok hz0 wr HVr.out).mono ?_
          intro e w1 hp
          rcases hp with ⟨v, rfl, hb1, _⟩ | ⟨v, N, rfl, hb1, _⟩
          all_goals
            have HB1 : Hid (Below w.heap.size w w1) := HB.out.trans (hb1.mono HB.out.size)
            clear hb1
            go_wp2_with fail
            refine (HII.out _).mono ?_
            rintro e w2 ⟨rfl, rfl⟩
            go_wp2
            go_ret2
            rw [HN.out]
            exact ⟨rfl, HB1.out⟩
        | true =>
          have HII : Hid (∀ W, Calls Tryd.prog 18 #[.string tok] W fun e w' => e = .returned (.bool true) ∧ w' = W) := fun W => by
            have := isIndex_any tok hz0 W
            rw [hI] at this
            exact this
          have HI := hide hI
          clear hI
          go_wp2_with fail
          refine (atoi_any tok hz0 wr HVr.out).mono ?_
          intro e w1 hp
          rcases hp with ⟨v, rfl, hb1, ha⟩ | ⟨v, N, rfl, hb1, ha⟩
          · have HB1 : Hid (Below w.heap.size w w1) := HB.out.trans (hb1.mono HB.out.size)
            have HA := hide ha
            have hv0 := (Dec.atoi_isIdx HI.out ha).1
            clear hb1 ha
            by_cases hvn : (n : Int) ≤ v
            · have HN : Hid (A = (.nilIface, false)) := by
                rw [← HFv.out]
                exact follow_none (by rw [step_idx, idx_big HI.out HA.out hvn]; rfl)
              go_wp2_with fail
              refine (HII.out _).mono ?_
              rintro e w2 ⟨rfl, rfl⟩
              go_wp2
              go_ret2
              rw [HN.out]
              exact ⟨rfl, HB1.out⟩
            · have hvn2 : v < (n : Int) := by omega
              have HIX := hide (idx_hit HI.out HA.out hvn2)
              obtain ⟨i, rfl⟩ := Int.eq_ofNat_of_zero_le hv0
              have hin : i < n := by omega
              have HIX2 : Hid (idx tok.data.toList n = some i) := HIX.out
              have hc2 : w1.cell? ⟨g, i, none⟩ = some (F g i) := by
                rw [HB1.out.cell (p := ⟨g, i, none⟩) HGL.out]
                exact HROW.out.cell hin
              have HGu : Hid (G (F g i)) := HCL.out i hin
              have HFu : Hid (follow F L (F g i) (ts.drop (k + 1)) = A) := by
                rw [← HFv.out]
                exact (follow_some (by rw [step_idx, HIX2.out]; rfl)).symm
              clear HIX HIX2 HCL HROW
              generalize F g i = u at *
              go_wp2_with fail
              refine (HII.out _).mono ?_
              rintro e w2 ⟨rfl, rfl⟩
              go_wp2
              go_roundw
              case rel => exact ⟨k + 1, by omega, by go_num, HGu, HFu, HB1⟩
              case measure => simp [intOf]; omega
          · have HB1 : Hid (Below w.heap.size w w1) := HB.out.trans (hb1.mono HB.out.size)
            have HN : Hid (A = (.nilIface, false)) := by
              rw [← HFv.out]
              exact follow_none (by rw [step_idx, idx_no_atoi hn ha]; rfl)
            clear hb1 ha
            go_wp2_with fail
            refine (HII.out _).mono ?_
            rintro e w2 ⟨rfl, rfl⟩
            go_wp2
            go_ret2
            rw [HN.out]
            exact ⟨rfl, HB1.out⟩
      · -- a string: nothing can be followed into it
        have hta1 := ta9_39 (.string s)
        have hta2 := ta9_33 (.string s)
        have HN : Hid (A = (.nilIface, false)) := by
          rw [← HFv.out]
          exact follow_none step_str
        go_wp2
        go_ret2
        rw [HN.out]
        exact ⟨rfl, HB.out⟩
      · -- the map
        have hta1 := ta39_39 (.map (some r))
        have hlk1 := hlk wr HB.out tok hz0
        have HCL := hide hcl
        clear hlk hcl
        cases hL : L tok.data.toList with
        | none =>
          rw [hL] at hlk1
          have HN : Hid (A = (.nilIface, false)) := by
            rw [← HFv.out]
            exact follow_none (step_map.trans hL)
          clear hL
          go_wp2
          go_ret2
          rw [HN.out]
          exact ⟨rfl, HB.out⟩
        | some u =>
          rw [hL] at hlk1
          have HGu : Hid (G u) := HCL.out _ u hL
          have HFu : Hid (follow F L u (ts.drop (k + 1)) = A) := by
            rw [← HFv.out]
            exact (follow_some (step_map.trans hL)).symm
          clear hL
          go_wp2
          go_roundw
          case rel => exact ⟨k + 1, by omega, by go_num, HGu, HFu, HB⟩
          case measure => simp [intOf]; omega
    · have HE := HFv.out
      rw [List.drop_of_length_le (by have := HT.out; omega), follow_nil] at HE
      have HEE := hide HE
      clear HE
      go_wp2
      go_ret2
      rw [← HEE.out]
      exact ⟨rfl, HB.out⟩

end Go.Proofs.Qxb6614023aDoor
