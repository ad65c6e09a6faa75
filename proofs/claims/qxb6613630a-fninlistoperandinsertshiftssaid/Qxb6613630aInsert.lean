/-
  The walk of FnInListOperandInsertShifts.
-/
import Derived.Test.Qxb6613630aBytes7
import Derived.Test.Qxb6613630aSplits
namespace Go.Proofs.Qxb6613630a
open Go.RowKit

/-- Element j of the list with v put in at place P. -/
def insF (ss : List ByteArray) (v : ByteArray) (P : Nat) (j : Nat) : ByteArray := if j < P then sAt ss j else if j = P then v else sAt ss (j - 1)
/-- The list with v put in at place P. -/
def insL (ss : List ByteArray) (v : ByteArray) (P : Nat) : List ByteArray := (List.range (ss.length + 1)).map (insF ss v P)
theorem insL_length (ss : List ByteArray) (v : ByteArray) (P : Nat) : (insL ss v P).length = ss.length + 1 := by simp [insL]
theorem insL_at (ss : List ByteArray) (v : ByteArray) (P j : Nat) (h : j < ss.length + 1) : sAt (insL ss v P) j = insF ss v P j := by
  unfold sAt insL
  rw [List.getD_eq_getElem?_getD, List.getElem?_map, List.getElem?_range h]
  rfl

theorem insF_lt {ss : List ByteArray} {v : ByteArray} {P j : Nat} (h : j < P) : insF ss v P j = sAt ss j := by unfold insF; rw [if_pos h]
theorem insF_eq {ss : List ByteArray} {v : ByteArray} {P : Nat} : insF ss v P P = v := by unfold insF; rw [if_neg (by omega), if_pos rfl]
theorem insF_gt {ss : List ByteArray} {v : ByteArray} {P j : Nat} (h : P < j) : insF ss v P j = sAt ss (j - 1) := by unfold insF; rw [if_neg (by omega), if_neg (by omega)]

theorem op_before {x v : ByteArray} {ss : List ByteArray} {P : Nat} {i : Int} (hP : P ≤ ss.length) (h0 : 0 ≤ i) (h1 : i ≤ P) : opS x (insL ss v P) i = opS x ss i := by
  by_cases hz : i = 0
  · subst hz; rfl
  · rw [opS_at (by omega), opS_at (by omega), insL_at _ _ _ _ (by omega), insF_lt (by omega)]
theorem op_here {x v : ByteArray} {ss : List ByteArray} {P : Nat} {i : Int} (hP : P ≤ ss.length) (h : i = (P : Int) + 1) : opS x (insL ss v P) i = v := by
  rw [opS_of h, insL_at _ _ _ _ (by omega), insF_eq]
theorem op_after {x v : ByteArray} {ss : List ByteArray} {P : Nat} {i : Int} (h0 : (P : Int) + 1 < i) (h1 : i ≤ (ss.length : Int) + 1) : opS x (insL ss v P) i = opS x ss (i - 1) := by
  rw [opS_at (by omega), opS_at (by omega), insL_at _ _ _ _ (by omega), insF_gt (by omega)]
  congr 1
  omega

theorem ins_mid {w wr : World} {N P : Nat} {ss : List ByteArray} {v : ByteArray} (h : Joined w wr N (fun j => if j < P then sAt ss j else ⟨#[]⟩)) :
    Joined w wr N (fun j => if j < P then insF ss v P j else ⟨#[]⟩) := by
  refine ⟨h.row.congr ?_, h.below⟩
  intro j _
  show Value.string (if j < P then _ else _) = Value.string (if j < P then _ else _)
  by_cases e : j < P
  · rw [if_pos e, if_pos e, insF_lt e]
  · rw [if_neg e, if_neg e]

theorem ins_end {w wr : World} {N P : Nat} {ss : List ByteArray} {v : ByteArray} (h : Joined w wr N (fun j => if j < N then insF ss v P j else ⟨#[]⟩)) (hn : ss.length + 1 = N) : StrAt wr (some ⟨w.heap.size, 0, none⟩) w.heap.size 0 (insL ss v P) := by
  refine joined_end (N := N) ⟨h.row.congr ?_, h.below⟩ (by rw [insL_length]; exact hn)
  intro j hj
  show Value.string (if j < N then _ else _) = Value.string (if j < N then _ else _)
  rw [if_pos hj, if_pos hj, insL_at _ _ _ _ (by omega)]

set_option maxRecDepth 100000 in
set_option maxHeartbeats 1600000 in
theorem insert_any (x v : ByteArray) (ao : Option Addr) (b off n cap : Nat) (ss : List ByteArray) (p i : Int) (w : World) (hx : x.size ≤ maxLen) (hv : v.size ≤ maxLen) (hn : ss.length = n) (hnm : n ≤ maxLen)
    (hs : StrAt w ao b off ss) (hsz : ∀ j, (sAt ss j).size ≤ maxLen) (hi1 : i ≤ 9223372036854775807) :
    Calls Try.prog 4 #[.string x, .slice ao n cap, .string v, .int .i64 p, .int .i64 i] w fun e w' => e = .returned (.bool true) ∧ Below w.heap.size w w' := by
  have HB7 := hide (bytes7 x v ao b off n cap ss p i w hx hv hn hnm hs hsz)
  have HN := hide hn
  have HS := hide hs
  clear hn hs hsz hx hnm hv
  have hq1 := fun W => run_neq_slice_nil_any (P := Try.prog) W 22 9 ao n cap 0 0 Try.underlying22
  go_enter Try.func4, Try.ntmps4
  go_wp2_with fail
  refine HB7.out.mono ?_
  rintro e w' ⟨r, rfl, rfl, hr⟩
  cases r with
  | false =>
    go_wp2
    go_ret
    exact ⟨rfl, Below.refl _ _⟩
  | true =>
    obtain ⟨g1, g2, g3, g4⟩ := hr rfl
    have HG4 := hide g4
    clear g4 hr HB7
    go_upto_if 39 with fail
    go_cut [1] (fun v wc => ∃ ao' b' off' cap', v = .slice ao' n cap' ∧ Hid (StrAt wc ao' b' off' ss) ∧ Hid (Below w'.heap.size w' wc))
    case first =>
      cases ao with
      | none =>
        go_wp2
        go_meet
        case rel => exact ⟨none, b, off, cap, rfl, HS, Below.refl _ _⟩
      | some a =>
        have hmk := fun W => run_make_row' (P := Try.prog) 22 9 (.string ⟨#[]⟩) 16 Try.underlying22 Try.info9 rfl .i64 .i64 n (by omega) (by omega) W
        obtain ⟨w1, hcp, hs1, hb1⟩ := copy_run w' a b off n cap ss HN.out HS.out
        have HSS := hide hs1
        have HB1 := hide hb1
        clear hs1 hb1
        go_wp2
        go_meet
        case rel => exact ⟨_, _, _, n, rfl, HSS, HB1⟩
    case rest =>
      obtain ⟨ao', b', off', cap', rfl, HS3, HB3⟩ := hcut
      clear HS hq1
      have hmk := fun W => run_make_row' (P := Try.prog) 22 9 (.string ⟨#[]⟩) 16 Try.underlying22 Try.info9 rfl .i64 .i64 (n + 1) (by omega) (by omega) W
      have ec : ((n + 1 : Nat) : Int) = (n : Int) + 1 := by omega
      rw [ec] at hmk
      clear ec
      by_cases hxv : 1048576 < x.size + v.size
      · go_wp2
        go_ret
        exact ⟨rfl, HB3.out⟩
      · go_wp2_with fail
        go_loop [12, 13] (fun t j => ∃ (k q : Nat), k ≤ n ∧ j = .int .i64 k ∧ t = .int .i64 q ∧ q ≤ 1048576) (fun _ j => n - (intOf j).toNat)
        case atStart => exact ⟨0, x.size + v.size, Nat.zero_le _, rfl, by go_num, by omega⟩
        case round =>
          obtain ⟨k, q, hk, rfl, rfl, hq⟩ := hrel
          by_cases hlt : k < n
          · obtain rfl : ao' = some ⟨b', off', none⟩ := HS3.out.at_ (by have := HN.out; omega)
            have hc0 := HS3.out.cell k (by have := HN.out; omega)
            have hz0 := HG4.out k (by have := HN.out; omega)
            generalize sAt ss k = s at *
            by_cases g5 : 1048576 < q + (16 + s.size)
            · go_wp2
              go_ret
              exact ⟨rfl, HB3.out⟩
            · go_wp2
              go_round
              case rel => exact ⟨k + 1, q + (16 + s.size), by omega, by go_num, by go_num, by omega⟩
              case measure => simp [intOf]; omega
          · obtain rfl : k = n := by omega
            by_cases hpn : p < 0
            · go_wp2
              go_ret
              exact ⟨rfl, HB3.out⟩
            by_cases hpg : (k : Int) < p
            · have hpd : decide (p < 0) = false := by simpa using hpn
              go_wp2
              go_ret
              exact ⟨rfl, HB3.out⟩
            by_cases hneg : i < 0
            · have hpd : decide (p < 0) = false := by simpa using hpn
              have hpd2 : decide ((k : Int) < p) = false := by simpa using hpg
              go_wp2
              go_ret
              exact ⟨rfl, HB3.out⟩
            obtain ⟨P, rfl⟩ : ∃ P : Nat, p = (P : Int) := ⟨p.toNat, by omega⟩
            have hPk : P ≤ k := by omega
            have hpd : decide ((P : Int) < 0) = false := by simp
            have hpd2 : decide ((k : Int) < (P : Int)) = false := by simp; omega
            have hpd3 : decide (i < 0) = false := by simpa using hneg
            clear hpn hpg
            go_wp2_with fail
            go_loopw [15] (fun j wr => ∃ r : Nat, r ≤ P ∧ j = .int .i64 r ∧ Hid (Joined wc wr (k + 1) (fun j => if j < r then sAt ss j else ⟨#[]⟩))) (fun j _ => P - (intOf j).toNat)
            case atStart => exact ⟨0, Nat.zero_le _, rfl, joined_start wc (k + 1)⟩
            case round =>
              obtain ⟨r, hr, rfl, HJ⟩ := hrel
              by_cases hlt3 : r < P
              · obtain rfl : ao' = some ⟨b', off', none⟩ := HS3.out.at_ (by have := HN.out; omega)
                have hc0 : wr.cell? ⟨b', off' + r, none⟩ = some (.string (sAt ss r)) := by
                  rw [HJ.out.below.cell (p := ⟨b', off' + r, none⟩) (HS3.out.lt (by have := HN.out; omega))]
                  exact HS3.out.cell r (by have := HN.out; omega)
                have hc1 := HJ.out.row.cell (i := r) (by omega)
                have hf1 := HJ.out.row.frozen r
                have hne1 : ¬ b' = wc.heap.size := by have := HS3.out.lt (by have := HN.out; omega); omega
                have HJ2 : Hid (Joined wc (wr.setCell ⟨wc.heap.size, r, none⟩ (.string (sAt ss r))) (k + 1) (fun j => if j < r + 1 then sAt ss j else ⟨#[]⟩)) := joined_step HJ.out rfl
                generalize sAt ss r = s at *
                go_wp2
                go_roundw
                case rel => exact ⟨r + 1, by omega, by go_num, HJ2⟩
                case measure => simp [intOf]; omega
              · obtain rfl : r = P := by omega
                have hc1 := HJ.out.row.cell (i := r) (by omega)
                have hf1 := HJ.out.row.frozen r
                have HJ2 : Hid (Joined wc (wr.setCell ⟨wc.heap.size, r, none⟩ (.string v)) (k + 1) (fun j => if j < r + 1 then insF ss v r j else ⟨#[]⟩)) := joined_step (ins_mid HJ.out) insF_eq
                clear HJ
                go_wp2_with fail
                go_loopw [16] (fun j wr => ∃ t : Nat, r ≤ t ∧ t ≤ k ∧ j = .int .i64 t ∧ Hid (Joined wc wr (k + 1) (fun j => if j < t + 1 then insF ss v r j else ⟨#[]⟩))) (fun j _ => k - (intOf j).toNat)
                case atStart => exact ⟨r, Nat.le_refl _, hPk, rfl, HJ2⟩
                case round =>
                  clear HJ2 hc1 hf1
                  obtain ⟨t, hrt, ht, rfl, HJ⟩ := hrel
                  by_cases hlt4 : t < k
                  · obtain rfl : ao' = some ⟨b', off', none⟩ := HS3.out.at_ (by have := HN.out; omega)
                    have hc0 : wr.cell? ⟨b', off' + t, none⟩ = some (.string (sAt ss t)) := by
                      rw [HJ.out.below.cell (p := ⟨b', off' + t, none⟩) (HS3.out.lt (by have := HN.out; omega))]
                      exact HS3.out.cell t (by have := HN.out; omega)
                    have hc1 := HJ.out.row.cell (i := t + 1) (by omega)
                    have hf1 := HJ.out.row.frozen (t + 1)
                    have hne1 : ¬ b' = wc.heap.size := by have := HS3.out.lt (by have := HN.out; omega); omega
                    have HJ2 : Hid (Joined wc (wr.setCell ⟨wc.heap.size, t + 1, none⟩ (.string (sAt ss t))) (k + 1) (fun j => if j < t + 1 + 1 then insF ss v r j else ⟨#[]⟩)) := joined_step HJ.out (insF_gt (by omega))
                    generalize sAt ss t = s at *
                    go_wp2
                    go_roundw
                    case rel => exact ⟨t + 1, by omega, by omega, by go_num, HJ2⟩
                    case measure => simp [intOf]; omega
                  · obtain rfl : t = k := by omega
                    have HL : Hid ((insL ss v r).length = t + 1) := by
                      have h1 := HN.out
                      show (insL ss v r).length = t + 1
                      rw [insL_length, h1]
                    have HJS : Hid (StrAt wr (some ⟨wc.heap.size, 0, none⟩) wc.heap.size 0 (insL ss v r)) := ins_end HJ.out (by rw [HN.out])
                    have HSR : Hid (StrAt wr ao' b' off' ss) := HS3.out.below HJ.out.below
                    have HBR : Hid (Below w'.heap.size w' wr) := HB3.out.trans (HJ.out.below.mono HB3.out.size)
                    have HP : Hid (r ≤ ss.length) := by have h1 := HN.out; show r ≤ ss.length; omega
                    clear HJ HS3 HB3
                    go_wp2_with fail
                    refine (operand_yes x _ wc.heap.size 0 (t + 1) _ (insL ss v r) ((r : Int) + 1) v wr HL.out (by omega) HJS.out (by omega) (by omega) (op_here HP.out rfl)).mono ?_
                    rintro e w1 ⟨rfl, hb1⟩
                    have HB1 := hide hb1
                    have HJ1 := hide (HJS.out.below hb1)
                    have HS1 := hide (HSR.out.below hb1)
                    have HBW1 : Hid (Below w'.heap.size w' w1) := HBR.out.trans (hb1.mono HBR.out.size)
                    clear hb1 HB1 HJS HSR HBR
                    by_cases hir : i ≤ (r : Int)
                    · have HY := hide (op_before (x := x) (v := v) HP.out (by omega) hir)
                      obtain ⟨s, hs⟩ : ∃ s, opS x ss i = s := ⟨_, rfl⟩
                      rw [hs] at HY
                      have HS := hide hs
                      clear hs
                      go_wp2_with fail
                      refine (operand_yes x _ wc.heap.size 0 (t + 1) _ (insL ss v r) i s w1 HL.out (by omega) HJ1.out (by omega) (by omega) HY.out).mono ?_
                      rintro e w2 ⟨rfl, hb2⟩
                      have HS2 := hide (HS1.out.below hb2)
                      have HBW2 : Hid (Below w'.heap.size w' w2) := HBW1.out.trans (hb2.mono HBW1.out.size)
                      clear hb2
                      go_wp2_with fail
                      refine (operand_yes x ao' b' off' t cap' ss i s w2 HN.out (by omega) HS2.out (by omega) (by omega) HS.out).mono ?_
                      rintro e w3 ⟨rfl, hb3⟩
                      have HBW3 : Hid (Below w'.heap.size w' w3) := HBW2.out.trans (hb3.mono HBW2.out.size)
                      clear hb3
                      go_wp2
                      go_ret
                      exact ⟨rfl, HBW3.out⟩
                    by_cases hie : i = (r : Int) + 1
                    · clear hi1 hneg hir hpd3
                      subst hie
                      go_wp2_with fail
                      refine (operand_yes x _ wc.heap.size 0 (t + 1) _ (insL ss v r) ((r : Int) + 1) v w1 HL.out (by omega) HJ1.out (by omega) (by omega) (op_here HP.out rfl)).mono ?_
                      rintro e w2 ⟨rfl, hb2⟩
                      have HBW2 : Hid (Below w'.heap.size w' w2) := HBW1.out.trans (hb2.mono HBW1.out.size)
                      clear hb2
                      go_wp2
                      go_ret
                      exact ⟨rfl, HBW2.out⟩
                    have hieb : (i == (r : Int) + 1) = false := beq_eq_false_iff_ne.2 hie
                    have hgi : (r : Int) + 1 < i := by omega
                    clear hir hie
                    by_cases hin : i ≤ (t : Int) + 1
                    · have HY := hide (op_after (x := x) (v := v) (ss := ss) (P := r) hgi (by rw [HN.out]; exact hin))
                      obtain ⟨s, hs⟩ : ∃ s, opS x ss (i - 1) = s := ⟨_, rfl⟩
                      rw [hs] at HY
                      have HS := hide hs
                      clear hs
                      go_wp2_with fail
                      refine (operand_yes x _ wc.heap.size 0 (t + 1) _ (insL ss v r) i s w1 HL.out (by omega) HJ1.out (by omega) (by omega) HY.out).mono ?_
                      rintro e w2 ⟨rfl, hb2⟩
                      have HS2 := hide (HS1.out.below hb2)
                      have HBW2 : Hid (Below w'.heap.size w' w2) := HBW1.out.trans (hb2.mono HBW1.out.size)
                      clear hb2
                      go_wp2_with fail
                      refine (operand_yes x ao' b' off' t cap' ss (i - 1) s w2 HN.out (by omega) HS2.out (by omega) (by omega) HS.out).mono ?_
                      rintro e w3 ⟨rfl, hb3⟩
                      have HBW3 : Hid (Below w'.heap.size w' w3) := HBW2.out.trans (hb3.mono HBW2.out.size)
                      clear hb3
                      go_wp2
                      go_ret
                      exact ⟨rfl, HBW3.out⟩
                    · go_wp2_with fail
                      refine (operand_no x _ wc.heap.size 0 (t + 1) _ (insL ss v r) i w1 HL.out (by omega) HJ1.out (by omega) (by omega)).mono ?_
                      rintro e w2 ⟨rfl, hb2⟩
                      have HS2 := hide (HS1.out.below hb2)
                      have HBW2 : Hid (Below w'.heap.size w' w2) := HBW1.out.trans (hb2.mono HBW1.out.size)
                      clear hb2
                      go_wp2_with fail
                      refine (operand_no x ao' b' off' t cap' ss (i - 1) w2 HN.out (by omega) HS2.out (by omega) (by omega)).mono ?_
                      rintro e w3 ⟨rfl, hb3⟩
                      have HBW3 : Hid (Below w'.heap.size w' w3) := HBW2.out.trans (hb3.mono HBW2.out.size)
                      clear hb3
                      go_wp2
                      go_ret
                      exact ⟨rfl, HBW3.out⟩

end Go.Proofs.Qxb6613630a
