/-
  The walk of FnResolveGridByIndexModel.
-/
import Derived.Test.Qxb6614023aDoorBytes
import Derived.Test.Qxb6614023aDoorCopy
import Derived.Deep.DeepCutAuto
import Derived.Deep.CutBlock
import Derived.Deep.RegionWith
namespace Go.Proofs.Qxb6614023aDoor
open Go.RowKit

theorem below_drew {w w' : World} (h : Below w.drew.heap.size w.drew w') : Below w.heap.size w w' := ⟨h.os, h.tape, h.output, h.size, h.block⟩

theorem Tryd.info9 : (Tryd.prog.info? 9).map (fun i => (i.zero, i.size, i.bytes)) = some (some (.string ⟨#[]⟩), 1, 16) := by kernel_rfl

set_option maxRecDepth 100000 in
set_option maxHeartbeats 1600000 in
theorem grid_law (ao tao : Option Addr) (b off N cap tb toff t tcap : Nat) (R : List RowV) (ts : List ByteArray) (w : World) (hn : R.length = N) (hm : ts.length = t) (hnm : N ≤ maxLen) (hmm : t ≤ maxLen)
    (hg : GridAt w ao b off R) (hf : Fits R) (ht : StrAt w tao tb toff ts) (htz : ∀ j, (sAt ts j).size ≤ maxLen) (hv : Vars w) :
    Calls Tryd.prog 3 #[.slice ao N cap, .slice tao t tcap] w fun e w' => e = .returned (.bool true) ∧ Below w.heap.size w w' := by
  have HB5 := hide (bytes5 ao tao b off N cap tb toff t tcap R ts w hn hm hnm hmm hg hf ht htz)
  have HN := hide hn
  have HM := hide hm
  have HG := hide hg
  have HF := hide hf
  have HT := hide ht
  have HTZ := hide htz
  have HV := hide hv
  have HNM := hide hnm
  have HMM := hide hmm
  clear hn hm hg hf ht htz hv hnm hmm
  have hq1 := fun W => run_neq_slice_nil_any (P := Tryd.prog) W 23 9 tao t tcap 0 0 Tryd.underlying23
  go_enter Tryd.func3, Tryd.ntmps3
  go_wp2_with fail
  refine HB5.out.mono ?_
  rintro e w' ⟨r, rfl, rfl, hr⟩
  cases r with
  | false =>
    go_wp2
    go_ret
    exact ⟨rfl, Below.refl _ _⟩
  | true =>
    obtain ⟨g1, g2, g3, g4⟩ := hr rfl
    have HL : Hid (∀ j, (rAt R j).ss.length ≤ 1048576) := fun j => by
      by_cases hj : j < N
      · exact g2 j hj
      · have e : rAt R j = ⟨none, 0, 0, 0, []⟩ := by
          unfold rAt
          rw [List.getD_eq_getElem?_getD, List.getElem?_eq_none (by have := HN.out; omega)]
          rfl
        rw [e]
        exact Nat.zero_le _
    have HG4 := hide g4
    clear g4 g2 hr HB5
    go_upto_if 18 with fail
    go_cut [1] (fun v wc => ∃ tao' tb' toff' tcap', v = .slice tao' t tcap' ∧ Hid (StrAt wc tao' tb' toff' ts) ∧ Hid (Below w'.heap.size w' wc))
    case first =>
      cases tao with
      | none =>
        go_wp2
        go_meet
        case rel => exact ⟨none, tb, toff, tcap, rfl, HT, Below.refl _ _⟩
      | some a =>
        have hmk := fun W => run_make_row' (P := Tryd.prog) 23 9 (.string ⟨#[]⟩) 16 Tryd.underlying23 Tryd.info9 rfl .i64 .i64 t (by omega) (by omega) W
        obtain ⟨w1, hcp, hs1, hb1⟩ := copy_run w' a tb toff t tcap ts HM.out HT.out
        have HSS := hide hs1
        have HB1 := hide hb1
        clear hs1 hb1
        go_wp2
        go_meet
        case rel => exact ⟨_, _, _, t, rfl, HSS, HB1⟩
    case rest =>
      obtain ⟨tao', tb', toff', tcap', rfl, HT2, HB2⟩ := hcut
      clear HT hq1
      have HG2 : Hid (GridAt wc ao b off R) := HG.out.below HB2.out
      have HV2 : Hid (Vars wc) := HV.out.below HB2.out
      clear HG HV
      go_wp2_with fail
      refine (addStrings 0 tao' tb' toff' t tcap' ts wc (by omega) (by omega) HM.out HMM.out HT2.out HTZ.out).mono ?_
      rintro e w1 ⟨r, rfl, rfl, hr0, hr1⟩
      go_wp2_with fail
      refine (addGrid r ao b off N cap R w1 hr0 hr1 HN.out HNM.out HG2.out HF.out).mono ?_
      rintro e w2 ⟨q, rfl, rfl, hq0, hq1⟩
      by_cases hneg : q < 0
      · go_wp2
        go_ret
        exact ⟨rfl, HB2.out⟩
      have hnd : decide (q < 0) = false := by simpa using hneg
      clear hr0 hr1
      have HRES := hide (resolveGrid_any ao tao' b off N cap tb' toff' t tcap' R ts w2 HN.out g1 HG2.out HL.out HM.out g3 HT2.out HG4.out HV2.out)
      by_cases ht0 : t = 0
      · subst ht0
        have HA := hide (gridAns_nil (B := w2.heap.size) (R := R) (ts := ts) HM.out)
        rw [HN.out] at HA
        go_wp2_with fail
        refine HRES.out.mono ?_
        rintro e w3 ⟨rfl, hb3⟩
        have HB3 : Hid (Below w'.heap.size w' w3) := HB2.out.trans (hb3.mono HB2.out.size)
        clear hb3
        rw [HA.out]
        go_wp2
        go_ret
        exact ⟨rfl, HB3.out⟩
      obtain rfl : tao' = some ⟨tb', toff', none⟩ := HT2.out.at_ (by have := HM.out; omega)
      have HC0 := hide (HT2.out.cell 0 (by have := HM.out; omega))
      rw [Nat.add_zero] at HC0
      have HLT := hide (HT2.out.lt (by have := HM.out; omega))
      cases h0 : idx (sAt ts 0).data.toList N with
      | none =>
        have HA := hide (gridAns_no0 (B := w2.heap.size) (R := R) (ts := ts) (by have := HM.out; omega) (by rw [HN.out]; exact h0))
        have HI := hide (idxI_none h0)
        clear h0
        generalize sAt ts 0 = tok0 at *
        go_wp2_with fail
        refine HRES.out.mono ?_
        rintro e w3 ⟨rfl, hb3⟩
        have HB3 : Hid (Below w'.heap.size w' w3) := HB2.out.trans (hb3.mono HB2.out.size)
        have hc3 : w3.cell? ⟨tb', toff', none⟩ = some (.string tok0) := by
          rw [hb3.cell (p := ⟨tb', toff', none⟩) HLT.out]
          exact HC0.out
        clear hb3
        rw [HA.out]
        go_wp2_with fail
        refine (indexAmong_any tok0 N w3 g1).mono ?_
        rintro e w4 ⟨rfl, hb4⟩
        have HB4 : Hid (Below w'.heap.size w' w4) := HB3.out.trans (hb4.mono HB3.out.size)
        clear hb4
        rw [HI.out]
        go_wp2
        go_ret
        exact ⟨rfl, HB4.out⟩
      | some a =>
        have ha := (idx_spec h0).1
        have HI := hide (idxI_some h0)
        obtain rfl : ao = some ⟨b, off, none⟩ := HG2.out.at_ (by have := HN.out; omega)
        have HGC := hide (HG2.out.cell a (by have := HN.out; omega))
        have HGL := hide (HG2.out.lt (by have := HN.out; omega))
        have HR := hide (HG2.out.row a (by have := HN.out; omega))
        have hrl := HL.out a
        by_cases ht1 : t = 1
        · subst ht1
          have HA := hide (gridAns_one (B := w2.heap.size) (R := R) (ts := ts) (a := a) HM.out (by rw [HN.out]; exact h0))
          clear h0
          generalize sAt ts 0 = tok0 at *
          generalize rAt R a = r0 at *
          go_wp2_with fail
          refine HRES.out.mono ?_
          rintro e w3 ⟨rfl, hb3⟩
          have HB3 : Hid (Below w'.heap.size w' w3) := HB2.out.trans (hb3.mono HB2.out.size)
          have hc3 : w3.cell? ⟨tb', toff', none⟩ = some (.string tok0) := by
            rw [hb3.cell (p := ⟨tb', toff', none⟩) HLT.out]
            exact HC0.out
          have HB3' := hide hb3
          clear hb3
          rw [HA.out]
          go_wp2_with fail
          refine (indexAmong_any tok0 N w3 g1).mono ?_
          rintro e w4 ⟨rfl, hb4⟩
          have HB4 : Hid (Below w'.heap.size w' w4) := HB3.out.trans (hb4.mono HB3.out.size)
          have hc4 : w4.cell? ⟨b, off + a, none⟩ = some (.slice r0.ao r0.ss.length r0.cap) := by
            rw [hb4.cell (p := ⟨b, off + a, none⟩) (Nat.lt_of_lt_of_le HGL.out HB3'.out.size), HB3'.out.cell (p := ⟨b, off + a, none⟩) HGL.out]
            exact HGC.out
          clear hb4 hc3
          rw [HI.out]
          have had : decide ((a : Int) < 0) = false := by simp
          go_wp2
          go_ret
          exact ⟨rfl, HB4.out⟩
        · have HC1 := hide (HT2.out.cell 1 (by have := HM.out; omega))
          have HK : Hid (∀ B, (∀ b, idx (sAt ts 1).data.toList (rAt R a).ss.length = some b → t = 2 → gridAns B R ts = .tuple #[.string (sAt (rAt R a).ss b), .int .i64 1, .int .i64 0, .bool true]) ∧
              (idx (sAt ts 1).data.toList (rAt R a).ss.length = none ∨ 2 < t → gridAns B R ts = .tuple #[.string ⟨#[]⟩, .int .i64 0, .int .i64 0, .bool false])) := fun B => by
            have hm := HM.out
            have h0' : idx (sAt ts 0).data.toList R.length = some a := by rw [HN.out]; exact h0
            refine ⟨fun b hb h2 => gridAns_two (by omega) h0' hb, fun h => ?_⟩
            cases h1 : idx (sAt ts 1).data.toList (rAt R a).ss.length with
            | none => exact gridAns_no1 (by omega) h0' h1
            | some b =>
              rcases h with h | h
              · rw [h1] at h; cases h
              · exact gridAns_far (by omega) h0' h1
          clear h0
          generalize sAt ts 0 = tok0 at *
          generalize sAt ts 1 = tok1 at *
          generalize rAt R a = r0 at *
          obtain ⟨s, kd, nn, ok, hans⟩ : ∃ s kd nn ok, gridAns w2.heap.size R ts = .tuple #[.string s, .int .i64 kd, .int .i64 nn, .bool ok] := by
            obtain ⟨s, kd, nn, h⟩ := handT_form 0 (follow (gridF w2.heap.size R) noMap (.iface 33 (.slice (some ⟨w2.heap.size, 0, none⟩) R.length R.length)) ts)
            exact ⟨s, kd, nn, _, h⟩
          have HK2 := hide (HK.out w2.heap.size)
          rw [hans] at HK2
          have HA := hide hans
          clear hans HK
          go_wp2_with fail
          refine HRES.out.mono ?_
          rintro e w3 ⟨rfl, hb3⟩
          have HB3 : Hid (Below w'.heap.size w' w3) := HB2.out.trans (hb3.mono HB2.out.size)
          have hc3 : w3.cell? ⟨tb', toff', none⟩ = some (.string tok0) := by
            rw [hb3.cell (p := ⟨tb', toff', none⟩) HLT.out]
            exact HC0.out
          have HB3' := hide hb3
          clear hb3
          rw [HA.out]
          go_wp2_with fail
          refine (indexAmong_any tok0 N w3 g1).mono ?_
          rintro e w4 ⟨rfl, hb4⟩
          have HB24 : Hid (Below w2.heap.size w2 w4) := HB3'.out.trans (hb4.mono HB3'.out.size)
          have HB4 : Hid (Below w'.heap.size w' w4) := HB3.out.trans (hb4.mono HB3.out.size)
          clear hb4 hc3 HB3 HB3' HRES
          have hc4 : w4.cell? ⟨b, off + a, none⟩ = some (.slice r0.ao r0.ss.length r0.cap) := by
            rw [HB24.out.cell (p := ⟨b, off + a, none⟩) HGL.out]
            exact HGC.out
          have hc5 : w4.cell? ⟨tb', toff' + 1, none⟩ = some (.string tok1) := by
            rw [HB24.out.cell (p := ⟨tb', toff' + 1, none⟩) HLT.out]
            exact HC1.out
          rw [HI.out]
          have had : decide ((a : Int) < 0) = false := by simp
          have ht2 : 2 ≤ t := by omega
          have htd : ((t : Int) == 1) = false := by rw [beq_eq_false_iff_ne]; omega
          have htd0 : ((t : Int) == 0) = false := by rw [beq_eq_false_iff_ne]; omega
          go_upto_region 19 with fail
          go_cut [12] (fun v wd => v = .int .i64 (idxI tok1.data.toList r0.ss.length) ∧ Hid (Below w4.heap.size w4 wd))
          case first =>
            go_region_with (go_at_call 9; refine (indexAmong_any tok1 r0.ss.length _ hrl).mono ?_; rintro e w5 ⟨rfl, hb5⟩)
            all_goals
              have HB5 : Hid (Below w4.heap.size w4 w5) := below_drew hb5
              clear hb5
              go_wp2_with fail
              go_meet
            all_goals exact ⟨rfl, HB5⟩
          case rest =>
            obtain ⟨rfl, HB5⟩ := hcut
            have HBW : Hid (Below w'.heap.size w' wc) := HB4.out.trans (HB5.out.mono HB4.out.size)
            have HB25 : Hid (Below w2.heap.size w2 wc) := HB24.out.trans (HB5.out.mono HB24.out.size)
            have hc6 : wc.cell? ⟨b, off + a, none⟩ = some (.slice r0.ao r0.ss.length r0.cap) := by
              rw [HB25.out.cell (p := ⟨b, off + a, none⟩) HGL.out]
              exact HGC.out
            clear hc4 hc5 HB4 HB5 HB24
            cases h1 : idx tok1.data.toList r0.ss.length with
            | none =>
              rw [idxI_none h1]
              have HX := HK2.out.2 (Or.inl h1)
              simp only [Value.tuple.injEq, Array.mk.injEq, List.cons.injEq, Value.string.injEq, Value.int.injEq, Value.bool.injEq, true_and, and_true] at HX
              obtain ⟨rfl, rfl, rfl, rfl⟩ := HX
              go_wp2
              go_ret
              exact ⟨rfl, HBW.out⟩
            | some c =>
              rw [idxI_some h1]
              have hcl := (idx_spec h1).1
              have hcd : decide ((c : Int) < 0) = false := by simp
              by_cases h2 : 2 < t
              · have HX := HK2.out.2 (Or.inr h2)
                simp only [Value.tuple.injEq, Array.mk.injEq, List.cons.injEq, Value.string.injEq, Value.int.injEq, Value.bool.injEq, true_and, and_true] at HX
                obtain ⟨rfl, rfl, rfl, rfl⟩ := HX
                have h2d : decide (2 < (t : Int)) = true := by simp; omega
                go_wp2
                go_ret
                exact ⟨rfl, HBW.out⟩
              · have HX := HK2.out.1 c h1 (by omega)
                simp only [Value.tuple.injEq, Array.mk.injEq, List.cons.injEq, Value.string.injEq, Value.int.injEq, Value.bool.injEq, true_and, and_true] at HX
                obtain ⟨rfl, rfl, rfl, rfl⟩ := HX
                have h2d : decide (2 < (t : Int)) = false := by simp; omega
                have HRW := hide (HR.out.below HB25.out)
                have hc7 := HRW.out.cell c hcl
                have ha7 := HRW.out.at_ (by omega)
                rw [ha7] at hc6
                generalize sAt r0.ss c = s at *
                clear HK2
                go_wp2
                go_ret
                exact ⟨rfl, HBW.out⟩

end Go.Proofs.Qxb6614023aDoor
