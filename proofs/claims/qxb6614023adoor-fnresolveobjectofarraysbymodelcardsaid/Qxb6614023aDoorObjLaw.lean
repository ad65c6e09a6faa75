/-
  The walk of FnResolveObjectOfArraysByModel.
-/
import Derived.Test.Qxb6614023aDoorBytes2
import Derived.Test.Qxb6614023aDoorObj
import Derived.Test.Qxb6614023aDoorGridLaw
namespace Go.Proofs.Qxb6614023aDoor
open Go.RowKit

/-! ### What ZZresolveObject answers, token by token -/
theorem objAns_nil {B : Nat} {ks : List ByteArray} {R : List RowV} {ts : List ByteArray} (h : ts.length = 0) : objAns B ks R ts = .tuple #[.string ⟨#[]⟩, .int .i64 3, .int .i64 (dist ks ks.length), .bool true] := by
  obtain rfl : ts = [] := List.eq_nil_of_length_eq_zero h
  unfold objAns
  rw [follow_nil]
  rfl
theorem objAns_no0 {B : Nat} {ks : List ByteArray} {R : List RowV} {ts : List ByteArray} (h : 0 < ts.length) (h0 : lastK ks (sAt ts 0).data.toList ks.length = none) : objAns B ks R ts = .tuple #[.string ⟨#[]⟩, .int .i64 0, .int .i64 0, .bool false] := by
  unfold objAns
  rw [congrArg (follow (objF B R) (objL B ks R) (.iface 39 (.map (some B)))) (ts_one h), follow_none (by rw [step_map, objL, h0]; rfl)]
  rfl
theorem ofollow_a {B a : Nat} {ks : List ByteArray} {R : List RowV} {ts : List ByteArray} (h : 0 < ts.length) (h0 : lastK ks (sAt ts 0).data.toList ks.length = some a) :
    follow (objF B R) (objL B ks R) (.iface 39 (.map (some B))) ts = follow (objF B R) (objL B ks R) (rowV B R a) (ts.drop 1) := by
  rw [congrArg (follow (objF B R) (objL B ks R) (.iface 39 (.map (some B)))) (ts_one h), follow_some (v' := rowV B R a) (by rw [step_map, objL, h0]; rfl)]
theorem objAns_one {B a : Nat} {ks : List ByteArray} {R : List RowV} {ts : List ByteArray} (h : ts.length = 1) (h0 : lastK ks (sAt ts 0).data.toList ks.length = some a) : objAns B ks R ts = .tuple #[.string ⟨#[]⟩, .int .i64 2, .int .i64 (rAt R a).ss.length, .bool true] := by
  unfold objAns
  rw [ofollow_a (by omega) h0, List.drop_of_length_le (by omega), follow_nil]
  rfl
theorem objAns_no1 {B a : Nat} {ks : List ByteArray} {R : List RowV} {ts : List ByteArray} (h : 1 < ts.length) (h0 : lastK ks (sAt ts 0).data.toList ks.length = some a) (h1 : idx (sAt ts 1).data.toList (rAt R a).ss.length = none) : objAns B ks R ts = .tuple #[.string ⟨#[]⟩, .int .i64 0, .int .i64 0, .bool false] := by
  unfold objAns
  rw [ofollow_a (by omega) h0, drop_at h, follow_none (by rw [rowV, step_idx, h1]; rfl)]
  rfl
theorem ofollow_b {B a b : Nat} {ks : List ByteArray} {R : List RowV} {ts : List ByteArray} (h : 1 < ts.length) (h0 : lastK ks (sAt ts 0).data.toList ks.length = some a) (h1 : idx (sAt ts 1).data.toList (rAt R a).ss.length = some b) :
    follow (objF B R) (objL B ks R) (.iface 39 (.map (some B))) ts = follow (objF B R) (objL B ks R) (itemV (rAt R a).ss b) (ts.drop 2) := by
  rw [ofollow_a (by omega) h0, drop_at h, follow_some (v' := itemV (rAt R a).ss b) (by rw [rowV, step_idx, h1, ← objF_row]; rfl)]
theorem objAns_two {B a b : Nat} {ks : List ByteArray} {R : List RowV} {ts : List ByteArray} (h : ts.length = 2) (h0 : lastK ks (sAt ts 0).data.toList ks.length = some a) (h1 : idx (sAt ts 1).data.toList (rAt R a).ss.length = some b) :
    objAns B ks R ts = .tuple #[.string (sAt (rAt R a).ss b), .int .i64 1, .int .i64 0, .bool true] := by
  unfold objAns
  rw [ofollow_b (by omega) h0 h1, List.drop_of_length_le (by omega), follow_nil]
  rfl
theorem objAns_far {B a b : Nat} {ks : List ByteArray} {R : List RowV} {ts : List ByteArray} (h : 2 < ts.length) (h0 : lastK ks (sAt ts 0).data.toList ks.length = some a) (h1 : idx (sAt ts 1).data.toList (rAt R a).ss.length = some b) :
    objAns B ks R ts = .tuple #[.string ⟨#[]⟩, .int .i64 0, .int .i64 0, .bool false] := by
  unfold objAns
  rw [ofollow_b (by omega) h0 h1, drop_at h, follow_none (by rw [itemV, step_str])]
  rfl

/-- The last key that is l, as an int: -1 where there is none. -/
def lastI (ks : List ByteArray) (l : List UInt8) (k : Nat) : Int := match lastK ks l k with
  | some j => (j : Int)
  | none => -1
theorem lastI_some {ks : List ByteArray} {l : List UInt8} {k j : Nat} (h : lastK ks l k = some j) : lastI ks l k = j := by unfold lastI; rw [h]
theorem lastI_none {ks : List ByteArray} {l : List UInt8} {k : Nat} (h : lastK ks l k = none) : lastI ks l k = -1 := by unfold lastI; rw [h]
theorem lastI_hit {ks : List ByteArray} {l : List UInt8} {k : Nat} (h : (sAt ks k).data.toList = l) : (k : Int) = lastI ks l (k + 1) := (lastI_some (lastK_hit h)).symm
theorem lastI_miss {ks : List ByteArray} {l : List UInt8} {k : Nat} (h : (sAt ks k).data.toList ≠ l) : lastI ks l k = lastI ks l (k + 1) := by
  unfold lastI
  rw [lastK_miss h]

set_option maxRecDepth 100000 in
set_option maxHeartbeats 3200000 in
theorem object_law (kao ao tao : Option Addr) (kb koff n kcap b off N cap tb toff t tcap : Nat) (ks : List ByteArray) (R : List RowV) (ts : List ByteArray) (w : World) (hkn : ks.length = n) (hn : R.length = N) (hm : ts.length = t)
    (hkm : n ≤ maxLen) (hnm : N ≤ maxLen) (hmm : t ≤ maxLen) (hk : StrAt w kao kb koff ks) (hkz : ∀ j, (sAt ks j).size ≤ maxLen) (hg : GridAt w ao b off R) (hf : Fits R) (ht : StrAt w tao tb toff ts) (htz : ∀ j, (sAt ts j).size ≤ maxLen) (hv : Vars w) :
    Calls Tryd.prog 4 #[.slice kao n kcap, .slice ao N cap, .slice tao t tcap] w fun e w' => e = .returned (.bool true) ∧ Below w.heap.size w w' := by
  have HB5 := hide (bytes10 kao ao tao kb koff n kcap b off N cap tb toff t tcap ks R ts w hkn hn hm hkm hnm hmm hk hkz hg hf ht htz)
  have HKN := hide hkn
  have HN := hide hn
  have HM := hide hm
  have HK := hide hk
  have HKZ := hide hkz
  have HG := hide hg
  have HF := hide hf
  have HT := hide ht
  have HTZ := hide htz
  have HV := hide hv
  have HKM := hide hkm
  have HNM := hide hnm
  have HMM := hide hmm
  clear hkn hn hm hk hkz hg hf ht htz hv hkm hnm hmm
  have hq0 := fun W => run_neq_slice_nil_any (P := Tryd.prog) W 23 9 kao n kcap 0 0 Tryd.underlying23
  have hq1 := fun W => run_neq_slice_nil_any (P := Tryd.prog) W 23 9 tao t tcap 0 0 Tryd.underlying23
  go_enter Tryd.func4, Tryd.ntmps4
  go_wp2_with fail
  refine HB5.out.mono ?_
  rintro e w' ⟨r, rfl, rfl, hr⟩
  cases r with
  | false =>
    go_wp2
    go_ret
    exact ⟨rfl, Below.refl _ _⟩
  | true =>
    obtain ⟨g0, gk, g1, g2, g3, g4⟩ := hr rfl
    have HL : Hid (∀ j, (rAt R j).ss.length ≤ 1048576) := fun j => by
      by_cases hj : j < N
      · exact g2 j hj
      · have e : rAt R j = ⟨none, 0, 0, 0, []⟩ := by
          unfold rAt
          rw [List.getD_eq_getElem?_getD, List.getElem?_eq_none (by have := HN.out; omega)]
          rfl
        rw [e]
        exact Nat.zero_le _
    have HGK := hide gk
    have HG4 := hide g4
    clear g4 gk g2 hr HB5
    by_cases hbig : 4096 < n
    · go_wp2
      go_ret
      exact ⟨rfl, Below.refl _ _⟩
    go_upto_if 26 with fail
    go_cut [0] (fun v wc => ∃ kao' kb' koff' kcap', v = .slice kao' n kcap' ∧ Hid (StrAt wc kao' kb' koff' ks) ∧ Hid (Below w'.heap.size w' wc))
    case first =>
      cases kao with
      | none =>
        go_wp2
        go_meet
        case rel => exact ⟨none, kb, koff, kcap, rfl, HK, Below.refl _ _⟩
      | some a =>
        have hmk := fun W => run_make_row' (P := Tryd.prog) 23 9 (.string ⟨#[]⟩) 16 Tryd.underlying23 Tryd.info9 rfl .i64 .i64 n (by omega) (by omega) W
        obtain ⟨w1, hcp, hs1, hb1⟩ := copy_run w' a kb koff n kcap ks HKN.out HK.out
        have HSS := hide hs1
        have HB1 := hide hb1
        clear hs1 hb1
        go_wp2
        go_meet
        case rel => exact ⟨_, _, _, n, rfl, HSS, HB1⟩
    case rest =>
      obtain ⟨kao', kb', koff', kcap', rfl, HK2, HB2⟩ := hcut
      clear HK hq0
      have HT2 : Hid (StrAt wc tao tb toff ts) := HT.out.below HB2.out
      clear HT
      go_upto_if 35 with fail
      go_cut [2] (fun v wd => ∃ tao' tb' toff' tcap', v = .slice tao' t tcap' ∧ Hid (StrAt wd kao' kb' koff' ks) ∧ Hid (StrAt wd tao' tb' toff' ts) ∧ Hid (Below w'.heap.size w' wd))
      case first =>
        cases tao with
        | none =>
          go_wp2
          go_meet
          case rel => exact ⟨none, tb, toff, tcap, rfl, HK2, HT2, HB2⟩
        | some a =>
          have hmk := fun W => run_make_row' (P := Tryd.prog) 23 9 (.string ⟨#[]⟩) 16 Tryd.underlying23 Tryd.info9 rfl .i64 .i64 t (by omega) (by omega) W
          obtain ⟨w1, hcp, hs1, hb1⟩ := copy_run wc a tb toff t tcap ts HM.out HT2.out
          have HSS := hide hs1
          have HB1 := hide hb1
          clear hs1 hb1
          go_wp2
          go_meet
          case rel => exact ⟨_, _, _, t, rfl, HK2.out.below HB1.out, HSS, HB2.out.trans (HB1.out.mono HB2.out.size)⟩
      case rest =>
        obtain ⟨tao', tb', toff', tcap', rfl, HK3, HT3, HB3⟩ := hcut
        clear HK2 HT2 HB2 hq1
        have HG3 : Hid (GridAt wc ao b off R) := HG.out.below HB3.out
        have HV3 : Hid (Vars wc) := HV.out.below HB3.out
        clear HG HV
        go_wp2_with fail
        refine (addStrings 0 kao' kb' koff' n kcap' ks wc (by omega) (by omega) HKN.out HKM.out HK3.out HKZ.out).mono ?_
        rintro e w1 ⟨r, rfl, rfl, hr0, hr1⟩
        go_wp2_with fail
        refine (addStrings r tao' tb' toff' t tcap' ts w1 hr0 hr1 HM.out HMM.out HT3.out HTZ.out).mono ?_
        rintro e w2 ⟨r2, rfl, rfl, hr20, hr21⟩
        go_wp2_with fail
        refine (addGrid r2 ao b off N cap R w2 hr20 hr21 HN.out HNM.out HG3.out HF.out).mono ?_
        rintro e w3 ⟨q, rfl, rfl, hq0, hq1⟩
        by_cases hneg : q < 0
        · go_wp2
          go_ret
          exact ⟨rfl, HB3.out⟩
        have hnd : decide (q < 0) = false := by simpa using hneg
        clear hr0 hr1 hr20 hr21
        by_cases hnN : ¬ n = N
        · go_wp2
          go_ret
          exact ⟨rfl, HB3.out⟩
        obtain rfl : n = N := Decidable.not_not.1 hnN
        clear hnN
        have hnn : ((n : Int) != (n : Int)) = false := by simp
        have HRES := hide (resolveObject_any kao' ao tao' kb' koff' kcap' b off n cap tb' toff' t tcap' ks R ts w3 HKN.out HN.out g1 HK3.out HGK.out HG3.out HL.out HM.out g3 HT3.out HG4.out HV3.out)
        by_cases ht0 : t = 0
        · subst ht0
          have HA := hide (objAns_nil (B := w3.heap.size) (ks := ks) (R := R) (ts := ts) HM.out)
          rw [HKN.out] at HA
          go_wp2_with fail
          refine HRES.out.mono ?_
          rintro e w4 ⟨rfl, hb4⟩
          have HB4 : Hid (Below w'.heap.size w' w4) := HB3.out.trans (hb4.mono HB3.out.size)
          have HK4 := hide (HK3.out.below hb4)
          clear hb4
          rw [HA.out]
          go_wp2_with fail
          refine (distinct_any kao' kb' koff' n kcap' ks w4 HKN.out g1 HK4.out).mono ?_
          rintro e w5 ⟨rfl, hb5⟩
          have HB5 : Hid (Below w'.heap.size w' w5) := HB4.out.trans (hb5.mono HB4.out.size)
          clear hb5
          go_wp2
          go_ret
          exact ⟨rfl, HB5.out⟩
        obtain rfl : tao' = some ⟨tb', toff', none⟩ := HT3.out.at_ (by have := HM.out; omega)
        have HC0 := hide (HT3.out.cell 0 (by have := HM.out; omega))
        rw [Nat.add_zero] at HC0
        have HLT := hide (HT3.out.lt (by have := HM.out; omega))
        have htd0 : ((t : Int) == 0) = false := by rw [beq_eq_false_iff_ne]; omega
        have HQ : Hid (∀ B, (lastK ks (sAt ts 0).data.toList n = none → objAns B ks R ts = .tuple #[.string ⟨#[]⟩, .int .i64 0, .int .i64 0, .bool false]) ∧
            ∀ a, lastK ks (sAt ts 0).data.toList n = some a → (t = 1 → objAns B ks R ts = .tuple #[.string ⟨#[]⟩, .int .i64 2, .int .i64 (rAt R a).ss.length, .bool true]) ∧
              (∀ c, idx (sAt ts 1).data.toList (rAt R a).ss.length = some c → t = 2 → objAns B ks R ts = .tuple #[.string (sAt (rAt R a).ss c), .int .i64 1, .int .i64 0, .bool true]) ∧
              (2 ≤ t → idx (sAt ts 1).data.toList (rAt R a).ss.length = none ∨ 2 < t → objAns B ks R ts = .tuple #[.string ⟨#[]⟩, .int .i64 0, .int .i64 0, .bool false])) := fun B => by
          have hm := HM.out
          rw [← HKN.out]
          refine ⟨fun h => objAns_no0 (by omega) h, fun a h0 => ⟨fun h1 => objAns_one (by omega) h0, fun c hc h2 => objAns_two (by omega) h0 hc, fun h2 h => ?_⟩⟩
          cases h1 : idx (sAt ts 1).data.toList (rAt R a).ss.length with
          | none => exact objAns_no1 (by omega) h0 h1
          | some c =>
            rcases h with h | h
            · rw [h1] at h; cases h
            · exact objAns_far (by omega) h0 h1
        have HTC1 : Hid (2 ≤ t → w3.cell? ⟨tb', toff' + 1, none⟩ = some (.string (sAt ts 1))) := fun h => HT3.out.cell 1 (by have := HM.out; omega)
        generalize sAt ts 0 = tok0 at *
        generalize sAt ts 1 = tok1 at *
        obtain ⟨s, kd, nn, ok, hans⟩ : ∃ s kd nn ok, objAns w3.heap.size ks R ts = .tuple #[.string s, .int .i64 kd, .int .i64 nn, .bool ok] := by
          obtain ⟨s, kd, nn, h⟩ := handT_form (dist ks ks.length) (follow (objF w3.heap.size R) (objL w3.heap.size ks R) (.iface 39 (.map (some w3.heap.size))) ts)
          exact ⟨s, kd, nn, _, h⟩
        have HQ2 := hide (HQ.out w3.heap.size)
        rw [hans] at HQ2
        have HA := hide hans
        clear hans HQ
        go_wp2_with fail
        refine HRES.out.mono ?_
        rintro e w4 ⟨rfl, hb4⟩
        have HB34 := hide hb4
        clear hb4 HRES
        rw [HA.out]
        clear HA
        go_wp2_with fail
        go_loopw [14, 15] (fun z j wr => ∃ (k : Nat) (q : Int), k ≤ n ∧ j = .int .i64 k ∧ z = .int .i64 q ∧ Hid (q = lastI ks tok0.data.toList k) ∧ Hid (Below w3.heap.size w3 wr)) (fun _ j _ => n - (intOf j).toNat)
        case atStart => exact ⟨0, -1, Nat.zero_le _, rfl, rfl, rfl, HB34⟩
        case round =>
          clear HB34
          obtain ⟨k, qa, hk, rfl, rfl, HQA, HBR⟩ := hrel
          by_cases hlt : k < n
          · obtain rfl : kao' = some ⟨kb', koff', none⟩ := HK3.out.at_ (by have := HKN.out; omega)
            have hc0 : wr.cell? ⟨kb', koff' + k, none⟩ = some (.string (sAt ks k)) := by
              rw [HBR.out.cell (p := ⟨kb', koff' + k, none⟩) (HK3.out.lt (by have := HKN.out; omega))]
              exact HK3.out.cell k (by have := HKN.out; omega)
            have hc1 : wr.cell? ⟨tb', toff', none⟩ = some (.string tok0) := by
              rw [HBR.out.cell (p := ⟨tb', toff', none⟩) HLT.out]
              exact HC0.out
            have ht1 : 1 ≤ t := by omega
            by_cases hq : (sAt ks k).data.toList = tok0.data.toList
            · have HX := hide (lastI_hit hq)
              have hqb : ((sAt ks k).toList == tok0.toList) = true := by
                rw [ByteArray.toList_eq, ByteArray.toList_eq, hq]
                simp
              clear hq
              generalize sAt ks k = s2 at *
              go_upto_region 27 with fail
              go_quiet (fail)
              have HB5 : Hid (Below w3.heap.size w3 (wr.drewN nq)) := below_drewN HBR.out nq
              go_wp2
              go_roundw
              case rel => exact ⟨k + 1, k, by omega, by go_num, rfl, HX, HB5⟩
              case measure => simp [intOf]; omega
            · have HX : Hid (qa = lastI ks tok0.data.toList (k + 1)) := HQA.out.trans (lastI_miss hq)
              have hqb : ((sAt ks k).toList == tok0.toList) = false := by
                rw [ByteArray.toList_eq, ByteArray.toList_eq]
                exact beq_eq_false_iff_ne.2 hq
              clear hq
              generalize sAt ks k = s2 at *
              go_upto_region 27 with fail
              go_quiet (fail)
              have HB5 : Hid (Below w3.heap.size w3 (wr.drewN nq)) := below_drewN HBR.out nq
              go_wp2
              go_roundw
              case rel => exact ⟨k + 1, qa, by omega, by go_num, rfl, HX, HB5⟩
              case measure => simp [intOf]; omega
          · obtain rfl : k = n := by omega
            have HBW : Hid (Below w'.heap.size w' wr) := HB3.out.trans (HBR.out.mono HB3.out.size)
            cases h0 : lastK ks tok0.data.toList k with
            | none =>
              have hqa := HQA.out
              rw [lastI_none h0] at hqa
              subst hqa
              have HX := HQ2.out.1 h0
              simp only [Value.tuple.injEq, Array.mk.injEq, List.cons.injEq, Value.string.injEq, Value.int.injEq, Value.bool.injEq, true_and, and_true] at HX
              obtain ⟨rfl, rfl, rfl, rfl⟩ := HX
              clear h0 HQ2
              go_wp2
              go_ret
              exact ⟨rfl, HBW.out⟩
            | some a =>
              have hqa := HQA.out
              rw [lastI_some h0] at hqa
              subst hqa
              have ha := lastK_lt h0
              have had : decide ((a : Int) < 0) = false := by simp
              obtain rfl : ao = some ⟨b, off, none⟩ := HG3.out.at_ (by have := HN.out; omega)
              have HGC := hide (HG3.out.cell a (by have := HN.out; omega))
              have HGL := hide (HG3.out.lt (by have := HN.out; omega))
              have HR := hide (HG3.out.row a (by have := HN.out; omega))
              have hrl := HL.out a
              have HQ3 := hide (HQ2.out.2 a h0)
              clear h0 HQ2
              generalize rAt R a = r0 at *
              have hc4 : wr.cell? ⟨b, off + a, none⟩ = some (.slice r0.ao r0.ss.length r0.cap) := by
                rw [HBR.out.cell (p := ⟨b, off + a, none⟩) HGL.out]
                exact HGC.out
              by_cases ht1 : t = 1
              · subst ht1
                have HX := HQ3.out.1 rfl
                simp only [Value.tuple.injEq, Array.mk.injEq, List.cons.injEq, Value.string.injEq, Value.int.injEq, Value.bool.injEq, true_and, and_true] at HX
                obtain ⟨rfl, rfl, rfl, rfl⟩ := HX
                go_wp2
                go_ret
                exact ⟨rfl, HBW.out⟩
              · have ht2 : 2 ≤ t := by omega
                have htd : ((t : Int) == 1) = false := by rw [beq_eq_false_iff_ne]; omega
                have hc5 : wr.cell? ⟨tb', toff' + 1, none⟩ = some (.string tok1) := by
                  rw [HBR.out.cell (p := ⟨tb', toff' + 1, none⟩) HLT.out]
                  exact HTC1.out ht2
                go_upto_region 33 with fail
                go_cut [16] (fun v wd => v = .int .i64 (idxI tok1.data.toList r0.ss.length) ∧ Hid (Below wr.heap.size wr wd))
                case first =>
                  go_region_with (go_at_call 9; refine (indexAmong_any tok1 r0.ss.length _ hrl).mono ?_; rintro e w5 ⟨rfl, hb5⟩)
                  all_goals
                    have HB5 : Hid (Below wr.heap.size wr w5) := below_drew hb5
                    clear hb5
                    go_wp2_with fail
                    go_meet
                  all_goals exact ⟨rfl, HB5⟩
                case rest =>
                  obtain ⟨rfl, HB5⟩ := hcut
                  have HBE : Hid (Below w'.heap.size w' wc) := HBW.out.trans (HB5.out.mono HBW.out.size)
                  have HB35 : Hid (Below w3.heap.size w3 wc) := HBR.out.trans (HB5.out.mono HBR.out.size)
                  have hc6 : wc.cell? ⟨b, off + a, none⟩ = some (.slice r0.ao r0.ss.length r0.cap) := by
                    rw [HB35.out.cell (p := ⟨b, off + a, none⟩) HGL.out]
                    exact HGC.out
                  clear hc4 hc5 HB5 HBW
                  cases h1 : idx tok1.data.toList r0.ss.length with
                  | none =>
                    rw [idxI_none h1]
                    have HX := HQ3.out.2.2 ht2 (Or.inl h1)
                    simp only [Value.tuple.injEq, Array.mk.injEq, List.cons.injEq, Value.string.injEq, Value.int.injEq, Value.bool.injEq, true_and, and_true] at HX
                    obtain ⟨rfl, rfl, rfl, rfl⟩ := HX
                    go_wp2
                    go_ret
                    exact ⟨rfl, HBE.out⟩
                  | some c =>
                    rw [idxI_some h1]
                    have hcl := (idx_spec h1).1
                    have hcd : decide ((c : Int) < 0) = false := by simp
                    by_cases h2 : 2 < t
                    · have HX := HQ3.out.2.2 ht2 (Or.inr h2)
                      simp only [Value.tuple.injEq, Array.mk.injEq, List.cons.injEq, Value.string.injEq, Value.int.injEq, Value.bool.injEq, true_and, and_true] at HX
                      obtain ⟨rfl, rfl, rfl, rfl⟩ := HX
                      have h2d : decide (2 < (t : Int)) = true := by simp; omega
                      go_wp2
                      go_ret
                      exact ⟨rfl, HBE.out⟩
                    · have HX := HQ3.out.2.1 c h1 (by omega)
                      simp only [Value.tuple.injEq, Array.mk.injEq, List.cons.injEq, Value.string.injEq, Value.int.injEq, Value.bool.injEq, true_and, and_true] at HX
                      obtain ⟨rfl, rfl, rfl, rfl⟩ := HX
                      have h2d : decide (2 < (t : Int)) = false := by simp; omega
                      have HRW := hide (HR.out.below HB35.out)
                      have hc7 := HRW.out.cell c hcl
                      have ha7 := HRW.out.at_ (by omega)
                      rw [ha7] at hc6
                      generalize sAt r0.ss c = s at *
                      clear HQ3
                      go_wp2
                      go_ret
                      exact ⟨rfl, HBE.out⟩

end Go.Proofs.Qxb6614023aDoor
