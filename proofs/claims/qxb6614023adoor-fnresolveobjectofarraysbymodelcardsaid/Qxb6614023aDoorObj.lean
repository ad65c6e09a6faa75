/-
  The walk of ZZresolveObject.
-/
import Derived.Test.Qxb6614023aDoorGrid
import Derived.Test.Qxb6614023aDoorDist
import Derived.Deep.RegionWith
import Derived.Maps.OwnSet
namespace Go.Proofs.Qxb6614023aDoor
open Go.RowKit

/-- How an element of the map reads: as itself. -/
def keepV (v : Value) : Option (DataW Value × List MemPlace) := some (.held v, [])

theorem Tryd.keyed9 : Maps.Keyed Tryd.prog 9 := Maps.string_keyed Tryd.underlying9
theorem zero20 (w : World) : (zeroValue 20).run Tryd.prog w = .ok .nilIface w := by kernel_rfl
theorem mk39 (n : Int) (w : World) : (Instr.makeMap 39 (some (.int .i64 n))).run Tryd.prog w = .ok (.map (some w.heap.size)) (w.alloc (.map #[] 0)) := by kernel_rfl

/-- The last of the first k keys that is l. -/
def lastK (ks : List ByteArray) (l : List UInt8) : Nat → Option Nat
  | 0 => none
  | k + 1 => if (sAt ks k).data.toList == l then some k else lastK ks l k

theorem lastK_hit {ks : List ByteArray} {l : List UInt8} {k : Nat} (h : (sAt ks k).data.toList = l) : lastK ks l (k + 1) = some k := by
  rw [lastK, if_pos (by simp [h])]
theorem lastK_miss {ks : List ByteArray} {l : List UInt8} {k : Nat} (h : (sAt ks k).data.toList ≠ l) : lastK ks l (k + 1) = lastK ks l k := by
  rw [lastK, if_neg (by simp [h])]
theorem lastK_lt {ks : List ByteArray} {l : List UInt8} {j : Nat} : ∀ {k : Nat}, lastK ks l k = some j → j < k
  | 0, h => by cases h
  | k + 1, h => by
    by_cases e : (sAt ks k).data.toList = l
    · rw [lastK_hit e] at h
      cases h
      omega
    · rw [lastK_miss e] at h
      have := lastK_lt h
      omega
theorem lastK_any {ks : List ByteArray} {l : List UInt8} : ∀ {k : Nat}, (lastK ks l k).isSome = (List.range k).any (fun j => (sAt ks j).data.toList == l)
  | 0 => rfl
  | k + 1 => by
    rw [List.range_succ, List.any_append]
    by_cases e : (sAt ks k).data.toList = l
    · rw [lastK_hit e]
      simp [e]
    · rw [lastK_miss e, lastK_any]
      simp [e]
theorem seen_last {ks : List ByteArray} {k : Nat} : (lastK ks (sAt ks k).data.toList k).isSome = seen ks k := by
  rw [lastK_any]
  unfold seen same
  congr 1
  funext j
  rw [ByteArray.toList_eq, ByteArray.toList_eq]

/-- Block B of w is the map of the first k keys. -/
structure Held (w : World) (B : Nat) (ks : List ByteArray) (R : List RowV) (k : Nat) (D : DataW Value) : Prop where
  owns : w.ownsMap Tryd.prog 9 keepV B k D
  size : Maps.size D = dist ks k
  has : ∀ l, Maps.has D (.string l) = (lastK ks l k).isSome
  at_ : ∀ l j, lastK ks l k = some j → ∀ z, D.atKey (.string l) z = .held (rowV B R j)

theorem held_start (w : World) (ks : List ByteArray) (R : List RowV) : Held (w.alloc (.map #[] 0)) w.heap.size ks R 0 (.map []) :=
  ⟨World.ownsMap_made _ _ _ _, rfl, fun _ => rfl, fun _ _ h => by cases h⟩

theorem held_step {w : World} {B k : Nat} {ks : List ByteArray} {R : List RowV} {D : DataW Value} {v : Value} (h : Held w B ks R k D) (hk : k < 1048576) (hs : (sAt ks k).size ≤ 1048576) (hv : v = rowV B R k) :
    ∃ w', (Instr.mapUpdate 39 (.map (some B)) (.string (sAt ks k)) v).run Tryd.prog w = .ok () w' ∧ Held w' B ks R (k + 1) (D.put (.string (sAt ks k).data.toList) (.held (rowV B R k))) ∧ w.mapTurned w' B := by
  subst hv
  have hkey : keyOf Tryd.prog 9 (.string (sAt ks k)) = some (.string (sAt ks k).data.toList) := WideMaps.keyOf_string_mk Tryd.underlying9 (by unfold maxLen; omega)
  obtain ⟨w', hrun, hown, ht⟩ := h.owns.store Tryd.keyed9 Tryd.underlying39 (by unfold maxLen; omega) hkey (val := rowV B R k) (d := .held (rowV B R k)) (ps := []) rfl
  refine ⟨w', hrun, ⟨hown, ?_, ?_, ?_⟩, ht⟩
  · rw [Maps.size_put (h.owns.tidy Tryd.keyed9), h.has, seen_last, h.size]
    cases hq : seen ks k with
    | true => rw [if_pos rfl, dist_seen hq]
    | false => rw [if_neg (by simp), dist_new hq]
  · intro l
    by_cases e : (sAt ks k).data.toList = l
    · rw [lastK_hit e, ← e, Maps.has_put_same h.owns.isMap (k := .string (sAt ks k).data.toList) trivial]
      rfl
    · rw [lastK_miss e, Maps.has_put_other (fun e2 => e (by injection e2 with e3; exact e3.symm)), h.has]
  · intro l j hj z
    by_cases e : (sAt ks k).data.toList = l
    · rw [lastK_hit e] at hj
      cases hj
      rw [← e, Maps.atKey_put_same h.owns.isMap (k := .string (sAt ks k).data.toList) trivial]
    · rw [lastK_miss e] at hj
      rw [Maps.atKey_put_other (fun e2 => e (by injection e2 with e3; exact e3.symm))]
      exact h.at_ l j hj z

/-- The world behind k rounds of the loop that lays the object. -/
structure ObjW (w wr : World) (ks : List ByteArray) (R : List RowV) (k : Nat) : Prop where
  size : wr.heap.size = w.heap.size + 1 + k
  held : ∃ D, Held wr w.heap.size ks R k D
  row : ∀ j, j < k → wr.rowIs (w.heap.size + 1 + j) 20 (rAt R j).ss.length (itemV (rAt R j).ss)
  below : Below w.heap.size w wr

theorem objW_start (w : World) (ks : List ByteArray) (R : List RowV) : ObjW w (w.alloc (.map #[] 0)) ks R 0 :=
  ⟨by simp, ⟨_, held_start w ks R⟩, fun j hj => by omega, (Below.refl _ _).alloc (Nat.le_refl _) _⟩

theorem owns_below {w w' : World} {b n : Nat} {D : DataW Value} (h : w.ownsMap Tryd.prog 9 keepV b n D) (hb : Below w.heap.size w w') : w'.ownsMap Tryd.prog 9 keepV b n D := by
  have hlt := h.lt
  obtain ⟨es, clock, h1, r⟩ := h
  exact ⟨es, clock, (hb.block b hlt).trans h1, r⟩

theorem held_below {w w' : World} {B k : Nat} {ks : List ByteArray} {R : List RowV} {D : DataW Value} (h : Held w B ks R k D) (hb : Below w.heap.size w w') : Held w' B ks R k D :=
  ⟨owns_below h.owns hb, h.size, h.has, h.at_⟩

theorem objW_step {w wr w1 : World} {ks : List ByteArray} {R : List RowV} {k : Nat} (h : ObjW w wr ks R k) (hk : k < 1048576) (hs : (sAt ks k).size ≤ 1048576) (hf : Filled wr w1 (rAt R k).ss.length (itemV (rAt R k).ss)) :
    ∃ w2, (Instr.mapUpdate 39 (.map (some w.heap.size)) (.string (sAt ks k)) (.iface 33 (.slice (some ⟨wr.heap.size, 0, none⟩) (rAt R k).ss.length (rAt R k).ss.length))).run Tryd.prog w1 = .ok () w2 ∧ ObjW w w2 ks R (k + 1) := by
  have hz := h.size
  have hz1 := hf.size
  obtain ⟨D, hD⟩ := h.held
  obtain ⟨w2, hrun, hD2, ht⟩ := held_step (v := .iface 33 (.slice (some ⟨wr.heap.size, 0, none⟩) (rAt R k).ss.length (rAt R k).ss.length)) (held_below hD hf.below) hk hs (by unfold rowV; rw [hz])
  have hg := ht.grown
  have hb2 : ∀ i, i < w1.heap.size → i ≠ w.heap.size → w2.heap[i]? = w1.heap[i]? := fun i hi hne => hg.block i hi (fun e => hne (by cases e; rfl))
  have hz2 : w2.heap.size = w1.heap.size := by
    obtain ⟨es, clock, es', clock', _, rfl⟩ := ht
    simp [ChangeMaps.setBlock]
  refine ⟨w2, hrun, ⟨by omega, ⟨_, hD2⟩, ?_, ?_⟩⟩
  · intro j hj
    by_cases e : j = k
    · subst e
      have := hf.row
      rw [hz] at this
      exact this.of_block (hb2 _ (by omega) (by omega))
    · exact ((h.row j (by omega)).of_block (hf.below.block _ (by omega))).of_block (hb2 _ (by omega) (by omega))
  · have hb1 := h.below.trans (hf.below.mono (by omega))
    exact hb1.grown hg (Nat.le_of_lt (by omega)) (fun j hj => by cases hj; exact Nat.le_refl _)

theorem strAt_drew {w : World} {ao : Option Addr} {b off : Nat} {ss : List ByteArray} (h : StrAt w ao b off ss) : StrAt w.drew ao b off ss := ⟨h.at_, h.lt, h.cell⟩
theorem filled_drew {w w1 : World} {n : Nat} {f : Nat → Value} (h : Filled w w1 n f) : Filled w w1.drew n f := ⟨h.row, h.size, h.below.drew⟩
theorem filled_of_drew {w w1 : World} {n : Nat} {f : Nat → Value} (h : Filled w.drew w1 n f) : Filled w w1 n f := ⟨h.row, h.size, ⟨h.below.os, h.below.tape, h.below.output, h.below.size, h.below.block⟩⟩

theorem filled_cell {w w1 : World} {n b off : Nat} {f : Nat → Value} {v : Value} (h : Filled w w1 n f) (hb : b < w.heap.size) (hc : w.cell? ⟨b, off, none⟩ = some v) : w1.cell? ⟨b, off, none⟩ = some v := by
  rw [h.below.cell (p := ⟨b, off, none⟩) hb]
  exact hc

/-- What the arrays of an object hold, the map lying in block B. -/
def objF (B : Nat) (R : List RowV) (g i : Nat) : Value := itemV (rAt R (g - B - 1)).ss i
def objL (B : Nat) (ks : List ByteArray) (R : List RowV) (l : List UInt8) : Option Value := (lastK ks l ks.length).map (rowV B R)
/-- The values of an object. -/
def objG (B : Nat) (R : List RowV) (v : Value) : Prop :=
  v = .iface 39 (.map (some B)) ∨ (∃ j, j < R.length ∧ v = rowV B R j) ∨ ∃ s, v = .iface 9 (.string s)
theorem objF_row {B : Nat} {R : List RowV} {j i : Nat} : objF B R (B + 1 + j) i = itemV (rAt R j).ss i := by
  unfold objF
  rw [show B + 1 + j - B - 1 = j from by omega]

theorem objG_step {B : Nat} {ks : List ByteArray} {R : List RowV} (hlen : ks.length = R.length) (v : Value) (tok : List UInt8) (v' : Value) (h : objG B R v) (hs : step (objF B R) (objL B ks R) v tok = some v') : objG B R v' := by
  rcases h with rfl | ⟨j, _, rfl⟩ | ⟨s, rfl⟩
  · rw [step_map, objL, Option.map_eq_some_iff] at hs
    obtain ⟨i, hi, rfl⟩ := hs
    exact Or.inr (Or.inl ⟨i, hlen ▸ lastK_lt hi, rfl⟩)
  · rw [rowV, step_idx, Option.map_eq_some_iff] at hs
    obtain ⟨i, hi, rfl⟩ := hs
    exact Or.inr (Or.inr ⟨_, objF_row⟩)
  · rw [step_str] at hs
    cases hs

theorem objW_look {w wr wq : World} {ks : List ByteArray} {R : List RowV} (h : ObjW w wr ks R ks.length) (hb : Below wr.heap.size wr wq) (tok : ByteArray) (ht : tok.size ≤ 1048576) :
    (Instr.lookup 39 (.map (some w.heap.size)) (.string tok) true).run Tryd.prog wq = .ok (.tuple #[(objL w.heap.size ks R tok.data.toList).getD .nilIface, .bool (objL w.heap.size ks R tok.data.toList).isSome]) wq := by
  obtain ⟨D, hD⟩ := h.held
  have hkey : keyOf Tryd.prog 9 (.string tok) = some (.string tok.data.toList) := WideMaps.keyOf_string_mk Tryd.underlying9 (by unfold maxLen; omega)
  obtain ⟨v, ps, hrun, hv⟩ := (owns_below hD.owns hb).look_ok Tryd.keyed9 Tryd.underlying39 (zero20 wq) (zd := .held .nilIface) (zp := []) rfl hkey
  rw [hrun, hD.has]
  unfold objL
  unfold keepV at hv
  rw [Option.some.injEq, Prod.mk.injEq] at hv
  cases hl : lastK ks tok.data.toList ks.length with
  | none =>
    have e := Maps.atKey_of_not_has (D := D) (k := .string tok.data.toList) (by rw [hD.has, hl]; rfl) (.held .nilIface)
    rw [e] at hv
    obtain rfl := DataW.held.inj hv.1
    rfl
  | some j =>
    rw [hD.at_ _ _ hl] at hv
    obtain rfl := DataW.held.inj hv.1
    rfl

theorem objW_len {w wr wq : World} {ks : List ByteArray} {R : List RowV} (h : ObjW w wr ks R ks.length) (hb : Below wr.heap.size wr wq) :
    (Builtin.len_ #[39] 3 #[.map (some w.heap.size)]).run Tryd.prog wq = .ok (.int .i64 (dist ks ks.length)) wq := by
  obtain ⟨D, hD⟩ := h.held
  rw [(owns_below hD.owns hb).len Tryd.underlying39 3, hD.size]

theorem objG_doc {w wr : World} {ks : List ByteArray} {R : List RowV} (hlen : ks.length = R.length) (hl : ∀ j, (rAt R j).ss.length ≤ 1048576) (h : ObjW w wr ks R ks.length) (v : Value) (hv : objG w.heap.size R v) :
    IsDoc wr (objF w.heap.size R) (objL w.heap.size ks R) (objG w.heap.size R) v := by
  rcases hv with rfl | ⟨j, hj, rfl⟩ | ⟨s, rfl⟩
  · refine Or.inr (Or.inr ⟨_, rfl, fun wq hb tok ht => objW_look h hb tok ht, fun l u hu => ?_⟩)
    rw [objL, Option.map_eq_some_iff] at hu
    obtain ⟨i, hi, rfl⟩ := hu
    exact Or.inr (Or.inl ⟨i, hlen ▸ lastK_lt hi, rfl⟩)
  · refine Or.inl ⟨_, _, rfl, hl j, ?_, fun i hi => Or.inr (Or.inr ⟨_, objF_row⟩)⟩
    refine (h.row j (by omega)).congr ?_
    intro i _
    rw [objF_row]
  · exact Or.inr (Or.inl ⟨s, rfl⟩)

/-- What ZZresolveObject answers. -/
def objAns (B : Nat) (ks : List ByteArray) (R : List RowV) (ts : List ByteArray) : Value := handT (dist ks ks.length) (follow (objF B R) (objL B ks R) (.iface 39 (.map (some B))) ts)

theorem objAns_fit {w wr wq : World} {ks : List ByteArray} {R : List RowV} {ts : List ByteArray} (hlen : ks.length = R.length) (h : ObjW w wr ks R ks.length) (hb : Below wr.heap.size wr wq) :
    let A := follow (objF w.heap.size R) (objL w.heap.size ks R) (.iface 39 (.map (some w.heap.size))) ts
    A.1 = .nilIface ∨ (∃ s, A.1 = .iface 9 (.string s)) ∨ (∃ a n c, A.1 = .iface 33 (.slice a n c)) ∨ (∃ r, A.1 = .iface 39 (.map (some r)) ∧ (Builtin.len_ #[39] 3 #[.map (some r)]).run Tryd.prog wq = .ok (.int .i64 (dist ks ks.length)) wq) := by
  intro A
  rcases follow_G (G := objG w.heap.size R) (objG_step hlen) ts _ (Or.inl rfl) with h1 | h1 | ⟨j, _, h1⟩ | ⟨s, h1⟩
  · exact Or.inl h1
  · exact Or.inr (Or.inr (Or.inr ⟨_, h1, objW_len h hb⟩))
  · exact Or.inr (Or.inr (Or.inl ⟨_, _, _, h1⟩))
  · exact Or.inr (Or.inl ⟨s, h1⟩)

set_option maxRecDepth 100000 in
set_option maxHeartbeats 1600000 in
theorem resolveObject_any (kao ao tao : Option Addr) (kb koff kcap b off N cap tb toff t tcap : Nat) (ks : List ByteArray) (R : List RowV) (ts : List ByteArray) (w : World) (hkn : ks.length = N) (hn : R.length = N) (hN : N ≤ 1048576)
    (hk : StrAt w kao kb koff ks) (hks : Short ks) (hg : GridAt w ao b off R) (hl : ∀ j, (rAt R j).ss.length ≤ 1048576) (ht : ts.length = t) (htm : t ≤ 1048576) (hts : StrAt w tao tb toff ts) (hsh : Short ts) (hv : Vars w) :
    Calls Tryd.prog 11 #[.slice kao N kcap, .slice ao N cap, .slice tao t tcap] w fun e w' => e = .returned (objAns w.heap.size ks R ts) ∧ Below w.heap.size w w' := by
  have HKN := hide hkn
  have HN := hide hn
  have HK := hide hk
  have HKS := hide hks
  have HG := hide hg
  have HL := hide hl
  have HT := hide ht
  have HS := hide hts
  have HSH := hide hsh
  have HV := hide hv
  clear hkn hn hk hks hg hl ht hts hsh hv
  have hmk := mk39 N
  go_enter Tryd.func11, Tryd.ntmps11
  go_wp2_with fail
  go_loopw [11, 17] (fun _ j wr => ∃ k : Nat, k ≤ N ∧ j = .int .i64 k ∧ Hid (ObjW w wr ks R k)) (fun _ j _ => N - (intOf j).toNat)
  case atStart => exact ⟨0, Nat.zero_le _, rfl, objW_start w ks R⟩
  case round =>
    obtain ⟨k, hk, rfl, HF⟩ := hrel
    by_cases hlt : k < N
    · obtain rfl : ao = some ⟨b, off, none⟩ := HG.out.at_ (by have := HN.out; omega)
      obtain rfl : kao = some ⟨kb, koff, none⟩ := HK.out.at_ (by have := HKN.out; omega)
      have hc0 : wr.cell? ⟨b, off + k, none⟩ = some (.slice (rAt R k).ao (rAt R k).ss.length (rAt R k).cap) := by
        rw [HF.out.below.cell (p := ⟨b, off + k, none⟩) (HG.out.lt (by have := HN.out; omega))]
        exact HG.out.cell k (by have := HN.out; omega)
      have hc1 : wr.cell? ⟨kb, koff + k, none⟩ = some (.string (sAt ks k)) := by
        rw [HF.out.below.cell (p := ⟨kb, koff + k, none⟩) (HK.out.lt (by have := HKN.out; omega))]
        exact HK.out.cell k (by have := HKN.out; omega)
      have HKB : Hid (kb < wr.heap.size) := Nat.lt_of_lt_of_le (HK.out.lt (by have := HKN.out; omega)) HF.out.below.size
      have HR := hide ((HG.out.row k (by have := HN.out; omega)).below HF.out.below)
      have HRD := hide (strAt_drew HR.out)
      have HST := hide (fun w1 (hf : Filled wr w1 (rAt R k).ss.length (itemV (rAt R k).ss)) => objW_step HF.out (by omega) (HKS.out k (by have := HKN.out; omega)) hf)
      have HLk := hide (HL.out k)
      generalize rAt R k = r at *
      generalize sAt ks k = key at *
      go_upto_region 5 with fail
      go_region_with (go_at_call 13; refine (items_any r.ao r.b r.off r.ss.length r.cap r.ss wr.drew rfl HLk.out HRD.out).mono ?_; rintro e w1 ⟨rfl, hf⟩; have hc2 := filled_cell (filled_of_drew hf) HKB.out hc1; obtain ⟨w2, hst, ho⟩ := HST.out w1 (filled_of_drew hf); have HO := hide ho; clear ho hf)
      all_goals
        clear HST HR HRD hst hc0 hc1 hc2
        go_wp2
        go_roundw
        case rel => exact ⟨k + 1, by omega, by go_num, HO⟩
        case measure => simp [intOf]; omega
    · obtain rfl : k = N := by omega
      have HE : Hid (ObjW w wr ks R ks.length) := by rw [HKN.out]; exact HF.out
      have HLE : Hid (ks.length = R.length) := HKN.out.trans HN.out.symm
      have HFIT := hide (fun W hb => objAns_fit (ts := ts) (wq := W) HLE.out HE.out hb)
      have HANS : Hid (objAns w.heap.size ks R ts = handT (dist ks ks.length) (follow (objF w.heap.size R) (objL w.heap.size ks R) (.iface 39 (.map (some w.heap.size))) ts)) := rfl
      have HRES := hide (resolve_any (objF w.heap.size R) (objL w.heap.size ks R) (objG w.heap.size R) (.iface 39 (.map (some w.heap.size))) tao tb toff t tcap ts wr (Or.inl rfl)
        (objG_doc HLE.out HL.out HE.out) HT.out htm (HS.out.below HF.out.below) HSH.out (HV.out.below HF.out.below))
      generalize follow (objF w.heap.size R) (objL w.heap.size ks R) (.iface 39 (.map (some w.heap.size))) ts = A at *
      have HBW := hide HF.out.below
      generalize dist ks ks.length = dn at *
      go_wp2_with fail
      refine HRES.out.mono ?_
      rintro e w1 ⟨rfl, hb1⟩
      have HB1 : Hid (Below w.heap.size w w1) := HBW.out.trans (hb1.mono HBW.out.size)
      have HFT := hide (HFIT.out w1 hb1)
      clear hb1
      go_wp2_with fail
      refine (hand_any dn A w1 HFT.out).mono ?_
      rintro e w2 ⟨rfl, rfl⟩
      obtain ⟨s, kd, nn, hh⟩ := handT_form dn A
      rw [hh]
      rw [hh] at HANS
      clear hh
      go_wp2
      exact bodyPost_ret (v := .tuple #[.string s, .int .i64 kd, .int .i64 nn, .bool A.2]) (by simp [results, Tryd.results11, go_sem]) rfl ⟨congrArg Ending.returned HANS.out.symm, HB1.out⟩

end Go.Proofs.Qxb6614023aDoor
