/-
  The walk of FnInListOperandSplitsAtAnyCut.
-/
import Derived.Test.Qxb6613630aBytes
import Derived.Laws.CopyOwn
import Derived.Deep.DeepCutAuto
import Derived.Deep.CutBlock
namespace Go.Proofs.Qxb6613630a
open Go.RowKit

theorem Try.size9 : (Try.prog.info? 9).map (·.size) = some 1 := by kernel_rfl

/-- The strings as cells. -/
def sCells (ss : List ByteArray) : List Value := ss.map Value.string
theorem sCells_length (ss : List ByteArray) : (sCells ss).length = ss.length := by simp [sCells]
theorem sCells_get (ss : List ByteArray) (j : Nat) (h : j < ss.length) : (sCells ss)[j]? = some (.string (sAt ss j)) := by
  simp [sCells, sAt, List.getD_eq_getElem?_getD, List.getElem?_eq_getElem h]
theorem sCells_one (ss : List ByteArray) : ∀ v ∈ sCells ss, v.oneCell' = true := by
  intro v hv
  obtain ⟨s, _, rfl⟩ := List.mem_map.1 hv
  rfl

/-- What make laid, as a list. -/
def zCells (n : Nat) : List Value := (madeCells #[.string ⟨#[]⟩] n).toList
theorem zCells_length (n : Nat) : (zCells n).length = n := by simp [zCells, size_madeCells]

/-- A row that was copied over whole holds the strings. -/
theorem strAt_copied {w : World} {g n : Nat} {ss : List ByteArray} (hn : ss.length = n) (h : w.heap[g]? = some (.cells (splice (zCells n) 0 (sCells ss)).toArray 9 (0, 0))) : StrAt w (some ⟨g, 0, none⟩) g 0 ss := by
  have e : splice (zCells n) 0 (sCells ss) = sCells ss := by
    simp [splice, zCells_length, sCells_length, hn]
  rw [e] at h
  have hlt : g < w.heap.size := by
    rcases Nat.lt_or_ge g w.heap.size with h' | h'
    · exact h'
    · rw [Array.getElem?_eq_none h'] at h; cases h
  refine ⟨fun _ => rfl, fun _ => hlt, fun i hi => ?_⟩
  have hc := sCells_get ss i hi
  simp only [World.cell?, h, Nat.zero_add]
  simpa using hc

theorem copy_hg (w : World) (n : Nat) : (w.alloc (.cells (madeCells #[.string ⟨#[]⟩] n) 9)).heap[w.heap.size]? = some (.cells (zCells n).toArray 9 (0, 0)) := by
  rw [heap_alloc_new]
  simp [zCells]
theorem copy_hn {n : Nat} {ss : List ByteArray} (h : ss.length = n) : (sCells ss).length = Nat.min n n := by
  rw [sCells_length, h]
  exact (Nat.min_self n).symm
theorem copy_hfit {n : Nat} {ss : List ByteArray} (h : ss.length = n) : 0 + (sCells ss).length ≤ (zCells n).length := by
  rw [sCells_length, zCells_length]
  omega
theorem copy_hpos {w : World} {o : Obj} {a : Addr} {b off n g : Nat} {ss : List ByteArray} (h : StrAt w (some a) b off ss) (_ : ss.length = n) :
    0 < (sCells ss).length → some (⟨g, 0, none⟩ : Addr) = some ⟨g, 0, none⟩ ∧ ∃ ad, some a = some ad ∧ ∀ j v, (sCells ss)[j]? = some v → (w.alloc o).cell? (ad.add j) = some v := by
  intro h0
  rw [sCells_length] at h0
  have ha : a = ⟨b, off, none⟩ := Option.some.inj (h.at_ h0)
  subst ha
  refine ⟨rfl, _, rfl, fun j v hv => ?_⟩
  have hj : j < ss.length := by
    rcases Nat.lt_or_ge j ss.length with h' | h'
    · exact h'
    · rw [List.getElem?_eq_none (by rw [sCells_length]; exact h')] at hv; cases hv
  rw [sCells_get ss j hj] at hv
  have hadd : (⟨b, off, none⟩ : Addr).add j = ⟨b, off + j, none⟩ := by simp [Addr.add]
  rw [hadd, ← hv, ((Below.refl w.heap.size w).alloc (Nat.le_refl _) o).cell (p := ⟨b, off + j, none⟩) (h.lt h0)]
  exact h.cell j hj

/-- 'zzc := make([]string, n); copy(zzc, a)': the copy's run. -/
theorem copy_run (w : World) (a : Addr) (b off n cap : Nat) (ss : List ByteArray) (hn : ss.length = n) (h : StrAt w (some a) b off ss) :
    ∃ w1, (Builtin.copy_ #[22, 22] 3 #[.slice (some ⟨w.heap.size, 0, none⟩) n n, .slice (some a) n cap]).run Try.prog (w.alloc (.cells (madeCells #[.string ⟨#[]⟩] n) 9)) = .ok (goInt n) w1 ∧
      StrAt w1 (some ⟨w.heap.size, 0, none⟩) w.heap.size 0 ss ∧ Below w.heap.size w w1 := by
  have hB : Below w.heap.size w (w.alloc (.cells (madeCells #[.string ⟨#[]⟩] n) 9)) := (Below.refl _ _).alloc (Nat.le_refl _) _
  by_cases h0 : n = 0
  · subst h0
    obtain rfl : ss = [] := List.eq_nil_of_length_eq_zero hn
    exact ⟨_, run_copy_none (P := Try.prog) _ 22 22 3 9 _ _ 0 0 0 cap Try.underlying22 Try.size9 rfl, ⟨fun h => absurd h (by simp), fun h => absurd h (by simp), fun i hi => absurd hi (by simp)⟩, hB⟩
  · obtain ⟨_, ad, e, hsrc⟩ := copy_hpos (g := 0) (o := .cells (madeCells #[.string ⟨#[]⟩] n) 9) h hn (by rw [sCells_length]; omega)
    obtain rfl : a = ad := Option.some.inj e
    have hrun := run_copy_row (P := Try.prog) (w.alloc (.cells (madeCells #[.string ⟨#[]⟩] n) 9)) 22 22 3 9 w.heap.size 0 n n a n cap (zCells n).toArray 9 (sCells ss) Try.underlying22 Try.size9 (copy_hg w n) (copy_hn hn) hsrc (by simpa using copy_hfit hn) (sCells_one ss)
    rw [sCells_length, hn] at hrun
    refine ⟨_, hrun, strAt_copied hn ?_, below_setRow hB (Nat.le_refl _) _⟩
    have := setRow_heap (w.alloc (.cells (madeCells #[.string ⟨#[]⟩] n) 9)) w.heap.size (zCells n).toArray (List.take 0 (zCells n).toArray.toList ++ sCells ss ++ List.drop (0 + n) (zCells n).toArray.toList).toArray 9 _ (copy_hg w n)
    rw [this]
    simp [splice, sCells_length, hn]

/-- The world in which the row of N strings f, made in w, is being filled. -/
structure Joined (w wr : World) (N : Nat) (f : Nat → ByteArray) : Prop where
  row : wr.rowIs w.heap.size 9 N (fun j => .string (f j))
  below : Below w.heap.size w wr

theorem joined_start (w : World) (N : Nat) {g : Nat → ByteArray} : Joined w (w.alloc (.cells (madeCells #[.string ⟨#[]⟩] N) 9)) N (fun j => if j < 0 then g j else ⟨#[]⟩) :=
  ⟨(w.rowIs_made (.string ⟨#[]⟩) N 9).congr (fun i _ => by simp), (Below.refl _ _).alloc (Nat.le_refl _) _⟩

theorem joined_step {w wr : World} {N r : Nat} {s : ByteArray} {g : Nat → ByteArray} (h : Joined w wr N (fun j => if j < r then g j else ⟨#[]⟩)) (hs : g r = s) :
    Joined w (wr.setCell ⟨w.heap.size, r, none⟩ (.string s)) N (fun j => if j < r + 1 then g j else ⟨#[]⟩) := by
  refine ⟨(h.row.set r _).congr ?_, h.below.setCell (Nat.le_refl _) _⟩
  intro j _
  show (if j = r then _ else _) = _
  by_cases e : j = r
  · subst e
    rw [if_pos rfl, if_pos (by omega), hs]
  · rw [if_neg e]
    show Value.string (if j < r then _ else _) = _
    by_cases e2 : j < r
    · rw [if_pos e2, if_pos (by omega)]
    · rw [if_neg e2, if_neg (by omega)]

theorem sAt_left {ss ts : List ByteArray} {j : Nat} (h : j < ss.length) : sAt (ss ++ ts) j = sAt ss j := by
  unfold sAt
  rw [List.getD_eq_getElem?_getD, List.getD_eq_getElem?_getD, List.getElem?_append_left h]
theorem sAt_right {ss ts : List ByteArray} {n : Nat} (h : ss.length = n) (j : Nat) : sAt (ss ++ ts) (n + j) = sAt ts j := by
  unfold sAt
  rw [List.getD_eq_getElem?_getD, List.getD_eq_getElem?_getD, List.getElem?_append_right (by omega)]
  congr 2
  omega

theorem joined_mid {w wr : World} {N n : Nat} {ss ts : List ByteArray} (h : Joined w wr N (fun j => if j < n then sAt ss j else ⟨#[]⟩)) (hn : ss.length = n) :
    Joined w wr N (fun j => if j < n + 0 then sAt (ss ++ ts) j else ⟨#[]⟩) := by
  refine ⟨h.row.congr ?_, h.below⟩
  intro j _
  show Value.string (if j < n then _ else _) = Value.string (if j < n + 0 then _ else _)
  by_cases e : j < n
  · rw [if_pos e, if_pos (by omega), sAt_left (by omega)]
  · rw [if_neg e, if_neg (by omega)]

theorem joined_end {w wr : World} {N : Nat} {us : List ByteArray} (h : Joined w wr N (fun j => if j < N then sAt us j else ⟨#[]⟩)) (hn : us.length = N) : StrAt wr (some ⟨w.heap.size, 0, none⟩) w.heap.size 0 us := by
  refine ⟨fun _ => rfl, fun _ => h.row.lt, fun i hi => ?_⟩
  rw [Nat.zero_add]
  have := h.row.cell (i := i) (by omega)
  rw [if_pos (by omega)] at this
  exact this

theorem opS_of {x : ByteArray} {ss : List ByteArray} {i : Int} {p : Nat} (h : i = (p : Int) + 1) : opS x ss i = sAt ss p := by
  subst h
  unfold opS
  rw [if_neg (by omega)]
  congr 1
  omega

theorem opS_at {x : ByteArray} {us : List ByteArray} {i : Int} (h : 0 < i) : opS x us i = sAt us (i - 1).toNat := by
  unfold opS
  rw [if_neg (by omega)]
theorem opS_right {x : ByteArray} {ss ts : List ByteArray} {i : Int} {r : Nat} (hn : ss.length = r) (h : (r : Int) < i) : opS x (ss ++ ts) i = opS x ts (i - r) := by
  rw [opS_at (by omega), opS_at (by omega), show (i - 1).toNat = r + (i - r - 1).toNat from by omega]
  exact sAt_right hn _

set_option maxRecDepth 100000 in
set_option maxHeartbeats 1600000 in
theorem splits_any (x : ByteArray) (ao bo : Option Addr) (b off b2 off2 n m cap cap2 : Nat) (ss ts : List ByteArray) (i : Int) (w : World) (hx : x.size ≤ maxLen) (hn : ss.length = n) (hm : ts.length = m) (hnm : n ≤ maxLen) (hmm : m ≤ maxLen)
    (hs : StrAt w ao b off ss) (ht : StrAt w bo b2 off2 ts) (hsz : ∀ j, (sAt ss j).size ≤ maxLen) (htz : ∀ j, (sAt ts j).size ≤ maxLen) (hi0 : -9223372036854775808 ≤ i) (hi1 : i ≤ 9223372036854775807) :
    Calls Try.prog 3 #[.string x, .slice ao n cap, .slice bo m cap2, .int .i64 i] w fun e w' => e = .returned (.bool true) ∧ Below w.heap.size w w' := by
  have HB5 := hide (bytes5 x ao bo b off b2 off2 n m cap cap2 ss ts i w hx hn hm hnm hmm hs ht hsz htz)
  have HN := hide hn
  have HM := hide hm
  have HS := hide hs
  have HT := hide ht
  clear hn hm hs ht hsz htz hx hnm hmm
  have hq1 := fun W => run_neq_slice_nil_any (P := Try.prog) W 22 9 ao n cap 0 0 Try.underlying22
  have hq2 := fun W => run_neq_slice_nil_any (P := Try.prog) W 22 9 bo m cap2 0 0 Try.underlying22
  go_enter Try.func3, Try.ntmps3
  go_wp2_with fail
  refine HB5.out.mono ?_
  rintro e w' ⟨r, rfl, rfl, hr⟩
  cases r with
  | false =>
    go_wp2
    go_ret
    exact ⟨rfl, Below.refl _ _⟩
  | true =>
    obtain ⟨g1, g2, g3, g4, g5⟩ := hr rfl
    have HG4 := hide g4
    have HG5 := hide g5
    clear g4 g5 hr HB5
    go_upto_if 31 with fail
    go_cut [1] (fun v wc => ∃ ao' b' off' cap', v = .slice ao' n cap' ∧ Hid (StrAt wc ao' b' off' ss) ∧ Hid (Below w'.heap.size w' wc))
    case first =>
      cases ao with
      | none =>
        go_wp2
        go_meet
        case rel => exact ⟨none, b, off, cap, rfl, HS, Below.refl _ _⟩
      | some a =>
        have hmk := fun W => run_make_row' (P := Try.prog) 22 9 (.string ⟨#[]⟩) 16 Try.underlying22 Try.info9 rfl .i64 .i64 n (by omega) (by omega) W
        obtain ⟨w1, hcp, hs1, hb1⟩ := copy_run w' a b off n cap ss HN.out HS.out
        have HSS := hide hs1
        have HB1 := hide hb1
        clear hs1 hb1
        go_wp2
        go_meet
        case rel => exact ⟨_, _, _, n, rfl, HSS, HB1⟩
    case rest =>
      obtain ⟨ao', b', off', cap', rfl, HS2, HB2⟩ := hcut
      clear HS hq1
      have HT2 : Hid (StrAt wc bo b2 off2 ts) := HT.out.below HB2.out
      clear HT
      go_upto_if 40 with fail
      go_cut [2] (fun v wd => ∃ bo' b2' off2' cap2', v = .slice bo' m cap2' ∧ Hid (StrAt wd ao' b' off' ss) ∧ Hid (StrAt wd bo' b2' off2' ts) ∧ Hid (Below w'.heap.size w' wd))
      case first =>
        cases bo with
        | none =>
          go_wp2
          go_meet
          case rel => exact ⟨none, b2, off2, cap2, rfl, HS2, HT2, HB2⟩
        | some a =>
          have hmk := fun W => run_make_row' (P := Try.prog) 22 9 (.string ⟨#[]⟩) 16 Try.underlying22 Try.info9 rfl .i64 .i64 m (by omega) (by omega) W
          obtain ⟨w1, hcp, hs1, hb1⟩ := copy_run wc a b2 off2 m cap2 ts HM.out HT2.out
          have HSS := hide hs1
          have HB1 := hide hb1
          clear hs1 hb1
          go_wp2
          go_meet
          case rel => exact ⟨_, _, _, m, rfl, HS2.out.below HB1.out, HSS, HB2.out.trans (HB1.out.mono HB2.out.size)⟩
      case rest =>
        obtain ⟨bo', b2', off2', cap2', rfl, HS3, HT3, HB3⟩ := hcut
        clear HS2 HT2 HB2 hq2
        have hmk := fun W => run_make_row' (P := Try.prog) 22 9 (.string ⟨#[]⟩) 16 Try.underlying22 Try.info9 rfl .i64 .i64 (n + m) (by omega) (by omega) W
        have ec : ((n + m : Nat) : Int) = (n : Int) + (m : Int) := by omega
        rw [ec] at hmk
        clear ec
        go_wp2_with fail
        go_loop [11, 12] (fun t j => ∃ (k q : Nat), k ≤ n ∧ j = .int .i64 k ∧ t = .int .i64 q ∧ q ≤ 1048576) (fun _ j => n - (intOf j).toNat)
        case atStart => exact ⟨0, x.size, Nat.zero_le _, rfl, rfl, g1⟩
        case round =>
          obtain ⟨k, q, hk, rfl, rfl, hq⟩ := hrel
          by_cases hlt : k < n
          · obtain rfl : ao' = some ⟨b', off', none⟩ := HS3.out.at_ (by have := HN.out; omega)
            have hc0 := HS3.out.cell k (by have := HN.out; omega)
            have hz0 := HG4.out k (by have := HN.out; omega)
            generalize sAt ss k = s at *
            by_cases g5 : 1048576 < q + (16 + s.size)
            · go_wp2
              go_ret
              exact ⟨rfl, HB3.out⟩
            · go_wp2
              go_round
              case rel => exact ⟨k + 1, q + (16 + s.size), by omega, by go_num, by go_num, by omega⟩
              case measure => simp [intOf]; omega
          · obtain rfl : k = n := by omega
            go_wp2_with fail
            go_loop [11, 13] (fun t j => ∃ (l q : Nat), l ≤ m ∧ j = .int .i64 l ∧ t = .int .i64 q ∧ q ≤ 1048576) (fun _ j => m - (intOf j).toNat)
            case atStart => exact ⟨0, q, Nat.zero_le _, rfl, rfl, hq⟩
            case round =>
              obtain ⟨l, q2, hl, rfl, rfl, hq2⟩ := hrel
              by_cases hlt2 : l < m
              · obtain rfl : bo' = some ⟨b2', off2', none⟩ := HT3.out.at_ (by have := HM.out; omega)
                have hc0 := HT3.out.cell l (by have := HM.out; omega)
                have hz0 := HG5.out l (by have := HM.out; omega)
                generalize sAt ts l = s at *
                by_cases g5 : 1048576 < q2 + (16 + s.size)
                · go_wp2
                  go_ret
                  exact ⟨rfl, HB3.out⟩
                · go_wp2
                  go_round
                  case rel => exact ⟨l + 1, q2 + (16 + s.size), by omega, by go_num, by go_num, by omega⟩
                  case measure => simp [intOf]; omega
              · obtain rfl : l = m := by omega
                by_cases hneg : i < 0
                · go_wp2
                  go_ret
                  exact ⟨rfl, HB3.out⟩
                · go_wp2_with fail
                  go_loopw [15] (fun j wr => ∃ r : Nat, r ≤ k ∧ j = .int .i64 r ∧ Hid (Joined wc wr (k + l) (fun j => if j < r then sAt ss j else ⟨#[]⟩))) (fun j _ => k - (intOf j).toNat)
                  case atStart => exact ⟨0, Nat.zero_le _, rfl, joined_start wc (k + l)⟩
                  case round =>
                    obtain ⟨r, hr, rfl, HJ⟩ := hrel
                    by_cases hlt3 : r < k
                    · obtain rfl : ao' = some ⟨b', off', none⟩ := HS3.out.at_ (by have := HN.out; omega)
                      have hc0 : wr.cell? ⟨b', off' + r, none⟩ = some (.string (sAt ss r)) := by
                        rw [HJ.out.below.cell (p := ⟨b', off' + r, none⟩) (HS3.out.lt (by have := HN.out; omega))]
                        exact HS3.out.cell r (by have := HN.out; omega)
                      have hc1 := HJ.out.row.cell (i := r) (by omega)
                      have hf1 := HJ.out.row.frozen r
                      have hne1 : ¬ b' = wc.heap.size := by have := HS3.out.lt (by have := HN.out; omega); omega
                      have HJ2 : Hid (Joined wc (wr.setCell ⟨wc.heap.size, r, none⟩ (.string (sAt ss r))) (k + l) (fun j => if j < r + 1 then sAt ss j else ⟨#[]⟩)) := joined_step HJ.out rfl
                      generalize sAt ss r = s at *
                      go_wp2
                      go_roundw
                      case rel => exact ⟨r + 1, by omega, by go_num, HJ2⟩
                      case measure => simp [intOf]; omega
                    · obtain rfl : r = k := by omega
                      go_wp2_with fail
                      go_loopw [16] (fun j wr => ∃ t : Nat, t ≤ l ∧ j = .int .i64 t ∧ Hid (Joined wc wr (r + l) (fun j => if j < r + t then sAt (ss ++ ts) j else ⟨#[]⟩))) (fun j _ => l - (intOf j).toNat)
                      case atStart => exact ⟨0, Nat.zero_le _, rfl, joined_mid HJ.out HN.out⟩
                      case round =>
                        clear HJ
                        obtain ⟨t, ht, rfl, HJ⟩ := hrel
                        by_cases hlt4 : t < l
                        · obtain rfl : bo' = some ⟨b2', off2', none⟩ := HT3.out.at_ (by have := HM.out; omega)
                          have hc0 : wr.cell? ⟨b2', off2' + t, none⟩ = some (.string (sAt ts t)) := by
                            rw [HJ.out.below.cell (p := ⟨b2', off2' + t, none⟩) (HT3.out.lt (by have := HM.out; omega))]
                            exact HT3.out.cell t (by have := HM.out; omega)
                          have hc1 := HJ.out.row.cell (i := r + t) (by omega)
                          have hf1 := HJ.out.row.frozen (r + t)
                          have hne1 : ¬ b2' = wc.heap.size := by have := HT3.out.lt (by have := HM.out; omega); omega
                          have HJ2 : Hid (Joined wc (wr.setCell ⟨wc.heap.size, r + t, none⟩ (.string (sAt ts t))) (r + l) (fun j => if j < r + t + 1 then sAt (ss ++ ts) j else ⟨#[]⟩)) := joined_step HJ.out (sAt_right HN.out t)
                          generalize sAt ts t = s at *
                          go_wp2
                          go_roundw
                          case rel => exact ⟨t + 1, by omega, by go_num, HJ2⟩
                          case measure => simp [intOf]; omega
                        · obtain rfl : t = l := by omega
                          have HL : Hid ((ss ++ ts).length = r + t) := by
                            have h1 := HN.out
                            have h2 := HM.out
                            show (ss ++ ts).length = r + t
                            rw [List.length_append, h1, h2]
                          have HJS : Hid (StrAt wr (some ⟨wc.heap.size, 0, none⟩) wc.heap.size 0 (ss ++ ts)) := joined_end HJ.out HL.out
                          have HSR : Hid (StrAt wr ao' b' off' ss) := HS3.out.below HJ.out.below
                          have HTR : Hid (StrAt wr bo' b2' off2' ts) := HT3.out.below HJ.out.below
                          have HBR : Hid (Below w'.heap.size w' wr) := HB3.out.trans (HJ.out.below.mono HB3.out.size)
                          clear HJ HS3 HT3 HB3
                          by_cases hz : i = 0
                          · subst hz
                            go_wp2_with fail
                            refine (operand_yes x _ wc.heap.size 0 (r + t) _ (ss ++ ts) 0 x wr HL.out (by omega) HJS.out (by omega) (by omega) rfl).mono ?_
                            rintro e w1 ⟨rfl, hb1⟩
                            have HB1 := hide hb1
                            clear hb1
                            go_wp2_with fail
                            refine (operand_yes x ao' b' off' r cap' ss 0 x w1 HN.out (by omega) (HSR.out.below HB1.out) (by omega) (by omega) rfl).mono ?_
                            rintro e w2 ⟨rfl, hb2⟩
                            have HB2 : Hid (Below w'.heap.size w' w2) := HBR.out.trans ((HB1.out.mono HBR.out.size).trans (hb2.mono (Nat.le_trans HBR.out.size HB1.out.size)))
                            clear hb2
                            go_wp2
                            go_ret
                            exact ⟨rfl, HB2.out⟩
                          · by_cases hir : i ≤ r
                            · obtain ⟨p, rfl⟩ : ∃ p : Nat, i = (p : Int) + 1 := ⟨(i - 1).toNat, by omega⟩
                              have hpr : (p : Int) + 1 ≤ (r : Int) := by omega
                              have hp0 : (0 : Int) ≤ (p : Int) := by omega
                              clear hi0 hi1 hz hneg hir
                              have HX : Hid (sAt (ss ++ ts) p = sAt ss p) := sAt_left (by have := HN.out; omega)
                              have HC : Hid (wr.cell? ⟨wc.heap.size, p, none⟩ = some (.string (sAt ss p))) := by
                                have h1 := HJS.out.cell p (by have := HL.out; omega)
                                rw [HX.out, Nat.zero_add] at h1
                                exact h1
                              have HW : Hid (wc.heap.size < wr.heap.size) := HJS.out.lt (by have := HL.out; omega)
                              have HY : Hid (opS x (ss ++ ts) ((p : Int) + 1) = sAt ss p) := (opS_of rfl).trans HX.out
                              have HY2 : Hid (opS x ss ((p : Int) + 1) = sAt ss p) := opS_of rfl
                              generalize sAt ss p = s at *
                              go_wp2_with fail
                              refine (operand_yes x _ wc.heap.size 0 (r + t) _ (ss ++ ts) ((p : Int) + 1) s wr HL.out (by omega) HJS.out (by omega) (by omega) HY.out).mono ?_
                              rintro e w1 ⟨rfl, hb1⟩
                              have HB1 := hide hb1
                              clear hb1
                              go_wp2_with fail
                              refine (operand_yes x ao' b' off' r cap' ss ((p : Int) + 1) s w1 HN.out (by omega) (HSR.out.below HB1.out) (by omega) (by omega) HY2.out).mono ?_
                              rintro e w2 ⟨rfl, hb2⟩
                              have hc2 : w2.cell? ⟨wc.heap.size, p, none⟩ = some (.string s) := by
                                rw [hb2.cell (p := ⟨wc.heap.size, p, none⟩) (Nat.lt_of_lt_of_le HW.out HB1.out.size), HB1.out.cell (p := ⟨wc.heap.size, p, none⟩) HW.out]
                                exact HC.out
                              have HB2 : Hid (Below w'.heap.size w' w2) := HBR.out.trans ((HB1.out.mono HBR.out.size).trans (hb2.mono (Nat.le_trans HBR.out.size HB1.out.size)))
                              clear hb2
                              go_wp2
                              go_ret
                              exact ⟨rfl, HB2.out⟩
                            · have hgr : (r : Int) < i := by omega
                              have HY : Hid (opS x (ss ++ ts) i = opS x ts (i - r)) := opS_right HN.out hgr
                              by_cases hit : i ≤ (r : Int) + (t : Int)
                              · clear hi0 hi1
                                obtain ⟨p, rfl⟩ : ∃ p : Nat, i = (p : Int) + 1 := ⟨(i - 1).toNat, by omega⟩
                                have HC : Hid (wr.cell? ⟨wc.heap.size, p, none⟩ = some (.string (opS x ts ((p : Int) + 1 - r)))) := by
                                  have h1 := HJS.out.cell p (by have := HL.out; omega)
                                  rw [Nat.zero_add, ← opS_of (x := x) (i := (p : Int) + 1) rfl, HY.out] at h1
                                  exact h1
                                have HW : Hid (wc.heap.size < wr.heap.size) := HJS.out.lt (by have := HL.out; omega)
                                have hp0 : (0 : Int) ≤ (p : Int) := by omega
                                have hp1 : (r : Int) ≤ (p : Int) := by omega
                                have hp2 : (p : Int) + 1 ≤ (r : Int) + (t : Int) := by omega
                                clear hz hneg hir hgr hit
                                obtain ⟨s, hs⟩ : ∃ s, opS x ts ((p : Int) + 1 - r) = s := ⟨_, rfl⟩
                                rw [hs] at HY HC
                                have HS := hide hs
                                clear hs
                                go_wp2_with fail
                                refine (operand_yes x _ wc.heap.size 0 (r + t) _ (ss ++ ts) ((p : Int) + 1) s wr HL.out (by omega) HJS.out (by omega) (by omega) HY.out).mono ?_
                                rintro e w1 ⟨rfl, hb1⟩
                                have HB1 := hide hb1
                                clear hb1
                                go_wp2_with fail
                                refine (operand_yes x bo' b2' off2' t cap2' ts ((p : Int) + 1 - r) s w1 HM.out (by omega) (HTR.out.below HB1.out) (by omega) (by omega) HS.out).mono ?_
                                rintro e w2 ⟨rfl, hb2⟩
                                have hc2 : w2.cell? ⟨wc.heap.size, p, none⟩ = some (.string s) := by
                                  rw [hb2.cell (p := ⟨wc.heap.size, p, none⟩) (Nat.lt_of_lt_of_le HW.out HB1.out.size), HB1.out.cell (p := ⟨wc.heap.size, p, none⟩) HW.out]
                                  exact HC.out
                                have HB2 : Hid (Below w'.heap.size w' w2) := HBR.out.trans ((HB1.out.mono HBR.out.size).trans (hb2.mono (Nat.le_trans HBR.out.size HB1.out.size)))
                                clear hb2
                                go_wp2
                                go_ret
                                exact ⟨rfl, HB2.out⟩
                              · clear hi0 hz hneg hir HY
                                have hgt : (r : Int) + (t : Int) < i := by omega
                                go_wp2_with fail
                                refine (operand_no x _ wc.heap.size 0 (r + t) _ (ss ++ ts) i wr HL.out (by omega) HJS.out (by omega) (by omega)).mono ?_
                                rintro e w1 ⟨rfl, hb1⟩
                                have HB1 := hide hb1
                                clear hb1
                                go_wp2_with fail
                                refine (operand_no x bo' b2' off2' t cap2' ts (i - r) w1 HM.out (by omega) (HTR.out.below HB1.out) (by omega) (by omega)).mono ?_
                                rintro e w2 ⟨rfl, hb2⟩
                                have HB2 : Hid (Below w'.heap.size w' w2) := HBR.out.trans ((HB1.out.mono HBR.out.size).trans (hb2.mono (Nat.le_trans HBR.out.size HB1.out.size)))
                                clear hb2
                                go_wp2
                                go_ret
                                exact ⟨rfl, HB2.out⟩

end Go.Proofs.Qxb6613630a
