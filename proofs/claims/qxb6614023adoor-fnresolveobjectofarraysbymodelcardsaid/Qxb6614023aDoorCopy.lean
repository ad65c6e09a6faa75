/-
  'make, copy' of a slice of strings.
-/
import Derived.Test.Qxb6614023aDoorGrid
import Derived.Laws.CopyOwn
namespace Go.Proofs.Qxb6614023aDoor
open Go.RowKit

theorem Tryd.size9 : (Tryd.prog.info? 9).map (·.size) = some 1 := by kernel_rfl

/-- The strings as cells. -/
def sCells (ss : List ByteArray) : List Value := ss.map Value.string
theorem sCells_length (ss : List ByteArray) : (sCells ss).length = ss.length := by simp [sCells]
theorem sCells_get (ss : List ByteArray) (j : Nat) (h : j < ss.length) : (sCells ss)[j]? = some (.string (sAt ss j)) := by
  simp [sCells, sAt, List.getD_eq_getElem?_getD, List.getElem?_eq_getElem h]
theorem sCells_one (ss : List ByteArray) : ∀ v ∈ sCells ss, v.oneCell' = true := by
  intro v hv
  obtain ⟨s, _, rfl⟩ := List.mem_map.1 hv
  rfl

/-- What make laid, as a list. -/
def zCells (n : Nat) : List Value := (madeCells #[.string ⟨#[]⟩] n).toList
theorem zCells_length (n : Nat) : (zCells n).length = n := by simp [zCells, size_madeCells]

/-- A row that was copied over whole holds the strings. -/
theorem strAt_copied {w : World} {g n : Nat} {ss : List ByteArray} (hn : ss.length = n) (h : w.heap[g]? = some (.cells (splice (zCells n) 0 (sCells ss)).toArray 9 (0, 0))) : StrAt w (some ⟨g, 0, none⟩) g 0 ss := by
  have e : splice (zCells n) 0 (sCells ss) = sCells ss := by
    simp [splice, zCells_length, sCells_length, hn]
  rw [e] at h
  have hlt : g < w.heap.size := by
    rcases Nat.lt_or_ge g w.heap.size with h' | h'
    · exact h'
    · rw [Array.getElem?_eq_none h'] at h; cases h
  refine ⟨fun _ => rfl, fun _ => hlt, fun i hi => ?_⟩
  have hc := sCells_get ss i hi
  simp only [World.cell?, h, Nat.zero_add]
  simpa using hc

theorem copy_hg (w : World) (n : Nat) : (w.alloc (.cells (madeCells #[.string ⟨#[]⟩] n) 9)).heap[w.heap.size]? = some (.cells (zCells n).toArray 9 (0, 0)) := by
  rw [heap_alloc_new]
  simp [zCells]
theorem copy_hn {n : Nat} {ss : List ByteArray} (h : ss.length = n) : (sCells ss).length = Nat.min n n := by
  rw [sCells_length, h]
  exact (Nat.min_self n).symm
theorem copy_hfit {n : Nat} {ss : List ByteArray} (h : ss.length = n) : 0 + (sCells ss).length ≤ (zCells n).length := by
  rw [sCells_length, zCells_length]
  omega
theorem copy_hpos {w : World} {o : Obj} {a : Addr} {b off n g : Nat} {ss : List ByteArray} (h : StrAt w (some a) b off ss) (_ : ss.length = n) :
    0 < (sCells ss).length → some (⟨g, 0, none⟩ : Addr) = some ⟨g, 0, none⟩ ∧ ∃ ad, some a = some ad ∧ ∀ j v, (sCells ss)[j]? = some v → (w.alloc o).cell? (ad.add j) = some v := by
  intro h0
  rw [sCells_length] at h0
  have ha : a = ⟨b, off, none⟩ := Option.some.inj (h.at_ h0)
  subst ha
  refine ⟨rfl, _, rfl, fun j v hv => ?_⟩
  have hj : j < ss.length := by
    rcases Nat.lt_or_ge j ss.length with h' | h'
    · exact h'
    · rw [List.getElem?_eq_none (by rw [sCells_length]; exact h')] at hv; cases hv
  rw [sCells_get ss j hj] at hv
  have hadd : (⟨b, off, none⟩ : Addr).add j = ⟨b, off + j, none⟩ := by simp [Addr.add]
  rw [hadd, ← hv, ((Below.refl w.heap.size w).alloc (Nat.le_refl _) o).cell (p := ⟨b, off + j, none⟩) (h.lt h0)]
  exact h.cell j hj

/-- 'zzc := make([]string, n); copy(zzc, a)': the copy's run. -/
theorem copy_run (w : World) (a : Addr) (b off n cap : Nat) (ss : List ByteArray) (hn : ss.length = n) (h : StrAt w (some a) b off ss) :
    ∃ w1, (Builtin.copy_ #[23, 23] 3 #[.slice (some ⟨w.heap.size, 0, none⟩) n n, .slice (some a) n cap]).run Tryd.prog (w.alloc (.cells (madeCells #[.string ⟨#[]⟩] n) 9)) = .ok (goInt n) w1 ∧
      StrAt w1 (some ⟨w.heap.size, 0, none⟩) w.heap.size 0 ss ∧ Below w.heap.size w w1 := by
  have hB : Below w.heap.size w (w.alloc (.cells (madeCells #[.string ⟨#[]⟩] n) 9)) := (Below.refl _ _).alloc (Nat.le_refl _) _
  by_cases h0 : n = 0
  · subst h0
    obtain rfl : ss = [] := List.eq_nil_of_length_eq_zero hn
    exact ⟨_, run_copy_none (P := Tryd.prog) _ 23 23 3 9 _ _ 0 0 0 cap Tryd.underlying23 Tryd.size9 rfl, ⟨fun h => absurd h (by simp), fun h => absurd h (by simp), fun i hi => absurd hi (by simp)⟩, hB⟩
  · obtain ⟨_, ad, e, hsrc⟩ := copy_hpos (g := 0) (o := .cells (madeCells #[.string ⟨#[]⟩] n) 9) h hn (by rw [sCells_length]; omega)
    obtain rfl : a = ad := Option.some.inj e
    have hrun := run_copy_row (P := Tryd.prog) (w.alloc (.cells (madeCells #[.string ⟨#[]⟩] n) 9)) 23 23 3 9 w.heap.size 0 n n a n cap (zCells n).toArray 9 (sCells ss) Tryd.underlying23 Tryd.size9 (copy_hg w n) (copy_hn hn) hsrc (by simpa using copy_hfit hn) (sCells_one ss)
    rw [sCells_length, hn] at hrun
    refine ⟨_, hrun, strAt_copied hn ?_, below_setRow hB (Nat.le_refl _) _⟩
    have := setRow_heap (w.alloc (.cells (madeCells #[.string ⟨#[]⟩] n) 9)) w.heap.size (zCells n).toArray (List.take 0 (zCells n).toArray.toList ++ sCells ss ++ List.drop (0 + n) (zCells n).toArray.toList).toArray 9 _ (copy_hg w n)
    rw [this]
    simp [splice, sCells_length, hn]

/-! ### What ZZresolveGrid answers, token by token -/
theorem ts_one {ts : List ByteArray} (h : 0 < ts.length) : ts = sAt ts 0 :: ts.drop 1 := by
  have := drop_at (ts := ts) (k := 0) h
  simpa using this

theorem gridAns_nil {B : Nat} {R : List RowV} {ts : List ByteArray} (h : ts.length = 0) : gridAns B R ts = .tuple #[.string ⟨#[]⟩, .int .i64 2, .int .i64 R.length, .bool true] := by
  obtain rfl : ts = [] := List.eq_nil_of_length_eq_zero h
  unfold gridAns
  rw [follow_nil]
  rfl
theorem gridAns_no0 {B : Nat} {R : List RowV} {ts : List ByteArray} (h : 0 < ts.length) (h0 : idx (sAt ts 0).data.toList R.length = none) : gridAns B R ts = .tuple #[.string ⟨#[]⟩, .int .i64 0, .int .i64 0, .bool false] := by
  unfold gridAns
  rw [ts_one h, follow_none (by rw [step_idx, h0]; rfl)]
  rfl
theorem follow_a {B a : Nat} {R : List RowV} {ts : List ByteArray} (h : 0 < ts.length) (h0 : idx (sAt ts 0).data.toList R.length = some a) :
    follow (gridF B R) noMap (.iface 33 (.slice (some ⟨B, 0, none⟩) R.length R.length)) ts = follow (gridF B R) noMap (rowV B R a) (ts.drop 1) := by
  rw [congrArg (follow (gridF B R) noMap (.iface 33 (.slice (some ⟨B, 0, none⟩) R.length R.length))) (ts_one h), follow_some (v' := rowV B R a) (by rw [step_idx, h0, ← gridF_top]; rfl)]
theorem gridAns_one {B a : Nat} {R : List RowV} {ts : List ByteArray} (h : ts.length = 1) (h0 : idx (sAt ts 0).data.toList R.length = some a) : gridAns B R ts = .tuple #[.string ⟨#[]⟩, .int .i64 2, .int .i64 (rAt R a).ss.length, .bool true] := by
  unfold gridAns
  rw [follow_a (by omega) h0, List.drop_of_length_le (by omega), follow_nil]
  rfl
theorem gridAns_no1 {B a : Nat} {R : List RowV} {ts : List ByteArray} (h : 1 < ts.length) (h0 : idx (sAt ts 0).data.toList R.length = some a) (h1 : idx (sAt ts 1).data.toList (rAt R a).ss.length = none) : gridAns B R ts = .tuple #[.string ⟨#[]⟩, .int .i64 0, .int .i64 0, .bool false] := by
  unfold gridAns
  rw [follow_a (by omega) h0, drop_at h, follow_none (by rw [rowV, step_idx, h1]; rfl)]
  rfl
theorem follow_b {B a b : Nat} {R : List RowV} {ts : List ByteArray} (h : 1 < ts.length) (h0 : idx (sAt ts 0).data.toList R.length = some a) (h1 : idx (sAt ts 1).data.toList (rAt R a).ss.length = some b) :
    follow (gridF B R) noMap (.iface 33 (.slice (some ⟨B, 0, none⟩) R.length R.length)) ts = follow (gridF B R) noMap (itemV (rAt R a).ss b) (ts.drop 2) := by
  rw [follow_a (by omega) h0, drop_at h, follow_some (v' := itemV (rAt R a).ss b) (by rw [rowV, step_idx, h1, ← gridF_row]; rfl)]
theorem gridAns_two {B a b : Nat} {R : List RowV} {ts : List ByteArray} (h : ts.length = 2) (h0 : idx (sAt ts 0).data.toList R.length = some a) (h1 : idx (sAt ts 1).data.toList (rAt R a).ss.length = some b) :
    gridAns B R ts = .tuple #[.string (sAt (rAt R a).ss b), .int .i64 1, .int .i64 0, .bool true] := by
  unfold gridAns
  rw [follow_b (by omega) h0 h1, List.drop_of_length_le (by omega), follow_nil]
  rfl
theorem gridAns_far {B a b : Nat} {R : List RowV} {ts : List ByteArray} (h : 2 < ts.length) (h0 : idx (sAt ts 0).data.toList R.length = some a) (h1 : idx (sAt ts 1).data.toList (rAt R a).ss.length = some b) :
    gridAns B R ts = .tuple #[.string ⟨#[]⟩, .int .i64 0, .int .i64 0, .bool false] := by
  unfold gridAns
  rw [follow_b (by omega) h0 h1, drop_at h, follow_none (by rw [itemV, step_str])]
  rfl

end Go.Proofs.Qxb6614023aDoor
