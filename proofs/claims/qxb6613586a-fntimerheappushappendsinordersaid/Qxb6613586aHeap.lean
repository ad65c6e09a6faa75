/-
  The walks over the timer heap.
-/
import Derived.Test.Qxb6613586aTime2
import Derived.Deep.AppendLies
import Derived.Laws.EntriesVeiled
import Derived.OwnWalk
import Derived.Laws.Pointers
import Derived.StillTactics
import Derived.KernelRfl
import Derived.Deep.RegionLaw
import Derived.Deep.DrawnRows
namespace Go.Proofs.Qxb6613586a
open Go.RowKit
attribute [local go_sem] Go.wp_at_zero Go.wp_at_succ

theorem Try.info39 : (Try.prog.info? 39).map (fun i => (i.zero, i.size, i.bytes)) = some (some (.agg #[.int .u64 0, .int .i64 0, .pointer none, .nilFunc]), 4, 32) := by kernel_rfl

/-- A timer's four cells, d nanoseconds after the zero time. -/
def tc (d : Int) : List Value := [.int .u64 (d % 1000000000), .int .i64 (d / 1000000000), .pointer none, .nilFunc]

theorem tc_length (d : Int) : (tc d).length = 4 := rfl

theorem tcs_length : ∀ ds : List Int, (ds.flatMap tc).length = ds.length * 4
  | [] => rfl
  | d :: ds => by simp [tcs_length ds, tc_length]; omega

/-- In world w the pointer to block hb leads to a slice, over a row of the call's own from block B on, that holds the timers ds. -/
structure HeapAt (B hb : Nat) (w : World) (g cap : Nat) (ds : List Int) : Prop where
  cell : w.cell? ⟨hb, 0, none⟩ = some (.slice (some ⟨g, 0, none⟩) ds.length cap)
  frozen : w.frozen? ⟨hb, 0, none⟩ = false
  ne : g ≠ hb
  lt : hb < w.heap.size
  ge : B ≤ hb
  owns : w.ownsRow B 39 4 (.slice (some ⟨g, 0, none⟩) ds.length cap) ds.length (ds.flatMap tc)

theorem HeapAt.below {B hb g cap : Nat} {w w' : World} {ds : List Int} (h : HeapAt B hb w g cap ds) (hb' : Below w.heap.size w w') : HeapAt B hb w' g cap ds := by
  refine ⟨?_, ?_, h.ne, Nat.lt_of_lt_of_le h.lt hb'.size, h.ge, ?_⟩
  · rw [hb'.cell (p := ⟨hb, 0, none⟩) h.lt]; exact h.cell
  · rw [hb'.frozen (p := ⟨hb, 0, none⟩) h.lt]; exact h.frozen
  · have hl := (h.owns.lt g rfl).2
    exact h.owns.kept (row := none) ⟨hb'.os, hb'.tape, hb'.output, hb'.size, fun k hk _ => hb'.block k hk⟩ (.inr (by simp [Value.ownBlock]))

set_option maxHeartbeats 400000 in
theorem new_any (w : World) :
    Calls Try.prog 5 #[] w fun e w' => e = .returned (.pointer (some ⟨w.heap.size + 1, 0, none⟩)) ∧ HeapAt w.heap.size (w.heap.size + 1) w' w.heap.size 0 [] ∧ Below w.heap.size w w' := by
  go_enter Try.func5, Try.ntmps5
  go_wp2
  go_ret
  refine ⟨rfl, ⟨by simp, by simp, by omega, by simp, by omega, ?_⟩, ((Below.refl _ _).alloc (Nat.le_refl _) _).alloc (by simp) _⟩
  refine World.ownsRow.alloc ?_ _
  exact w.ownsRow_lit #[] 0 (Nat.le_refl _) (Nat.zero_le _) rfl

theorem grown_old {w w1 : World} {o : Obj} {hb g n cap : Nat} (hlt : hb < w.heap.size) (hne : g ≠ hb) (hg : (w.alloc o).drew.grownBy w1 (Value.slice (some ⟨g, 0, none⟩) n cap).ownBlock) :
    w1.cell? ⟨hb, 0, none⟩ = w.cell? ⟨hb, 0, none⟩ ∧ w1.frozen? ⟨hb, 0, none⟩ = w.frozen? ⟨hb, 0, none⟩ := by
  have hs : (w.alloc o).drew.heap.size = w.heap.size + 1 := by simp
  have hB := ((Below.refl w.heap.size w).alloc (Nat.le_refl _) o).drew
  have hn : some hb ≠ (Value.slice (some ⟨g, 0, none⟩) n cap).ownBlock := by
    simp only [Value.ownBlock]
    intro h
    exact hne (Option.some.inj h).symm
  rw [hg.cell_far ⟨hb, 0, none⟩ (by rw [hs]; exact Nat.lt_succ_of_lt hlt) hn, hg.frozen_far ⟨hb, 0, none⟩ (by rw [hs]; exact Nat.lt_succ_of_lt hlt) hn]
  exact ⟨hB.cell (p := ⟨hb, 0, none⟩) hlt, hB.frozen (p := ⟨hb, 0, none⟩) hlt⟩

/-- What a push leaves. -/
def Pushed (B hb : Nat) (w w' : World) (n : Nat) (ys : List Value) : Prop :=
  ∃ g cap, w'.cell? ⟨hb, 0, none⟩ = some (.slice (some ⟨g, 0, none⟩) (n + 1) cap) ∧ w'.frozen? ⟨hb, 0, none⟩ = false ∧ g ≠ hb ∧ hb < w'.heap.size ∧
    w'.ownsRow B 39 4 (.slice (some ⟨g, 0, none⟩) (n + 1) cap) (n + 1) ys ∧ Below B w w'

theorem ownsRow_setCell_far {w : World} {base : Nat} {e : TypeId} {size : Nat} {g n m cap : Nat} {xs : List Value} (h : w.ownsRow base e size (.slice (some ⟨g, 0, none⟩) m cap) n xs) {a : Addr} (ha : g ≠ a.block) (u : Value) :
    (w.setCell a u).ownsRow base e size (.slice (some ⟨g, 0, none⟩) m cap) n xs := by
  obtain ⟨h1, h2⟩ := h
  refine ⟨h1, ?_⟩
  rcases h2 with h2 | ⟨g', cap', cur, hv, hg, hh, r⟩
  · exact Or.inl h2
  · have e : g = g' := by simp at hv; exact hv.1
    subst e
    exact Or.inr ⟨g, cap', cur, hv, hg, by rw [Below.heap_setCell _ _ _ _ ha]; exact hh, r⟩

theorem pushed_of {B hb g n cap gg cap1 : Nat} {w w1 : World} {o : Obj} {v : Value} {ys : List Value} (hlt : hb < w.heap.size) (hne : g ≠ hb) (hB : B ≤ hb) (hf1 : w1.frozen? ⟨hb, 0, none⟩ = false) (hc1 : w1.cell? ⟨hb, 0, none⟩ = some v)
    (hown1 : w1.ownsRow B 39 4 (.slice (some ⟨gg, 0, none⟩) (n + 1) cap1) (n + 1) ys) (hg : (w.alloc o).drew.grownBy w1 (Value.slice (some ⟨g, 0, none⟩) n cap).ownBlock)
    (hat : (Value.slice (some ⟨g, 0, none⟩) n cap).ownBlock = some gg ∨ gg = w.heap.size + 1) (hgB : B ≤ g) :
    Pushed B hb w (w1.setCell ⟨hb, 0, none⟩ (.slice (some ⟨gg, 0, none⟩) (n + 1) cap1)) n ys := by
  have hs : (w.alloc o).drew.heap.size = w.heap.size + 1 := by simp
  have hgg : gg ≠ hb := by
    rcases hat with h | h
    · simp [Value.ownBlock] at h
      omega
    · omega
  have hs1 := hg.size
  rw [hs] at hs1
  have hB1 : Below B w w1 := ((Below.refl B w).alloc (by omega) o).drew.grown hg (by rw [hs]; omega) (fun k hk => by simp [Value.ownBlock] at hk; omega)
  refine ⟨gg, cap1, ?_, ?_, hgg, ?_, ownsRow_setCell_far hown1 hgg _, hB1.setCell hB _⟩
  · exact World.cell?_setCell_same' _ _ _ (by rw [hc1]; rfl)
  · simpa using hf1
  · simp
    omega

theorem assert39 (v : Value) (w : World) : (Instr.typeAssert (.iface 39 v) 20 39 false).run Try.prog w = .ok v w := by kernel_rfl

set_option maxRecDepth 100000 in
set_option maxHeartbeats 1600000 in
theorem push_any (B hb g cap n : Nat) (xs : List Value) (d : Int) (w : World)
    (hcell : w.cell? ⟨hb, 0, none⟩ = some (.slice (some ⟨g, 0, none⟩) n cap)) (hfz : w.frozen? ⟨hb, 0, none⟩ = false) (hne : g ≠ hb) (hlt : hb < w.heap.size) (hB : B ≤ hb)
    (hown : w.ownsRow B 39 4 (.slice (some ⟨g, 0, none⟩) n cap) n xs) (hn : n ≤ 1000000) :
    Calls Try.prog 9 #[.pointer (some ⟨hb, 0, none⟩), .iface 39 (.agg #[.int .u64 (d % 1000000000), .int .i64 (d / 1000000000), .pointer none, .nilFunc])] w fun e w' => e = .returned (.tuple #[]) ∧ Pushed B hb w w' n (xs ++ tc d) := by
  obtain ⟨i0, hi0, hz0, hz1, hz2⟩ := info_parts Try.info39
  have ag : (Value.slice (some ⟨g, 0, none⟩) n cap).ownBlock ≠ some hb := by simpa [Value.ownBlock] using hne
  have hgB := (hown.lt g rfl).1
  have HO : Hid (w.ownsRow B 39 4 (.slice (some ⟨g, 0, none⟩) n cap) n xs) := hown
  clear hown
  have hta := fun (W : World) => assert39 (.agg #[.int .u64 (d % 1000000000), .int .i64 (d / 1000000000), .pointer none, .nilFunc]) W
  go_enter Try.func9, Try.ntmps9
  go_wp2_with fail
  go_region_law ((refine step_append_lies _ (by rfl) _ _ _ (by rfl) B 39 i0 _ 4 32 Try.underlying30 hi0 hz0 hz1 hz2 rfl (by omega) (.slice (some ⟨g, 0, none⟩) n cap) n xs (by rfl) ((HO.out.alloc _).drew) ⟨w.heap.size, 0, none⟩ 1 1 (tc d) (by rfl) (by rfl) (World.news_of_block (cs := (tc d).toArray) (t := 39) (fr := (0, 0)) (heap_alloc_new w _)) (by simp [tc, Value.oneCell']) (by omega) (by unfold maxLen; omega) (by omega) (by simp; omega) (w.heap.size + 1) (by simp) ?_; intro gg cap1 w1 hown1 hgrow hat _; have hc1 := (grown_old hlt hne hgrow).1.trans hcell; have hf1 := (grown_old hlt hne hgrow).2.trans hfz))
  all_goals go_end0
  all_goals exact ⟨rfl, pushed_of hlt hne hB hf1 hc1 hown1 hgrow hat hgB⟩

theorem push_heap {B hb g cap : Nat} {w : World} {ds : List Int} (d : Int) (h : HeapAt B hb w g cap ds) (hn : ds.length ≤ 1000000) :
    Calls Try.prog 9 #[.pointer (some ⟨hb, 0, none⟩), .iface 39 (.agg #[.int .u64 (d % 1000000000), .int .i64 (d / 1000000000), .pointer none, .nilFunc])] w fun e w' => e = .returned (.tuple #[]) ∧ (∃ g' cap', HeapAt B hb w' g' cap' (ds ++ [d])) ∧ Below B w w' := by
  refine (push_any B hb g cap ds.length (ds.flatMap tc) d w h.cell h.frozen h.ne h.lt h.ge h.owns hn).mono ?_
  rintro e w' ⟨rfl, g', cap', h1, h2, h3, h4, h5, h6⟩
  have el : (ds ++ [d]).length = ds.length + 1 := by simp
  refine ⟨rfl, ⟨g', cap', ⟨by rw [el]; exact h1, h2, h3, h4, h.ge, ?_⟩⟩, h6⟩
  rw [el]
  simpa using h5
set_option maxHeartbeats 400000 in
theorem pushAt_any {B hb g cap : Nat} {w : World} {ds : List Int} (d : Int) (h : HeapAt B hb w g cap ds) (hn : ds.length ≤ 1000000) (h0 : -9223372036854775808 ≤ d) (h1 : d ≤ 9223372036854775807) (hBw : B ≤ w.heap.size) :
    Calls Try.prog 6 #[.pointer (some ⟨hb, 0, none⟩), .int .i64 d] w fun e w' => e = .returned (.tuple #[]) ∧ (∃ g' cap', HeapAt B hb w' g' cap' (ds ++ [d])) ∧ Below B w w' := by
  have HH : Hid (HeapAt B hb w g cap ds) := h
  clear h
  go_enter Try.func6, Try.ntmps6
  go_wp2_with fail
  refine (add_zero d _ h0 h1).mono ?_
  rintro e w1 ⟨rfl, hb1⟩
  have HB1 : Hid (Below w.heap.size w w1) := hb1
  clear hb1
  unfold tm
  go_wp2_with fail
  refine (push_heap d (HH.out.below HB1.out) hn).mono ?_
  rintro e w2 ⟨rfl, h2, hb2⟩
  have H2 : Hid (∃ g' cap', HeapAt B hb w2 g' cap' (ds ++ [d])) := h2
  have HB2 : Hid (Below B w1 w2) := hb2
  clear h2 hb2
  go_wp2_with fail
  go_end0
  exact ⟨rfl, H2.out, (HB1.out.mono hBw).trans HB2.out⟩

set_option maxHeartbeats 400000 in
theorem heapLen_any (hb g n cap : Nat) (w : World) (hc : w.cell? ⟨hb, 0, none⟩ = some (.slice (some ⟨g, 0, none⟩) n cap)) :
    Calls Try.prog 7 #[.pointer (some ⟨hb, 0, none⟩)] w fun e w' => e = .returned (.int .i64 n) ∧ w' = w := by
  go_enter Try.func7, Try.ntmps7
  go_wp2
  go_ret
  exact ⟨rfl, rfl⟩

set_option maxHeartbeats 400000 in
theorem heapAt_any (hb g n cap i : Nat) (d s m : Int) (w : World) (hc : w.cell? ⟨hb, 0, none⟩ = some (.slice (some ⟨g, 0, none⟩) n cap)) (hi : i < n)
    (c0 : w.cell? ⟨g, i * 4, none⟩ = some (.int .u64 m)) (c1 : w.cell? ⟨g, i * 4 + 1, none⟩ = some (.int .i64 s)) (c2 : w.cell? ⟨g, i * 4 + 2, none⟩ = some (.pointer none))
    (h0 : -9223372036854775808 ≤ d) (h1 : d ≤ 9223372036854775807) (hs : Hid (d / 1000000000 = s)) (hm : Hid (d % 1000000000 = m)) :
    Calls Try.prog 8 #[.pointer (some ⟨hb, 0, none⟩), .int .i64 i] w fun e w' => e = .returned (.int .i64 d) ∧ Below w.heap.size w w' := by
  have m0 : 0 ≤ m := by have := hm.out; omega
  have m1 : m < 1000000000 := by have := hm.out; omega
  go_enter Try.func8, Try.ntmps8
  go_wp2_with fail
  refine (sub_zero s m d _ m0 m1 h0 h1 hs.out hm.out).mono ?_
  rintro e w1 ⟨rfl, hb1⟩
  have HB1 : Hid (Below w.heap.size w w1) := hb1
  clear hb1
  go_wp2_with fail
  go_ret
  exact ⟨rfl, HB1.out⟩

theorem tcs_get : ∀ (ds : List Int) (i r : Nat) (d : Int), ds[i]? = some d → r < 4 → (ds.flatMap tc)[i * 4 + r]? = (tc d)[r]?
  | [], i, r, d, h, _ => by simp at h
  | e :: ds, 0, r, d, h, hr => by
    obtain rfl : e = d := by simpa using h
    rw [List.flatMap_cons, List.getElem?_append_left (by rw [tc_length]; omega)]
    simp
  | e :: ds, i + 1, r, d, h, hr => by
    have h' : ds[i]? = some d := by simpa using h
    rw [List.flatMap_cons, List.getElem?_append_right (by rw [tc_length]; omega), tc_length, ← tcs_get ds i r d h' hr]
    congr 1
    omega

theorem heapAt_heap {B hb g cap : Nat} {w : World} {ds : List Int} (h : HeapAt B hb w g cap ds) (i : Nat) (d : Int) (hd : ds[i]? = some d) (h0 : -9223372036854775808 ≤ d) (h1 : d ≤ 9223372036854775807) :
    Calls Try.prog 8 #[.pointer (some ⟨hb, 0, none⟩), .int .i64 i] w fun e w' => e = .returned (.int .i64 d) ∧ Below w.heap.size w w' := by
  have hi : i < ds.length := by
    rcases Nat.lt_or_ge i ds.length with hi | hi
    · exact hi
    · rw [List.getElem?_eq_none hi] at hd; cases hd
  have hc : ∀ r, r < 4 → w.cell? ⟨g, i * 4 + r, none⟩ = (tc d)[r]? := fun r hr => by
    rw [h.owns.cellAt (i * 4 + r) (by omega)]
    exact tcs_get ds i r d hd hr
  exact heapAt_any hb g ds.length cap i d _ _ w h.cell hi (hc 0 (by omega)) (hc 1 (by omega)) (hc 2 (by omega)) h0 h1 rfl rfl

end Go.Proofs.Qxb6613586a
