/-
  The walks of zzItems, zzHandOut and ZZresolveGrid.
-/
import Derived.Test.Qxb6614023aDoorResolve
namespace Go.Proofs.Qxb6614023aDoor
open Go.RowKit

theorem Tryd.info20 : (Tryd.prog.info? 20).map (fun i => (i.zero, i.size, i.bytes)) = some (some .nilIface, 1, 16) := by kernel_rfl

/-- The world in which the row of n interface values f, made in w, is being filled. -/
structure Filled (w wr : World) (n : Nat) (f : Nat → Value) : Prop where
  row : wr.rowIs w.heap.size 20 n f
  size : wr.heap.size = w.heap.size + 1
  below : Below w.heap.size w wr

theorem filled_start (w : World) (n : Nat) {f : Nat → Value} : Filled w (w.alloc (.cells (madeCells #[.nilIface] n) 20)) n (fun j => if j < 0 then f j else .nilIface) :=
  ⟨(w.rowIs_made .nilIface n 20).congr (fun i _ => by simp), by simp, (Below.refl _ _).alloc (Nat.le_refl _) _⟩

theorem row_step {wr : World} {g n k : Nat} {u : Value} {f : Nat → Value} (h : wr.rowIs g 20 n (fun j => if j < k then f j else .nilIface)) (hu : f k = u) :
    (wr.setCell ⟨g, k, none⟩ u).rowIs g 20 n (fun j => if j < k + 1 then f j else .nilIface) := by
  refine (h.set k _).congr ?_
  intro j _
  show (if j = k then _ else _) = _
  by_cases e : j = k
  · subst e
    rw [if_pos rfl, if_pos (by omega), hu]
  · rw [if_neg e]
    show (if j < k then _ else _) = _
    by_cases e2 : j < k
    · rw [if_pos e2, if_pos (by omega)]
    · rw [if_neg e2, if_neg (by omega)]

theorem filled_step {w wr : World} {n k : Nat} {u : Value} {f : Nat → Value} (h : Filled w wr n (fun j => if j < k then f j else .nilIface)) (hu : f k = u) :
    Filled w (wr.setCell ⟨w.heap.size, k, none⟩ u) n (fun j => if j < k + 1 then f j else .nilIface) :=
  ⟨row_step h.row hu, by simp [World.setCell]; exact h.size, h.below.setCell (Nat.le_refl _) _⟩

theorem filled_end {w wr : World} {n : Nat} {f : Nat → Value} (h : Filled w wr n (fun j => if j < n then f j else .nilIface)) : Filled w wr n f :=
  ⟨h.row.congr (fun j hj => by show (if j < n then _ else _) = _; rw [if_pos hj]), h.size, h.below⟩

/-- Item j of a row. -/
def itemV (ss : List ByteArray) (j : Nat) : Value := .iface 9 (.string (sAt ss j))

set_option maxHeartbeats 400000 in
theorem items_any (ao : Option Addr) (b off n cap : Nat) (ss : List ByteArray) (w : World) (hn : ss.length = n) (hb : n ≤ 1048576) (h : StrAt w ao b off ss) :
    Calls Tryd.prog 13 #[.slice ao n cap] w fun e w' => e = .returned (.slice (some ⟨w.heap.size, 0, none⟩) n n) ∧ Filled w w' n (itemV ss) := by
  have HN := hide hn
  have HH := hide h
  clear hn h
  have hmk := fun W => run_make_row' (P := Tryd.prog) 33 20 .nilIface 16 Tryd.underlying33 Tryd.info20 rfl .i64 .i64 n (by omega) (by omega) W
  go_enter Tryd.func13, Tryd.ntmps13
  go_wp2_with fail
  go_loopw [10] (fun j wr => ∃ k : Nat, k ≤ n ∧ j = .int .i64 k ∧ Hid (Filled w wr n (fun j => if j < k then itemV ss j else .nilIface))) (fun j _ => n - (intOf j).toNat)
  case atStart => exact ⟨0, Nat.zero_le _, rfl, filled_start w n⟩
  case round =>
    obtain ⟨k, hk, rfl, HF⟩ := hrel
    by_cases hlt : k < n
    · obtain rfl : ao = some ⟨b, off, none⟩ := HH.out.at_ (by have := HN.out; omega)
      have hc0 : wr.cell? ⟨b, off + k, none⟩ = some (.string (sAt ss k)) := by
        rw [HF.out.below.cell (p := ⟨b, off + k, none⟩) (HH.out.lt (by have := HN.out; omega))]
        exact HH.out.cell k (by have := HN.out; omega)
      have hc1 := HF.out.row.cell hlt
      have hf1 := HF.out.row.frozen k
      have hne1 : ¬ b = w.heap.size := by have := HH.out.lt (by have := HN.out; omega); omega
      have HF2 : Hid (Filled w (wr.setCell ⟨w.heap.size, k, none⟩ (.iface 9 (.string (sAt ss k)))) n (fun j => if j < k + 1 then itemV ss j else .nilIface)) := filled_step HF.out rfl
      generalize sAt ss k = s at *
      go_wp2
      go_roundw
      case rel => exact ⟨k + 1, by omega, by go_num, HF2⟩
      case measure => simp [intOf]; omega
    · obtain rfl : k = n := by omega
      have HE := hide (filled_end HF.out)
      go_wp2
      go_ret
      exact ⟨rfl, HE.out⟩

/-- The value of row j, the top array lying in block B. -/
def rowV (B : Nat) (R : List RowV) (j : Nat) : Value := .iface 33 (.slice (some ⟨B + 1 + j, 0, none⟩) (rAt R j).ss.length (rAt R j).ss.length)

/-- The world behind k rounds of the loop that lays the grid. -/
structure Grid (w wr : World) (R : List RowV) (N k : Nat) : Prop where
  size : wr.heap.size = w.heap.size + 1 + k
  top : wr.rowIs w.heap.size 20 N (fun j => if j < k then rowV w.heap.size R j else .nilIface)
  row : ∀ j, j < k → wr.rowIs (w.heap.size + 1 + j) 20 (rAt R j).ss.length (itemV (rAt R j).ss)
  below : Below w.heap.size w wr

theorem grid_start (w : World) (R : List RowV) (N : Nat) : Grid w (w.alloc (.cells (madeCells #[.nilIface] N) 20)) R N 0 :=
  ⟨by simp, (filled_start w N).row, fun j hj => by omega, (Below.refl _ _).alloc (Nat.le_refl _) _⟩

theorem grid_step {w wr w1 : World} {R : List RowV} {N k : Nat} (h : Grid w wr R N k) (hf : Filled wr w1 (rAt R k).ss.length (itemV (rAt R k).ss)) :
    Grid w (w1.setCell ⟨w.heap.size, k, none⟩ (.iface 33 (.slice (some ⟨wr.heap.size, 0, none⟩) (rAt R k).ss.length (rAt R k).ss.length))) R N (k + 1) := by
  have hs := h.size
  have hs1 := hf.size
  refine ⟨by simp [World.setCell]; omega, ?_, ?_, (h.below.trans (hf.below.mono (by omega))).setCell (Nat.le_refl _) _⟩
  · refine row_step (h.top.of_block (hf.below.block _ (by omega))) ?_
    unfold rowV
    rw [hs]
  · intro j hj
    have hne : w.heap.size + 1 + j ≠ w.heap.size := by omega
    by_cases e : j = k
    · subst e
      have := hf.row
      rw [hs] at this
      exact this.setOther hne _
    · exact ((h.row j (by omega)).of_block (hf.below.block _ (by omega))).setOther hne _

/-- What zzHandOut makes of it; ml: the map's length. -/
def handT (ml : Int) (A : Value × Bool) : Value :=
  match A.1 with
  | .iface 9 (.string s) => .tuple #[.string s, .int .i64 1, .int .i64 0, .bool A.2]
  | .iface 33 (.slice _ n _) => .tuple #[.string ⟨#[]⟩, .int .i64 2, .int .i64 n, .bool A.2]
  | .iface 39 (.map _) => .tuple #[.string ⟨#[]⟩, .int .i64 3, .int .i64 ml, .bool A.2]
  | _ => .tuple #[.string ⟨#[]⟩, .int .i64 0, .int .i64 0, .bool A.2]

theorem handT_form (ml : Int) (A : Value × Bool) : ∃ s kd n, handT ml A = .tuple #[.string s, .int .i64 kd, .int .i64 n, .bool A.2] := by
  unfold handT
  split
  · exact ⟨_, _, _, rfl⟩
  · exact ⟨_, _, _, rfl⟩
  · exact ⟨_, _, _, rfl⟩
  · exact ⟨_, _, _, rfl⟩

theorem ta9_9 (v : Value) (w : World) : (Instr.typeAssert (.iface 9 v) 20 9 true).run Tryd.prog w = .ok (.tuple #[v, .bool true]) w := by kernel_rfl
theorem ta33_9 (v : Value) (w : World) : (Instr.typeAssert (.iface 33 v) 20 9 true).run Tryd.prog w = .ok (.tuple #[.string ⟨#[]⟩, .bool false]) w := by kernel_rfl
theorem ta39_9 (v : Value) (w : World) : (Instr.typeAssert (.iface 39 v) 20 9 true).run Tryd.prog w = .ok (.tuple #[.string ⟨#[]⟩, .bool false]) w := by kernel_rfl
theorem ta39_33 (v : Value) (w : World) : (Instr.typeAssert (.iface 39 v) 20 33 true).run Tryd.prog w = .ok (.tuple #[.slice none 0 0, .bool false]) w := by kernel_rfl
theorem taN_9 (w : World) : (Instr.typeAssert .nilIface 20 9 true).run Tryd.prog w = .ok (.tuple #[.string ⟨#[]⟩, .bool false]) w := by kernel_rfl
theorem taN_33 (w : World) : (Instr.typeAssert .nilIface 20 33 true).run Tryd.prog w = .ok (.tuple #[.slice none 0 0, .bool false]) w := by kernel_rfl
theorem taN_39 (w : World) : (Instr.typeAssert .nilIface 20 39 true).run Tryd.prog w = .ok (.tuple #[.map none, .bool false]) w := by kernel_rfl

set_option maxHeartbeats 400000 in
theorem hand_str (s : ByteArray) (ok : Bool) (w : World) : Calls Tryd.prog 14 #[.iface 9 (.string s), .bool ok] w fun e w' => e = .returned (.tuple #[.string s, .int .i64 1, .int .i64 0, .bool ok]) ∧ w' = w := by
  have h1 := ta9_9 (.string s)
  go_enter Tryd.func14, Tryd.ntmps14
  go_wp2
  exact bodyPost_ret (v := .tuple #[.string s, .int .i64 1, .int .i64 0, .bool ok]) (by simp [results, Tryd.results14, go_sem]) rfl ⟨rfl, rfl⟩

set_option maxHeartbeats 400000 in
theorem hand_arr (a : Option Addr) (n c : Nat) (ok : Bool) (w : World) : Calls Tryd.prog 14 #[.iface 33 (.slice a n c), .bool ok] w fun e w' => e = .returned (.tuple #[.string ⟨#[]⟩, .int .i64 2, .int .i64 n, .bool ok]) ∧ w' = w := by
  have h1 := ta33_9 (.slice a n c)
  have h2 := ta33_33 (.slice a n c)
  go_enter Tryd.func14, Tryd.ntmps14
  go_wp2
  exact bodyPost_ret (v := .tuple #[.string ⟨#[]⟩, .int .i64 2, .int .i64 n, .bool ok]) (by simp [results, Tryd.results14, go_sem]) rfl ⟨rfl, rfl⟩

set_option maxHeartbeats 400000 in
theorem hand_nil (ok : Bool) (w : World) : Calls Tryd.prog 14 #[.nilIface, .bool ok] w fun e w' => e = .returned (.tuple #[.string ⟨#[]⟩, .int .i64 0, .int .i64 0, .bool ok]) ∧ w' = w := by
  have h1 := taN_9
  have h2 := taN_33
  have h3 := taN_39
  go_enter Tryd.func14, Tryd.ntmps14
  go_wp2
  exact bodyPost_ret (v := .tuple #[.string ⟨#[]⟩, .int .i64 0, .int .i64 0, .bool ok]) (by simp [results, Tryd.results14, go_sem]) rfl ⟨rfl, rfl⟩

set_option maxHeartbeats 400000 in
theorem hand_map (r : Nat) (ml : Int) (ok : Bool) (w : World) (hl : (Builtin.len_ #[39] 3 #[.map (some r)]).run Tryd.prog w = .ok (.int .i64 ml) w) :
    Calls Tryd.prog 14 #[.iface 39 (.map (some r)), .bool ok] w fun e w' => e = .returned (.tuple #[.string ⟨#[]⟩, .int .i64 3, .int .i64 ml, .bool ok]) ∧ w' = w := by
  have h1 := ta39_9 (.map (some r))
  have h2 := ta39_33 (.map (some r))
  have h3 := ta39_39 (.map (some r))
  go_enter Tryd.func14, Tryd.ntmps14
  go_wp2
  exact bodyPost_ret (v := .tuple #[.string ⟨#[]⟩, .int .i64 3, .int .i64 ml, .bool ok]) (by simp [results, Tryd.results14, go_sem]) rfl ⟨rfl, rfl⟩

theorem hand_any (ml : Int) (A : Value × Bool) (w : World)
    (h : A.1 = .nilIface ∨ (∃ s, A.1 = .iface 9 (.string s)) ∨ (∃ a n c, A.1 = .iface 33 (.slice a n c)) ∨ (∃ r, A.1 = .iface 39 (.map (some r)) ∧ (Builtin.len_ #[39] 3 #[.map (some r)]).run Tryd.prog w = .ok (.int .i64 ml) w)) :
    Calls Tryd.prog 14 #[A.1, .bool A.2] w fun e w' => e = .returned (handT ml A) ∧ w' = w := by
  obtain ⟨v, ok⟩ := A
  rcases h with h | ⟨s, h⟩ | ⟨a, n, c, h⟩ | ⟨r, h, hl⟩
  all_goals
    simp only at h
    subst h
  · exact hand_nil ok w
  · exact hand_str s ok w
  · exact hand_arr a n c ok w
  · exact hand_map r ml ok w hl

theorem follow_G {F : Nat → Nat → Value} {L : List UInt8 → Option Value} {G : Value → Prop} (hc : ∀ v tok v', G v → step F L v tok = some v' → G v') : ∀ (ts : List ByteArray) (v : Value), G v → (follow F L v ts).1 = .nilIface ∨ G (follow F L v ts).1
  | [], v, h => by rw [follow_nil]; exact Or.inr h
  | t :: r, v, h => by
    cases hs : step F L v t.data.toList with
    | none => rw [follow_none hs]; exact Or.inl rfl
    | some v' => rw [follow_some hs]; exact follow_G hc r v' (hc v _ v' h hs)

/-- What the arrays of a grid hold, the top array lying in block B. -/
def gridF (B : Nat) (R : List RowV) (g i : Nat) : Value := if g = B then rowV B R i else itemV (rAt R (g - B - 1)).ss i
def noMap (_ : List UInt8) : Option Value := none
/-- The values of a grid. -/
def gridG (B : Nat) (R : List RowV) (v : Value) : Prop :=
  v = .iface 33 (.slice (some ⟨B, 0, none⟩) R.length R.length) ∨ (∃ j, j < R.length ∧ v = rowV B R j) ∨ ∃ s, v = .iface 9 (.string s)

theorem gridF_top {B : Nat} {R : List RowV} {i : Nat} : gridF B R B i = rowV B R i := by unfold gridF; rw [if_pos rfl]
theorem gridF_row {B : Nat} {R : List RowV} {j i : Nat} : gridF B R (B + 1 + j) i = itemV (rAt R j).ss i := by
  unfold gridF
  rw [if_neg (by omega), show B + 1 + j - B - 1 = j from by omega]

theorem gridG_step {B : Nat} {R : List RowV} (v : Value) (tok : List UInt8) (v' : Value) (h : gridG B R v) (hs : step (gridF B R) noMap v tok = some v') : gridG B R v' := by
  rcases h with rfl | ⟨j, _, rfl⟩ | ⟨s, rfl⟩
  · rw [step_idx, Option.map_eq_some_iff] at hs
    obtain ⟨i, hi, rfl⟩ := hs
    exact Or.inr (Or.inl ⟨i, (idx_spec hi).1, gridF_top⟩)
  · rw [rowV, step_idx, Option.map_eq_some_iff] at hs
    obtain ⟨i, hi, rfl⟩ := hs
    exact Or.inr (Or.inr ⟨_, gridF_row⟩)
  · rw [step_str] at hs
    cases hs

theorem gridG_doc {w wr : World} {R : List RowV} {N : Nat} (hn : R.length = N) (hN : N ≤ 1048576) (hl : ∀ j, (rAt R j).ss.length ≤ 1048576) (h : Grid w wr R N N) (v : Value) (hv : gridG w.heap.size R v) :
    IsDoc wr (gridF w.heap.size R) noMap (gridG w.heap.size R) v := by
  rcases hv with rfl | ⟨j, hj, rfl⟩ | ⟨s, rfl⟩
  · refine Or.inl ⟨_, _, rfl, by omega, ?_, fun i hi => Or.inr (Or.inl ⟨i, hi, gridF_top⟩)⟩
    rw [hn]
    refine h.top.congr ?_
    intro j hj
    show (if j < N then _ else _) = _
    rw [if_pos hj, gridF_top]
  · refine Or.inl ⟨_, _, rfl, hl j, ?_, fun i hi => Or.inr (Or.inr ⟨_, gridF_row⟩)⟩
    refine (h.row j (by omega)).congr ?_
    intro i _
    rw [gridF_row]
  · exact Or.inr (Or.inl ⟨s, rfl⟩)

/-- What ZZresolveGrid answers. -/
def gridAns (B : Nat) (R : List RowV) (ts : List ByteArray) : Value := handT 0 (follow (gridF B R) noMap (.iface 33 (.slice (some ⟨B, 0, none⟩) R.length R.length)) ts)

theorem gridAns_fit {B : Nat} {R : List RowV} {ts : List ByteArray} {w : World} : let A := follow (gridF B R) noMap (.iface 33 (.slice (some ⟨B, 0, none⟩) R.length R.length)) ts
    A.1 = .nilIface ∨ (∃ s, A.1 = .iface 9 (.string s)) ∨ (∃ a n c, A.1 = .iface 33 (.slice a n c)) ∨ (∃ r, A.1 = .iface 39 (.map (some r)) ∧ (Builtin.len_ #[39] 3 #[.map (some r)]).run Tryd.prog w = .ok (.int .i64 0) w) := by
  intro A
  rcases follow_G (G := gridG B R) (gridG_step) ts _ (Or.inl rfl) with h | h | ⟨j, _, h⟩ | ⟨s, h⟩
  · exact Or.inl h
  · exact Or.inr (Or.inr (Or.inl ⟨_, _, _, h⟩))
  · exact Or.inr (Or.inr (Or.inl ⟨_, _, _, h⟩))
  · exact Or.inr (Or.inl ⟨s, h⟩)

set_option maxRecDepth 100000 in
set_option maxHeartbeats 800000 in
theorem resolveGrid_any (ao tao : Option Addr) (b off N cap tb toff t tcap : Nat) (R : List RowV) (ts : List ByteArray) (w : World) (hn : R.length = N) (hN : N ≤ 1048576) (hg : GridAt w ao b off R) (hl : ∀ j, (rAt R j).ss.length ≤ 1048576)
    (ht : ts.length = t) (htm : t ≤ 1048576) (hts : StrAt w tao tb toff ts) (hsh : Short ts) (hv : Vars w) :
    Calls Tryd.prog 8 #[.slice ao N cap, .slice tao t tcap] w fun e w' => e = .returned (gridAns w.heap.size R ts) ∧ Below w.heap.size w w' := by
  have HN := hide hn
  have HG := hide hg
  have HL := hide hl
  have HT := hide ht
  have HS := hide hts
  have HSH := hide hsh
  have HV := hide hv
  clear hn hg hl ht hts hsh hv
  have hmk := fun W => run_make_row' (P := Tryd.prog) 33 20 .nilIface 16 Tryd.underlying33 Tryd.info20 rfl .i64 .i64 N (by omega) (by omega) W
  go_enter Tryd.func8, Tryd.ntmps8
  go_wp2_with fail
  go_loopw [15] (fun j wr => ∃ k : Nat, k ≤ N ∧ j = .int .i64 k ∧ Hid (Grid w wr R N k)) (fun j _ => N - (intOf j).toNat)
  case atStart => exact ⟨0, Nat.zero_le _, rfl, grid_start w R N⟩
  case round =>
    obtain ⟨k, hk, rfl, HF⟩ := hrel
    by_cases hlt : k < N
    · obtain rfl : ao = some ⟨b, off, none⟩ := HG.out.at_ (by have := HN.out; omega)
      have hc0 : wr.cell? ⟨b, off + k, none⟩ = some (.slice (rAt R k).ao (rAt R k).ss.length (rAt R k).cap) := by
        rw [HF.out.below.cell (p := ⟨b, off + k, none⟩) (HG.out.lt (by have := HN.out; omega))]
        exact HG.out.cell k (by have := HN.out; omega)
      have HR := hide ((HG.out.row k (by have := HN.out; omega)).below HF.out.below)
      have HST := hide (fun w1 (hf : Filled wr w1 (rAt R k).ss.length (itemV (rAt R k).ss)) => grid_step HF.out hf)
      have HLk := hide (HL.out k)
      generalize rAt R k = r at *
      go_wp2_with fail
      refine (items_any r.ao r.b r.off r.ss.length r.cap r.ss wr rfl HLk.out HR.out).mono ?_
      rintro e w1 ⟨rfl, hf⟩
      have HF2 := hide (HST.out w1 hf)
      have hc1 : w1.cell? ⟨w.heap.size, k, none⟩ = some .nilIface := by
        rw [hf.below.cell (p := ⟨w.heap.size, k, none⟩) (by have := HF.out.size; show w.heap.size < wr.heap.size; omega)]
        have := HF.out.top.cell hlt
        rw [if_neg (Nat.lt_irrefl k)] at this
        exact this
      have hf1 : w1.frozen? ⟨w.heap.size, k, none⟩ = false := by
        rw [hf.below.frozen (p := ⟨w.heap.size, k, none⟩) (by have := HF.out.size; show w.heap.size < wr.heap.size; omega)]
        exact HF.out.top.frozen k
      clear hf HST
      go_wp2
      go_roundw
      case rel => exact ⟨k + 1, by omega, by go_num, HF2⟩
      case measure => simp [intOf]; omega
    · obtain rfl : k = N := by omega
      have HFIT := hide (fun W => gridAns_fit (B := w.heap.size) (R := R) (ts := ts) (w := W))
      have HANS : Hid (gridAns w.heap.size R ts = handT 0 (follow (gridF w.heap.size R) noMap (.iface 33 (.slice (some ⟨w.heap.size, 0, none⟩) R.length R.length)) ts)) := rfl
      have HRES := hide (resolve_any (gridF w.heap.size R) noMap (gridG w.heap.size R) (.iface 33 (.slice (some ⟨w.heap.size, 0, none⟩) R.length R.length)) tao tb toff t tcap ts wr (Or.inl rfl)
        (gridG_doc HN.out hN HL.out HF.out) HT.out htm (HS.out.below HF.out.below) HSH.out (HV.out.below HF.out.below))
      rw [HN.out] at HRES HFIT HANS
      generalize follow (gridF w.heap.size R) noMap (.iface 33 (.slice (some ⟨w.heap.size, 0, none⟩) k k)) ts = A at *
      have HBW := hide HF.out.below
      go_wp2_with fail
      refine HRES.out.mono ?_
      rintro e w1 ⟨rfl, hb1⟩
      have HB1 : Hid (Below w.heap.size w w1) := HBW.out.trans (hb1.mono HBW.out.size)
      clear hb1
      go_wp2_with fail
      refine (hand_any 0 A w1 (HFIT.out w1)).mono ?_
      rintro e w2 ⟨rfl, rfl⟩
      obtain ⟨s, kd, nn, hh⟩ := handT_form 0 A
      rw [hh]
      rw [hh] at HANS
      clear hh
      go_wp2
      exact bodyPost_ret (v := .tuple #[.string s, .int .i64 kd, .int .i64 nn, .bool A.2]) (by simp [results, Tryd.results8, go_sem]) rfl ⟨congrArg Ending.returned HANS.out.symm, HB1.out⟩

end Go.Proofs.Qxb6614023aDoor
