/-
  The walk of (time.Time).Sub at a zero time.
-/
import Derived.Test.Qxb6613586aTime
import Derived.RegionTactic
import Derived.Deep.RegionWith
import Derived.Deep.RegionHeld3
namespace Go.Proofs.Qxb6613586a
open Go.RowKit

set_option maxHeartbeats 400000 in
theorem equal_same (s n : Int) (w : World) (h0 : 0 ≤ n) (h1 : n < 1000000000) :
    Calls Try.prog 18 #[.agg #[.int .u64 n, .int .i64 s, .pointer none], .agg #[.int .u64 n, .int .i64 s, .pointer none]] w fun e w' => e = .returned (.bool true) ∧ Below w.heap.size w w' := by
  have hb : bits .and .u64 n 9223372036854775808 = 0 := bit63 n h0 h1
  have hb2 : bits .and .u64 n n = n := by
    rw [u64_and n n h0 (by omega) h0 (by omega), Nat.and_self]
    omega
  go_enter Try.func18, Try.ntmps18
  go_wp2_with fail
  refine (sec_any _ 0 n s _ h0 h1 (by simp) (by simp)).mono ?_
  rintro e w' ⟨rfl, rfl⟩
  go_wp2_with fail
  refine (sec_any _ 0 n s _ h0 h1 (by simp) (by simp)).mono ?_
  rintro e w' ⟨rfl, rfl⟩
  go_wp2_with fail
  refine (nsec_any _ 0 n _ h0 h1 (by simp)).mono ?_
  rintro e w' ⟨rfl, rfl⟩
  go_wp2_with fail
  refine (nsec_any _ 0 n _ h0 h1 (by simp)).mono ?_
  rintro e w' ⟨rfl, rfl⟩
  go_wp2_with fail
  go_ret
  exact ⟨rfl, ((Below.refl _ _).alloc (Nat.le_refl _) _).alloc (by simp) _⟩

theorem wrap_join (s n d : Int) (hd0 : -9223372036854775808 ≤ d) (hd1 : d ≤ 9223372036854775807) (hs : d / 1000000000 = s) (hn : d % 1000000000 = n) :
    wrap64 (wrap64 (s * 1000000000) + n) = d := by
  unfold wrap64
  omega

theorem bcell {W w1 : World} (hb : Below W.heap.size W w1) : (∀ b o, b < W.heap.size → w1.cell? ⟨b, o, none⟩ = W.cell? ⟨b, o, none⟩) ∧ (∀ b o, b < W.heap.size → w1.frozen? ⟨b, o, none⟩ = W.frozen? ⟨b, o, none⟩) :=
  ⟨fun b o h => hb.cell (p := ⟨b, o, none⟩) h, fun b o h => hb.frozen (p := ⟨b, o, none⟩) h⟩

theorem sub_below {w w1 w2 : World} {A B : Obj} (h : Below ((w.alloc A).alloc B).drew.heap.size ((w.alloc A).alloc B).drew w1) (h2 : Below w1.heap.size w1 w2) : Below w.heap.size w w2 := by
  have e : ((w.alloc A).alloc B).drew.heap.size = w.heap.size + 1 + 1 := by simp
  have hs := h.size
  rw [e] at h hs
  exact ((((Below.refl _ _).alloc (Nat.le_refl _) A).alloc (by simp) B).drew.trans (h.mono (by omega))).trans (h2.mono (by omega))

set_option maxHeartbeats 400000 in
theorem sub_zero (s n d : Int) (w : World) (h0 : 0 ≤ n) (h1 : n < 1000000000) (hd0 : -9223372036854775808 ≤ d) (hd1 : d ≤ 9223372036854775807) (hs : d / 1000000000 = s) (hn : d % 1000000000 = n) :
    Calls Try.prog 11 #[.agg #[.int .u64 n, .int .i64 s, .pointer none], .agg #[.int .u64 0, .int .i64 0, .pointer none]] w fun e w' => e = .returned (.int .i64 d) ∧ Below w.heap.size w w' := by
  have hb2 : bits .and .u64 n 0 = 0 := by
    rw [u64_and n 0 h0 (by omega) (by omega) (by omega)]
    simp
  have hb3 : bits .and .u64 0 9223372036854775808 = 0 := by decide
  have HS : Hid (d / 1000000000 = s) := hs
  have HN : Hid (d % 1000000000 = n) := hn
  have s0 : -9223372037 ≤ s := by omega
  have s1 : s ≤ 9223372036 := by omega
  clear hs hn
  go_enter Try.func11, Try.ntmps11
  go_wp2_with fail
  refine (sec_any _ 0 n s _ h0 h1 (by simp) (by simp)).mono ?_
  rintro e w' ⟨rfl, rfl⟩
  go_wp2_with fail
  refine (sec_any _ 0 0 0 _ (by omega) (by omega) (by simp) (by simp)).mono ?_
  rintro e w' ⟨rfl, rfl⟩
  go_wp2_with fail
  refine (nsec_any _ 0 n _ h0 h1 (by simp)).mono ?_
  rintro e w' ⟨rfl, rfl⟩
  go_wp2_with fail
  refine (nsec_any _ 0 0 _ (by omega) (by omega) (by simp)).mono ?_
  rintro e w' ⟨rfl, rfl⟩
  go_wp2_with fail
  rw [wrap_join s n d hd0 hd1 HS.out HN.out]
  go_region_with (first
    | (go_at_call 10; refine (add_zero d _ hd0 hd1).mono ?_; rintro e w1 ⟨rfl, hb⟩; rw [HS.out, HN.out]; obtain ⟨hc, hf⟩ := bcell hb; have HB : Hid (Below _ _ w1) := hb; clear hb)
    | (go_at_call 18; refine (equal_same s n _ h0 h1).mono ?_; rintro e w2 ⟨rfl, hb2⟩; have HB2 : Hid (Below _ _ w2) := hb2; clear hb2))
  all_goals go_wp2
  all_goals go_ret
  all_goals exact ⟨rfl, sub_below HB.out HB2.out⟩
end Go.Proofs.Qxb6613586a
