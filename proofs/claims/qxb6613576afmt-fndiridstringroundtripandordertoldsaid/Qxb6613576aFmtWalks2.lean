/-
  The walk of the first law.
-/
import Derived.Test.Qxb6613576aFmtWalks1
namespace Go.Proofs.Qxb6613576aFmt
open Go.RowKit Go.Kit Go.Extern.Stop Go.Stop Go.Extern

set_option maxHeartbeats 400000 in
theorem roundTrip_any (F : Interp) (a b : Int) (w : World) (ha : 0 ≤ a) (ha2 : a ≤ 18446744073709551615) (hb : 0 ≤ b) (hb2 : b ≤ 18446744073709551615) (hF : F.told.answers w.tape) :
    Calls Tryf.prog 3 #[.int .u64 a, .int .u64 b] w fun e w' => e = .returned (.bool true) ∧ Below w.heap.size w w' := by
  have HL := str_less a b ha ha2 hb hb2
  have HE := str_eq a b ha ha2 hb hb2
  have HF : Hid (F.told.answers w.tape) := hF
  clear hF
  go_enter Tryf.func3, Tryf.ntmps3
  go_wp2_with fail
  refine (string_any F a _ ha ha2 HF.out).mono ?_
  rintro e w1 ⟨rfl, hb1⟩
  have HF1 : Hid (F.told.answers w1.tape) := by rw [hb1.tape]; exact HF
  have HB1 : Hid (Below w.heap.size w w1) := hb1
  clear hb1
  go_wp2_with fail
  refine (string_any F b _ hb hb2 HF1.out).mono ?_
  rintro e w2 ⟨rfl, hb2⟩
  have HB2 : Hid (Below w1.heap.size w1 w2) := hb2
  clear hb2
  go_wp2_with fail
  refine (decode_str a _ ha ha2).mono ?_
  rintro e w' ⟨rfl, rfl⟩
  go_wp2_with fail
  refine (decode_str b _ hb (by assumption)).mono ?_
  rintro e w' ⟨rfl, rfl⟩
  go_wp2
  go_ret
  exact ⟨rfl, HB1.out.trans (HB2.out.mono HB1.out.size)⟩

end Go.Proofs.Qxb6613576aFmt
