/-
  The closed facts for the walk over fmt.Sprintf at its one format, after the guide's LabelFmt.lean, turned to this program.
-/
import Derived.Test.Qxb6613576aFmtProg
import Derived.Stop.CallBack
import Derived.Stop.IfaceNil
import GoSem.ClaimData
import Derived.WalkKit
import Derived.WalkSpells
import Derived.Stop.Texts
import Derived.Stop.JoinedTold
import Derived.Stop.FmtTextKit
import Derived.Test.Qxb6613576aFmtHex
namespace Go.Proofs.Qxb6613576aFmt
open Go.RowKit Go.Kit Go.Extern.Stop Go.Stop Go.Extern

@[go_sem] theorem Tryf.call8 (args : Array Value) (w : World) : (callFunc 8 args).run Tryf.prog w = ((FmtStop.sprintf #[9, 48] #[9] args).run Tryf.prog w).andThen fun v w' => .ok (.value v) w' :=
  run_callFunc_extern Tryf.func8 (by kernel_rfl) (by kernel_rfl) (by kernel_rfl) (by kernel_rfl) args w
@[go_sem] theorem Tryf.guard (name : String) (w : World) : (FmtStop.guard name).run Tryf.prog w = .ok () w := by kernel_rfl
@[go_sem] theorem Tryf.fmt0 : FmtStop.printed? ⟨#[37, 48, 49, 54, 120]⟩ 1 = some [(0, 120, false)] := by kernel_rfl
@[go_sem] theorem Tryf.fmt0r (w : World) : (FmtDoors.printed ⟨#[37, 48, 49, 54, 120]⟩ 1).run Tryf.prog w = .ok [(0, 120, false)] w := by kernel_rfl
theorem Tryf.fmt0t : (FmtText.parse [37, 48, 49, 54, 120]).map FmtText.glue = some [.verb { widPresent := true, wid := 16, zero := true } 120] := by rfl
theorem Tryf.name22 : Tryf.prog.typeName? 3 22 = some "uint64" := by kernel_rfl
def Tryf.shape22 : List UInt8 := [9, 6, 0, 0, 0, 0, 0, 0, 0, 117, 105, 110, 116, 54, 52]
@[go_sem] theorem Tryf.op22_120 (name : String) (x : Int) (w : World) : (FmtStop.operand name false 120 false (.iface 22 (.int .u64 x))).run Tryf.prog w = .ok (Tryf.shape22, Go.Extern.Stop.digits 8 (x % 2 ^ 64).toNat) w := by kernel_rfl

/-- What fmt is asked. -/
def reading (x : Int) : List (List UInt8) := [[37, 48, 49, 54, 120], Tryf.shape22, digits 8 (x % 18446744073709551616).toNat]

theorem t_text (x : Int) (hw : (Lit.int .u64 x).wf = true) : FmtText.text "fmt.Sprintf" (reading x) = some (FmtText.hexZeros false false 16 x) := by
  have hi := FmtText.operand_int_at (sh := Tryf.shape22) (k := .u64) rfl rfl x hw
  rw [reading, FmtText.text_sprintf_glued Tryf.fmt0t (FmtText.operands_cons hi FmtText.operands_nil)]
  have hp := FmtText.printArg_x_zero false false 16 [117, 105, 110, 116, 54, 52] hw
  simp [FmtText.render]
  exact hp

/-- The text of x: sixteen hexadecimal digits. -/
def str (x : Int) : ByteArray := ⟨(Hex.hx 16 x.toNat).toArray⟩

theorem str_size (x : Int) : (str x).size = 16 := by
  simp [str, ByteArray.size, Hex.hx_length]

theorem told_str (F : Interp) (x : Int) (h0 : 0 ≤ x) (h1 : x ≤ 18446744073709551615) : FmtStop.textOf (F.told "fmt.Sprintf" (reading x) 0) = str x := by
  have hw : (Lit.int .u64 x).wf = true := by
    simp [Lit.wf, IntKind.min, IntKind.max, IntKind.signed, IntKind.bits]
    omega
  have hl := FmtText.hexZeros_length_le false false 16 x
  have ht := told_string F (t_text x hw) (by omega)
  rw [Hex.hexZeros_hx x h0 h1] at ht
  have e : (FmtStop.textOf (F.told "fmt.Sprintf" (reading x) 0)).data.toList = Hex.hx 16 x.toNat := by
    rw [textOf_list, ht]
  have e2 : (FmtStop.textOf (F.told "fmt.Sprintf" (reading x) 0)).data = (Hex.hx 16 x.toNat).toArray := by
    rw [← e]
  rw [str, ← e2]

set_option maxHeartbeats 400000 in
theorem string_any (F : Interp) (x : Int) (w : World) (h0 : 0 ≤ x) (h1 : x ≤ 18446744073709551615) (hF : F.told.answers w.tape) :
    Calls Tryf.prog 5 #[.int .u64 x] w fun e w' => e = .returned (.string (str x)) ∧ Below w.heap.size w w' := by
  have hF' := answers_open hF
  go_enter Tryf.func5, Tryf.ntmps5
  go_wp2
  go_ret
  exact ⟨congrArg (fun s => Ending.returned (.string s)) (told_str F x h0 h1), (((Below.refl _ _).alloc (Nat.le_refl _) _).drew)⟩

end Go.Proofs.Qxb6613576aFmt
