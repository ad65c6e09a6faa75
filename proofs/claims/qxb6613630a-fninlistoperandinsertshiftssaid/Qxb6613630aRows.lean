/-
  No cell of these rows narrows 'for every input' (looked for: loops, veiled, ifaces, maps, wideKeys, modest, calm, conditions, laid).
  DERIVED. THE GIVEN ROWS OF THIS SEAT. 2 by the template 'for every input the law returns true; each argument reads behind the call as it read before'; 0 by the template 'total and deterministic' (their statements: Qxb6613630aTotals.lean).
  GIVEN WITH THE SEED: the statements are not yours to turn. If you find one false, say at which input.
  Laid BY PROGRAM, IN A SANDBOX (cutbox-rows.mjs): the forced cells as the released guide's own fill.sh prints them over the translation 8746afd44ade172d… (all of the seat's roots in one cut). By AI agents, Wed Nov 11 2026. No macro, syntax, notation, axiom, sorry.
-/
import Derived.Test.Qxb6613630aChecked
import GoSem.Claim
import GoSem.ClaimJoined
import GoSem.ClaimMapViews
import Derived.JoinedTies
import Derived.KernelRfl
namespace Go.Proofs.Qxb6613630a
/- THE CELL 'sum', in the pinned program and in every row, IS THE sha256 OF THE DUMP (.gsa) THAT Qxb6613630aProg.lean LOADS. Nothing in Lean hashes anything: it is a label: what it is worth is what the hold of that sum in a sandbox is worth. -/
noncomputable def Try.pinned : Pinned := { name := "qxb6613630a", sum := "8746afd44ade172d7e1dc1d3f0a520fdf529a5c6d4f46649c14ce4e58599a12f", checked := Try.checked }
namespace Rows
def none {H : Type} : Left H := { results := [], args := [] }

/-- 'zzlaws_internal_parser_b1.FnInListOperandSplitsAtAnyCut': WHATEVER THE INPUT: true; the input reads as it did. -/
def fnInListOperandSplitsAtAnyCutSpec : ChangeSpec := { name := "fnInListOperandSplitsAtAnyCut", fn := fun _ => fun
  | [d1, d2, d3, d4] => { results := [.lit (.bool true)], args := [d1, d2, d3, d4] }
  | _ => none }
def fnInListOperandSplitsAtAnyCutRow : OpenClaim := { program := "qxb6613630a", sum := "8746afd44ade172d7e1dc1d3f0a520fdf529a5c6d4f46649c14ce4e58599a12f", func := "example.com/restatement/restatement/zzlaws_internal_parser_b1.FnInListOperandSplitsAtAnyCut", spec := "fnInListOperandSplitsAtAnyCut", apart := false }
def FnInListOperandSplitsAtAnyCutSaid : Prop := fnInListOperandSplitsAtAnyCutRow.holds Try.pinned (OpenSpec.ofChange fnInListOperandSplitsAtAnyCutSpec)

/-- ITS FALSE NEIGHBOUR: 'it returns false'. Refute it at one input. -/
def fnInListOperandSplitsAtAnyCutWrong : ChangeSpec := { name := "fnInListOperandSplitsAtAnyCut", fn := fun _ => fun
  | [d1, d2, d3, d4] => { results := [.lit (.bool false)], args := [d1, d2, d3, d4] }
  | _ => none }
def FnInListOperandSplitsAtAnyCutWrongFalsely : Prop := fnInListOperandSplitsAtAnyCutRow.holds Try.pinned (OpenSpec.ofChange fnInListOperandSplitsAtAnyCutWrong)

/-- 'zzlaws_internal_parser_b1.FnInListOperandInsertShifts': WHATEVER THE INPUT: true; the input reads as it did. -/
def fnInListOperandInsertShiftsSpec : ChangeSpec := { name := "fnInListOperandInsertShifts", fn := fun _ => fun
  | [d1, d2, d3, d4, d5] => { results := [.lit (.bool true)], args := [d1, d2, d3, d4, d5] }
  | _ => none }
def fnInListOperandInsertShiftsRow : OpenClaim := { program := "qxb6613630a", sum := "8746afd44ade172d7e1dc1d3f0a520fdf529a5c6d4f46649c14ce4e58599a12f", func := "example.com/restatement/restatement/zzlaws_internal_parser_b1.FnInListOperandInsertShifts", spec := "fnInListOperandInsertShifts", apart := false }
def FnInListOperandInsertShiftsSaid : Prop := fnInListOperandInsertShiftsRow.holds Try.pinned (OpenSpec.ofChange fnInListOperandInsertShiftsSpec)

/-- ITS FALSE NEIGHBOUR: 'it returns false'. Refute it at one input. -/
def fnInListOperandInsertShiftsWrong : ChangeSpec := { name := "fnInListOperandInsertShifts", fn := fun _ => fun
  | [d1, d2, d3, d4, d5] => { results := [.lit (.bool false)], args := [d1, d2, d3, d4, d5] }
  | _ => none }
def FnInListOperandInsertShiftsWrongFalsely : Prop := fnInListOperandInsertShiftsRow.holds Try.pinned (OpenSpec.ofChange fnInListOperandInsertShiftsWrong)

end Rows
end Go.Proofs.Qxb6613630a
