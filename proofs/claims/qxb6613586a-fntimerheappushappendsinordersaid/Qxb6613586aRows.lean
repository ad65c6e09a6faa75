/-
  No cell of these rows narrows 'for every input' (looked for: loops, veiled, ifaces, maps, wideKeys, modest, calm, conditions, laid).
  DERIVED. THE GIVEN ROWS OF THIS SEAT. 1 by the template 'for every input the law returns true; each argument reads behind the call as it read before'; 0 by the template 'total and deterministic' (their statements: Qxb6613586aTotals.lean).
  GIVEN WITH THE SEED: the statements are not yours to turn. If you find one false, say at which input.
  Laid BY PROGRAM, IN A SANDBOX (cutbox-rows.mjs): the forced cells as the released guide's own fill.sh prints them over the translation 2e8e52185b6b0534… (all of the seat's roots in one cut). By AI agents, Wed Nov 11 2026. No macro, syntax, notation, axiom, sorry.
-/
import Derived.Test.Qxb6613586aChecked
import GoSem.Claim
import GoSem.ClaimJoined
import GoSem.ClaimMapViews
import Derived.JoinedTies
import Derived.KernelRfl
namespace Go.Proofs.Qxb6613586a
/- THE CELL 'sum', in the pinned program and in every row, IS THE sha256 OF THE DUMP (.gsa) THAT Qxb6613586aProg.lean LOADS. Nothing in Lean hashes anything: it is a label: what it is worth is what the hold of that sum in a sandbox is worth. -/
noncomputable def Try.pinned : Pinned := { name := "qxb6613586a", sum := "2e8e52185b6b0534de281854f05ad70b6b82494f2fab4929f4163f10f4764dc3", checked := Try.checked }
namespace Rows
def none {H : Type} : Left H := { results := [], args := [] }

/-- 'zzlaws_root_b1.FnTimerHeapPushAppendsInOrder': WHATEVER THE INPUT: true; the input reads as it did. -/
def fnTimerHeapPushAppendsInOrderSpec : ChangeSpec := { name := "fnTimerHeapPushAppendsInOrder", fn := fun _ => fun
  | [d1, d2] => { results := [.lit (.bool true)], args := [d1, d2] }
  | _ => none }
def fnTimerHeapPushAppendsInOrderRow : OpenClaim := { program := "qxb6613586a", sum := "2e8e52185b6b0534de281854f05ad70b6b82494f2fab4929f4163f10f4764dc3", func := "example.com/routeback/routeback/zzlaws_root_b1.FnTimerHeapPushAppendsInOrder", spec := "fnTimerHeapPushAppendsInOrder", apart := false }
def FnTimerHeapPushAppendsInOrderSaid : Prop := fnTimerHeapPushAppendsInOrderRow.holds Try.pinned (OpenSpec.ofChange fnTimerHeapPushAppendsInOrderSpec)

/-- ITS FALSE NEIGHBOUR: 'it returns false'. Refute it at one input. -/
def fnTimerHeapPushAppendsInOrderWrong : ChangeSpec := { name := "fnTimerHeapPushAppendsInOrder", fn := fun _ => fun
  | [d1, d2] => { results := [.lit (.bool false)], args := [d1, d2] }
  | _ => none }
def FnTimerHeapPushAppendsInOrderWrongFalsely : Prop := fnTimerHeapPushAppendsInOrderRow.holds Try.pinned (OpenSpec.ofChange fnTimerHeapPushAppendsInOrderWrong)

end Rows
end Go.Proofs.Qxb6613586a
