/-
  No cell of these rows narrows 'for every input' (looked for: loops, veiled, ifaces, maps, wideKeys, modest, calm, conditions, laid).
  DERIVED. THE GIVEN ROWS OF THIS SEAT. 2 by the template 'for every input the law returns true; each argument reads behind the call as it read before'; 0 by the template 'total and deterministic' (their statements: Qxb6613576aFmtTotals.lean).
  GIVEN WITH THE SEED: the statements are not yours to turn. If you find one false, say at which input.
  Laid BY PROGRAM, IN A SANDBOX (cutbox-rows.mjs): the forced cells as the released guide's own fill.sh prints them over the translation a2d4c737aedaf85c… (all of the seat's roots in one cut). By AI agents, Wed Nov 11 2026. No macro, syntax, notation, axiom, sorry.
-/
import Derived.Test.Qxb6613576aFmtChecked
import GoSem.Claim
import GoSem.ClaimJoined
import GoSem.ClaimMapViews
import Derived.JoinedTies
import Derived.KernelRfl
namespace Go.Proofs.Qxb6613576aFmt
/- THE CELL 'sum', in the pinned program and in every row, IS THE sha256 OF THE DUMP (.gsa) THAT Qxb6613576aFmtProg.lean LOADS. Nothing in Lean hashes anything: it is a label: what it is worth is what the hold of that sum in a sandbox is worth. -/
noncomputable def Tryf.pinned : Pinned := { name := "qxb6613576afmt", sum := "a2d4c737aedaf85c1189933c1134f2190928fd9472b7686f538876d1d5bf88d0", checked := Tryf.checked }
namespace Rows
def none {H : Type} : Left H := { results := [], args := [] }

/-- 'zzlaws_internal_raft_b1.FnDirIDStringRoundTripAndOrder': WHATEVER THE INPUT: true; the input reads as it did. -/
def fnDirIDStringRoundTripAndOrderSpec : ChangeSpec := { name := "fnDirIDStringRoundTripAndOrder", fn := fun _ => fun
  | [d1, d2] => { results := [.lit (.bool true)], args := [d1, d2] }
  | _ => none }
def fnDirIDStringRoundTripAndOrderRow : OpenClaim := { program := "qxb6613576afmt", sum := "a2d4c737aedaf85c1189933c1134f2190928fd9472b7686f538876d1d5bf88d0", func := "example.com/quorumlog/quorumlog/zzlaws_internal_raft_b1.FnDirIDStringRoundTripAndOrder", spec := "fnDirIDStringRoundTripAndOrder", stops := ["fmt.Sprintf"], inPlace := ["fmt.Sprintf"], apart := false }
/-- NO THEOREM (fmt's text is open here; it may be false): for the released tool's asking of the row's closed facts alone. THE STATEMENT IS 'FnDirIDStringRoundTripAndOrderToldSaid' (Qxb6613576aFmtCards.lean). -/
def FnDirIDStringRoundTripAndOrderFormAsk : Prop := fnDirIDStringRoundTripAndOrderRow.holds Tryf.pinned (OpenSpec.ofChange fnDirIDStringRoundTripAndOrderSpec)

/-- ITS FALSE NEIGHBOUR: 'it returns false'. Refute it at one input. -/
def fnDirIDStringRoundTripAndOrderWrong : ChangeSpec := { name := "fnDirIDStringRoundTripAndOrder", fn := fun _ => fun
  | [d1, d2] => { results := [.lit (.bool false)], args := [d1, d2] }
  | _ => none }
def FnDirIDStringRoundTripAndOrderWrongFormAsk : Prop := fnDirIDStringRoundTripAndOrderRow.holds Tryf.pinned (OpenSpec.ofChange fnDirIDStringRoundTripAndOrderWrong)

/-- 'zzlaws_internal_raft_b1.FnDirIDStringOneNibbleOneCharacter': WHATEVER THE INPUT: true; the input reads as it did. -/
def fnDirIDStringOneNibbleOneCharacterSpec : ChangeSpec := { name := "fnDirIDStringOneNibbleOneCharacter", fn := fun _ => fun
  | [d1, d2, d3] => { results := [.lit (.bool true)], args := [d1, d2, d3] }
  | _ => none }
def fnDirIDStringOneNibbleOneCharacterRow : OpenClaim := { program := "qxb6613576afmt", sum := "a2d4c737aedaf85c1189933c1134f2190928fd9472b7686f538876d1d5bf88d0", func := "example.com/quorumlog/quorumlog/zzlaws_internal_raft_b1.FnDirIDStringOneNibbleOneCharacter", spec := "fnDirIDStringOneNibbleOneCharacter", stops := ["fmt.Sprintf"], inPlace := ["fmt.Sprintf"], apart := false }
/-- NO THEOREM (fmt's text is open here; it may be false): for the released tool's asking of the row's closed facts alone. THE STATEMENT IS 'FnDirIDStringOneNibbleOneCharacterToldSaid' (Qxb6613576aFmtCards.lean). -/
def FnDirIDStringOneNibbleOneCharacterFormAsk : Prop := fnDirIDStringOneNibbleOneCharacterRow.holds Tryf.pinned (OpenSpec.ofChange fnDirIDStringOneNibbleOneCharacterSpec)

/-- ITS FALSE NEIGHBOUR: 'it returns false'. Refute it at one input. -/
def fnDirIDStringOneNibbleOneCharacterWrong : ChangeSpec := { name := "fnDirIDStringOneNibbleOneCharacter", fn := fun _ => fun
  | [d1, d2, d3] => { results := [.lit (.bool false)], args := [d1, d2, d3] }
  | _ => none }
def FnDirIDStringOneNibbleOneCharacterWrongFormAsk : Prop := fnDirIDStringOneNibbleOneCharacterRow.holds Tryf.pinned (OpenSpec.ofChange fnDirIDStringOneNibbleOneCharacterWrong)

end Rows
end Go.Proofs.Qxb6613576aFmt
