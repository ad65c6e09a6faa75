/-
  DERIVED. GIVEN WITH THE SEED: THE CARDS: each row of Qxb6613576aFmtRows.lean that lists a variable, with what it lists TIED to the program's text (the seventh form; the later family's looks); each row that meets fmt, with fmt's text TOLD by the authors' own Lean function (tested against real Go, not proved from fmt's source: count such statements apart). THE CARD IS WHAT COUNTS. Prove the row's statement (the work); the ties are given (Qxb6613576aFmtTie.lean); close each card by the builder's one call (the guide's Derived/Test/ToyasCard.lean, 'card_holds'). Laid BY PROGRAM, IN A SANDBOX (cutbox-door.mjs). By AI agents, Wed Nov 11 2026. No macro, syntax, notation, axiom, sorry.
-/
import Derived.Test.Qxb6613576aFmtRows
import GoSem.ClaimSeven
namespace Go.Proofs.Qxb6613576aFmt
namespace Rows

/-- THE TOLD CARD OF 'zzlaws_internal_raft_b1.FnDirIDStringRoundTripAndOrder'. -/
def fnDirIDStringRoundTripAndOrderCard : Claim7 := { stood := { row := fnDirIDStringRoundTripAndOrderRow, standIns := [], harness := (true, "d945751c1fba0ab9b6625fdffe770fc46ba0ae749e66af74702846b73f8817fd"), looks := false }, told := true, goes := false }
def FnDirIDStringRoundTripAndOrderToldSaid : Prop := Claim7.holds Tryf.pinned (.plain (OpenSpec.ofChange fnDirIDStringRoundTripAndOrderSpec)) fnDirIDStringRoundTripAndOrderCard
/-- ITS FALSE NEIGHBOUR. Refute it at one input. -/
def FnDirIDStringRoundTripAndOrderToldWrongFalsely : Prop := Claim7.holds Tryf.pinned (.plain (OpenSpec.ofChange fnDirIDStringRoundTripAndOrderWrong)) fnDirIDStringRoundTripAndOrderCard

/-- THE TOLD CARD OF 'zzlaws_internal_raft_b1.FnDirIDStringOneNibbleOneCharacter'. -/
def fnDirIDStringOneNibbleOneCharacterCard : Claim7 := { stood := { row := fnDirIDStringOneNibbleOneCharacterRow, standIns := [], harness := (true, "d945751c1fba0ab9b6625fdffe770fc46ba0ae749e66af74702846b73f8817fd"), looks := false }, told := true, goes := false }
def FnDirIDStringOneNibbleOneCharacterToldSaid : Prop := Claim7.holds Tryf.pinned (.plain (OpenSpec.ofChange fnDirIDStringOneNibbleOneCharacterSpec)) fnDirIDStringOneNibbleOneCharacterCard
/-- ITS FALSE NEIGHBOUR. Refute it at one input. -/
def FnDirIDStringOneNibbleOneCharacterToldWrongFalsely : Prop := Claim7.holds Tryf.pinned (.plain (OpenSpec.ofChange fnDirIDStringOneNibbleOneCharacterWrong)) fnDirIDStringOneNibbleOneCharacterCard
end Rows
end Go.Proofs.Qxb6613576aFmt
