/-
  DERIVED. GIVEN WITH THE SEED: THE CARDS: each row of Qxb6614023aDoorRows.lean that lists a variable, with what it lists TIED to the program's text (the seventh form; the later family's looks); each row that meets fmt, with fmt's text TOLD by the authors' own Lean function (tested against real Go, not proved from fmt's source: count such statements apart). THE CARD IS WHAT COUNTS. Prove the row's statement (the work); the ties are given (Qxb6614023aDoorTie.lean); close each card by the builder's one call (the guide's Derived/Test/ToyasCard.lean, 'card_holds'). Laid BY PROGRAM, IN A SANDBOX (cutbox-door.mjs). By AI agents, Wed Nov 11 2026. No macro, syntax, notation, axiom, sorry.
-/
import Derived.Test.Qxb6614023aDoorRows
import GoSem.ClaimSeven
namespace Go.Proofs.Qxb6614023aDoor
namespace Rows

/-- THE TIED CARD OF 'zzlaws_jsondoc_b1.FnResolveGridByIndexModel'. -/
def fnResolveGridByIndexModelCard : Claim7 := { stood := { row := fnResolveGridByIndexModelRow, standIns := [], harness := (true, "5e7a9e3e9aa4218faee55107a2b6651abd64693b93037e0316a3d5d444b5f71a"), looks := true }, kinds := [], alts := [], laidByText := true, laidKinds := [.data, .data, .data, .sentinel, .sentinel], laidTests := true, laidLooks := .later }
def FnResolveGridByIndexModelCardSaid : Prop := Claim7.holds Tryd.pinned (.plain (OpenSpec.ofChange fnResolveGridByIndexModelSpec)) fnResolveGridByIndexModelCard

/-- THE TIED CARD OF 'zzlaws_jsondoc_b1.FnResolveObjectOfArraysByModel'. -/
def fnResolveObjectOfArraysByModelCard : Claim7 := { stood := { row := fnResolveObjectOfArraysByModelRow, standIns := [], harness := (true, "5e7a9e3e9aa4218faee55107a2b6651abd64693b93037e0316a3d5d444b5f71a"), looks := true }, kinds := [], alts := [], laidByText := true, laidKinds := [.data, .data, .data, .sentinel, .sentinel], laidTests := true, laidLooks := .later }
def FnResolveObjectOfArraysByModelCardSaid : Prop := Claim7.holds Tryd.pinned (.plain (OpenSpec.ofChange fnResolveObjectOfArraysByModelSpec)) fnResolveObjectOfArraysByModelCard
end Rows
end Go.Proofs.Qxb6614023aDoor
