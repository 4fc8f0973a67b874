/-
  DERIVED. GIVEN WITH THE SEED: THE CARDS: each row of Qxb6617857aDoorRows.lean that lists a variable, with what it lists TIED to the program's text (the seventh form; the later family's looks); each row that meets fmt, with fmt's text TOLD by the authors' own Lean function (tested against real Go, not proved from fmt's source: count such statements apart). THE CARD IS WHAT COUNTS. Prove the row's statement (the work); the ties are given (Qxb6617857aDoorTie.lean); close each card by the builder's one call (the guide's Derived/Test/ToyasCard.lean, 'card_holds'). Laid BY PROGRAM, IN A SANDBOX (cutbox-door.mjs). By AI agents, Wed Nov 11 2026. No macro, syntax, notation, axiom, sorry.
-/
import Derived.Test.Qxb6617857aDoorRows
import GoSem.ClaimSeven
namespace Go.Proofs.Qxb6617857aDoor
namespace Rows

/-- THE TIED CARD OF 'zzlaws_root_b1.FnStatusStringNamesAndNumbers'. -/
def fnStatusStringNamesAndNumbersCard : Claim7 := { stood := { row := fnStatusStringNamesAndNumbersRow, standIns := [], harness := (true, "5d8d74792e7fc82210f9b0825b9397090e8082c37bfe0d70ff0eeb5bae56dc20"), looks := false }, kinds := [], alts := [], laidByText := true, laidKinds := [.data, .data, .data], laidTests := true, laidLooks := .later }
def FnStatusStringNamesAndNumbersCardSaid : Prop := Claim7.holds Tryd.pinned (.plain (OpenSpec.ofChange fnStatusStringNamesAndNumbersSpec)) fnStatusStringNamesAndNumbersCard
end Rows
end Go.Proofs.Qxb6617857aDoor
