/-
  DERIVED. GIVEN WITH THE SEED: THE CARDS: each row of Qxb6616992aDoorRows.lean that lists a variable, with what it lists TIED to the program's text (the seventh form; the later family's looks); each row that meets fmt, with fmt's text TOLD by the authors' own Lean function (tested against real Go, not proved from fmt's source: count such statements apart). THE CARD IS WHAT COUNTS. Prove the row's statement (the work); the ties are given (Qxb6616992aDoorTie.lean); close each card by the builder's one call (the guide's Derived/Test/ToyasCard.lean, 'card_holds'). Laid BY PROGRAM, IN A SANDBOX (cutbox-door.mjs). By AI agents, Wed Nov 11 2026. No macro, syntax, notation, axiom, sorry.
-/
import Derived.Test.Qxb6616992aDoorRows
import GoSem.ClaimSeven
namespace Go.Proofs.Qxb6616992aDoor
namespace Rows

/-- THE TIED CARD OF 'zzlaws_root_b1.FnTableAddRefusesImpostor'. -/
def fnTableAddRefusesImpostorCard : Claim7 := { stood := { row := fnTableAddRefusesImpostorRow, standIns := [], harness := (true, "bcc2c02ef25cd2a0a66a0d56d96fe15af4197d78e6b0a094851a33c7ae74529c"), looks := false }, kinds := [], alts := [], laidByText := true, laidKinds := [.called], laidTests := true, laidLooks := .later }
def FnTableAddRefusesImpostorCardSaid : Prop := Claim7.holds Tryd.pinned (.plain (OpenSpec.ofChange fnTableAddRefusesImpostorSpec)) fnTableAddRefusesImpostorCard
end Rows
end Go.Proofs.Qxb6616992aDoor
