/-
  No cell of these rows narrows 'for every input' (looked for: loops, veiled, ifaces, maps, wideKeys, modest, calm, conditions, laid).
  DERIVED. THE GIVEN ROWS OF THIS SEAT. 2 by the template 'for every input the law returns true; each argument reads behind the call as it read before'; 0 by the template 'total and deterministic' (their statements: Qxb6616754aTotals.lean).
  GIVEN WITH THE SEED: the statements are not yours to turn. If you find one false, say at which input.
  Laid BY PROGRAM, IN A SANDBOX (cutbox-rows.mjs): the forced cells as the released guide's own fill.sh prints them over the translation a6cd895d915abe9e… (all of the seat's roots in one cut). By AI agents, Wed Nov 11 2026. No macro, syntax, notation, axiom, sorry.
-/
import Derived.Test.Qxb6616754aChecked
import GoSem.Claim
import GoSem.ClaimJoined
import GoSem.ClaimMapViews
import Derived.JoinedTies
import Derived.KernelRfl
namespace Go.Proofs.Qxb6616754a
/- THE CELL 'sum', in the pinned program and in every row, IS THE sha256 OF THE DUMP (.gsa) THAT Qxb6616754aProg.lean LOADS. Nothing in Lean hashes anything: it is a label: what it is worth is what the hold of that sum in a sandbox is worth. -/
noncomputable def Try.pinned : Pinned := { name := "qxb6616754a", sum := "a6cd895d915abe9e6e41b2e6fd6b503a19ff1e61e7d2cffc9bd461f782d316bf", checked := Try.checked }
namespace Rows
def none {H : Type} : Left H := { results := [], args := [] }

/-- 'zzlaws_inproc_b1.FnDeliveredInOwnGroupAloneOrAll': WHATEVER THE INPUT: true; the input reads as it did. -/
def fnDeliveredInOwnGroupAloneOrAllSpec : ChangeSpec := { name := "fnDeliveredInOwnGroupAloneOrAll", fn := fun _ => fun
  | [d1, d2, d3, d4] => { results := [.lit (.bool true)], args := [d1, d2, d3, d4] }
  | _ => none }
def fnDeliveredInOwnGroupAloneOrAllRow : OpenClaim := { program := "qxb6616754a", sum := "a6cd895d915abe9e6e41b2e6fd6b503a19ff1e61e7d2cffc9bd461f782d316bf", func := "example.com/ackord/ackord/zzlaws_inproc_b1.FnDeliveredInOwnGroupAloneOrAll", spec := "fnDeliveredInOwnGroupAloneOrAll", apart := false }
def FnDeliveredInOwnGroupAloneOrAllSaid : Prop := fnDeliveredInOwnGroupAloneOrAllRow.holds Try.pinned (OpenSpec.ofChange fnDeliveredInOwnGroupAloneOrAllSpec)

/-- ITS FALSE NEIGHBOUR: 'it returns false'. Refute it at one input. -/
def fnDeliveredInOwnGroupAloneOrAllWrong : ChangeSpec := { name := "fnDeliveredInOwnGroupAloneOrAll", fn := fun _ => fun
  | [d1, d2, d3, d4] => { results := [.lit (.bool false)], args := [d1, d2, d3, d4] }
  | _ => none }
def FnDeliveredInOwnGroupAloneOrAllWrongFalsely : Prop := fnDeliveredInOwnGroupAloneOrAllRow.holds Try.pinned (OpenSpec.ofChange fnDeliveredInOwnGroupAloneOrAllWrong)

/-- 'zzlaws_inproc_b1.FnDeliveredInSendBackNarrows': WHATEVER THE INPUT: true; the input reads as it did. -/
def fnDeliveredInSendBackNarrowsSpec : ChangeSpec := { name := "fnDeliveredInSendBackNarrows", fn := fun _ => fun
  | [d1, d2, d3] => { results := [.lit (.bool true)], args := [d1, d2, d3] }
  | _ => none }
def fnDeliveredInSendBackNarrowsRow : OpenClaim := { program := "qxb6616754a", sum := "a6cd895d915abe9e6e41b2e6fd6b503a19ff1e61e7d2cffc9bd461f782d316bf", func := "example.com/ackord/ackord/zzlaws_inproc_b1.FnDeliveredInSendBackNarrows", spec := "fnDeliveredInSendBackNarrows", apart := false }
def FnDeliveredInSendBackNarrowsSaid : Prop := fnDeliveredInSendBackNarrowsRow.holds Try.pinned (OpenSpec.ofChange fnDeliveredInSendBackNarrowsSpec)

/-- ITS FALSE NEIGHBOUR: 'it returns false'. Refute it at one input. -/
def fnDeliveredInSendBackNarrowsWrong : ChangeSpec := { name := "fnDeliveredInSendBackNarrows", fn := fun _ => fun
  | [d1, d2, d3] => { results := [.lit (.bool false)], args := [d1, d2, d3] }
  | _ => none }
def FnDeliveredInSendBackNarrowsWrongFalsely : Prop := fnDeliveredInSendBackNarrowsRow.holds Try.pinned (OpenSpec.ofChange fnDeliveredInSendBackNarrowsWrong)

end Rows
end Go.Proofs.Qxb6616754a
