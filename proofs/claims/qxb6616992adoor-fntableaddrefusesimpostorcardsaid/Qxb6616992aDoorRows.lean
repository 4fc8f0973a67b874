/-
  NARROWER THAN 'FOR EVERY INPUT', by the rows' own cells (each row's printed sentence says how): FnTableAddRefusesImpostor: laid.
  DERIVED. THE GIVEN ROWS OF THIS SEAT. 1 by the template 'for every input the law returns true; each argument reads behind the call as it read before'; 0 by the template 'total and deterministic' (their statements: Qxb6616992aDoorTotals.lean).
  GIVEN WITH THE SEED: the statements are not yours to turn. If you find one false, say at which input.
  Laid BY PROGRAM, IN A SANDBOX (cutbox-rows.mjs): the forced cells as the released guide's own fill.sh prints them over the translation a1a1da3ee5ca4e23… (all of the seat's roots in one cut). By AI agents, Wed Nov 11 2026. No macro, syntax, notation, axiom, sorry.
-/
import Derived.Test.Qxb6616992aDoorChecked
import GoSem.Claim
import GoSem.ClaimJoined
import GoSem.ClaimMapViews
import Derived.JoinedTies
import Derived.KernelRfl
namespace Go.Proofs.Qxb6616992aDoor
/- THE CELL 'sum', in the pinned program and in every row, IS THE sha256 OF THE DUMP (.gsa) THAT Qxb6616992aDoorProg.lean LOADS. Nothing in Lean hashes anything: it is a label: what it is worth is what the hold of that sum in a sandbox is worth. -/
noncomputable def Tryd.pinned : Pinned := { name := "qxb6616992adoor", sum := "a1a1da3ee5ca4e234f06961ec3094ee50397e922f93493c79a4fdf06ac3fae08", checked := Tryd.checked }
namespace Rows
def none {H : Type} : Left H := { results := [], args := [] }

/- WHAT THE LISTED PACKAGE-LEVEL VARIABLES READ AS WHEN THE CALL BEGINS. Each datum BY PROGRAM (the guide's laid-datum.mjs) off the statement by which the dump's own 'gosem.cut.vars' lays the variable. In a bare row this is a premise. The card (Qxb6616992aDoorCards.lean) ties it to the program's text. -/
def laid_net_netip_z4 {H : Type} : DataW H := .agg [.ptr (.agg [.lit (.bool false), .lit (.string [])])]

/-- 'zzlaws_root_b1.FnTableAddRefusesImpostor': WHATEVER THE INPUT: true; the input reads as it did. -/
def fnTableAddRefusesImpostorSpec : ChangeSpec := { name := "fnTableAddRefusesImpostor", fn := fun _ => fun
  | [d1, d2, d3, d4, d5, d6, d7, d8, d9, d10] => { results := [.lit (.bool true)], args := [d1, d2, d3, d4, d5, d6, d7, d8, d9, d10] }
  | _ => none }
def fnTableAddRefusesImpostorRow : OpenClaim := { program := "qxb6616992adoor", sum := "a1a1da3ee5ca4e234f06961ec3094ee50397e922f93493c79a4fdf06ac3fae08", func := "example.com/gyre/gyre/zzlaws_root_b1.FnTableAddRefusesImpostor", spec := "fnTableAddRefusesImpostor", inPlace := ["slices.overlaps[example.com/gyre/gyre.entry]"], unfollowed := true, recurses := true, named := ["net/netip.z4"], apart := false, laid := [("net/netip.z4", laid_net_netip_z4)] }
def FnTableAddRefusesImpostorSaid : Prop := fnTableAddRefusesImpostorRow.holds Tryd.pinned (OpenSpec.ofChange fnTableAddRefusesImpostorSpec)

/-- ITS FALSE NEIGHBOUR: 'it returns false'. Refute it at one input. -/
def fnTableAddRefusesImpostorWrong : ChangeSpec := { name := "fnTableAddRefusesImpostor", fn := fun _ => fun
  | [d1, d2, d3, d4, d5, d6, d7, d8, d9, d10] => { results := [.lit (.bool false)], args := [d1, d2, d3, d4, d5, d6, d7, d8, d9, d10] }
  | _ => none }
def FnTableAddRefusesImpostorWrongFalsely : Prop := fnTableAddRefusesImpostorRow.holds Tryd.pinned (OpenSpec.ofChange fnTableAddRefusesImpostorWrong)

end Rows
end Go.Proofs.Qxb6616992aDoor
