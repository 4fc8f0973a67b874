/-
  No cell of these rows narrows 'for every input' (looked for: loops, veiled, ifaces, maps, wideKeys, modest, calm, conditions, laid).
  DERIVED. THE GIVEN ROWS OF THIS SEAT. 4 by the template 'for every input the law returns true; each argument reads behind the call as it read before'; 0 by the template 'total and deterministic' (their statements: Qxb6617857aTotals.lean).
  GIVEN WITH THE SEED: the statements are not yours to turn. If you find one false, say at which input.
  Laid BY PROGRAM, IN A SANDBOX (cutbox-rows.mjs): the forced cells as the released guide's own fill.sh prints them over the translation 8e3bfa50e2f6869a… (all of the seat's roots in one cut). By AI agents, Wed Nov 11 2026. No macro, syntax, notation, axiom, sorry.
-/
import Derived.Test.Qxb6617857aChecked
import GoSem.Claim
import GoSem.ClaimJoined
import GoSem.ClaimMapViews
import Derived.JoinedTies
import Derived.KernelRfl
namespace Go.Proofs.Qxb6617857a
/- THE CELL 'sum', in the pinned program and in every row, IS THE sha256 OF THE DUMP (.gsa) THAT Qxb6617857aProg.lean LOADS. Nothing in Lean hashes anything: it is a label: what it is worth is what the hold of that sum in a sandbox is worth. -/
noncomputable def Try.pinned : Pinned := { name := "qxb6617857a", sum := "8e3bfa50e2f6869a5b3c1a457e56499117ca7120d0916b237837fcc7deff07cd", checked := Try.checked }
namespace Rows
def none {H : Type} : Left H := { results := [], args := [] }

/-- 'zzlaws_root_b1.FnMergeSortedIsSortedUnion': WHATEVER THE INPUT: true; the input reads as it did. -/
def fnMergeSortedIsSortedUnionSpec : ChangeSpec := { name := "fnMergeSortedIsSortedUnion", fn := fun _ => fun
  | [d1, d2] => { results := [.lit (.bool true)], args := [d1, d2] }
  | _ => none }
def fnMergeSortedIsSortedUnionRow : OpenClaim := { program := "qxb6617857a", sum := "8e3bfa50e2f6869a5b3c1a457e56499117ca7120d0916b237837fcc7deff07cd", func := "example.com/seamline/seamline/zzlaws_root_b1.FnMergeSortedIsSortedUnion", spec := "fnMergeSortedIsSortedUnion", apart := false }
def FnMergeSortedIsSortedUnionSaid : Prop := fnMergeSortedIsSortedUnionRow.holds Try.pinned (OpenSpec.ofChange fnMergeSortedIsSortedUnionSpec)

/-- ITS FALSE NEIGHBOUR: 'it returns false'. Refute it at one input. -/
def fnMergeSortedIsSortedUnionWrong : ChangeSpec := { name := "fnMergeSortedIsSortedUnion", fn := fun _ => fun
  | [d1, d2] => { results := [.lit (.bool false)], args := [d1, d2] }
  | _ => none }
def FnMergeSortedIsSortedUnionWrongFalsely : Prop := fnMergeSortedIsSortedUnionRow.holds Try.pinned (OpenSpec.ofChange fnMergeSortedIsSortedUnionWrong)

/-- 'zzlaws_root_b1.FnMergeSortedCommutesAndCountsCommon': WHATEVER THE INPUT: true; the input reads as it did. -/
def fnMergeSortedCommutesAndCountsCommonSpec : ChangeSpec := { name := "fnMergeSortedCommutesAndCountsCommon", fn := fun _ => fun
  | [d1, d2] => { results := [.lit (.bool true)], args := [d1, d2] }
  | _ => none }
def fnMergeSortedCommutesAndCountsCommonRow : OpenClaim := { program := "qxb6617857a", sum := "8e3bfa50e2f6869a5b3c1a457e56499117ca7120d0916b237837fcc7deff07cd", func := "example.com/seamline/seamline/zzlaws_root_b1.FnMergeSortedCommutesAndCountsCommon", spec := "fnMergeSortedCommutesAndCountsCommon", apart := false }
def FnMergeSortedCommutesAndCountsCommonSaid : Prop := fnMergeSortedCommutesAndCountsCommonRow.holds Try.pinned (OpenSpec.ofChange fnMergeSortedCommutesAndCountsCommonSpec)

/-- ITS FALSE NEIGHBOUR: 'it returns false'. Refute it at one input. -/
def fnMergeSortedCommutesAndCountsCommonWrong : ChangeSpec := { name := "fnMergeSortedCommutesAndCountsCommon", fn := fun _ => fun
  | [d1, d2] => { results := [.lit (.bool false)], args := [d1, d2] }
  | _ => none }
def FnMergeSortedCommutesAndCountsCommonWrongFalsely : Prop := fnMergeSortedCommutesAndCountsCommonRow.holds Try.pinned (OpenSpec.ofChange fnMergeSortedCommutesAndCountsCommonWrong)

/-- 'zzlaws_root_b1.FnWalkPastIsThePartPastKey': WHATEVER THE INPUT: true; the input reads as it did. -/
def fnWalkPastIsThePartPastKeySpec : ChangeSpec := { name := "fnWalkPastIsThePartPastKey", fn := fun _ => fun
  | [d1, d2, d3, d4, d5, d6] => { results := [.lit (.bool true)], args := [d1, d2, d3, d4, d5, d6] }
  | _ => none }
def fnWalkPastIsThePartPastKeyRow : OpenClaim := { program := "qxb6617857a", sum := "8e3bfa50e2f6869a5b3c1a457e56499117ca7120d0916b237837fcc7deff07cd", func := "example.com/seamline/seamline/zzlaws_root_b1.FnWalkPastIsThePartPastKey", spec := "fnWalkPastIsThePartPastKey", apart := false }
def FnWalkPastIsThePartPastKeySaid : Prop := fnWalkPastIsThePartPastKeyRow.holds Try.pinned (OpenSpec.ofChange fnWalkPastIsThePartPastKeySpec)

/-- ITS FALSE NEIGHBOUR: 'it returns false'. Refute it at one input. -/
def fnWalkPastIsThePartPastKeyWrong : ChangeSpec := { name := "fnWalkPastIsThePartPastKey", fn := fun _ => fun
  | [d1, d2, d3, d4, d5, d6] => { results := [.lit (.bool false)], args := [d1, d2, d3, d4, d5, d6] }
  | _ => none }
def FnWalkPastIsThePartPastKeyWrongFalsely : Prop := fnWalkPastIsThePartPastKeyRow.holds Try.pinned (OpenSpec.ofChange fnWalkPastIsThePartPastKeyWrong)

/-- 'zzlaws_root_b1.FnWalkPastSplitsRangeAtKey': WHATEVER THE INPUT: true; the input reads as it did. -/
def fnWalkPastSplitsRangeAtKeySpec : ChangeSpec := { name := "fnWalkPastSplitsRangeAtKey", fn := fun _ => fun
  | [d1, d2, d3, d4] => { results := [.lit (.bool true)], args := [d1, d2, d3, d4] }
  | _ => none }
def fnWalkPastSplitsRangeAtKeyRow : OpenClaim := { program := "qxb6617857a", sum := "8e3bfa50e2f6869a5b3c1a457e56499117ca7120d0916b237837fcc7deff07cd", func := "example.com/seamline/seamline/zzlaws_root_b1.FnWalkPastSplitsRangeAtKey", spec := "fnWalkPastSplitsRangeAtKey", apart := false }
def FnWalkPastSplitsRangeAtKeySaid : Prop := fnWalkPastSplitsRangeAtKeyRow.holds Try.pinned (OpenSpec.ofChange fnWalkPastSplitsRangeAtKeySpec)

/-- ITS FALSE NEIGHBOUR: 'it returns false'. Refute it at one input. -/
def fnWalkPastSplitsRangeAtKeyWrong : ChangeSpec := { name := "fnWalkPastSplitsRangeAtKey", fn := fun _ => fun
  | [d1, d2, d3, d4] => { results := [.lit (.bool false)], args := [d1, d2, d3, d4] }
  | _ => none }
def FnWalkPastSplitsRangeAtKeyWrongFalsely : Prop := fnWalkPastSplitsRangeAtKeyRow.holds Try.pinned (OpenSpec.ofChange fnWalkPastSplitsRangeAtKeyWrong)

end Rows
end Go.Proofs.Qxb6617857a
