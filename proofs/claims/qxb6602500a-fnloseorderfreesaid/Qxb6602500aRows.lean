/-
  No cell of these rows narrows 'for every input' (looked for: loops, veiled, ifaces, maps, wideKeys, modest, calm, conditions, laid).
  DERIVED. THE GIVEN ROWS OF THIS SEAT. 5 by the template 'for every input the law returns true; each argument reads behind the call as it read before'; 0 by the template 'total and deterministic' (their statements: Qxb6602500aTotals.lean).
  GIVEN WITH THE SEED: the statements are not yours to turn. If you find one false, say at which input.
  Laid BY PROGRAM, IN A SANDBOX (cutbox-rows.mjs): the forced cells as the released guide's own fill.sh prints them over the translation e2458ccd69f1df93… (all of the seat's roots in one cut). By AI agents, Wed Nov 11 2026. No macro, syntax, notation, axiom, sorry.
-/
import Derived.Test.Qxb6602500aChecked
import GoSem.Claim
import GoSem.ClaimJoined
import GoSem.ClaimMapViews
import Derived.JoinedTies
import Derived.KernelRfl
namespace Go.Proofs.Qxb6602500a
/- THE CELL 'sum', in the pinned program and in every row, IS THE sha256 OF THE DUMP (.gsa) THAT Qxb6602500aProg.lean LOADS. Nothing in Lean hashes anything: it is a label: what it is worth is what the hold of that sum in a sandbox is worth. -/
noncomputable def Try.pinned : Pinned := { name := "qxb6602500a", sum := "e2458ccd69f1df936d5134720d911eeb304292ce1d392c4b6a723a82def3f7d3", checked := Try.checked }
namespace Rows
def none {H : Type} : Left H := { results := [], args := [] }

/-- 'zzlaws_root_b1.FnLoseMatchesClosureModel': WHATEVER THE INPUT: true; the input reads as it did. -/
def fnLoseMatchesClosureModelSpec : ChangeSpec := { name := "fnLoseMatchesClosureModel", fn := fun _ => fun
  | [d1, d2, d3, d4, d5, d6, d7] => { results := [.lit (.bool true)], args := [d1, d2, d3, d4, d5, d6, d7] }
  | _ => none }
def fnLoseMatchesClosureModelRow : OpenClaim := { program := "qxb6602500a", sum := "e2458ccd69f1df936d5134720d911eeb304292ce1d392c4b6a723a82def3f7d3", func := "example.com/hearsay/hearsay/zzlaws_root_b1.FnLoseMatchesClosureModel", spec := "fnLoseMatchesClosureModel", plainKeys := false, apart := false }
def FnLoseMatchesClosureModelSaid : Prop := fnLoseMatchesClosureModelRow.holds Try.pinned (OpenSpec.ofChange fnLoseMatchesClosureModelSpec)

/-- ITS FALSE NEIGHBOUR: 'it returns false'. Refute it at one input. -/
def fnLoseMatchesClosureModelWrong : ChangeSpec := { name := "fnLoseMatchesClosureModel", fn := fun _ => fun
  | [d1, d2, d3, d4, d5, d6, d7] => { results := [.lit (.bool false)], args := [d1, d2, d3, d4, d5, d6, d7] }
  | _ => none }
def FnLoseMatchesClosureModelWrongFalsely : Prop := fnLoseMatchesClosureModelRow.holds Try.pinned (OpenSpec.ofChange fnLoseMatchesClosureModelWrong)

/-- 'zzlaws_root_b1.FnLoseOrderFree': WHATEVER THE INPUT: true; the input reads as it did. -/
def fnLoseOrderFreeSpec : ChangeSpec := { name := "fnLoseOrderFree", fn := fun _ => fun
  | [d1, d2, d3, d4, d5, d6, d7, d8, d9] => { results := [.lit (.bool true)], args := [d1, d2, d3, d4, d5, d6, d7, d8, d9] }
  | _ => none }
def fnLoseOrderFreeRow : OpenClaim := { program := "qxb6602500a", sum := "e2458ccd69f1df936d5134720d911eeb304292ce1d392c4b6a723a82def3f7d3", func := "example.com/hearsay/hearsay/zzlaws_root_b1.FnLoseOrderFree", spec := "fnLoseOrderFree", plainKeys := false, apart := false }
def FnLoseOrderFreeSaid : Prop := fnLoseOrderFreeRow.holds Try.pinned (OpenSpec.ofChange fnLoseOrderFreeSpec)

/-- ITS FALSE NEIGHBOUR: 'it returns false'. Refute it at one input. -/
def fnLoseOrderFreeWrong : ChangeSpec := { name := "fnLoseOrderFree", fn := fun _ => fun
  | [d1, d2, d3, d4, d5, d6, d7, d8, d9] => { results := [.lit (.bool false)], args := [d1, d2, d3, d4, d5, d6, d7, d8, d9] }
  | _ => none }
def FnLoseOrderFreeWrongFalsely : Prop := fnLoseOrderFreeRow.holds Try.pinned (OpenSpec.ofChange fnLoseOrderFreeWrong)

/-- 'zzlaws_root_b1.FnLoseOnlyGrowsAndReleases': WHATEVER THE INPUT: true; the input reads as it did. -/
def fnLoseOnlyGrowsAndReleasesSpec : ChangeSpec := { name := "fnLoseOnlyGrowsAndReleases", fn := fun _ => fun
  | [d1, d2, d3, d4, d5, d6, d7] => { results := [.lit (.bool true)], args := [d1, d2, d3, d4, d5, d6, d7] }
  | _ => none }
def fnLoseOnlyGrowsAndReleasesRow : OpenClaim := { program := "qxb6602500a", sum := "e2458ccd69f1df936d5134720d911eeb304292ce1d392c4b6a723a82def3f7d3", func := "example.com/hearsay/hearsay/zzlaws_root_b1.FnLoseOnlyGrowsAndReleases", spec := "fnLoseOnlyGrowsAndReleases", plainKeys := false, apart := false }
def FnLoseOnlyGrowsAndReleasesSaid : Prop := fnLoseOnlyGrowsAndReleasesRow.holds Try.pinned (OpenSpec.ofChange fnLoseOnlyGrowsAndReleasesSpec)

/-- ITS FALSE NEIGHBOUR: 'it returns false'. Refute it at one input. -/
def fnLoseOnlyGrowsAndReleasesWrong : ChangeSpec := { name := "fnLoseOnlyGrowsAndReleases", fn := fun _ => fun
  | [d1, d2, d3, d4, d5, d6, d7] => { results := [.lit (.bool false)], args := [d1, d2, d3, d4, d5, d6, d7] }
  | _ => none }
def FnLoseOnlyGrowsAndReleasesWrongFalsely : Prop := fnLoseOnlyGrowsAndReleasesRow.holds Try.pinned (OpenSpec.ofChange fnLoseOnlyGrowsAndReleasesWrong)

/-- 'zzlaws_root_b1.FnWaitMatchesCaseTable': WHATEVER THE INPUT: true; the input reads as it did. -/
def fnWaitMatchesCaseTableSpec : ChangeSpec := { name := "fnWaitMatchesCaseTable", fn := fun _ => fun
  | [d1, d2, d3, d4, d5, d6, d7, d8, d9] => { results := [.lit (.bool true)], args := [d1, d2, d3, d4, d5, d6, d7, d8, d9] }
  | _ => none }
def fnWaitMatchesCaseTableRow : OpenClaim := { program := "qxb6602500a", sum := "e2458ccd69f1df936d5134720d911eeb304292ce1d392c4b6a723a82def3f7d3", func := "example.com/hearsay/hearsay/zzlaws_root_b1.FnWaitMatchesCaseTable", spec := "fnWaitMatchesCaseTable", plainKeys := false, apart := false }
def FnWaitMatchesCaseTableSaid : Prop := fnWaitMatchesCaseTableRow.holds Try.pinned (OpenSpec.ofChange fnWaitMatchesCaseTableSpec)

/-- ITS FALSE NEIGHBOUR: 'it returns false'. Refute it at one input. -/
def fnWaitMatchesCaseTableWrong : ChangeSpec := { name := "fnWaitMatchesCaseTable", fn := fun _ => fun
  | [d1, d2, d3, d4, d5, d6, d7, d8, d9] => { results := [.lit (.bool false)], args := [d1, d2, d3, d4, d5, d6, d7, d8, d9] }
  | _ => none }
def FnWaitMatchesCaseTableWrongFalsely : Prop := fnWaitMatchesCaseTableRow.holds Try.pinned (OpenSpec.ofChange fnWaitMatchesCaseTableWrong)

/-- 'zzlaws_root_b1.FnScriptAccountsForEveryMessage': WHATEVER THE INPUT: true; the input reads as it did. -/
def fnScriptAccountsForEveryMessageSpec : ChangeSpec := { name := "fnScriptAccountsForEveryMessage", fn := fun _ => fun
  | [d1, d2, d3, d4] => { results := [.lit (.bool true)], args := [d1, d2, d3, d4] }
  | _ => none }
def fnScriptAccountsForEveryMessageRow : OpenClaim := { program := "qxb6602500a", sum := "e2458ccd69f1df936d5134720d911eeb304292ce1d392c4b6a723a82def3f7d3", func := "example.com/hearsay/hearsay/zzlaws_root_b1.FnScriptAccountsForEveryMessage", spec := "fnScriptAccountsForEveryMessage", plainKeys := false, apart := false }
def FnScriptAccountsForEveryMessageSaid : Prop := fnScriptAccountsForEveryMessageRow.holds Try.pinned (OpenSpec.ofChange fnScriptAccountsForEveryMessageSpec)

/-- ITS FALSE NEIGHBOUR: 'it returns false'. Refute it at one input. -/
def fnScriptAccountsForEveryMessageWrong : ChangeSpec := { name := "fnScriptAccountsForEveryMessage", fn := fun _ => fun
  | [d1, d2, d3, d4] => { results := [.lit (.bool false)], args := [d1, d2, d3, d4] }
  | _ => none }
def FnScriptAccountsForEveryMessageWrongFalsely : Prop := fnScriptAccountsForEveryMessageRow.holds Try.pinned (OpenSpec.ofChange fnScriptAccountsForEveryMessageWrong)

end Rows
end Go.Proofs.Qxb6602500a
