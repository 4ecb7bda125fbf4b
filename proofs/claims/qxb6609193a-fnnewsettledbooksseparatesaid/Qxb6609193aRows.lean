/-
  No cell of these rows narrows 'for every input' (looked for: loops, veiled, ifaces, maps, wideKeys, modest, calm, conditions, laid).
  DERIVED. THE GIVEN ROWS OF THIS SEAT. 3 by the template 'for every input the law returns true; each argument reads behind the call as it read before'; 0 by the template 'total and deterministic' (their statements: Qxb6609193aTotals.lean).
  GIVEN WITH THE SEED: the statements are not yours to turn. If you find one false, say at which input.
  Laid BY PROGRAM, IN A SANDBOX (cutbox-rows.mjs): the forced cells as the released guide's own fill.sh prints them over the translation cbe523d9ae672d4c… (all of the seat's roots in one cut). By AI agents, Wed Nov 11 2026. No macro, syntax, notation, axiom, sorry.
-/
import Derived.Test.Qxb6609193aChecked
import GoSem.Claim
import GoSem.ClaimJoined
import GoSem.ClaimMapViews
import Derived.JoinedTies
import Derived.KernelRfl
namespace Go.Proofs.Qxb6609193a
/- THE CELL 'sum', in the pinned program and in every row, IS THE sha256 OF THE DUMP (.gsa) THAT Qxb6609193aProg.lean LOADS. Nothing in Lean hashes anything: it is a label: what it is worth is what the hold of that sum in a sandbox is worth. -/
noncomputable def Try.pinned : Pinned := { name := "qxb6609193a", sum := "cbe523d9ae672d4ce085d46f5c66515078e1e7ad3fd88fe2272887284ea915f0", checked := Try.checked }
namespace Rows
def none {H : Type} : Left H := { results := [], args := [] }

/-- 'zzlaws_pkg_node_b1.FnSeenLeastWholeCores': WHATEVER THE INPUT: true; the input reads as it did. -/
def fnSeenLeastWholeCoresSpec : ChangeSpec := { name := "fnSeenLeastWholeCores", fn := fun _ => fun
  | [d] => { results := [.lit (.bool true)], args := [d] }
  | _ => none }
def fnSeenLeastWholeCoresRow : OpenClaim := { program := "qxb6609193a", sum := "cbe523d9ae672d4ce085d46f5c66515078e1e7ad3fd88fe2272887284ea915f0", func := "example.com/corepact/corepact/zzlaws_pkg_node_b1.FnSeenLeastWholeCores", spec := "fnSeenLeastWholeCores", apart := false }
def FnSeenLeastWholeCoresSaid : Prop := fnSeenLeastWholeCoresRow.holds Try.pinned (OpenSpec.ofChange fnSeenLeastWholeCoresSpec)

/-- ITS FALSE NEIGHBOUR: 'it returns false'. Refute it at one input. -/
def fnSeenLeastWholeCoresWrong : ChangeSpec := { name := "fnSeenLeastWholeCores", fn := fun _ => fun
  | [d] => { results := [.lit (.bool false)], args := [d] }
  | _ => none }
def FnSeenLeastWholeCoresWrongFalsely : Prop := fnSeenLeastWholeCoresRow.holds Try.pinned (OpenSpec.ofChange fnSeenLeastWholeCoresWrong)

/-- 'zzlaws_pkg_node_b1.FnSeenShiftByCore': WHATEVER THE INPUT: true; the input reads as it did. -/
def fnSeenShiftByCoreSpec : ChangeSpec := { name := "fnSeenShiftByCore", fn := fun _ => fun
  | [d] => { results := [.lit (.bool true)], args := [d] }
  | _ => none }
def fnSeenShiftByCoreRow : OpenClaim := { program := "qxb6609193a", sum := "cbe523d9ae672d4ce085d46f5c66515078e1e7ad3fd88fe2272887284ea915f0", func := "example.com/corepact/corepact/zzlaws_pkg_node_b1.FnSeenShiftByCore", spec := "fnSeenShiftByCore", apart := false }
def FnSeenShiftByCoreSaid : Prop := fnSeenShiftByCoreRow.holds Try.pinned (OpenSpec.ofChange fnSeenShiftByCoreSpec)

/-- ITS FALSE NEIGHBOUR: 'it returns false'. Refute it at one input. -/
def fnSeenShiftByCoreWrong : ChangeSpec := { name := "fnSeenShiftByCore", fn := fun _ => fun
  | [d] => { results := [.lit (.bool false)], args := [d] }
  | _ => none }
def FnSeenShiftByCoreWrongFalsely : Prop := fnSeenShiftByCoreRow.holds Try.pinned (OpenSpec.ofChange fnSeenShiftByCoreWrong)

/-- 'zzlaws_pkg_node_b1.FnNewSettledBooksSeparate': WHATEVER THE INPUT: true; the input reads as it did. -/
def fnNewSettledBooksSeparateSpec : ChangeSpec := { name := "fnNewSettledBooksSeparate", fn := fun _ => fun
  | [d1, d2, d3] => { results := [.lit (.bool true)], args := [d1, d2, d3] }
  | _ => none }
def fnNewSettledBooksSeparateRow : OpenClaim := { program := "qxb6609193a", sum := "cbe523d9ae672d4ce085d46f5c66515078e1e7ad3fd88fe2272887284ea915f0", func := "example.com/corepact/corepact/zzlaws_pkg_node_b1.FnNewSettledBooksSeparate", spec := "fnNewSettledBooksSeparate", inPlace := ["slices.overlaps[[]int64]", "slices.overlaps[int64]"], unfollowed := true, recurses := true, apart := false }
def FnNewSettledBooksSeparateSaid : Prop := fnNewSettledBooksSeparateRow.holds Try.pinned (OpenSpec.ofChange fnNewSettledBooksSeparateSpec)

/-- ITS FALSE NEIGHBOUR: 'it returns false'. Refute it at one input. -/
def fnNewSettledBooksSeparateWrong : ChangeSpec := { name := "fnNewSettledBooksSeparate", fn := fun _ => fun
  | [d1, d2, d3] => { results := [.lit (.bool false)], args := [d1, d2, d3] }
  | _ => none }
def FnNewSettledBooksSeparateWrongFalsely : Prop := fnNewSettledBooksSeparateRow.holds Try.pinned (OpenSpec.ofChange fnNewSettledBooksSeparateWrong)

end Rows
end Go.Proofs.Qxb6609193a
