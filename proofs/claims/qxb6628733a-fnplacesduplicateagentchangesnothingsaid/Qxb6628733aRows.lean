/-
  No cell of these rows narrows 'for every input' (looked for: loops, veiled, ifaces, maps, wideKeys, modest, calm, conditions, laid).
  DERIVED. THE GIVEN ROWS OF THIS SEAT. 2 by the template 'for every input the law returns true; each argument reads behind the call as it read before'; 0 by the template 'total and deterministic' (their statements: Qxb6628733aTotals.lean).
  GIVEN WITH THE SEED: the statements are not yours to turn. If you find one false, say at which input.
  Laid BY PROGRAM, IN A SANDBOX (cutbox-rows.mjs): the forced cells as the released guide's own fill.sh prints them over the translation 9f6319906d00eceb… (all of the seat's roots in one cut). By AI agents, Wed Nov 11 2026. No macro, syntax, notation, axiom, sorry.
-/
import Derived.Test.Qxb6628733aChecked
import GoSem.Claim
import GoSem.ClaimJoined
import GoSem.ClaimMapViews
import Derived.JoinedTies
import Derived.KernelRfl
namespace Go.Proofs.Qxb6628733a
/- THE CELL 'sum', in the pinned program and in every row, IS THE sha256 OF THE DUMP (.gsa) THAT Qxb6628733aProg.lean LOADS. Nothing in Lean hashes anything: it is a label: what it is worth is what the hold of that sum in a sandbox is worth. -/
noncomputable def Try.pinned : Pinned := { name := "qxb6628733a", sum := "9f6319906d00ecebde74f331aed79b814fd702893b960f66ea58e04436444d81", checked := Try.checked }
namespace Rows
def none {H : Type} : Left H := { results := [], args := [] }

/-- 'zzlaws_agent_b1.FnPlacesCutAndSingles': WHATEVER THE INPUT: true; the input reads as it did. -/
def fnPlacesCutAndSinglesSpec : ChangeSpec := { name := "fnPlacesCutAndSingles", fn := fun _ => fun
  | [d1, d2, d3] => { results := [.lit (.bool true)], args := [d1, d2, d3] }
  | _ => none }
def fnPlacesCutAndSinglesRow : OpenClaim := { program := "qxb6628733a", sum := "9f6319906d00ecebde74f331aed79b814fd702893b960f66ea58e04436444d81", func := "example.com/pinstone/pinstone/zzlaws_agent_b1.FnPlacesCutAndSingles", spec := "fnPlacesCutAndSingles", unfollowed := true, recurses := true, apart := false }
def FnPlacesCutAndSinglesSaid : Prop := fnPlacesCutAndSinglesRow.holds Try.pinned (OpenSpec.ofChange fnPlacesCutAndSinglesSpec)

/-- ITS FALSE NEIGHBOUR: 'it returns false'. Refute it at one input. -/
def fnPlacesCutAndSinglesWrong : ChangeSpec := { name := "fnPlacesCutAndSingles", fn := fun _ => fun
  | [d1, d2, d3] => { results := [.lit (.bool false)], args := [d1, d2, d3] }
  | _ => none }
def FnPlacesCutAndSinglesWrongFalsely : Prop := fnPlacesCutAndSinglesRow.holds Try.pinned (OpenSpec.ofChange fnPlacesCutAndSinglesWrong)

/-- 'zzlaws_agent_b1.FnPlacesDuplicateAgentChangesNothing': WHATEVER THE INPUT: true; the input reads as it did. -/
def fnPlacesDuplicateAgentChangesNothingSpec : ChangeSpec := { name := "fnPlacesDuplicateAgentChangesNothing", fn := fun _ => fun
  | [d1, d2, d3, d4] => { results := [.lit (.bool true)], args := [d1, d2, d3, d4] }
  | _ => none }
def fnPlacesDuplicateAgentChangesNothingRow : OpenClaim := { program := "qxb6628733a", sum := "9f6319906d00ecebde74f331aed79b814fd702893b960f66ea58e04436444d81", func := "example.com/pinstone/pinstone/zzlaws_agent_b1.FnPlacesDuplicateAgentChangesNothing", spec := "fnPlacesDuplicateAgentChangesNothing", unfollowed := true, recurses := true, apart := false }
def FnPlacesDuplicateAgentChangesNothingSaid : Prop := fnPlacesDuplicateAgentChangesNothingRow.holds Try.pinned (OpenSpec.ofChange fnPlacesDuplicateAgentChangesNothingSpec)

/-- ITS FALSE NEIGHBOUR: 'it returns false'. Refute it at one input. -/
def fnPlacesDuplicateAgentChangesNothingWrong : ChangeSpec := { name := "fnPlacesDuplicateAgentChangesNothing", fn := fun _ => fun
  | [d1, d2, d3, d4] => { results := [.lit (.bool false)], args := [d1, d2, d3, d4] }
  | _ => none }
def FnPlacesDuplicateAgentChangesNothingWrongFalsely : Prop := fnPlacesDuplicateAgentChangesNothingRow.holds Try.pinned (OpenSpec.ofChange fnPlacesDuplicateAgentChangesNothingWrong)

end Rows
end Go.Proofs.Qxb6628733a
