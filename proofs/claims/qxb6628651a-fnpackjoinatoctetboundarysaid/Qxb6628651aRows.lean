/-
  No cell of these rows narrows 'for every input' (looked for: loops, veiled, ifaces, maps, wideKeys, modest, calm, conditions, laid).
  DERIVED. THE GIVEN ROWS OF THIS SEAT. 2 by the template 'for every input the law returns true; each argument reads behind the call as it read before'; 0 by the template 'total and deterministic' (their statements: Qxb6628651aTotals.lean).
  GIVEN WITH THE SEED: the statements are not yours to turn. If you find one false, say at which input.
  Laid BY PROGRAM, IN A SANDBOX (cutbox-rows.mjs): the forced cells as the released guide's own fill.sh prints them over the translation 9746f2ee44ebe0f3… (all of the seat's roots in one cut). By AI agents, Wed Nov 11 2026. No macro, syntax, notation, axiom, sorry.
-/
import Derived.Test.Qxb6628651aChecked
import GoSem.Claim
import GoSem.ClaimJoined
import GoSem.ClaimMapViews
import Derived.JoinedTies
import Derived.KernelRfl
namespace Go.Proofs.Qxb6628651a
/- THE CELL 'sum', in the pinned program and in every row, IS THE sha256 OF THE DUMP (.gsa) THAT Qxb6628651aProg.lean LOADS. Nothing in Lean hashes anything: it is a label: what it is worth is what the hold of that sum in a sandbox is worth. -/
noncomputable def Try.pinned : Pinned := { name := "qxb6628651a", sum := "9746f2ee44ebe0f338aa6917647d93823ed184a9e37906815d596642f31d2659", checked := Try.checked }
namespace Rows
def none {H : Type} : Left H := { results := [], args := [] }

/-- 'zzlaws_gsm7_b1.FnPackBitModel': WHATEVER THE INPUT: true; the input reads as it did. -/
def fnPackBitModelSpec : ChangeSpec := { name := "fnPackBitModel", fn := fun _ => fun
  | [d] => { results := [.lit (.bool true)], args := [d] }
  | _ => none }
def fnPackBitModelRow : OpenClaim := { program := "qxb6628651a", sum := "9746f2ee44ebe0f338aa6917647d93823ed184a9e37906815d596642f31d2659", func := "example.com/telcodec/telcodec/zzlaws_gsm7_b1.FnPackBitModel", spec := "fnPackBitModel", apart := false }
def FnPackBitModelSaid : Prop := fnPackBitModelRow.holds Try.pinned (OpenSpec.ofChange fnPackBitModelSpec)

/-- ITS FALSE NEIGHBOUR: 'it returns false'. Refute it at one input. -/
def fnPackBitModelWrong : ChangeSpec := { name := "fnPackBitModel", fn := fun _ => fun
  | [d] => { results := [.lit (.bool false)], args := [d] }
  | _ => none }
def FnPackBitModelWrongFalsely : Prop := fnPackBitModelRow.holds Try.pinned (OpenSpec.ofChange fnPackBitModelWrong)

/-- 'zzlaws_gsm7_b1.FnPackJoinAtOctetBoundary': WHATEVER THE INPUT: true; the input reads as it did. -/
def fnPackJoinAtOctetBoundarySpec : ChangeSpec := { name := "fnPackJoinAtOctetBoundary", fn := fun _ => fun
  | [d1, d2] => { results := [.lit (.bool true)], args := [d1, d2] }
  | _ => none }
def fnPackJoinAtOctetBoundaryRow : OpenClaim := { program := "qxb6628651a", sum := "9746f2ee44ebe0f338aa6917647d93823ed184a9e37906815d596642f31d2659", func := "example.com/telcodec/telcodec/zzlaws_gsm7_b1.FnPackJoinAtOctetBoundary", spec := "fnPackJoinAtOctetBoundary", apart := false }
def FnPackJoinAtOctetBoundarySaid : Prop := fnPackJoinAtOctetBoundaryRow.holds Try.pinned (OpenSpec.ofChange fnPackJoinAtOctetBoundarySpec)

/-- ITS FALSE NEIGHBOUR: 'it returns false'. Refute it at one input. -/
def fnPackJoinAtOctetBoundaryWrong : ChangeSpec := { name := "fnPackJoinAtOctetBoundary", fn := fun _ => fun
  | [d1, d2] => { results := [.lit (.bool false)], args := [d1, d2] }
  | _ => none }
def FnPackJoinAtOctetBoundaryWrongFalsely : Prop := fnPackJoinAtOctetBoundaryRow.holds Try.pinned (OpenSpec.ofChange fnPackJoinAtOctetBoundaryWrong)

end Rows
end Go.Proofs.Qxb6628651a
