/-
  No cell of these rows narrows 'for every input' (looked for: loops, veiled, ifaces, maps, wideKeys, modest, calm, conditions, laid).
  DERIVED. THE GIVEN ROWS OF THIS SEAT. 2 by the template 'for every input the law returns true; each argument reads behind the call as it read before'; 0 by the template 'total and deterministic' (their statements: Qxb6628685aTotals.lean).
  GIVEN WITH THE SEED: the statements are not yours to turn. If you find one false, say at which input.
  Laid BY PROGRAM, IN A SANDBOX (cutbox-rows.mjs): the forced cells as the released guide's own fill.sh prints them over the translation 6f2193769abdd307… (all of the seat's roots in one cut). By AI agents, Wed Nov 11 2026. No macro, syntax, notation, axiom, sorry.
-/
import Derived.Test.Qxb6628685aChecked
import GoSem.Claim
import GoSem.ClaimJoined
import GoSem.ClaimMapViews
import Derived.JoinedTies
import Derived.KernelRfl
namespace Go.Proofs.Qxb6628685a
/- THE CELL 'sum', in the pinned program and in every row, IS THE sha256 OF THE DUMP (.gsa) THAT Qxb6628685aProg.lean LOADS. Nothing in Lean hashes anything: it is a label: what it is worth is what the hold of that sum in a sandbox is worth. -/
noncomputable def Try.pinned : Pinned := { name := "qxb6628685a", sum := "6f2193769abdd3075159d4ac67b8e6d20ca953a44f9eb3669de89c58418487b2", checked := Try.checked }
namespace Rows
def none {H : Type} : Left H := { results := [], args := [] }

/-- 'zzlaws_container_b1.FnIsContainerAcceptsWrittenHeaderAtAnyCut': WHATEVER THE INPUT: true; the input reads as it did. -/
def fnIsContainerAcceptsWrittenHeaderAtAnyCutSpec : ChangeSpec := { name := "fnIsContainerAcceptsWrittenHeaderAtAnyCut", fn := fun _ => fun
  | [d1, d2, d3, d4, d5, d6] => { results := [.lit (.bool true)], args := [d1, d2, d3, d4, d5, d6] }
  | _ => none }
def fnIsContainerAcceptsWrittenHeaderAtAnyCutRow : OpenClaim := { program := "qxb6628685a", sum := "6f2193769abdd3075159d4ac67b8e6d20ca953a44f9eb3669de89c58418487b2", func := "example.com/razbor/razbor/zzlaws_container_b1.FnIsContainerAcceptsWrittenHeaderAtAnyCut", spec := "fnIsContainerAcceptsWrittenHeaderAtAnyCut", apart := false }
def FnIsContainerAcceptsWrittenHeaderAtAnyCutSaid : Prop := fnIsContainerAcceptsWrittenHeaderAtAnyCutRow.holds Try.pinned (OpenSpec.ofChange fnIsContainerAcceptsWrittenHeaderAtAnyCutSpec)

/-- ITS FALSE NEIGHBOUR: 'it returns false'. Refute it at one input. -/
def fnIsContainerAcceptsWrittenHeaderAtAnyCutWrong : ChangeSpec := { name := "fnIsContainerAcceptsWrittenHeaderAtAnyCut", fn := fun _ => fun
  | [d1, d2, d3, d4, d5, d6] => { results := [.lit (.bool false)], args := [d1, d2, d3, d4, d5, d6] }
  | _ => none }
def FnIsContainerAcceptsWrittenHeaderAtAnyCutWrongFalsely : Prop := fnIsContainerAcceptsWrittenHeaderAtAnyCutRow.holds Try.pinned (OpenSpec.ofChange fnIsContainerAcceptsWrittenHeaderAtAnyCutWrong)

/-- 'zzlaws_container_b1.FnIsContainerRefusesExactlyTheWrongByte': WHATEVER THE INPUT: true; the input reads as it did. -/
def fnIsContainerRefusesExactlyTheWrongByteSpec : ChangeSpec := { name := "fnIsContainerRefusesExactlyTheWrongByte", fn := fun _ => fun
  | [d1, d2, d3, d4, d5, d6, d7] => { results := [.lit (.bool true)], args := [d1, d2, d3, d4, d5, d6, d7] }
  | _ => none }
def fnIsContainerRefusesExactlyTheWrongByteRow : OpenClaim := { program := "qxb6628685a", sum := "6f2193769abdd3075159d4ac67b8e6d20ca953a44f9eb3669de89c58418487b2", func := "example.com/razbor/razbor/zzlaws_container_b1.FnIsContainerRefusesExactlyTheWrongByte", spec := "fnIsContainerRefusesExactlyTheWrongByte", apart := false }
def FnIsContainerRefusesExactlyTheWrongByteSaid : Prop := fnIsContainerRefusesExactlyTheWrongByteRow.holds Try.pinned (OpenSpec.ofChange fnIsContainerRefusesExactlyTheWrongByteSpec)

/-- ITS FALSE NEIGHBOUR: 'it returns false'. Refute it at one input. -/
def fnIsContainerRefusesExactlyTheWrongByteWrong : ChangeSpec := { name := "fnIsContainerRefusesExactlyTheWrongByte", fn := fun _ => fun
  | [d1, d2, d3, d4, d5, d6, d7] => { results := [.lit (.bool false)], args := [d1, d2, d3, d4, d5, d6, d7] }
  | _ => none }
def FnIsContainerRefusesExactlyTheWrongByteWrongFalsely : Prop := fnIsContainerRefusesExactlyTheWrongByteRow.holds Try.pinned (OpenSpec.ofChange fnIsContainerRefusesExactlyTheWrongByteWrong)

end Rows
end Go.Proofs.Qxb6628685a
