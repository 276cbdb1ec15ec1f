/-
  No cell of these rows narrows 'for every input' (looked for: loops, veiled, ifaces, maps, wideKeys, modest, calm, conditions, laid).
  DERIVED. THE GIVEN ROWS OF THIS SEAT. 2 by the template 'for every input the law returns true; each argument reads behind the call as it read before'; 0 by the template 'total and deterministic' (their statements: Qxb6628760aTotals.lean).
  GIVEN WITH THE SEED: the statements are not yours to turn. If you find one false, say at which input.
  Laid BY PROGRAM, IN A SANDBOX (cutbox-rows.mjs): the forced cells as the released guide's own fill.sh prints them over the translation 41027f7cf3ff5115… (all of the seat's roots in one cut). By AI agents, Wed Nov 11 2026. No macro, syntax, notation, axiom, sorry.
-/
import Derived.Test.Qxb6628760aChecked
import GoSem.Claim
import GoSem.ClaimJoined
import GoSem.ClaimMapViews
import Derived.JoinedTies
import Derived.KernelRfl
namespace Go.Proofs.Qxb6628760a
/- THE CELL 'sum', in the pinned program and in every row, IS THE sha256 OF THE DUMP (.gsa) THAT Qxb6628760aProg.lean LOADS. Nothing in Lean hashes anything: it is a label: what it is worth is what the hold of that sum in a sandbox is worth. -/
noncomputable def Try.pinned : Pinned := { name := "qxb6628760a", sum := "41027f7cf3ff5115a3f84ec6e4196689e2e91dd30d432250b36a00218d4251c1", checked := Try.checked }
namespace Rows
def none {H : Type} : Left H := { results := [], args := [] }

/-- 'zzlaws_pkg_pipeline_b1.FnValidNameNumeralAffix': WHATEVER THE INPUT: true; the input reads as it did. -/
def fnValidNameNumeralAffixSpec : ChangeSpec := { name := "fnValidNameNumeralAffix", fn := fun _ => fun
  | [d1, d2] => { results := [.lit (.bool true)], args := [d1, d2] }
  | _ => none }
def fnValidNameNumeralAffixRow : OpenClaim := { program := "qxb6628760a", sum := "41027f7cf3ff5115a3f84ec6e4196689e2e91dd30d432250b36a00218d4251c1", func := "example.com/stagework/stagework/zzlaws_pkg_pipeline_b1.FnValidNameNumeralAffix", spec := "fnValidNameNumeralAffix", apart := false }
def FnValidNameNumeralAffixSaid : Prop := fnValidNameNumeralAffixRow.holds Try.pinned (OpenSpec.ofChange fnValidNameNumeralAffixSpec)

/-- ITS FALSE NEIGHBOUR: 'it returns false'. Refute it at one input. -/
def fnValidNameNumeralAffixWrong : ChangeSpec := { name := "fnValidNameNumeralAffix", fn := fun _ => fun
  | [d1, d2] => { results := [.lit (.bool false)], args := [d1, d2] }
  | _ => none }
def FnValidNameNumeralAffixWrongFalsely : Prop := fnValidNameNumeralAffixRow.holds Try.pinned (OpenSpec.ofChange fnValidNameNumeralAffixWrong)

/-- 'zzlaws_pkg_pipeline_b1.FnValidNameAnyCut': WHATEVER THE INPUT: true; the input reads as it did. -/
def fnValidNameAnyCutSpec : ChangeSpec := { name := "fnValidNameAnyCut", fn := fun _ => fun
  | [d1, d2] => { results := [.lit (.bool true)], args := [d1, d2] }
  | _ => none }
def fnValidNameAnyCutRow : OpenClaim := { program := "qxb6628760a", sum := "41027f7cf3ff5115a3f84ec6e4196689e2e91dd30d432250b36a00218d4251c1", func := "example.com/stagework/stagework/zzlaws_pkg_pipeline_b1.FnValidNameAnyCut", spec := "fnValidNameAnyCut", apart := false }
def FnValidNameAnyCutSaid : Prop := fnValidNameAnyCutRow.holds Try.pinned (OpenSpec.ofChange fnValidNameAnyCutSpec)

/-- ITS FALSE NEIGHBOUR: 'it returns false'. Refute it at one input. -/
def fnValidNameAnyCutWrong : ChangeSpec := { name := "fnValidNameAnyCut", fn := fun _ => fun
  | [d1, d2] => { results := [.lit (.bool false)], args := [d1, d2] }
  | _ => none }
def FnValidNameAnyCutWrongFalsely : Prop := fnValidNameAnyCutRow.holds Try.pinned (OpenSpec.ofChange fnValidNameAnyCutWrong)

end Rows
end Go.Proofs.Qxb6628760a
