/-
  No cell of these rows narrows 'for every input' (looked for: loops, veiled, ifaces, maps, wideKeys, modest, calm, conditions, laid).
  DERIVED. THE GIVEN ROWS OF THIS SEAT. 1 by the template 'for every input the law returns true; each argument reads behind the call as it read before'; 0 by the template 'total and deterministic' (their statements: Qxb6617593aTotals.lean).
  GIVEN WITH THE SEED: the statements are not yours to turn. If you find one false, say at which input.
  Laid BY PROGRAM, IN A SANDBOX (cutbox-rows.mjs): the forced cells as the released guide's own fill.sh prints them over the translation f137400629105e62… (all of the seat's roots in one cut). By AI agents, Wed Nov 11 2026. No macro, syntax, notation, axiom, sorry.
-/
import Derived.Test.Qxb6617593aChecked
import GoSem.Claim
import GoSem.ClaimJoined
import GoSem.ClaimMapViews
import Derived.JoinedTies
import Derived.KernelRfl
namespace Go.Proofs.Qxb6617593a
/- THE CELL 'sum', in the pinned program and in every row, IS THE sha256 OF THE DUMP (.gsa) THAT Qxb6617593aProg.lean LOADS. Nothing in Lean hashes anything: it is a label: what it is worth is what the hold of that sum in a sandbox is worth. -/
noncomputable def Try.pinned : Pinned := { name := "qxb6617593a", sum := "f137400629105e6215315f1ff7a5062c2e138ea4648952201bf112efb61e55a3", checked := Try.checked }
namespace Rows
def none {H : Type} : Left H := { results := [], args := [] }

/-- 'zzlaws_model_b1.FnRoleNamesLastNameWinsAndSplits': WHATEVER THE INPUT: true; the input reads as it did. -/
def fnRoleNamesLastNameWinsAndSplitsSpec : ChangeSpec := { name := "fnRoleNamesLastNameWinsAndSplits", fn := fun _ => fun
  | [d1, d2, d3] => { results := [.lit (.bool true)], args := [d1, d2, d3] }
  | _ => none }
def fnRoleNamesLastNameWinsAndSplitsRow : OpenClaim := { program := "qxb6617593a", sum := "f137400629105e6215315f1ff7a5062c2e138ea4648952201bf112efb61e55a3", func := "example.com/samoid/samoid/zzlaws_model_b1.FnRoleNamesLastNameWinsAndSplits", spec := "fnRoleNamesLastNameWinsAndSplits", apart := false }
def FnRoleNamesLastNameWinsAndSplitsSaid : Prop := fnRoleNamesLastNameWinsAndSplitsRow.holds Try.pinned (OpenSpec.ofChange fnRoleNamesLastNameWinsAndSplitsSpec)

/-- ITS FALSE NEIGHBOUR: 'it returns false'. Refute it at one input. -/
def fnRoleNamesLastNameWinsAndSplitsWrong : ChangeSpec := { name := "fnRoleNamesLastNameWinsAndSplits", fn := fun _ => fun
  | [d1, d2, d3] => { results := [.lit (.bool false)], args := [d1, d2, d3] }
  | _ => none }
def FnRoleNamesLastNameWinsAndSplitsWrongFalsely : Prop := fnRoleNamesLastNameWinsAndSplitsRow.holds Try.pinned (OpenSpec.ofChange fnRoleNamesLastNameWinsAndSplitsWrong)

end Rows
end Go.Proofs.Qxb6617593a
