/-
  No cell of these rows narrows 'for every input' (looked for: loops, veiled, ifaces, maps, wideKeys, modest, calm, conditions, laid).
  DERIVED. THE GIVEN ROWS OF THIS SEAT. 1 by the template 'for every input the law returns true; each argument reads behind the call as it read before'; 0 by the template 'total and deterministic' (their statements: Qxb6617082aTotals.lean).
  GIVEN WITH THE SEED: the statements are not yours to turn. If you find one false, say at which input.
  Laid BY PROGRAM, IN A SANDBOX (cutbox-rows.mjs): the forced cells as the released guide's own fill.sh prints them over the translation d744f422e450983e… (all of the seat's roots in one cut). By AI agents, Wed Nov 11 2026. No macro, syntax, notation, axiom, sorry.
-/
import Derived.Test.Qxb6617082aChecked
import GoSem.Claim
import GoSem.ClaimJoined
import GoSem.ClaimMapViews
import Derived.JoinedTies
import Derived.KernelRfl
namespace Go.Proofs.Qxb6617082a
/- THE CELL 'sum', in the pinned program and in every row, IS THE sha256 OF THE DUMP (.gsa) THAT Qxb6617082aProg.lean LOADS. Nothing in Lean hashes anything: it is a label: what it is worth is what the hold of that sum in a sandbox is worth. -/
noncomputable def Try.pinned : Pinned := { name := "qxb6617082a", sum := "d744f422e450983e34feb6c21724f938b66e0b1fbb198e4295dbdcb3b5c36988", checked := Try.checked }
namespace Rows
def none {H : Type} : Left H := { results := [], args := [] }

/-- 'zzlaws_internal_jsonlogic_b1.FnNumberPrefixIsLongestNumberStart': WHATEVER THE INPUT: true; the input reads as it did. -/
def fnNumberPrefixIsLongestNumberStartSpec : ChangeSpec := { name := "fnNumberPrefixIsLongestNumberStart", fn := fun _ => fun
  | [d] => { results := [.lit (.bool true)], args := [d] }
  | _ => none }
def fnNumberPrefixIsLongestNumberStartRow : OpenClaim := { program := "qxb6617082a", sum := "d744f422e450983e34feb6c21724f938b66e0b1fbb198e4295dbdcb3b5c36988", func := "example.com/toggle-logic/toggle-logic/zzlaws_internal_jsonlogic_b1.FnNumberPrefixIsLongestNumberStart", spec := "fnNumberPrefixIsLongestNumberStart", apart := false }
def FnNumberPrefixIsLongestNumberStartSaid : Prop := fnNumberPrefixIsLongestNumberStartRow.holds Try.pinned (OpenSpec.ofChange fnNumberPrefixIsLongestNumberStartSpec)

/-- ITS FALSE NEIGHBOUR: 'it returns false'. Refute it at one input. -/
def fnNumberPrefixIsLongestNumberStartWrong : ChangeSpec := { name := "fnNumberPrefixIsLongestNumberStart", fn := fun _ => fun
  | [d] => { results := [.lit (.bool false)], args := [d] }
  | _ => none }
def FnNumberPrefixIsLongestNumberStartWrongFalsely : Prop := fnNumberPrefixIsLongestNumberStartRow.holds Try.pinned (OpenSpec.ofChange fnNumberPrefixIsLongestNumberStartWrong)

end Rows
end Go.Proofs.Qxb6617082a
