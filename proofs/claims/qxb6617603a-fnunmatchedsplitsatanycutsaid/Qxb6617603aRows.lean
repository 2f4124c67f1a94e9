/-
  No cell of these rows narrows 'for every input' (looked for: loops, veiled, ifaces, maps, wideKeys, modest, calm, conditions, laid).
  DERIVED. THE GIVEN ROWS OF THIS SEAT. 2 by the template 'for every input the law returns true; each argument reads behind the call as it read before'; 0 by the template 'total and deterministic' (their statements: Qxb6617603aTotals.lean).
  GIVEN WITH THE SEED: the statements are not yours to turn. If you find one false, say at which input.
  Laid BY PROGRAM, IN A SANDBOX (cutbox-rows.mjs): the forced cells as the released guide's own fill.sh prints them over the translation 79c8f19a1d854d17… (all of the seat's roots in one cut). By AI agents, Wed Nov 11 2026. No macro, syntax, notation, axiom, sorry.
-/
import Derived.Test.Qxb6617603aChecked
import GoSem.Claim
import GoSem.ClaimJoined
import GoSem.ClaimMapViews
import Derived.JoinedTies
import Derived.KernelRfl
namespace Go.Proofs.Qxb6617603a
/- THE CELL 'sum', in the pinned program and in every row, IS THE sha256 OF THE DUMP (.gsa) THAT Qxb6617603aProg.lean LOADS. Nothing in Lean hashes anything: it is a label: what it is worth is what the hold of that sum in a sandbox is worth. -/
noncomputable def Try.pinned : Pinned := { name := "qxb6617603a", sum := "79c8f19a1d854d17f79723ce79106bec7818db5ab349d551e1fc121c65f87966", checked := Try.checked }
namespace Rows
def none {H : Type} : Left H := { results := [], args := [] }

/-- 'zzlaws_pkg_verify_b1.FnUnmatchedAndNegationRebuildEntries': WHATEVER THE INPUT: true; the input reads as it did. -/
def fnUnmatchedAndNegationRebuildEntriesSpec : ChangeSpec := { name := "fnUnmatchedAndNegationRebuildEntries", fn := fun _ => fun
  | [d1, d2] => { results := [.lit (.bool true)], args := [d1, d2] }
  | _ => none }
def fnUnmatchedAndNegationRebuildEntriesRow : OpenClaim := { program := "qxb6617603a", sum := "79c8f19a1d854d17f79723ce79106bec7818db5ab349d551e1fc121c65f87966", func := "example.com/tallyseal/tallyseal/zzlaws_pkg_verify_b1.FnUnmatchedAndNegationRebuildEntries", spec := "fnUnmatchedAndNegationRebuildEntries", apart := false }
def FnUnmatchedAndNegationRebuildEntriesSaid : Prop := fnUnmatchedAndNegationRebuildEntriesRow.holds Try.pinned (OpenSpec.ofChange fnUnmatchedAndNegationRebuildEntriesSpec)

/-- ITS FALSE NEIGHBOUR: 'it returns false'. Refute it at one input. -/
def fnUnmatchedAndNegationRebuildEntriesWrong : ChangeSpec := { name := "fnUnmatchedAndNegationRebuildEntries", fn := fun _ => fun
  | [d1, d2] => { results := [.lit (.bool false)], args := [d1, d2] }
  | _ => none }
def FnUnmatchedAndNegationRebuildEntriesWrongFalsely : Prop := fnUnmatchedAndNegationRebuildEntriesRow.holds Try.pinned (OpenSpec.ofChange fnUnmatchedAndNegationRebuildEntriesWrong)

/-- 'zzlaws_pkg_verify_b1.FnUnmatchedSplitsAtAnyCut': WHATEVER THE INPUT: true; the input reads as it did. -/
def fnUnmatchedSplitsAtAnyCutSpec : ChangeSpec := { name := "fnUnmatchedSplitsAtAnyCut", fn := fun _ => fun
  | [d1, d2, d3] => { results := [.lit (.bool true)], args := [d1, d2, d3] }
  | _ => none }
def fnUnmatchedSplitsAtAnyCutRow : OpenClaim := { program := "qxb6617603a", sum := "79c8f19a1d854d17f79723ce79106bec7818db5ab349d551e1fc121c65f87966", func := "example.com/tallyseal/tallyseal/zzlaws_pkg_verify_b1.FnUnmatchedSplitsAtAnyCut", spec := "fnUnmatchedSplitsAtAnyCut", apart := false }
def FnUnmatchedSplitsAtAnyCutSaid : Prop := fnUnmatchedSplitsAtAnyCutRow.holds Try.pinned (OpenSpec.ofChange fnUnmatchedSplitsAtAnyCutSpec)

/-- ITS FALSE NEIGHBOUR: 'it returns false'. Refute it at one input. -/
def fnUnmatchedSplitsAtAnyCutWrong : ChangeSpec := { name := "fnUnmatchedSplitsAtAnyCut", fn := fun _ => fun
  | [d1, d2, d3] => { results := [.lit (.bool false)], args := [d1, d2, d3] }
  | _ => none }
def FnUnmatchedSplitsAtAnyCutWrongFalsely : Prop := fnUnmatchedSplitsAtAnyCutRow.holds Try.pinned (OpenSpec.ofChange fnUnmatchedSplitsAtAnyCutWrong)

end Rows
end Go.Proofs.Qxb6617603a
