/-
  No cell of these rows narrows 'for every input' (looked for: loops, veiled, ifaces, maps, wideKeys, modest, calm, conditions, laid).
  DERIVED. THE GIVEN ROWS OF THIS SEAT. 4 by the template 'for every input the law returns true; each argument reads behind the call as it read before'; 0 by the template 'total and deterministic' (their statements: Qxb6616470aTotals.lean).
  GIVEN WITH THE SEED: the statements are not yours to turn. If you find one false, say at which input.
  Laid BY PROGRAM, IN A SANDBOX (cutbox-rows.mjs): the forced cells as the released guide's own fill.sh prints them over the translation ae31fd919c070736… (all of the seat's roots in one cut). By AI agents, Wed Nov 11 2026. No macro, syntax, notation, axiom, sorry.
-/
import Derived.Test.Qxb6616470aChecked
import GoSem.Claim
import GoSem.ClaimJoined
import GoSem.ClaimMapViews
import Derived.JoinedTies
import Derived.KernelRfl
namespace Go.Proofs.Qxb6616470a
/- THE CELL 'sum', in the pinned program and in every row, IS THE sha256 OF THE DUMP (.gsa) THAT Qxb6616470aProg.lean LOADS. Nothing in Lean hashes anything: it is a label: what it is worth is what the hold of that sum in a sandbox is worth. -/
noncomputable def Try.pinned : Pinned := { name := "qxb6616470a", sum := "ae31fd919c0707361cf8a35b5e5119aaa84961c51088298eecec22e16196f467", checked := Try.checked }
namespace Rows
def none {H : Type} : Left H := { results := [], args := [] }

/-- 'zzlaws_session_b1.FnMaxRoundNameLeavesRoomForTheMemberSet': WHATEVER THE INPUT: true; the input reads as it did. -/
def fnMaxRoundNameLeavesRoomForTheMemberSetSpec : ChangeSpec := { name := "fnMaxRoundNameLeavesRoomForTheMemberSet", fn := fun _ => fun
  | [d] => { results := [.lit (.bool true)], args := [d] }
  | _ => none }
def fnMaxRoundNameLeavesRoomForTheMemberSetRow : OpenClaim := { program := "qxb6616470a", sum := "ae31fd919c0707361cf8a35b5e5119aaa84961c51088298eecec22e16196f467", func := "example.com/shroudcast/shroudcast/zzlaws_session_b1.FnMaxRoundNameLeavesRoomForTheMemberSet", spec := "fnMaxRoundNameLeavesRoomForTheMemberSet", apart := false }
def FnMaxRoundNameLeavesRoomForTheMemberSetSaid : Prop := fnMaxRoundNameLeavesRoomForTheMemberSetRow.holds Try.pinned (OpenSpec.ofChange fnMaxRoundNameLeavesRoomForTheMemberSetSpec)

/-- ITS FALSE NEIGHBOUR: 'it returns false'. Refute it at one input. -/
def fnMaxRoundNameLeavesRoomForTheMemberSetWrong : ChangeSpec := { name := "fnMaxRoundNameLeavesRoomForTheMemberSet", fn := fun _ => fun
  | [d] => { results := [.lit (.bool false)], args := [d] }
  | _ => none }
def FnMaxRoundNameLeavesRoomForTheMemberSetWrongFalsely : Prop := fnMaxRoundNameLeavesRoomForTheMemberSetRow.holds Try.pinned (OpenSpec.ofChange fnMaxRoundNameLeavesRoomForTheMemberSetWrong)

/-- 'zzlaws_session_b1.FnMaxRoundNameEightMoreMembersCostOneByte': WHATEVER THE INPUT: true; the input reads as it did. -/
def fnMaxRoundNameEightMoreMembersCostOneByteSpec : ChangeSpec := { name := "fnMaxRoundNameEightMoreMembersCostOneByte", fn := fun _ => fun
  | [d1, d2] => { results := [.lit (.bool true)], args := [d1, d2] }
  | _ => none }
def fnMaxRoundNameEightMoreMembersCostOneByteRow : OpenClaim := { program := "qxb6616470a", sum := "ae31fd919c0707361cf8a35b5e5119aaa84961c51088298eecec22e16196f467", func := "example.com/shroudcast/shroudcast/zzlaws_session_b1.FnMaxRoundNameEightMoreMembersCostOneByte", spec := "fnMaxRoundNameEightMoreMembersCostOneByte", apart := false }
def FnMaxRoundNameEightMoreMembersCostOneByteSaid : Prop := fnMaxRoundNameEightMoreMembersCostOneByteRow.holds Try.pinned (OpenSpec.ofChange fnMaxRoundNameEightMoreMembersCostOneByteSpec)

/-- ITS FALSE NEIGHBOUR: 'it returns false'. Refute it at one input. -/
def fnMaxRoundNameEightMoreMembersCostOneByteWrong : ChangeSpec := { name := "fnMaxRoundNameEightMoreMembersCostOneByte", fn := fun _ => fun
  | [d1, d2] => { results := [.lit (.bool false)], args := [d1, d2] }
  | _ => none }
def FnMaxRoundNameEightMoreMembersCostOneByteWrongFalsely : Prop := fnMaxRoundNameEightMoreMembersCostOneByteRow.holds Try.pinned (OpenSpec.ofChange fnMaxRoundNameEightMoreMembersCostOneByteWrong)

/-- 'zzlaws_session_b1.FnReceiveDigestsTheSignedPartOfAFrame': WHATEVER THE INPUT: true; the input reads as it did. -/
def fnReceiveDigestsTheSignedPartOfAFrameSpec : ChangeSpec := { name := "fnReceiveDigestsTheSignedPartOfAFrame", fn := fun _ => fun
  | [d1, d2, d3, d4, d5, d6, d7, d8] => { results := [.lit (.bool true)], args := [d1, d2, d3, d4, d5, d6, d7, d8] }
  | _ => none }
def fnReceiveDigestsTheSignedPartOfAFrameRow : OpenClaim := { program := "qxb6616470a", sum := "ae31fd919c0707361cf8a35b5e5119aaa84961c51088298eecec22e16196f467", func := "example.com/shroudcast/shroudcast/zzlaws_session_b1.FnReceiveDigestsTheSignedPartOfAFrame", spec := "fnReceiveDigestsTheSignedPartOfAFrame", unfollowed := true, recurses := true, apart := false }
def FnReceiveDigestsTheSignedPartOfAFrameSaid : Prop := fnReceiveDigestsTheSignedPartOfAFrameRow.holds Try.pinned (OpenSpec.ofChange fnReceiveDigestsTheSignedPartOfAFrameSpec)

/-- ITS FALSE NEIGHBOUR: 'it returns false'. Refute it at one input. -/
def fnReceiveDigestsTheSignedPartOfAFrameWrong : ChangeSpec := { name := "fnReceiveDigestsTheSignedPartOfAFrame", fn := fun _ => fun
  | [d1, d2, d3, d4, d5, d6, d7, d8] => { results := [.lit (.bool false)], args := [d1, d2, d3, d4, d5, d6, d7, d8] }
  | _ => none }
def FnReceiveDigestsTheSignedPartOfAFrameWrongFalsely : Prop := fnReceiveDigestsTheSignedPartOfAFrameRow.holds Try.pinned (OpenSpec.ofChange fnReceiveDigestsTheSignedPartOfAFrameWrong)

/-- 'zzlaws_session_b1.FnReceiveDigestIgnoresTheSignature': WHATEVER THE INPUT: true; the input reads as it did. -/
def fnReceiveDigestIgnoresTheSignatureSpec : ChangeSpec := { name := "fnReceiveDigestIgnoresTheSignature", fn := fun _ => fun
  | [d1, d2, d3, d4, d5, d6, d7, d8] => { results := [.lit (.bool true)], args := [d1, d2, d3, d4, d5, d6, d7, d8] }
  | _ => none }
def fnReceiveDigestIgnoresTheSignatureRow : OpenClaim := { program := "qxb6616470a", sum := "ae31fd919c0707361cf8a35b5e5119aaa84961c51088298eecec22e16196f467", func := "example.com/shroudcast/shroudcast/zzlaws_session_b1.FnReceiveDigestIgnoresTheSignature", spec := "fnReceiveDigestIgnoresTheSignature", unfollowed := true, recurses := true, apart := false }
def FnReceiveDigestIgnoresTheSignatureSaid : Prop := fnReceiveDigestIgnoresTheSignatureRow.holds Try.pinned (OpenSpec.ofChange fnReceiveDigestIgnoresTheSignatureSpec)

/-- ITS FALSE NEIGHBOUR: 'it returns false'. Refute it at one input. -/
def fnReceiveDigestIgnoresTheSignatureWrong : ChangeSpec := { name := "fnReceiveDigestIgnoresTheSignature", fn := fun _ => fun
  | [d1, d2, d3, d4, d5, d6, d7, d8] => { results := [.lit (.bool false)], args := [d1, d2, d3, d4, d5, d6, d7, d8] }
  | _ => none }
def FnReceiveDigestIgnoresTheSignatureWrongFalsely : Prop := fnReceiveDigestIgnoresTheSignatureRow.holds Try.pinned (OpenSpec.ofChange fnReceiveDigestIgnoresTheSignatureWrong)

end Rows
end Go.Proofs.Qxb6616470a
