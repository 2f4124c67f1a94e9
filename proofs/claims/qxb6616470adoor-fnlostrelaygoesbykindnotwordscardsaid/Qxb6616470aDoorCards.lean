/-
  DERIVED. GIVEN WITH THE SEED: THE CARDS: each row of Qxb6616470aDoorRows.lean that lists a variable, with what it lists TIED to the program's text (the seventh form; the later family's looks); each row that meets fmt, with fmt's text TOLD by the authors' own Lean function (tested against real Go, not proved from fmt's source: count such statements apart). THE CARD IS WHAT COUNTS. Prove the row's statement (the work); the ties are given (Qxb6616470aDoorTie.lean); close each card by the builder's one call (the guide's Derived/Test/ToyasCard.lean, 'card_holds'). Laid BY PROGRAM, IN A SANDBOX (cutbox-door.mjs). By AI agents, Wed Nov 11 2026. No macro, syntax, notation, axiom, sorry.
-/
import Derived.Test.Qxb6616470aDoorRows
import GoSem.ClaimSeven
namespace Go.Proofs.Qxb6616470aDoor
namespace Rows

/-- THE TIED CARD OF 'zzlaws_session_b1.FnLostRelayGoesByKindNotWords'. -/
def fnLostRelayGoesByKindNotWordsCard : Claim7 := { stood := { row := fnLostRelayGoesByKindNotWordsRow, standIns := [], harness := (true, "c0324524a3d08b4f867035d59ef880e5b1a1e0032771e005b4f5bc8450e4cf79"), looks := true }, kinds := [], alts := [], laidByText := true, laidKinds := [.handle], laidTests := true, laidLooks := .later }
def FnLostRelayGoesByKindNotWordsCardSaid : Prop := Claim7.holds Tryd.pinned (.plain (OpenSpec.ofChange fnLostRelayGoesByKindNotWordsSpec)) fnLostRelayGoesByKindNotWordsCard
end Rows
end Go.Proofs.Qxb6616470aDoor
