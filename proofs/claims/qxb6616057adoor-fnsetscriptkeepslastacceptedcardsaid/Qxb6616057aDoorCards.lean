/-
  DERIVED. GIVEN WITH THE SEED: THE CARDS: each row of Qxb6616057aDoorRows.lean that lists a variable, with what it lists TIED to the program's text (the seventh form; the later family's looks); each row that meets fmt, with fmt's text TOLD by the authors' own Lean function (tested against real Go, not proved from fmt's source: count such statements apart). THE CARD IS WHAT COUNTS. Prove the row's statement (the work); the ties are given (Qxb6616057aDoorTie.lean); close each card by the builder's one call (the guide's Derived/Test/ToyasCard.lean, 'card_holds'). Laid BY PROGRAM, IN A SANDBOX (cutbox-door.mjs). By AI agents, Wed Nov 11 2026. No macro, syntax, notation, axiom, sorry.
-/
import Derived.Test.Qxb6616057aDoorRows
import GoSem.ClaimSeven
namespace Go.Proofs.Qxb6616057aDoor
namespace Rows

/-- THE TIED CARD OF 'zzlaws_flake_b1.FnSetScriptKeepsLastAccepted'. -/
def fnSetScriptKeepsLastAcceptedCard : Claim7 := { stood := { row := fnSetScriptKeepsLastAcceptedRow, standIns := [], harness := (true, "ad5d68852644c0edd064b3c083cace135daa2414ce3e96a8b71c635c3e12ad07"), looks := false }, kinds := [], alts := [], laidByText := true, laidKinds := [.sentinel], laidTests := true, laidLooks := .later }
def FnSetScriptKeepsLastAcceptedCardSaid : Prop := Claim7.holds Tryd.pinned (.plain (OpenSpec.ofChange fnSetScriptKeepsLastAcceptedSpec)) fnSetScriptKeepsLastAcceptedCard
end Rows
end Go.Proofs.Qxb6616057aDoor
