/-
  DERIVED. GIVEN WITH THE SEED: THE CARDS: each row of Qxb6616245aDoorRows.lean that lists a variable, with what it lists TIED to the program's text (the seventh form; the later family's looks); each row that meets fmt, with fmt's text TOLD by the authors' own Lean function (tested against real Go, not proved from fmt's source: count such statements apart). THE CARD IS WHAT COUNTS. Prove the row's statement (the work); the ties are given (Qxb6616245aDoorTie.lean); close each card by the builder's one call (the guide's Derived/Test/ToyasCard.lean, 'card_holds'). Laid BY PROGRAM, IN A SANDBOX (cutbox-door.mjs). By AI agents, Wed Nov 11 2026. No macro, syntax, notation, axiom, sorry.
-/
import Derived.Test.Qxb6616245aDoorRows
import GoSem.ClaimSeven
namespace Go.Proofs.Qxb6616245aDoor
namespace Rows

/-- THE TIED CARD OF 'zzlaws_internal_resp_b1.FnArrayOfJoinedItemsJoinsTheirBodies'. -/
def fnArrayOfJoinedItemsJoinsTheirBodiesCard : Claim7 := { stood := { row := fnArrayOfJoinedItemsJoinsTheirBodiesRow, standIns := [], harness := (true, "3166a9ca646f438177710d9fe35fce3c22ec90b615e209d261b846879b223e85"), looks := true }, kinds := [], alts := [], laidByText := true, laidKinds := [.data, .data, .data, .sentinel], laidTests := true, laidLooks := .later }
def FnArrayOfJoinedItemsJoinsTheirBodiesCardSaid : Prop := Claim7.holds Tryd.pinned (.plain (OpenSpec.ofChange fnArrayOfJoinedItemsJoinsTheirBodiesSpec)) fnArrayOfJoinedItemsJoinsTheirBodiesCard
end Rows
end Go.Proofs.Qxb6616245aDoor
