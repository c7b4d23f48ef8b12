/-
  DERIVED. GIVEN WITH THE SEED: THE CARDS: each row of Qxb6616057aFmtRows.lean that lists a variable, with what it lists TIED to the program's text (the seventh form; the later family's looks); each row that meets fmt, with fmt's text TOLD by the authors' own Lean function (tested against real Go, not proved from fmt's source: count such statements apart). THE CARD IS WHAT COUNTS. Prove the row's statement (the work); the ties are given (Qxb6616057aFmtTie.lean); close each card by the builder's one call (the guide's Derived/Test/ToyasCard.lean, 'card_holds'). Laid BY PROGRAM, IN A SANDBOX (cutbox-door.mjs). By AI agents, Wed Nov 11 2026. No macro, syntax, notation, axiom, sorry.
-/
import Derived.Test.Qxb6616057aFmtRows
import GoSem.ClaimSeven
namespace Go.Proofs.Qxb6616057aFmt
namespace Rows

/-- THE TOLD AND TIED CARD OF 'zzlaws_flake_b1.FnTimestampOrdersIDsByTimeThenRandom'. -/
def fnTimestampOrdersIDsByTimeThenRandomCard : Claim7 := { stood := { row := fnTimestampOrdersIDsByTimeThenRandomRow, standIns := [], harness := (true, "496e920d61a6758051101f0538287637e02feeccbfd32afc9b88fe6d1f7489cb"), looks := false }, told := true, laidByText := true, laidKinds := [.sentinel], laidTests := true, laidLooks := .later, goes := false }
def FnTimestampOrdersIDsByTimeThenRandomToldSaid : Prop := Claim7.holds Tryf.pinned (.plain (OpenSpec.ofChange fnTimestampOrdersIDsByTimeThenRandomSpec)) fnTimestampOrdersIDsByTimeThenRandomCard
/-- ITS FALSE NEIGHBOUR. Refute it at one input. -/
def FnTimestampOrdersIDsByTimeThenRandomToldWrongFalsely : Prop := Claim7.holds Tryf.pinned (.plain (OpenSpec.ofChange fnTimestampOrdersIDsByTimeThenRandomWrong)) fnTimestampOrdersIDsByTimeThenRandomCard

/-- THE TOLD AND TIED CARD OF 'zzlaws_flake_b1.FnRandomWidthDecomposesID'. -/
def fnRandomWidthDecomposesIDCard : Claim7 := { stood := { row := fnRandomWidthDecomposesIDRow, standIns := [], harness := (true, "496e920d61a6758051101f0538287637e02feeccbfd32afc9b88fe6d1f7489cb"), looks := false }, told := true, laidByText := true, laidKinds := [.sentinel], laidTests := true, laidLooks := .later, goes := false }
def FnRandomWidthDecomposesIDToldSaid : Prop := Claim7.holds Tryf.pinned (.plain (OpenSpec.ofChange fnRandomWidthDecomposesIDSpec)) fnRandomWidthDecomposesIDCard
/-- ITS FALSE NEIGHBOUR. Refute it at one input. -/
def FnRandomWidthDecomposesIDToldWrongFalsely : Prop := Claim7.holds Tryf.pinned (.plain (OpenSpec.ofChange fnRandomWidthDecomposesIDWrong)) fnRandomWidthDecomposesIDCard

/-- THE TOLD AND TIED CARD OF 'zzlaws_flake_b1.FnRandomWidthMillisecondBoundary'. -/
def fnRandomWidthMillisecondBoundaryCard : Claim7 := { stood := { row := fnRandomWidthMillisecondBoundaryRow, standIns := [], harness := (true, "496e920d61a6758051101f0538287637e02feeccbfd32afc9b88fe6d1f7489cb"), looks := false }, told := true, laidByText := true, laidKinds := [.sentinel], laidTests := true, laidLooks := .later, goes := false }
def FnRandomWidthMillisecondBoundaryToldSaid : Prop := Claim7.holds Tryf.pinned (.plain (OpenSpec.ofChange fnRandomWidthMillisecondBoundarySpec)) fnRandomWidthMillisecondBoundaryCard
/-- ITS FALSE NEIGHBOUR. Refute it at one input. -/
def FnRandomWidthMillisecondBoundaryToldWrongFalsely : Prop := Claim7.holds Tryf.pinned (.plain (OpenSpec.ofChange fnRandomWidthMillisecondBoundaryWrong)) fnRandomWidthMillisecondBoundaryCard
end Rows
end Go.Proofs.Qxb6616057aFmt
