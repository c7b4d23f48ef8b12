/-
  NARROWER THAN 'FOR EVERY INPUT', by the rows' own cells (each row's printed sentence says how): FnSetScriptKeepsLastAccepted: ifaces, laid.
  DERIVED. THE GIVEN ROWS OF THIS SEAT. 1 by the template 'for every input the law returns true; each argument reads behind the call as it read before'; 0 by the template 'total and deterministic' (their statements: Qxb6616057aDoorTotals.lean).
  GIVEN WITH THE SEED: the statements are not yours to turn. If you find one false, say at which input.
  Laid BY PROGRAM, IN A SANDBOX (cutbox-rows.mjs): the forced cells as the released guide's own fill.sh prints them over the translation 3a1ff9454eb7eec3… (all of the seat's roots in one cut). By AI agents, Wed Nov 11 2026. No macro, syntax, notation, axiom, sorry.
-/
import Derived.Test.Qxb6616057aDoorChecked
import GoSem.Claim
import GoSem.ClaimJoined
import GoSem.ClaimMapViews
import Derived.JoinedTies
import Derived.KernelRfl
namespace Go.Proofs.Qxb6616057aDoor
/- THE CELL 'sum', in the pinned program and in every row, IS THE sha256 OF THE DUMP (.gsa) THAT Qxb6616057aDoorProg.lean LOADS. Nothing in Lean hashes anything: it is a label: what it is worth is what the hold of that sum in a sandbox is worth. -/
noncomputable def Tryd.pinned : Pinned := { name := "qxb6616057adoor", sum := "3a1ff9454eb7eec3de3d28bd181386bfbc578f9bc6e251e6f547edebd0874f24", checked := Tryd.checked }
namespace Rows
def none {H : Type} : Left H := { results := [], args := [] }

/- WHAT THE LISTED PACKAGE-LEVEL VARIABLES READ AS WHEN THE CALL BEGINS. Each datum BY PROGRAM (the guide's laid-datum.mjs) off the statement by which the dump's own 'gosem.cut.vars' lays the variable. In a bare row this is a premise. The card (Qxb6616057aDoorCards.lean) ties it to the program's text. -/
def laid_example_com_monotick_monotick_flake_ErrOverflow {H : Type} : DataW H := .iface "*errors.errorString" (.ptr (.agg [.lit (.string [102, 108, 97, 107, 101, 58, 32, 118, 97, 108, 117, 101, 32, 111, 117, 116, 115, 105, 100, 101, 32, 116, 104, 101, 32, 85, 108, 105, 100, 45, 70, 108, 97, 107, 101, 32, 114, 97, 110, 103, 101])]))

/-- 'zzlaws_flake_b1.FnSetScriptKeepsLastAccepted': WHATEVER THE INPUT: true; the input reads as it did. -/
def fnSetScriptKeepsLastAcceptedSpec : ChangeSpec := { name := "fnSetScriptKeepsLastAccepted", vars := ["example.com/monotick/monotick/flake.ErrOverflow"], fn := fun _ => fun
  | [d1, d2, d3, g1] => { results := [.lit (.bool true)], args := [d1, d2, d3], vars := [g1] }
  | _ => none }
def fnSetScriptKeepsLastAcceptedRow : OpenClaim := { program := "qxb6616057adoor", sum := "3a1ff9454eb7eec3de3d28bd181386bfbc578f9bc6e251e6f547edebd0874f24", func := "example.com/monotick/monotick/zzlaws_flake_b1.FnSetScriptKeepsLastAccepted", spec := "fnSetScriptKeepsLastAccepted", named := ["example.com/monotick/monotick/flake.ErrOverflow"], ifaces := true, apart := false, laid := [("example.com/monotick/monotick/flake.ErrOverflow", laid_example_com_monotick_monotick_flake_ErrOverflow)] }
def FnSetScriptKeepsLastAcceptedSaid : Prop := fnSetScriptKeepsLastAcceptedRow.holds Tryd.pinned (OpenSpec.ofChange fnSetScriptKeepsLastAcceptedSpec)

/-- ITS FALSE NEIGHBOUR: 'it returns false'. Refute it at one input. -/
def fnSetScriptKeepsLastAcceptedWrong : ChangeSpec := { name := "fnSetScriptKeepsLastAccepted", vars := ["example.com/monotick/monotick/flake.ErrOverflow"], fn := fun _ => fun
  | [d1, d2, d3, g1] => { results := [.lit (.bool false)], args := [d1, d2, d3], vars := [g1] }
  | _ => none }
def FnSetScriptKeepsLastAcceptedWrongFalsely : Prop := fnSetScriptKeepsLastAcceptedRow.holds Tryd.pinned (OpenSpec.ofChange fnSetScriptKeepsLastAcceptedWrong)

end Rows
end Go.Proofs.Qxb6616057aDoor
