/-
  NARROWER THAN 'FOR EVERY INPUT', by the rows' own cells (each row's printed sentence says how): FnTimestampOrdersIDsByTimeThenRandom: ifaces, laid · FnRandomWidthDecomposesID: ifaces, laid · FnRandomWidthMillisecondBoundary: ifaces, laid.
  DERIVED. THE GIVEN ROWS OF THIS SEAT. 3 by the template 'for every input the law returns true; each argument reads behind the call as it read before'; 0 by the template 'total and deterministic' (their statements: Qxb6616057aFmtTotals.lean).
  GIVEN WITH THE SEED: the statements are not yours to turn. If you find one false, say at which input.
  Laid BY PROGRAM, IN A SANDBOX (cutbox-rows.mjs): the forced cells as the released guide's own fill.sh prints them over the translation 34da7cf590213c12… (all of the seat's roots in one cut). By AI agents, Wed Nov 11 2026. No macro, syntax, notation, axiom, sorry.
-/
import Derived.Test.Qxb6616057aFmtChecked
import GoSem.Claim
import GoSem.ClaimJoined
import GoSem.ClaimMapViews
import Derived.JoinedTies
import Derived.KernelRfl
namespace Go.Proofs.Qxb6616057aFmt
/- THE CELL 'sum', in the pinned program and in every row, IS THE sha256 OF THE DUMP (.gsa) THAT Qxb6616057aFmtProg.lean LOADS. Nothing in Lean hashes anything: it is a label: what it is worth is what the hold of that sum in a sandbox is worth. -/
noncomputable def Tryf.pinned : Pinned := { name := "qxb6616057afmt", sum := "34da7cf590213c12a837e8f98cbb0dc36221a86ae14c344e26d0f381f33a36de", checked := Tryf.checked }
namespace Rows
def none {H : Type} : Left H := { results := [], args := [] }

/- WHAT THE LISTED PACKAGE-LEVEL VARIABLES READ AS WHEN THE CALL BEGINS. Each datum BY PROGRAM (the guide's laid-datum.mjs) off the statement by which the dump's own 'gosem.cut.vars' lays the variable. In a bare row this is a premise. The card (Qxb6616057aFmtCards.lean) ties it to the program's text. -/
def laid_example_com_monotick_monotick_flake_ErrConfig {H : Type} : DataW H := .iface "*errors.errorString" (.ptr (.agg [.lit (.string [102, 108, 97, 107, 101, 58, 32, 105, 110, 118, 97, 108, 105, 100, 32, 103, 101, 110, 101, 114, 97, 116, 111, 114, 32, 99, 111, 110, 102, 105, 103, 117, 114, 97, 116, 105, 111, 110])]))

/-- 'zzlaws_flake_b1.FnTimestampOrdersIDsByTimeThenRandom': WHATEVER THE INPUT: true; the input reads as it did. -/
def fnTimestampOrdersIDsByTimeThenRandomSpec : ChangeSpec := { name := "fnTimestampOrdersIDsByTimeThenRandom", vars := ["example.com/monotick/monotick/flake.ErrConfig"], fn := fun _ => fun
  | [d1, d2, d3, d4, d5, d6, g1] => { results := [.lit (.bool true)], args := [d1, d2, d3, d4, d5, d6], vars := [g1] }
  | _ => none }
def fnTimestampOrdersIDsByTimeThenRandomRow : OpenClaim := { program := "qxb6616057afmt", sum := "34da7cf590213c12a837e8f98cbb0dc36221a86ae14c344e26d0f381f33a36de", func := "example.com/monotick/monotick/zzlaws_flake_b1.FnTimestampOrdersIDsByTimeThenRandom", spec := "fnTimestampOrdersIDsByTimeThenRandom", stops := ["fmt.errorf"], inPlace := ["fmt.errorf"], named := ["example.com/monotick/monotick/flake.ErrConfig"], ifaces := true, apart := false, laid := [("example.com/monotick/monotick/flake.ErrConfig", laid_example_com_monotick_monotick_flake_ErrConfig)] }
/-- NO THEOREM (fmt's text is open here; it may be false): for the released tool's asking of the row's closed facts alone. THE STATEMENT IS 'FnTimestampOrdersIDsByTimeThenRandomToldSaid' (Qxb6616057aFmtCards.lean). -/
def FnTimestampOrdersIDsByTimeThenRandomFormAsk : Prop := fnTimestampOrdersIDsByTimeThenRandomRow.holds Tryf.pinned (OpenSpec.ofChange fnTimestampOrdersIDsByTimeThenRandomSpec)

/-- ITS FALSE NEIGHBOUR: 'it returns false'. Refute it at one input. -/
def fnTimestampOrdersIDsByTimeThenRandomWrong : ChangeSpec := { name := "fnTimestampOrdersIDsByTimeThenRandom", vars := ["example.com/monotick/monotick/flake.ErrConfig"], fn := fun _ => fun
  | [d1, d2, d3, d4, d5, d6, g1] => { results := [.lit (.bool false)], args := [d1, d2, d3, d4, d5, d6], vars := [g1] }
  | _ => none }
def FnTimestampOrdersIDsByTimeThenRandomWrongFormAsk : Prop := fnTimestampOrdersIDsByTimeThenRandomRow.holds Tryf.pinned (OpenSpec.ofChange fnTimestampOrdersIDsByTimeThenRandomWrong)

/-- 'zzlaws_flake_b1.FnRandomWidthDecomposesID': WHATEVER THE INPUT: true; the input reads as it did. -/
def fnRandomWidthDecomposesIDSpec : ChangeSpec := { name := "fnRandomWidthDecomposesID", vars := ["example.com/monotick/monotick/flake.ErrConfig"], fn := fun _ => fun
  | [d1, d2, d3, d4, g1] => { results := [.lit (.bool true)], args := [d1, d2, d3, d4], vars := [g1] }
  | _ => none }
def fnRandomWidthDecomposesIDRow : OpenClaim := { program := "qxb6616057afmt", sum := "34da7cf590213c12a837e8f98cbb0dc36221a86ae14c344e26d0f381f33a36de", func := "example.com/monotick/monotick/zzlaws_flake_b1.FnRandomWidthDecomposesID", spec := "fnRandomWidthDecomposesID", stops := ["fmt.errorf"], inPlace := ["fmt.errorf"], named := ["example.com/monotick/monotick/flake.ErrConfig"], ifaces := true, apart := false, laid := [("example.com/monotick/monotick/flake.ErrConfig", laid_example_com_monotick_monotick_flake_ErrConfig)] }
/-- NO THEOREM (fmt's text is open here; it may be false): for the released tool's asking of the row's closed facts alone. THE STATEMENT IS 'FnRandomWidthDecomposesIDToldSaid' (Qxb6616057aFmtCards.lean). -/
def FnRandomWidthDecomposesIDFormAsk : Prop := fnRandomWidthDecomposesIDRow.holds Tryf.pinned (OpenSpec.ofChange fnRandomWidthDecomposesIDSpec)

/-- ITS FALSE NEIGHBOUR: 'it returns false'. Refute it at one input. -/
def fnRandomWidthDecomposesIDWrong : ChangeSpec := { name := "fnRandomWidthDecomposesID", vars := ["example.com/monotick/monotick/flake.ErrConfig"], fn := fun _ => fun
  | [d1, d2, d3, d4, g1] => { results := [.lit (.bool false)], args := [d1, d2, d3, d4], vars := [g1] }
  | _ => none }
def FnRandomWidthDecomposesIDWrongFormAsk : Prop := fnRandomWidthDecomposesIDRow.holds Tryf.pinned (OpenSpec.ofChange fnRandomWidthDecomposesIDWrong)

/-- 'zzlaws_flake_b1.FnRandomWidthMillisecondBoundary': WHATEVER THE INPUT: true; the input reads as it did. -/
def fnRandomWidthMillisecondBoundarySpec : ChangeSpec := { name := "fnRandomWidthMillisecondBoundary", vars := ["example.com/monotick/monotick/flake.ErrConfig"], fn := fun _ => fun
  | [d1, d2, d3, g1] => { results := [.lit (.bool true)], args := [d1, d2, d3], vars := [g1] }
  | _ => none }
def fnRandomWidthMillisecondBoundaryRow : OpenClaim := { program := "qxb6616057afmt", sum := "34da7cf590213c12a837e8f98cbb0dc36221a86ae14c344e26d0f381f33a36de", func := "example.com/monotick/monotick/zzlaws_flake_b1.FnRandomWidthMillisecondBoundary", spec := "fnRandomWidthMillisecondBoundary", stops := ["fmt.errorf"], inPlace := ["fmt.errorf"], named := ["example.com/monotick/monotick/flake.ErrConfig"], ifaces := true, apart := false, laid := [("example.com/monotick/monotick/flake.ErrConfig", laid_example_com_monotick_monotick_flake_ErrConfig)] }
/-- NO THEOREM (fmt's text is open here; it may be false): for the released tool's asking of the row's closed facts alone. THE STATEMENT IS 'FnRandomWidthMillisecondBoundaryToldSaid' (Qxb6616057aFmtCards.lean). -/
def FnRandomWidthMillisecondBoundaryFormAsk : Prop := fnRandomWidthMillisecondBoundaryRow.holds Tryf.pinned (OpenSpec.ofChange fnRandomWidthMillisecondBoundarySpec)

/-- ITS FALSE NEIGHBOUR: 'it returns false'. Refute it at one input. -/
def fnRandomWidthMillisecondBoundaryWrong : ChangeSpec := { name := "fnRandomWidthMillisecondBoundary", vars := ["example.com/monotick/monotick/flake.ErrConfig"], fn := fun _ => fun
  | [d1, d2, d3, g1] => { results := [.lit (.bool false)], args := [d1, d2, d3], vars := [g1] }
  | _ => none }
def FnRandomWidthMillisecondBoundaryWrongFormAsk : Prop := fnRandomWidthMillisecondBoundaryRow.holds Tryf.pinned (OpenSpec.ofChange fnRandomWidthMillisecondBoundaryWrong)

end Rows
end Go.Proofs.Qxb6616057aFmt
