/-
  No cell of these rows narrows 'for every input' (looked for: loops, veiled, ifaces, maps, wideKeys, modest, calm, conditions, laid).
  DERIVED. THE GIVEN ROWS OF THIS SEAT. 1 by the template 'for every input the law returns true; each argument reads behind the call as it read before'; 0 by the template 'total and deterministic' (their statements: Qxb6616145aTotals.lean).
  GIVEN WITH THE SEED: the statements are not yours to turn. If you find one false, say at which input.
  Laid BY PROGRAM, IN A SANDBOX (cutbox-rows.mjs): the forced cells as the released guide's own fill.sh prints them over the translation 6811faaee9e3c350… (all of the seat's roots in one cut). By AI agents, Wed Nov 11 2026. No macro, syntax, notation, axiom, sorry.
-/
import Derived.Test.Qxb6616145aChecked
import GoSem.Claim
import GoSem.ClaimJoined
import GoSem.ClaimMapViews
import Derived.JoinedTies
import Derived.KernelRfl
namespace Go.Proofs.Qxb6616145a
/- THE CELL 'sum', in the pinned program and in every row, IS THE sha256 OF THE DUMP (.gsa) THAT Qxb6616145aProg.lean LOADS. Nothing in Lean hashes anything: it is a label: what it is worth is what the hold of that sum in a sandbox is worth. -/
noncomputable def Try.pinned : Pinned := { name := "qxb6616145a", sum := "6811faaee9e3c350469983c2a9cca400deff62c528a3f8327654f3b04cc2caeb", checked := Try.checked }
namespace Rows
def none {H : Type} : Left H := { results := [], args := [] }

/-- 'zzlaws_internal_route_b1.FnWindowAddPoolsHoldTheDealsRoutedBelow': WHATEVER THE INPUT: true; the input reads as it did. -/
def fnWindowAddPoolsHoldTheDealsRoutedBelowSpec : ChangeSpec := { name := "fnWindowAddPoolsHoldTheDealsRoutedBelow", fn := fun _ => fun
  | [d1, d2, d3] => { results := [.lit (.bool true)], args := [d1, d2, d3] }
  | _ => none }
def fnWindowAddPoolsHoldTheDealsRoutedBelowRow : OpenClaim := { program := "qxb6616145a", sum := "6811faaee9e3c350469983c2a9cca400deff62c528a3f8327654f3b04cc2caeb", func := "example.com/yishi/yishi/zzlaws_internal_route_b1.FnWindowAddPoolsHoldTheDealsRoutedBelow", spec := "fnWindowAddPoolsHoldTheDealsRoutedBelow", inPlace := ["math/big.addVV", "math/bits.Add64", "math/big.subVV", "math/bits.Sub64"], unfollowed := true, recurses := true, apart := false }
def FnWindowAddPoolsHoldTheDealsRoutedBelowSaid : Prop := fnWindowAddPoolsHoldTheDealsRoutedBelowRow.holds Try.pinned (OpenSpec.ofChange fnWindowAddPoolsHoldTheDealsRoutedBelowSpec)

/-- ITS FALSE NEIGHBOUR: 'it returns false'. Refute it at one input. -/
def fnWindowAddPoolsHoldTheDealsRoutedBelowWrong : ChangeSpec := { name := "fnWindowAddPoolsHoldTheDealsRoutedBelow", fn := fun _ => fun
  | [d1, d2, d3] => { results := [.lit (.bool false)], args := [d1, d2, d3] }
  | _ => none }
def FnWindowAddPoolsHoldTheDealsRoutedBelowWrongFalsely : Prop := fnWindowAddPoolsHoldTheDealsRoutedBelowRow.holds Try.pinned (OpenSpec.ofChange fnWindowAddPoolsHoldTheDealsRoutedBelowWrong)

end Rows
end Go.Proofs.Qxb6616145a
