/-
  No cell of these rows narrows 'for every input' (looked for: loops, veiled, ifaces, maps, wideKeys, modest, calm, conditions, laid).
  DERIVED. THE GIVEN ROWS OF THIS SEAT. 2 by the template 'for every input the law returns true; each argument reads behind the call as it read before'; 0 by the template 'total and deterministic' (their statements: Qxb6616222aTotals.lean).
  GIVEN WITH THE SEED: the statements are not yours to turn. If you find one false, say at which input.
  Laid BY PROGRAM, IN A SANDBOX (cutbox-rows.mjs): the forced cells as the released guide's own fill.sh prints them over the translation f8a3f1792660bb3f… (all of the seat's roots in one cut). By AI agents, Wed Nov 11 2026. No macro, syntax, notation, axiom, sorry.
-/
import Derived.Test.Qxb6616222aChecked
import GoSem.Claim
import GoSem.ClaimJoined
import GoSem.ClaimMapViews
import Derived.JoinedTies
import Derived.KernelRfl
namespace Go.Proofs.Qxb6616222a
/- THE CELL 'sum', in the pinned program and in every row, IS THE sha256 OF THE DUMP (.gsa) THAT Qxb6616222aProg.lean LOADS. Nothing in Lean hashes anything: it is a label: what it is worth is what the hold of that sum in a sandbox is worth. -/
noncomputable def Try.pinned : Pinned := { name := "qxb6616222a", sum := "f8a3f1792660bb3f2bfdb240c34c88bd4f244a0d359ade3b1af60c4cd80e6e3f", checked := Try.checked }
namespace Rows
def none {H : Type} : Left H := { results := [], args := [] }

/-- 'zzlaws_pkg_decimal_b1.FnNewDecimalRemakeIsFixedAndFresh': WHATEVER THE INPUT: true; the input reads as it did. -/
def fnNewDecimalRemakeIsFixedAndFreshSpec : ChangeSpec := { name := "fnNewDecimalRemakeIsFixedAndFresh", fn := fun _ => fun
  | [d1, d2, d3, d4] => { results := [.lit (.bool true)], args := [d1, d2, d3, d4] }
  | _ => none }
def fnNewDecimalRemakeIsFixedAndFreshRow : OpenClaim := { program := "qxb6616222a", sum := "f8a3f1792660bb3f2bfdb240c34c88bd4f244a0d359ade3b1af60c4cd80e6e3f", func := "example.com/custodex/custodex/zzlaws_pkg_decimal_b1.FnNewDecimalRemakeIsFixedAndFresh", spec := "fnNewDecimalRemakeIsFixedAndFresh", apart := false }
def FnNewDecimalRemakeIsFixedAndFreshSaid : Prop := fnNewDecimalRemakeIsFixedAndFreshRow.holds Try.pinned (OpenSpec.ofChange fnNewDecimalRemakeIsFixedAndFreshSpec)

/-- ITS FALSE NEIGHBOUR: 'it returns false'. Refute it at one input. -/
def fnNewDecimalRemakeIsFixedAndFreshWrong : ChangeSpec := { name := "fnNewDecimalRemakeIsFixedAndFresh", fn := fun _ => fun
  | [d1, d2, d3, d4] => { results := [.lit (.bool false)], args := [d1, d2, d3, d4] }
  | _ => none }
def FnNewDecimalRemakeIsFixedAndFreshWrongFalsely : Prop := fnNewDecimalRemakeIsFixedAndFreshRow.holds Try.pinned (OpenSpec.ofChange fnNewDecimalRemakeIsFixedAndFreshWrong)

/-- 'zzlaws_pkg_decimal_b1.FnNewInjective': WHATEVER THE INPUT: true; the input reads as it did. -/
def fnNewInjectiveSpec : ChangeSpec := { name := "fnNewInjective", fn := fun _ => fun
  | [d1, d2, d3, d4] => { results := [.lit (.bool true)], args := [d1, d2, d3, d4] }
  | _ => none }
def fnNewInjectiveRow : OpenClaim := { program := "qxb6616222a", sum := "f8a3f1792660bb3f2bfdb240c34c88bd4f244a0d359ade3b1af60c4cd80e6e3f", func := "example.com/custodex/custodex/zzlaws_pkg_decimal_b1.FnNewInjective", spec := "fnNewInjective", apart := false }
def FnNewInjectiveSaid : Prop := fnNewInjectiveRow.holds Try.pinned (OpenSpec.ofChange fnNewInjectiveSpec)

/-- ITS FALSE NEIGHBOUR: 'it returns false'. Refute it at one input. -/
def fnNewInjectiveWrong : ChangeSpec := { name := "fnNewInjective", fn := fun _ => fun
  | [d1, d2, d3, d4] => { results := [.lit (.bool false)], args := [d1, d2, d3, d4] }
  | _ => none }
def FnNewInjectiveWrongFalsely : Prop := fnNewInjectiveRow.holds Try.pinned (OpenSpec.ofChange fnNewInjectiveWrong)

end Rows
end Go.Proofs.Qxb6616222a
