import Derived.Test.Qxb6616057aFmtRows
import Derived.Test.Qxb6616057aFmtTie
import Derived.Test.Qxb6616057aFmtCards
import Derived.WalkKit
import Derived.WalkLawsBesides
import Derived.ProofKit
import Derived.OpenShut
import Derived.ChangeOld
import Derived.ChangeVars
import Derived.Below
import Derived.LaidLaws
import Derived.LaidHandle
import Derived.Stop.Joined
import Derived.Stop.JoinedTold
import Derived.Stop.LaidErr
import Derived.SevenTiedAt
namespace Go.Proofs.Qxb6616057aFmt
open Go.ChangeShapes Go.WideShapes Go.ChangeAt Go.RowKit

theorem own : ownKnob Tryf.prog.godebug = none := by kernel_rfl
theorem laidOut : laidOutB Tryf.pinned.checked.prog = true := by kernel_rfl
theorem stops : Tryf.pinned.checked.prog.stops = ["fmt.errorf"] := by kernel_rfl
theorem stopKnobs : Tryf.pinned.checked.prog.stopKnobs = [] := by kernel_rfl
theorem quiet (os : Os) : Stop.quiet Tryf.pinned.checked.prog os := by
  intro k hk
  rw [stopKnobs] at hk
  cases hk
/-- The listed variable's name. -/
def vname : String := Rows.fnRandomWidthDecomposesIDSpec.vars.headD ""
def vlist : List (String × DataW Unit) := Rows.fnRandomWidthDecomposesIDRow.laid
theorem vglobal : Tryf.prog.globalNamed vname = some 0 := by kernel_rfl
theorem vtype : (Tryf.prog.globals[0]?).map (·.type) = some 28 := by kernel_rfl
theorem star : "*" ++ "errors.errorString" = "*errors.errorString" := by decide
theorem row63 (u : TypeId) (h : Tryf.prog.typeName? 3 u = some "*errors.errorString") : u = 63 :=
  typeName_ptr_named (nm := "errors.errorString") (by rw [star]; kernel_rfl) (by kernel_rfl) (by decide) u (by rw [star]; exact h)

/-- A world that meets the condition: the settled one, the variable's cell laid. -/
def laidW (P : Program) (os : Os) (s : ByteArray) : World :=
  let w0 := World.holding P os ⟨#[.cells #[.string s] 65], #[], []⟩
  { w0 with heap := w0.heap.modify 0 fun
      | .cells _ t frozen => .cells #[.iface 63 (.pointer (some ⟨(World.holding P os ⟨#[], #[], []⟩).heap.size, 0, none⟩))] t frozen
      | o => o }
def text : ByteArray := { data := #[102, 108, 97, 107, 101, 58, 32, 105, 110, 118, 97, 108, 105, 100, 32, 103, 101, 110, 101, 114, 97, 116, 111, 114, 32, 99, 111, 110, 102, 105, 103, 117, 114, 97, 116, 105, 111, 110] }

theorem laidW_met (os : Os) (args : Array Value) : laidMet Tryf.prog vlist ((laidW Tryf.prog os text).forCall (fun _ _ => 0) ⟨#[], args, []⟩).memory :=
  laidMet_of_run' 8 (by kernel_rfl) (by kernel_rfl)

/-- What 'laid' gives: the variable's cell, and how it reads. -/
theorem laid_var {W : World} (h : laidMet Tryf.prog vlist W) : ∃ a : Addr, W.var? Tryf.prog vname = some #[.iface 63 (.pointer (some a))] ∧ 0 < W.heap.size := by
  obtain ⟨a, s, hv, hc, _, _⟩ := laid_sentinel (g := 0) h vglobal vtype Tryf.underlying28 row63 Tryf.underlying63 Tryf.underlying65 rfl rfl Tryf.underlying9 (by kernel_rfl) (by kernel_rfl)
  have hvg : W.cell? ⟨0, 0, none⟩ = some (.iface 63 (.pointer (some a))) := by simpa using World.var?_cell vglobal hv 0
  exact ⟨a, hv, block_lt_of_cell hvg⟩

theorem bd_u8 {n : Int} (h : (Lit.int .u8 n).wf = true) : 0 ≤ n ∧ n ≤ 255 := bounds_u8 h
theorem bd_u32 {n : Int} (h : (Lit.int .u32 n).wf = true) : 0 ≤ n ∧ n ≤ 4294967295 := bounds_u32 h
end Go.Proofs.Qxb6616057aFmt
