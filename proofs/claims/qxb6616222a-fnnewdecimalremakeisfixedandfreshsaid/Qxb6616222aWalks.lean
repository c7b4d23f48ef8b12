import Derived.Test.Qxb6616222aRows
import Derived.WalkKit
import Derived.WalkSpells
import Derived.WalkLawsBesides
import Derived.Deep.QuietTactic
import Derived.BigQuiet
import Derived.LaidEqlPtr
import Derived.Deep.RegionWith
namespace Go.Proofs.Qxb6616222a
open Go.RowKit

/-- A figure in memory. -/
def Fig (w : World) (b : Nat) (hi lo ex : Int) (ng : Bool) : Prop :=
  w.heap[b]? = some (.cells #[.int .u64 hi, .int .u64 lo, .int .i32 ex, .bool ng] 34 (0, 0))
theorem Fig.cells {w : World} {b : Nat} {hi lo ex : Int} {ng : Bool} (h : Fig w b hi lo ex ng) :
    w.cell? ⟨b, 0, none⟩ = some (.int .u64 hi) ∧ w.cell? ⟨b, 1, none⟩ = some (.int .u64 lo) ∧ w.cell? ⟨b, 2, none⟩ = some (.int .i32 ex) ∧ w.cell? ⟨b, 3, none⟩ = some (.bool ng) := by
  have h' : w.heap[b]? = some (.cells #[.int .u64 hi, .int .u64 lo, .int .i32 ex, .bool ng] 34 (0, 0)) := h
  refine ⟨?_, ?_, ?_, ?_⟩ <;> simp [World.cell?, h']

set_option maxHeartbeats 400000 in
theorem fields (b : Nat) (hi lo ex : Int) (ng : Bool) (w : World) (h : Fig w b hi lo ex ng) :
    Calls Try.prog 6 #[.pointer (some ⟨b, 0, none⟩)] w fun e w' => e = .returned (.tuple #[.int .u64 hi, .int .u64 lo, .int .i32 ex, .bool ng]) ∧ ∃ n, w' = w.drewN n := by
  obtain ⟨h0, h1, h2, h3⟩ := h.cells
  clear h
  go_enter Try.func6, Try.ntmps6
  go_wp2
  go_quiet (fail)
  go_wp2
  exact bodyPost_ret (v := .tuple #[.int .u64 hi, .int .u64 lo, .int .i32 ex, .bool ng]) (by simp [results, Try.results6, go_sem]) rfl ⟨rfl, _, rfl⟩

theorem blockTop (w : World) (o : Obj) (b : Nat) (hb : b = w.heap.size) : (w.alloc o).heap[b]? = some o := by
  subst hb
  show (w.heap.push o)[w.heap.size]? = _
  simp

theorem ret_bool {a b : Bool} (h : a = b) : Ending.returned (.bool a) = .returned (.bool b) := by rw [h]

theorem isZero (hi lo : Int) (w : World) :
    Calls Try.prog 9 #[.agg #[.int .u64 hi, .int .u64 lo]] w fun e w' => e = .returned (.bool (hi == 0 && lo == 0)) ∧ w' = w.alloc (.cells #[.int .u64 hi, .int .u64 lo] 32) := by
  by_cases h : hi = 0
  · subst h
    go_enter Try.func9, Try.ntmps9
    go_wp2
    go_ret
    exact ⟨rfl, rfl⟩
  · have h1 : (hi == 0) = false := by simpa using h
    go_enter Try.func9, Try.ntmps9
    go_wp2
    go_ret
    exact ⟨ret_bool (by simp [h1]), rfl⟩

set_option maxHeartbeats 400000 in
theorem newPlus (hi lo ex : Int) (w : World) :
    Calls Try.prog 8 #[.bool false, .agg #[.int .u64 hi, .int .u64 lo], .int .i32 ex] w fun e w' => ∃ b, w.heap.size ≤ b ∧ b < w'.heap.size ∧ e = .returned (.pointer (some ⟨b, 0, none⟩)) ∧ Below w.heap.size w w' ∧ Fig w' b hi lo ex false := by
  go_enter Try.func8, Try.ntmps8
  go_wp2
  go_region_with (fail)
  all_goals
    go_wp2
    go_ret
    exact ⟨_, by omega, by simp, rfl, by repeat (first | exact Below.refl _ _ | apply Below.drew | refine Below.alloc ?_ (by simp; try omega) _), blockTop _ _ _ (by simp)⟩

set_option maxHeartbeats 400000 in
theorem newMinus (hi lo ex : Int) (w : World) :
    Calls Try.prog 8 #[.bool true, .agg #[.int .u64 hi, .int .u64 lo], .int .i32 ex] w fun e w' => ∃ b, w.heap.size ≤ b ∧ b < w'.heap.size ∧ e = .returned (.pointer (some ⟨b, 0, none⟩)) ∧ Below w.heap.size w w' ∧ Fig w' b hi lo ex (hi != 0 || lo != 0) := by
  go_enter Try.func8, Try.ntmps8
  go_wp2
  go_region_with (go_at_call 9; refine (isZero hi lo _).mono ?_; rintro e w' ⟨rfl, rfl⟩)
  all_goals
    go_wp2
    go_ret
    exact ⟨_, by omega, by simp, rfl, by repeat (first | exact Below.refl _ _ | apply Below.drew | refine Below.alloc ?_ (by simp; try omega) _), blockTop _ _ _ (by simp)⟩

/-- ZZnewDecimal. -/
theorem make (ng : Bool) (hi lo ex : Int) (w : World) :
    Calls Try.prog 5 #[.bool ng, .int .u64 hi, .int .u64 lo, .int .i32 ex] w fun e w' => ∃ b, w.heap.size ≤ b ∧ b < w'.heap.size ∧ e = .returned (.pointer (some ⟨b, 0, none⟩)) ∧ Below w.heap.size w w' ∧ Fig w' b hi lo ex (ng && (hi != 0 || lo != 0)) := by
  cases ng
  · go_enter Try.func5, Try.ntmps5
    go_wp2_with (go_at_call 8; refine (newPlus _ _ _ _).mono ?_; rintro e w' ⟨b, h1, h2, rfl, hb, hf⟩)
    go_ret
    exact ⟨b, h1, h2, rfl, hb, hf⟩
  · go_enter Try.func5, Try.ntmps5
    go_wp2_with (go_at_call 8; refine (newMinus _ _ _ _).mono ?_; rintro e w' ⟨b, h1, h2, rfl, hb, hf⟩)
    go_ret
    exact ⟨b, h1, h2, rfl, hb, by simpa using hf⟩

/-- New. -/
theorem new (lo ex : Int) (w : World) :
    Calls Try.prog 7 #[.int .u64 lo, .int .i32 ex] w fun e w' => ∃ b, w.heap.size ≤ b ∧ b < w'.heap.size ∧ e = .returned (.pointer (some ⟨b, 0, none⟩)) ∧ Below w.heap.size w w' ∧ Fig w' b 0 lo ex false := by
  go_enter Try.func7, Try.ntmps7
  go_wp2_with (go_at_call 8; refine (newPlus _ _ _ _).mono ?_; rintro e w' ⟨b, h1, h2, rfl, hb, hf⟩)
  go_ret
  exact ⟨b, h1, h2, rfl, hb, hf⟩

theorem Fig.kept {w w' : World} {B b : Nat} {hi lo ex : Int} {ng : Bool} (h : Fig w b hi lo ex ng) (hb : Below B w w') (hl : b < B) : Fig w' b hi lo ex ng :=
  (hb.block b hl).trans h
theorem Fig.drewN {w : World} {b : Nat} {hi lo ex : Int} {ng : Bool} (h : Fig w b hi lo ex ng) (n : Nat) : Fig (w.drewN n) b hi lo ex ng := h


/-- Pointers to two figures are not the same. -/
theorem neq_figs (w : World) (b1 b2 : Nat) {h1 l1 e1 h2 l2 e2 : Int} {n1 n2 : Bool} (hne : ¬ b1 = b2) (f1 : Fig w b1 h1 l1 e1 n1) (f2 : Fig w b2 h2 l2 e2 n2) (n : Nat) :
    (binOp .neq 23 (.pointer (some ⟨b1, 0, none⟩)) (.pointer (some ⟨b2, 0, none⟩))).run Try.prog (w.drewN n) = .ok (.bool true) (w.drewN n) := by
  obtain ⟨j, hj, hs⟩ : ∃ j, Try.prog.info? 34 = some j ∧ j.size ≠ 0 := by
    have h : (Try.prog.info? 34).map (fun j => decide (j.size ≠ 0)) = some true := by kernel_rfl
    obtain ⟨j, hj, h2⟩ := Option.map_eq_some_iff.1 h
    exact ⟨j, hj, of_decide_eq_true h2⟩
  have hq : (⟨b1, 0, none⟩ : Addr) ≠ ⟨b2, 0, none⟩ := fun e => hne (by injection e)
  have h : ∀ d : Nat, (Op.equalIn (d + 1) 23 (.pointer (some ⟨b1, 0, none⟩)) (.pointer (some ⟨b2, 0, none⟩))).run Try.prog (w.drewN n) = .ok false (w.drewN n) := fun d => by
    simp [Op.equalIn, run_underlying Try.underlying23, sizeOf, typeInfo, hj, hs, run_sameAddr_other (w.drewN n) hq f1 f2]
  simp only [binOp]
  simp [Op.equal, Op.maxDepth, h 9999]
end Go.Proofs.Qxb6616222a
