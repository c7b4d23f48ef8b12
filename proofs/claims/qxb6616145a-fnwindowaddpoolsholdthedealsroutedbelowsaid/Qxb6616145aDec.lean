import Derived.Test.Qxb6616145aShape
namespace Go.Proofs.Qxb6616145a
open Go.RowKit

/-- The zero Decimal. -/
def D0 : Value := .agg #[.int .i64 0, .pointer none]

theorem isNaN0 (w : World) : Calls Try.prog 34 #[.int .i64 0] w fun e w' => e = .returned (.bool false) ∧ w' = w := by
  go_enter Try.func34, Try.ntmps34
  go_wp2
  go_ret
  exact ⟨rfl, rfl⟩
theorem compare0 (w : World) : Calls Try.prog 22 #[.int .i64 0, .int .i64 0] w fun e w' => e = .returned (.int .i64 0) ∧ w' = w := by
  go_enter Try.func22, Try.ntmps22
  go_wp2_with (go_at_call 34; refine (isNaN0 _).mono ?_; rintro e w ⟨rfl, rfl⟩)
  go_ret
  exact ⟨rfl, rfl⟩
theorem sign0 (w : World) : Calls Try.prog 19 #[D0] w fun e w' => e = .returned (.int .i64 0) ∧ Fr (fun _ => False) w w' := by
  unfold D0
  go_enter Try.func19, Try.ntmps19
  go_wp2_with (go_at_call 22; refine (compare0 _).mono ?_; rintro e w' ⟨rfl, rfl⟩)
  go_ret
  exact ⟨rfl, (Fr.refl _ w).alloc _⟩
theorem size55 : (Try.prog.info? 55).map (·.size) = some 2 := by kernel_rfl

theorem two {w w' : World} {o1 o2 : Obj} (h : Fr (fun _ => False) ((w.alloc o1).alloc o2) w') : w'.heap[w.heap.size]? = some o1 ∧ w'.heap[w.heap.size + 1]? = some o2 := by
  refine ⟨?_, ?_⟩
  · rw [h.block w.heap.size (by simp; omega) id, Below.heap_alloc _ _ _ (by simp)]
    exact blockTop _ _ _ rfl
  · rw [h.block (w.heap.size + 1) (by simp) id]
    exact blockTop _ _ _ (by simp)

set_option maxHeartbeats 1000000 in
theorem abs0 (w : World) : Calls Try.prog 27 #[D0] w fun e w' => e = .returned D0 ∧ Fr (fun _ => False) w w' := by
  unfold D0
  go_enter Try.func27, Try.ntmps27
  go_wp2_with (
    go_at_call 19
    refine (sign0 _).mono ?_
    rintro e w' ⟨rfl, hfr⟩
    have b0 := (two hfr).1
    have b1 := (two hfr).2
    have c00 : w'.cell? ⟨w.heap.size, 0, none⟩ = some (.int .i64 0) := by rw [cell_heap b0]; rfl
    have c01 : w'.cell? ⟨w.heap.size, 1, none⟩ = some (.pointer none) := by rw [cell_heap b0]; rfl
    have c10 : w'.cell? ⟨w.heap.size + 1, 0, none⟩ = some (.int .i64 0) := by rw [cell_heap b1]; rfl
    have c11 : w'.cell? ⟨w.heap.size + 1, 1, none⟩ = some (.pointer none) := by rw [cell_heap b1]; rfl
    have f10 : w'.frozen? ⟨w.heap.size + 1, 0, none⟩ = false := frozen_heap b1 0
    have f11 : w'.frozen? ⟨w.heap.size + 1, 1, none⟩ = false := frozen_heap b1 1
    have HB1 : Hid (w'.heap[w.heap.size + 1]? = some (.cells #[.int .i64 0, .pointer none] 55 (0, 0))) := b1
    have HFR : Hid (Fr (fun _ => False) ((w.alloc (.cells #[.int .i64 0, .pointer none] 55)).alloc (.cells #[.int .i64 0, .pointer none] 55)) w') := hfr
    clear hfr b0 b1)
  have hg : ((w'.setCell ⟨w.heap.size + 1, 0, none⟩ (.int .i64 0)).setCell ⟨w.heap.size + 1, 1, none⟩ (.pointer none)).heap[w.heap.size + 1]? = some (.cells #[.int .i64 0, .pointer none] 55 (0, 0)) := by
    rw [heap_setCell (heap_setCell HB1.out)]; rfl
  refine bodyPost_ret (results_cell_row rfl _ _ (w.heap.size + 1) 55 _ (0, 0) _ rfl hg Try.underlying55 rfl size55) rfl ⟨rfl, ?_⟩
  refine Fr.mono (X := fun k => w.heap.size ≤ k) ?_ (fun i hi e => by omega)
  exact (((((Fr.refl _ w).alloc _).alloc _).trans HFR.out (fun _ _ e => e.elim)).setCell (p := ⟨w.heap.size + 1, 0, none⟩) (fun h => absurd h (by show ¬ _ + 1 < _; omega)) _).setCell (p := ⟨w.heap.size + 1, 1, none⟩) (fun h => absurd h (by show ¬ _ + 1 < _; omega)) _

set_option maxHeartbeats 1000000 in
theorem add0 (w : World) : Calls Try.prog 26 #[D0, D0] w fun e w' => e = .returned D0 ∧ Fr (fun _ => False) w w' := by
  unfold D0
  have hx : bits .xor .i64 0 0 = 0 := by decide
  have ha : bits .and .i64 0 0 = 0 := by decide
  go_enter Try.func26, Try.ntmps26
  go_wp2
  refine bodyPost_ret (results_cell_row rfl _ _ (w.heap.size + 1 + 1) 55 #[.int .i64 0, .pointer none] (0, 0) _ rfl ?_ Try.underlying55 rfl size55) rfl ⟨rfl, ?_⟩
  · exact blockTop _ _ _ (by simp)
  · exact (((Fr.refl _ w).alloc _).alloc _).alloc _
end Go.Proofs.Qxb6616145a
