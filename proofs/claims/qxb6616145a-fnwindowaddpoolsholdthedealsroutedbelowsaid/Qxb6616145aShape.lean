import Derived.Test.Qxb6616145aDeal
namespace Go.Proofs.Qxb6616145a
open Go.RowKit

theorem figs_get (f : Nat → Int) : ∀ n j, j < n → (figs f n)[j * 3]? = some (.int .i64 (f j)) ∧ (figs f n)[j * 3 + 1]? = some (.int .i64 0) ∧ (figs f n)[j * 3 + 2]? = some (.pointer none)
  | 0, j, h => by omega
  | n + 1, j, h => by
    have hl := figs_len f n
    rcases Nat.lt_or_ge j n with hj | hj
    · have := figs_get f n j hj
      refine ⟨?_, ?_, ?_⟩
      · rw [figs, List.getElem?_append_left (by omega)]; exact this.1
      · rw [figs, List.getElem?_append_left (by omega)]; exact this.2.1
      · rw [figs, List.getElem?_append_left (by omega)]; exact this.2.2
    · obtain rfl : j = n := by omega
      refine ⟨?_, ?_, ?_⟩
      · rw [figs, List.getElem?_append_right (by omega), hl, Nat.sub_self]; rfl
      · rw [figs, List.getElem?_append_right (by omega), hl, Nat.add_sub_cancel_left]; rfl
      · rw [figs, List.getElem?_append_right (by omega), hl, Nat.add_sub_cancel_left]; rfl

/-- A deal's figures, as they are read: the slice, and the three cells of each. -/
theorem Deal.read {w : World} {U db : Nat} {rel : Int} {n : Nat} {f : Nat → Int} (h : Deal w U db rel n f) :
    ∃ fa c, w.cell? ⟨db, 6, none⟩ = some (.int .i64 rel) ∧ w.cell? ⟨db, 8, none⟩ = some (.slice fa n c) ∧ n ≤ c ∧ c ≤ 9223372036854775807 ∧ db < U ∧ (n = 0 ∨ ∃ fb, fa = some ⟨fb, 0, none⟩ ∧ fb < U ∧ ∀ j, j < n → w.cell? ⟨fb, j * 3, none⟩ = some (.int .i64 (f j)) ∧ w.cell? ⟨fb, j * 3 + 1, none⟩ = some (.int .i64 0) ∧ w.cell? ⟨fb, j * 3 + 2, none⟩ = some (.pointer none)) := by
  obtain ⟨fv, h1, h2, h3, h4⟩ := h
  have c6 : w.cell? ⟨db, 6, none⟩ = some (.int .i64 rel) := by rw [cell_heap h1]; rfl
  have c8 : w.cell? ⟨db, 8, none⟩ = some fv := by rw [cell_heap h1]; rfl
  rcases h3.2 with ⟨rfl, rfl⟩ | ⟨g, cap, cur, rfl, hb, hg, hle, hm, hs, ht⟩
  · exact ⟨none, 0, c6, c8, Nat.le_refl _, by omega, h2, .inl rfl⟩
  · refine ⟨_, cap, c6, c8, hle, hm, h2, .inr ⟨g, rfl, h4 g rfl, fun j hj => ?_⟩⟩
    have hf := figs_get f n j hj
    rw [← ht] at hf
    simp only [List.getElem?_take] at hf
    rw [if_pos (by omega), if_pos (by omega), if_pos (by omega)] at hf
    simp only [Array.getElem?_toList] at hf
    exact ⟨by rw [cell_heap hg]; exact hf.1, by rw [cell_heap hg]; exact hf.2.1, by rw [cell_heap hg]; exact hf.2.2⟩

theorem size69 : (Try.prog.info? 69).map (·.size) = some 2 := by kernel_rfl

set_option maxHeartbeats 2000000 in
theorem shapeOf (U db : Nat) (rel : Int) (n : Nat) (f : Nat → Int) (w : World) (h : Deal w U db rel n f) (hU : U ≤ w.heap.size) (hn : n ≤ 1048576) (hf : ∀ j, j < n → 0 ≤ f j) :
    Calls Try.prog 23 #[.pointer (some ⟨db, 0, none⟩)] w fun e w' => e = .returned (.agg #[.int .u32 (maskTo f n), .int .i64 rel]) ∧ Fr (fun _ => False) w w' := by
  obtain ⟨fa, c, c6, c8, hnc, hcm, hdb, hfig⟩ := h.read
  have HFG : Hid (n = 0 ∨ ∃ fb, fa = some ⟨fb, 0, none⟩ ∧ fb < U ∧ ∀ j, j < n → w.cell? ⟨fb, j * 3, none⟩ = some (.int .i64 (f j)) ∧ w.cell? ⟨fb, j * 3 + 1, none⟩ = some (.int .i64 0) ∧ w.cell? ⟨fb, j * 3 + 2, none⟩ = some (.pointer none)) := hfig
  have HF : Hid (∀ j, j < n → 0 ≤ f j) := hf
  have HC6 : Hid (w.cell? ⟨db, 6, none⟩ = some (.int .i64 rel)) := c6
  obtain ⟨M, hM⟩ : ∃ M, M = maskTo f n := ⟨_, rfl⟩
  rw [← hM]
  have HM : Hid (M = maskTo f n) := hM
  have c8' : ∀ o, (w.alloc o).cell? ⟨db, 8, none⟩ = some (.slice fa n c) := fun o => (World.cell?_of_block (w := w) (Below.heap_alloc w o db (by omega))).trans c8
  clear h hfig hf c6 hM
  go_enter Try.func23, Try.ntmps23
  go_wp2
  go_loopg [3, 5, 11] n (fun gk s _ i wr => ∃ (k : Nat), i = .int .i64 k ∧ k + gk = n ∧ s = .int .u32 (maskTo f k) ∧ wr.heap[w.heap.size]? = some (.cells #[.int .u32 0, .int .i64 0] 69 (0, 0)) ∧ Fr (fun _ => False) w wr)
  case atStart => exact ⟨0, rfl, by omega, rfl, blockTop _ _ _ rfl, (Fr.refl _ w).alloc _⟩
  case round =>
    obtain ⟨k, rfl, hkn, rfl, hb, hfr⟩ := hrel
    have hlt := lt_heap hb
    have HB : Hid (wr.heap[w.heap.size]? = some (.cells #[.int .u32 0, .int .i64 0] 69 (0, 0))) := hb
    have HFR : Hid (Fr (fun _ => False) w wr) := hfr
    clear hb hfr
    by_cases hk : k < n
    · rcases HFG.out with h | ⟨fb, rfl, hfb, hc⟩
      · omega
      · obtain ⟨g1, g2, g3⟩ := hc k hk
        have e1 : wr.cell? ⟨fb, k * 3, none⟩ = some (.int .i64 (f k)) := (HFR.out.cell (p := ⟨fb, k * 3, none⟩) (by show fb < _; omega) id).trans g1
        have e2 : wr.cell? ⟨fb, k * 3 + 1, none⟩ = some (.int .i64 0) := (HFR.out.cell (p := ⟨fb, k * 3 + 1, none⟩) (by show fb < _; omega) id).trans g2
        have e3 : wr.cell? ⟨fb, k * 3 + 2, none⟩ = some (.pointer none) := (HFR.out.cell (p := ⟨fb, k * 3 + 2, none⟩) (by show fb < _; omega) id).trans g3
        clear hc g1 g2 g3
        have hkc : (k : Int) < c := by omega
        go_wp2_with (go_at_call 35; refine (withM (maskTo f k) (f k) _ (mask_range f k) (HF.out k hk)).mono ?_; rintro e w' ⟨rfl, rfl⟩)
        go_roundg (gk - 1)
        case measure => omega
        case rel => exact ⟨k + 1, by go_num, by omega, rfl, (Below.heap_alloc wr _ _ hlt).trans HB.out, HFR.out.alloc _⟩
    · obtain rfl : k = n := by omega
      have e6 : wr.cell? ⟨db, 6, none⟩ = some (.int .i64 rel) := (HFR.out.cell (p := ⟨db, 6, none⟩) (by show db < _; omega) id).trans HC6.out
      have d0 : wr.cell? ⟨w.heap.size, 0, none⟩ = some (.int .u32 0) := by rw [cell_heap HB.out]; rfl
      have d1 : wr.cell? ⟨w.heap.size, 1, none⟩ = some (.int .i64 0) := by rw [cell_heap HB.out]; rfl
      have f0 : wr.frozen? ⟨w.heap.size, 0, none⟩ = false := frozen_heap HB.out 0
      have f1 : wr.frozen? ⟨w.heap.size, 1, none⟩ = false := frozen_heap HB.out 1
      go_wp2
      have hg : ((wr.setCell ⟨w.heap.size, 0, none⟩ (.int .u32 (maskTo f k))).setCell ⟨w.heap.size, 1, none⟩ (.int .i64 rel)).heap[w.heap.size]? = some (.cells #[.int .u32 (maskTo f k), .int .i64 rel] 69 (0, 0)) := by
        rw [heap_setCell (heap_setCell HB.out)]; rfl
      refine bodyPost_ret (results_cell_row rfl _ _ w.heap.size 69 _ (0, 0) _ rfl hg Try.underlying69 rfl size69) rfl ⟨by rw [HM.out], ?_⟩
      refine Fr.mono (X := fun k => w.heap.size ≤ k) ?_ (fun i hi e => by omega)
      exact ((HFR.out.mono (fun _ _ e => e.elim)).setCell (p := ⟨w.heap.size, 0, none⟩) (fun h => absurd h (Nat.lt_irrefl _)) _).setCell (p := ⟨w.heap.size, 1, none⟩) (fun h => absurd h (Nat.lt_irrefl _)) _
end Go.Proofs.Qxb6616145a
