import Derived.Test.Qxb6616145aMem
import Derived.Lib.Buffer
namespace Go.Proofs.Qxb6616145a
open Go.RowKit

/-- The figures' cells: three each. -/
def figs (f : Nat → Int) : Nat → List Value
  | 0 => []
  | k + 1 => figs f k ++ [.int .i64 (f k), .int .i64 0, .pointer none]
theorem figs_len (f : Nat → Int) : ∀ k, (figs f k).length = k * 3
  | 0 => by simp [figs]
  | k + 1 => by simp [figs, figs_len f k]; omega
/-- A deal's cells. -/
def dealCells (rel : Int) (fv : Value) : Array Value := #[.string ⟨#[]⟩, .int .i64 0, .int .u64 0, .int .i64 0, .pointer none, .string ⟨#[]⟩, .int .i64 rel, .string ⟨#[]⟩, fv]

theorem info57 : ∃ i, Try.prog.info? 57 = some i ∧ i.zero = some (.agg #[.int .i64 0, .int .i64 0, .pointer none]) ∧ i.size = 3 ∧ i.bytes = 24 := by
  have h : (Try.prog.info? 57).map (fun i => (i.zero, i.size, i.bytes)) = some (some (.agg #[.int .i64 0, .int .i64 0, .pointer none]), 3, 24) := by kernel_rfl
  obtain ⟨i, hi, he⟩ := Option.map_eq_some_iff.1 h
  simp only [Prod.mk.injEq] at he
  exact ⟨i, hi, he.1, he.2.1, he.2.2⟩

/-- A deal in block db, all of it below U. -/
def Deal (w : World) (U db : Nat) (rel : Int) (n : Nat) (f : Nat → Int) : Prop :=
  ∃ fv, w.heap[db]? = some (.cells (dealCells rel fv) 51 (0, 0)) ∧ db < U ∧ w.ownsRow (db + 1) 57 3 fv n (figs f n) ∧ ∀ k, fv.ownBlock = some k → k < U

theorem Deal.fr {w w' : World} {U db : Nat} {rel : Int} {n : Nat} {f : Nat → Int} (h : Deal w U db rel n f) (fr : Fr (fun k => U ≤ k) w w') (hU : U ≤ w.heap.size) : Deal w' U db rel n f := by
  obtain ⟨fv, h1, h2, h3, h4⟩ := h
  exact ⟨fv, (fr.block db (by omega) (by omega)).trans h1, h2, own_fr h3 (fun k hk => fr.block k (by have := h4 k hk; omega) (by have := h4 k hk; omega)), h4⟩
theorem Deal.mono {w : World} {U V db : Nat} {rel : Int} {n : Nat} {f : Nat → Int} (h : Deal w U db rel n f) (hV : U ≤ V) : Deal w V db rel n f := by
  obtain ⟨fv, h1, h2, h3, h4⟩ := h
  exact ⟨fv, h1, by omega, h3, fun k hk => Nat.lt_of_lt_of_le (h4 k hk) hV⟩

set_option maxHeartbeats 2000000 in
theorem newDeal (rel : Int) (a : Option Addr) (n c B : Nat) (f : Nat → Int) (w : World) (H : Ints w B a n f) (hB : B ≤ w.heap.size) (hn : n ≤ 1048576) :
    Calls Try.prog 7 #[.int .i64 rel, .slice a n c] w fun e w' => e = .returned (.pointer (some ⟨w.heap.size, 0, none⟩)) ∧ Deal w' w'.heap.size w.heap.size rel n f ∧ Fr (fun _ => False) w w' := by
  obtain ⟨i0, hi, hz, hsz, hby⟩ := info57
  have HH : Hid (Ints w B a n f) := H
  clear H
  go_enter Try.func7, Try.ntmps7
  go_wp2
  go_loopg [7, 13] n (fun gk _ i wr => ∃ (k : Nat) (fv : Value), i = .int .i64 k ∧ k + gk = n ∧ wr.heap[w.heap.size]? = some (.cells (dealCells rel fv) 51 (0, 0)) ∧ wr.ownsRow (w.heap.size + 1) 57 3 fv k (figs f k) ∧ Fr (fun k => w.heap.size ≤ k) w wr)
  case atStart =>
    refine ⟨0, .slice none 0 0, rfl, by omega, blockTop _ _ _ rfl, ⟨by simp [figs], .inl ⟨rfl, rfl⟩⟩, (Fr.refl _ w).alloc _⟩
  case round =>
    obtain ⟨k, fv, rfl, hkn, hb, hown, hfr⟩ := hrel
    have hlt := lt_heap hb
    have c8 : wr.cell? ⟨w.heap.size, 8, none⟩ = some fv := by rw [cell_heap hb]; rfl
    have HB : Hid (wr.heap[w.heap.size]? = some (.cells (dealCells rel fv) 51 (0, 0))) := hb
    have HO : Hid (wr.ownsRow (w.heap.size + 1) 57 3 fv k (figs f k)) := hown
    have HFR : Hid (Fr (fun k => w.heap.size ≤ k) w wr) := hfr
    clear hb hown hfr
    by_cases hk : k < n
    · rcases HH.out with h | ⟨b, o, rfl, hbB, hc⟩
      · omega
      · have g1 : wr.cell? ⟨b, o + k, none⟩ = some (.int .i64 (f k)) := by
          rw [HFR.out.cell (p := ⟨b, o + k, none⟩) (by show b < _; omega) (by show ¬ _ ≤ b; omega)]
          exact hc k hk
        clear hc
        go_wp2_with (at_builtin; refine wpList_append_own _ rfl (.tmp 21) (.tmp 24) 49 rfl (w.heap.size + 1) 57 i0 (.agg #[.int .i64 0, .int .i64 0, .pointer none]) 3 24 Try.underlying49 hi hz hsz hby rfl (by decide) _ k (figs f k) rfl (HO.out.alloc _) ⟨wr.heap.size, 0, none⟩ 1 1 [.int .i64 (f k), .int .i64 0, .pointer none] rfl rfl ?c1 ?c2 ?c3 ?c4 ?c5 ?_)
        case c1 =>
          intro j u hj
          rw [Lib.addr_add, Nat.zero_add, World.cell?_alloc_new, List.getElem?_toArray]
          exact hj
        case c2 =>
          intro u hu
          simp at hu
          rcases hu with rfl | rfl | rfl <;> rfl
        case c3 => unfold maxLen; omega
        case c4 => omega
        case c5 => simp; omega
        intro v' w' hown' hgrow _
        have hfr2 : Fr (fun k => w.heap.size ≤ k) w w' := (HFR.out.alloc _).trans (own_grown hgrow) (fun i _ e => by have := (HO.out.lt i e).1; show w.heap.size ≤ i; omega)
        have hb2 : w'.heap[w.heap.size]? = some (.cells (dealCells rel fv) 51 (0, 0)) := by
          rw [(own_grown hgrow).block w.heap.size (by simp; omega) (fun e => by have := (HO.out.lt _ e).1; omega)]
          exact (Below.heap_alloc wr _ _ hlt).trans HB.out
        obtain ⟨g, cap, rfl⟩ : ∃ g cap, v' = .slice (some ⟨g, 0, none⟩) (k + 1) cap := by
          rcases hown'.2 with ⟨_, h⟩ | ⟨g, cap, cur, h, _⟩
          · omega
          · exact ⟨g, cap, h⟩
        have d8 : w'.cell? ⟨w.heap.size, 8, none⟩ = some fv := by rw [cell_heap hb2]; rfl
        have f8 : w'.frozen? ⟨w.heap.size, 8, none⟩ = false := frozen_heap hb2 8
        have HB2 : Hid (w'.heap[w.heap.size]? = some (.cells (dealCells rel fv) 51 (0, 0))) := hb2
        have HO2 : Hid (w'.ownsRow (w.heap.size + 1) 57 3 (.slice (some ⟨g, 0, none⟩) (k + 1) cap) (k + 1) (figs f (k + 1))) := hown'
        have HF2 : Hid (Fr (fun k => w.heap.size ≤ k) w w') := hfr2
        clear hb2 hown' hgrow hfr2
        go_wp2
        go_roundg (gk - 1)
        case measure => omega
        case rel =>
          refine ⟨k + 1, .slice (some ⟨g, 0, none⟩) (k + 1) cap, by go_num, by omega, by rw [heap_setCell HB2.out]; rfl, ?_, HF2.out.setCell (p := ⟨w.heap.size, 8, none⟩) (fun h => absurd h (Nat.lt_irrefl _)) _⟩
          exact own_fr HO2.out (fun j hj => Below.heap_setCell _ _ _ _ (by have := (HO2.out.lt j hj).1; show j ≠ w.heap.size; omega))
    · obtain rfl : k = n := by omega
      go_wp2
      go_ret
      refine ⟨rfl, ⟨fv, HB.out, hlt, HO.out, fun j hj => (HO.out.lt j hj).2⟩, HFR.out.mono (fun i hi h => by omega)⟩
end Go.Proofs.Qxb6616145a
