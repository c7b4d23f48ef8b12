import Derived.Test.Qxb6616145aDist
import Derived.Deep.CutRange
namespace Go.Proofs.Qxb6616145a
open Go.RowKit

/-- The input, as it lies in the world w (below its size W). -/
structure Inp (w : World) (W : Nat) (a0 a1 a2 : Option Addr) (n0 n1 n2 : Nat) (rel rt : Nat → Int) (ia : Nat → Option Addr) (il ic : Nat → Nat) (ms : Nat → Nat → Int) : Prop where
  r0 : Ints w W a0 n0 rel
  r1 : Hdrs w W a1 n1 ia il ic
  ri : ∀ i, i < n1 → Ints w W (ia i) (il i) (ms i)
  r2 : Ints w W a2 n2 rt
theorem Ints.fr {w w' : World} {W n : Nat} {a : Option Addr} {f : Nat → Int} (h : Ints w W a n f) (fr : Fr (fun k => W ≤ k) w w') (hW : W ≤ w.heap.size) : Ints w' W a n f := by
  rcases h with h | ⟨b, o, h1, h2, h3⟩
  · exact .inl h
  · exact .inr ⟨b, o, h1, h2, fun j hj => (fr.cell (p := ⟨b, o + j, none⟩) (by show b < _; omega) (by show ¬ W ≤ b; omega)).trans (h3 j hj)⟩
theorem Hdrs.fr {w w' : World} {W n : Nat} {a : Option Addr} {ia : Nat → Option Addr} {il ic : Nat → Nat} (h : Hdrs w W a n ia il ic) (fr : Fr (fun k => W ≤ k) w w') (hW : W ≤ w.heap.size) : Hdrs w' W a n ia il ic := by
  rcases h with h | ⟨b, o, h1, h2, h3⟩
  · exact .inl h
  · exact .inr ⟨b, o, h1, h2, fun j hj => (fr.cell (p := ⟨b, o + j, none⟩) (by show b < _; omega) (by show ¬ W ≤ b; omega)).trans (h3 j hj)⟩
theorem Inp.fr {w w' : World} {W n0 n1 n2 : Nat} {a0 a1 a2 : Option Addr} {rel rt : Nat → Int} {ia : Nat → Option Addr} {il ic : Nat → Nat} {ms : Nat → Nat → Int} (h : Inp w W a0 a1 a2 n0 n1 n2 rel rt ia il ic ms) (fr : Fr (fun k => W ≤ k) w w') (hW : W ≤ w.heap.size) : Inp w' W a0 a1 a2 n0 n1 n2 rel rt ia il ic ms :=
  ⟨h.r0.fr fr hW, h.r1.fr fr hW, fun i hi => (h.ri i hi).fr fr hW, h.r2.fr fr hW⟩

/-- The deals made so far. -/
structure Made (w wr : World) (n i : Nat) (rel : Nat → Int) (il : Nat → Nat) (ms : Nat → Nat → Int) (dbs : Nat → Nat) : Prop where
  drow : ∃ dg, FRow wr w.heap.size 28 n dg ∧ ∀ j, j < i → dg j = .pointer (some ⟨dbs j, 0, none⟩)
  mrow : ∃ mg, FRow wr (w.heap.size + 1) 30 n mg ∧ ∀ j, j < i → mg j = .int .u32 (maskTo (ms j) (il j))
  deal : ∀ j, j < i → w.heap.size + 2 ≤ dbs j ∧ Deal wr wr.heap.size (dbs j) (rel j) (il j) (ms j)
  fr : Fr (fun k => w.heap.size ≤ k) w wr

theorem made_start (w : World) (n : Nat) (rel : Nat → Int) (il : Nat → Nat) (ms : Nat → Nat → Int) : Made w ((w.alloc (.cells ((List.range n).map (fun _ => Value.pointer none)).toArray 28)).alloc (.cells ((List.range n).map (fun _ => Value.int .u32 0)).toArray 30)) n 0 rel il ms (fun _ => 0) :=
  ⟨⟨_, (Below.heap_alloc _ _ _ (by simp)).trans (blockTop w _ _ rfl), fun j hj => absurd hj (Nat.not_lt_zero _)⟩, ⟨_, blockTop _ _ _ (by simp), fun j hj => absurd hj (Nat.not_lt_zero _)⟩, fun j hj => absurd hj (Nat.not_lt_zero _), ((Fr.refl _ w).alloc _).alloc _⟩
theorem Deal.stay {w w' : World} {U V db : Nat} {rel : Int} {n : Nat} {f : Nat → Int} (h : Deal w U db rel n f) (hb : ∀ k, db ≤ k → k < w.heap.size → w'.heap[k]? = w.heap[k]?) (hUV : U ≤ V) : Deal w' V db rel n f := by
  obtain ⟨fv, h1, h2, h3, h4⟩ := h
  exact ⟨fv, (hb db (Nat.le_refl _) (lt_heap h1)).trans h1, by omega, own_fr h3 (fun k hk => hb k (by have := (h3.lt k hk).1; omega) (h3.lt k hk).2), fun k hk => by have := h4 k hk; omega⟩
theorem size_setCell (w : World) (p : Addr) (v : Value) : (w.setCell p v).heap.size = w.heap.size := by simp [World.setCell]
/-- One deal more. -/
theorem made_step {w wr w4 : World} {n i : Nat} {rel : Nat → Int} {il : Nat → Nat} {ms : Nat → Nat → Int} {dbs : Nat → Nat} (h : Made w wr n i rel il ms dbs) (hd : Deal w4 w4.heap.size wr.heap.size (rel i) (il i) (ms i)) (hf : Fr (fun _ => False) wr w4) :
    Made w ((w4.setCell ⟨w.heap.size, i, none⟩ (.pointer (some ⟨wr.heap.size, 0, none⟩))).setCell ⟨w.heap.size + 1, i, none⟩ (.int .u32 (maskTo (ms i) (il i)))) n (i + 1) rel il ms (upd dbs i wr.heap.size) := by
  obtain ⟨⟨dg, d1, d2⟩, ⟨mg, m1, m2⟩, h3, h4⟩ := h
  have hlt := m1.lt
  have d1' : FRow w4 w.heap.size 28 n dg := d1.fr (hf.block _ d1.lt id)
  have m1' : FRow w4 (w.heap.size + 1) 30 n mg := m1.fr (hf.block _ m1.lt id)
  have eb : ∀ k, w.heap.size + 2 ≤ k → ((w4.setCell ⟨w.heap.size, i, none⟩ (.pointer (some ⟨wr.heap.size, 0, none⟩))).setCell ⟨w.heap.size + 1, i, none⟩ (.int .u32 (maskTo (ms i) (il i)))).heap[k]? = w4.heap[k]? := fun k hk => by
    rw [Below.heap_setCell _ _ _ _ (by show k ≠ w.heap.size + 1; omega), Below.heap_setCell _ _ _ _ (by show k ≠ w.heap.size; omega)]
  have es : ((w4.setCell ⟨w.heap.size, i, none⟩ (.pointer (some ⟨wr.heap.size, 0, none⟩))).setCell ⟨w.heap.size + 1, i, none⟩ (.int .u32 (maskTo (ms i) (il i)))).heap.size = w4.heap.size := by rw [size_setCell, size_setCell]
  have hs := hf.size
  refine ⟨⟨_, (d1'.set _).fr (Below.heap_setCell _ _ _ _ (by show w.heap.size ≠ w.heap.size + 1; omega)), fun j hj => ?_⟩, ⟨_, FRow.set (m1'.fr (Below.heap_setCell _ _ _ _ (by show w.heap.size + 1 ≠ w.heap.size; omega))) _, fun j hj => ?_⟩, fun j hj => ?_, ?_⟩
  · by_cases e : j = i
    · subst e; rw [upd_same, upd_same]
    · rw [upd_other _ _ e, upd_other _ _ e]; exact d2 j (by omega)
  · by_cases e : j = i
    · subst e; rw [upd_same]
    · rw [upd_other _ _ e]; exact m2 j (by omega)
  · by_cases e : j = i
    · subst e
      rw [upd_same]
      exact ⟨by omega, hd.stay (fun k hk _ => eb k (by omega)) (by omega)⟩
    · rw [upd_other _ _ e]
      obtain ⟨q1, q2⟩ := h3 j (by omega)
      exact ⟨q1, q2.stay (fun k hk hk2 => (eb k (by omega)).trans (hf.block k hk2 id)) (by omega)⟩
  · refine Fr.setCell (p := ⟨w.heap.size + 1, i, none⟩) (Fr.setCell (p := ⟨w.heap.size, i, none⟩) (h4.trans hf (fun _ _ e => e.elim)) (fun _ => Nat.le_refl _) _) (fun _ => ?_) _
    show w.heap.size ≤ w.heap.size + 1
    omega
end Go.Proofs.Qxb6616145a
