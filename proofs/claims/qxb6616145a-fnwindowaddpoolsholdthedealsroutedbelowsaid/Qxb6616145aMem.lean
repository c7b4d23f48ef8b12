import Derived.Test.Qxb6616145aMask
import Derived.Laws.OwnMore
import Derived.Laws.CopyOwn
namespace Go.Proofs.Qxb6616145a
open Go.RowKit

/-- A frame: of what was there all stands but the blocks X. -/
structure Fr (X : Nat → Prop) (w w' : World) : Prop where
  os : w'.os = w.os
  output : w'.output = w.output
  size : w.heap.size ≤ w'.heap.size
  block : ∀ k, k < w.heap.size → ¬ X k → w'.heap[k]? = w.heap[k]?

theorem Fr.refl (X : Nat → Prop) (w : World) : Fr X w w := ⟨rfl, rfl, Nat.le_refl _, fun _ _ _ => rfl⟩
theorem Fr.trans {X Y : Nat → Prop} {a b c : World} (h : Fr X a b) (k : Fr Y b c) (hxy : ∀ i, i < a.heap.size → Y i → X i) : Fr X a c :=
  ⟨k.os.trans h.os, k.output.trans h.output, Nat.le_trans h.size k.size, fun i hi hx => (k.block i (Nat.lt_of_lt_of_le hi h.size) fun hy => hx (hxy i hi hy)).trans (h.block i hi hx)⟩
theorem Fr.mono {X Y : Nat → Prop} {a b : World} (h : Fr X a b) (hxy : ∀ i, i < a.heap.size → X i → Y i) : Fr Y a b :=
  ⟨h.os, h.output, h.size, fun i hi hy => h.block i hi fun hx => hy (hxy i hi hx)⟩
theorem Fr.alloc {X : Nat → Prop} {a b : World} (h : Fr X a b) (o : Obj) : Fr X a (b.alloc o) :=
  h.trans (Y := fun _ => False) ⟨rfl, rfl, by simp, fun k hk _ => Below.heap_alloc _ _ _ hk⟩ (fun _ _ f => f.elim)
theorem Fr.setCell {X : Nat → Prop} {a b : World} (h : Fr X a b) {p : Addr} (hp : p.block < a.heap.size → X p.block) (u : Value) : Fr X a (b.setCell p u) :=
  h.trans (Y := fun k => k = p.block) ⟨rfl, rfl, by simp [World.setCell], fun k _ hn => Below.heap_setCell _ _ _ _ hn⟩ (fun i hi e => by subst e; exact hp hi)
theorem Fr.setRow {X : Nat → Prop} {a b : World} (h : Fr X a b) {g : Nat} (hp : g < a.heap.size → X g) (cs : Array Value) : Fr X a (b.setRow g cs) :=
  h.trans (Y := fun k => k = g) ⟨rfl, rfl, by simp, fun k _ hn => setRow_other _ _ _ _ hn⟩ (fun i hi e => by subst e; exact hp hi)
theorem Fr.drewN {X : Nat → Prop} {a b : World} (h : Fr X a b) (n : Nat) : Fr X a (b.drewN n) := ⟨h.os, h.output, h.size, h.block⟩
theorem Fr.drew {X : Nat → Prop} {a b : World} (h : Fr X a b) : Fr X a b.drew := ⟨h.os, h.output, h.size, h.block⟩
theorem Fr.of_below {B : Nat} {a b : World} (h : Below B a b) : Fr (fun k => B ≤ k) a b := ⟨h.os, h.output, h.size, fun k _ hn => h.block k (by omega)⟩
theorem Fr.cell {X : Nat → Prop} {a b : World} (h : Fr X a b) {p : Addr} (hp : p.block < a.heap.size) (hx : ¬ X p.block) : b.cell? p = a.cell? p := World.cell?_of_block (w := a) (h.block p.block hp hx)
theorem Fr.below {B : Nat} {a b : World} (h : Fr (fun k => B ≤ k) a b) (hB : B ≤ a.heap.size) : ∀ k, k < B → b.heap[k]? = a.heap[k]? := fun k hk => h.block k (by omega) (by omega)

theorem blockTop (w : World) (o : Obj) (b : Nat) (hb : b = w.heap.size) : (w.alloc o).heap[b]? = some o := by
  subst hb
  show (w.heap.push o)[w.heap.size]? = _
  simp
theorem heap_setCell {w : World} {b o : Nat} {v : Value} {cs : Array Value} {T : TypeId} {fr : Nat × Nat} (hb : w.heap[b]? = some (.cells cs T fr)) :
    (w.setCell ⟨b, o, none⟩ v).heap[b]? = some (.cells (cs.setIfInBounds o v) T fr) := by
  show (w.heap.modify b _)[b]? = _
  rw [Array.getElem?_modify, if_pos rfl, hb]
  rfl

theorem cell_heap {w : World} {b o : Nat} {cs : Array Value} {T : TypeId} {f : Nat × Nat} (h : w.heap[b]? = some (.cells cs T f)) : w.cell? ⟨b, o, none⟩ = cs[o]? := by
  simp [World.cell?, h]
theorem frozen_heap {w : World} {b : Nat} {cs : Array Value} {T : TypeId} (h : w.heap[b]? = some (.cells cs T (0, 0))) (o : Nat) : w.frozen? ⟨b, o, none⟩ = false := by
  simp [World.frozen?, h]
theorem lt_heap {w : World} {b : Nat} {x : Obj} (h : w.heap[b]? = some x) : b < w.heap.size := (Array.getElem?_eq_some_iff.1 h).1

/-- What the call owns stays owned. -/
theorem own_fr {w w' : World} {B n : Nat} {e : TypeId} {sz : Nat} {v : Value} {xs : List Value} (h : w.ownsRow B e sz v n xs) (hb : ∀ k, v.ownBlock = some k → w'.heap[k]? = w.heap[k]?) : w'.ownsRow B e sz v n xs := by
  refine ⟨h.1, h.2.imp id ?_⟩
  rintro ⟨g, cap, cur, rfl, h2, h3, h4⟩
  exact ⟨g, cap, cur, rfl, h2, (hb g rfl).trans h3, h4⟩
theorem own_base {w : World} {B C n : Nat} {e : TypeId} {sz : Nat} {v : Value} {xs : List Value} (h : w.ownsRow B e sz v n xs) (hb : ∀ k, v.ownBlock = some k → C ≤ k) : w.ownsRow C e sz v n xs := by
  refine ⟨h.1, h.2.imp id ?_⟩
  rintro ⟨g, cap, cur, rfl, h2, h3⟩
  exact ⟨g, cap, cur, rfl, hb g rfl, h3⟩
theorem own_grown {w w' : World} {v : Value} (g : w.grownBy w' v.ownBlock) : Fr (fun k => v.ownBlock = some k) w w' := ⟨g.os, g.output, g.size, fun k hk hn => g.block k hk (fun e => hn e.symm)⟩
end Go.Proofs.Qxb6616145a
