import Derived.Test.Qxb6616245aDoorShelf
import Derived.Test.Qxb6616245aDoorBase
import Derived.Laws.CopyOwn
import Derived.Deep.Upon
import Derived.Deep.RegionWith
import Derived.Deep.RegionLaw
namespace Go.Proofs.Qxb6616245aDoor
open Go.RowKit

/-- A frame: of what was there all stands but the blocks X. -/
structure Fr (X : Nat → Prop) (w w' : World) : Prop where
  os : w'.os = w.os
  output : w'.output = w.output
  size : w.heap.size ≤ w'.heap.size
  block : ∀ k, k < w.heap.size → ¬ X k → w'.heap[k]? = w.heap[k]?

theorem Fr.refl (X : Nat → Prop) (w : World) : Fr X w w := ⟨rfl, rfl, Nat.le_refl _, fun _ _ _ => rfl⟩
theorem Fr.trans {X Y : Nat → Prop} {a b c : World} (h : Fr X a b) (k : Fr Y b c) (hxy : ∀ i, i < a.heap.size → Y i → X i) : Fr X a c :=
  ⟨k.os.trans h.os, k.output.trans h.output, Nat.le_trans h.size k.size, fun i hi hx => (k.block i (Nat.lt_of_lt_of_le hi h.size) fun hy => hx (hxy i hi hy)).trans (h.block i hi hx)⟩
theorem Fr.mono {X Y : Nat → Prop} {a b : World} (h : Fr X a b) (hxy : ∀ i, i < a.heap.size → X i → Y i) : Fr Y a b :=
  ⟨h.os, h.output, h.size, fun i hi hy => h.block i hi fun hx => hy (hxy i hi hx)⟩
theorem Fr.alloc {X : Nat → Prop} {a b : World} (h : Fr X a b) (o : Obj) : Fr X a (b.alloc o) :=
  h.trans (Y := fun _ => False) ⟨rfl, rfl, by simp, fun k hk _ => Below.heap_alloc _ _ _ hk⟩ (fun _ _ f => f.elim)
theorem Fr.setCell {X : Nat → Prop} {a b : World} (h : Fr X a b) {p : Addr} (hp : p.block < a.heap.size → X p.block) (u : Value) : Fr X a (b.setCell p u) :=
  h.trans (Y := fun k => k = p.block) ⟨rfl, rfl, by simp [World.setCell], fun k _ hn => Below.heap_setCell _ _ _ _ hn⟩ (fun i hi e => by subst e; exact hp hi)
theorem Fr.setRow {X : Nat → Prop} {a b : World} (h : Fr X a b) {g : Nat} (hp : g < a.heap.size → X g) (cs : Array Value) : Fr X a (b.setRow g cs) :=
  h.trans (Y := fun k => k = g) ⟨rfl, rfl, by simp, fun k _ hn => setRow_other _ _ _ _ hn⟩ (fun i hi e => by subst e; exact hp hi)
theorem Fr.drewN {X : Nat → Prop} {a b : World} (h : Fr X a b) (n : Nat) : Fr X a (b.drewN n) := ⟨h.os, h.output, h.size, h.block⟩
theorem Fr.drew {X : Nat → Prop} {a b : World} (h : Fr X a b) : Fr X a b.drew := ⟨h.os, h.output, h.size, h.block⟩
theorem Fr.of_below {B : Nat} {a b : World} (h : Below B a b) : Fr (fun k => B ≤ k) a b := ⟨h.os, h.output, h.size, fun k _ hn => h.block k (by omega)⟩
theorem Fr.cell {X : Nat → Prop} {a b : World} (h : Fr X a b) {p : Addr} (hp : p.block < a.heap.size) (hx : ¬ X p.block) : b.cell? p = a.cell? p := World.cell?_of_block (w := a) (h.block p.block hp hx)
theorem Fr.below {B : Nat} {a b : World} (h : Fr (fun k => B ≤ k) a b) (hB : B ≤ a.heap.size) : ∀ k, k < B → b.heap[k]? = a.heap[k]? := fun k hk => h.block k (by omega) (by omega)

/-- A bytes.Buffer in block b that has only been written, its row (if there is one) in block go, holding bs. -/
def Bf (w : World) (b : Nat) (go : Option Nat) (bs : List Value) : Prop :=
  ∃ lr, (go = none ∧ bs = [] ∧ w.heap[b]? = some (.cells #[.slice none 0 0, .int .i64 0, .int .i8 lr] 32 (0, 0))) ∨
    ∃ g cap cur, go = some g ∧ w.heap[b]? = some (.cells #[.slice (some ⟨g, 0, none⟩) bs.length cap, .int .i64 0, .int .i8 lr] 32 (0, 0)) ∧ w.heap[g]? = some (.cells cur 5 (0, 0)) ∧
      cur.size = cap ∧ bs.length ≤ cap ∧ cap ≤ maxLen ∧ cur.toList.take bs.length = bs ∧ g ≠ b ∧ 1 ≤ bs.length

theorem Bf.carry {w w' : World} {b : Nat} {go : Option Nat} {bs : List Value} (h : Bf w b go bs) (hb : w'.heap[b]? = w.heap[b]?) (hg : ∀ g, go = some g → w'.heap[g]? = w.heap[g]?) : Bf w' b go bs := by
  obtain ⟨lr, ⟨h1, h2, h3⟩ | ⟨g, cap, cur, h1, h2, h3, h4⟩⟩ := h
  · exact ⟨lr, .inl ⟨h1, h2, hb.trans h3⟩⟩
  · exact ⟨lr, .inr ⟨g, cap, cur, h1, hb.trans h2, (hg g h1).trans h3, h4⟩⟩
theorem Bf.lt {w : World} {b : Nat} {go : Option Nat} {bs : List Value} (h : Bf w b go bs) : b < w.heap.size := by
  obtain ⟨lr, ⟨_, _, h3⟩ | ⟨g, cap, cur, _, h2, _⟩⟩ := h
  · exact Lib.lt_of_heap h3
  · exact Lib.lt_of_heap h2
theorem Bf.rowLt {w : World} {b g : Nat} {bs : List Value} (h : Bf w b (some g) bs) : g < w.heap.size ∧ g ≠ b := by
  obtain ⟨lr, ⟨h1, _, _⟩ | ⟨g', cap, cur, h1, _, h3, _, _, _, _, h4⟩⟩ := h
  · cases h1
  · cases h1; exact ⟨Lib.lt_of_heap h3, h4.1⟩

theorem info5 : ∃ i, Tryd.prog.info? 5 = some i ∧ i.zero = some (.int .u8 0) ∧ i.size = 1 ∧ i.bytes = 1 := by
  have h : (Tryd.prog.info? 5).map (fun i => (i.zero, i.size, i.bytes)) = some (some (.int .u8 0), 1, 1) := by kernel_rfl
  obtain ⟨i, hi, he⟩ := Option.map_eq_some_iff.1 h
  simp only [Prod.mk.injEq] at he
  exact ⟨i, hi, he.1, he.2.1, he.2.2⟩
theorem size5 : (Tryd.prog.info? 5).map (·.size) = some 1 := by
  obtain ⟨i, hi, _, h, _⟩ := info5
  rw [hi]; simp [h]

/-- 'make([]byte, n, c)'. -/
theorem makeBytes (n c : Nat) (hn : n ≤ c) (hc : c ≤ 281474976710656) (w : World) :
    (Instr.makeSlice 25 (.int .i64 n) (.int .i64 c)).run Tryd.prog w = .ok (.slice (some ⟨w.heap.size, 0, none⟩) n c) (w.alloc (.cells (madeCells #[.int .u8 0] c) 5)) := by
  obtain ⟨i, hi, hz, hs, hb⟩ := info5
  have hr := run_make (P := Tryd.prog) w 25 5 i (.int .u8 0) Tryd.underlying25 hi hz .i64 .i64 n c (by omega) (by omega) (by rw [hb]; omega) (by omega)
  simp only [Int.toNat_natCast, hs, Nat.mul_one] at hr
  exact hr

/-- What grow leaves. -/
structure Grew (w : World) (b l n : Nat) (cur : List Value) (lr : Int) (w' : World) (cap2 : Nat) (cells : Array Value) : Prop where
  hb : w'.heap[b]? = some (.cells #[.slice (some ⟨w.heap.size, 0, none⟩) (l + n) cap2, .int .i64 0, .int .i8 lr] 32 (0, 0))
  hr : w'.heap[w.heap.size]? = some (.cells cells 5 (0, 0))
  hs : cells.size = cap2
  ht : cells.toList.take l = cur
  hl : l + n ≤ cap2
  hm : cap2 ≤ maxLen
  fr : Fr (fun k => k = b) w w'

theorem blockTop (w : World) (o : Obj) (b : Nat) (hb : b = w.heap.size) : (w.alloc o).heap[b]? = some o := by
  subst hb
  show (w.heap.push o)[w.heap.size]? = _
  simp
theorem heap_setCell {w : World} {b o : Nat} {v : Value} {cs : Array Value} {T : TypeId} {fr : Nat × Nat} (hb : w.heap[b]? = some (.cells cs T fr)) :
    (w.setCell ⟨b, o, none⟩ v).heap[b]? = some (.cells (cs.setIfInBounds o v) T fr) := by
  show (w.heap.modify b _)[b]? = _
  rw [Array.getElem?_modify, if_pos rfl, hb]
  rfl
/-- three stores into the buffer's block. -/
theorem stored3 {w1 : World} {b : Nat} {x y z v : Value} {lr : Int} (hb : w1.heap[b]? = some (.cells #[x, y, .int .i8 lr] 32 (0, 0))) :
    (((w1.setCell ⟨b, 0, none⟩ v).setCell ⟨b, 1, none⟩ (.int .i64 0)).setCell ⟨b, 0, none⟩ z).heap[b]? = some (.cells #[z, .int .i64 0, .int .i8 lr] 32 (0, 0)) := by
  rw [heap_setCell (heap_setCell (heap_setCell hb))]
  rfl
theorem stored1 {w1 : World} {b : Nat} {x y z : Value} {lr : Int} (hb : w1.heap[b]? = some (.cells #[x, y, .int .i8 lr] 32 (0, 0))) :
    (w1.setCell ⟨b, 0, none⟩ z).heap[b]? = some (.cells #[z, y, .int .i8 lr] 32 (0, 0)) := by
  rw [heap_setCell hb]
  rfl

theorem cellPast {w : World} {b : Nat} (h : b < w.heap.size) (n i : Nat) (o : Obj) : ((w.drewN n).alloc o).cell? ⟨b, i, none⟩ = w.cell? ⟨b, i, none⟩ :=
  World.cell?_of_block (w := w) (Below.heap_alloc (w.drewN n) o b h)
theorem frozenPast {w : World} {b : Nat} (h : b < w.heap.size) (n i : Nat) (o : Obj) : ((w.drewN n).alloc o).frozen? ⟨b, i, none⟩ = w.frozen? ⟨b, i, none⟩ :=
  World.frozen?_of_block (w := w) (Below.heap_alloc (w.drewN n) o b h)

/-- Len. -/
theorem bufLen (b l cap : Nat) (ao : Option Addr) (w : World) (c0 : w.cell? ⟨b, 0, none⟩ = some (.slice ao l cap)) (c1 : w.cell? ⟨b, 1, none⟩ = some (.int .i64 0)) (hl : l ≤ 281474976710656) :
    Calls Tryd.prog 59 #[.pointer (some ⟨b, 0, none⟩)] w fun e w' => e = .returned (.int .i64 l) ∧ ∃ n, w' = w.drewN n := by
  go_enter Tryd.func59, Tryd.ntmps59
  go_wp2
  go_quiet (fail)
  go_wp2
  go_ret
  exact ⟨rfl, _, rfl⟩

set_option maxHeartbeats 1000000 in
/-- grow on a nil buffer, a short need. -/
theorem grow_small (b n : Nat) (lr : Int) (w : World) (hbk : w.heap[b]? = some (.cells #[.slice none 0 0, .int .i64 0, .int .i8 lr] 32 (0, 0))) (hn : 1 ≤ n) (h64 : n ≤ 64) :
    Calls Tryd.prog 58 #[.pointer (some ⟨b, 0, none⟩), .int .i64 n] w fun e w' => e = .returned (.int .i64 0) ∧ ∃ cap2 cells, Grew w b 0 n [] lr w' cap2 cells := by
  have c0 : w.cell? ⟨b, 0, none⟩ = some (.slice none 0 0) := by rw [Lib.cell_of_heap hbk]; rfl
  have c1 : w.cell? ⟨b, 1, none⟩ = some (.int .i64 0) := by rw [Lib.cell_of_heap hbk]; rfl
  have f0 : w.frozen? ⟨b, 0, none⟩ = false := Lib.frozen_of_heap hbk 0
  have hlt := Lib.lt_of_heap hbk
  have hmk : ∀ W, (Instr.makeSlice 25 (.int .i64 (n : Int)) (.int .i64 64)).run Tryd.prog W = .ok (.slice (some ⟨W.heap.size, 0, none⟩) n 64) (W.alloc (.cells (madeCells #[.int .u8 0] 64) 5)) := fun W => makeBytes n 64 h64 (by decide) W
  have hnil : ∀ W, (binOp .eql 25 (.slice none 0 0) (.slice none 0 0)).run Tryd.prog W = .ok (.bool true) W := fun W => Lib.run_eql_slice_nil W 25 5 none 0 0 0 0 Tryd.underlying25
  have hca : ∀ k o, ((w.drewN k).alloc o).cell? ⟨b, 0, none⟩ = some (.slice none 0 0) := fun k o => (cellPast hlt k 0 o).trans c0
  have hfa : ∀ k o, ((w.drewN k).alloc o).frozen? ⟨b, 0, none⟩ = false := fun k o => (frozenPast hlt k 0 o).trans f0
  have HB : Hid _ := hbk
  clear hbk
  go_enter Tryd.func58, Tryd.ntmps58
  go_wp2_with (first
    | (go_at_call 57; refine (Tryd.Buffer_tryGrow_none b none 0 0 n _ ?_ (by omega) (by decide) (by omega)).mono ?_; exact c0; rintro e w' ⟨rfl, rfl⟩)
    | (go_at_call 59; refine (bufLen b 0 0 none _ ?_ ?_ (by decide)).mono ?_; exact c0; exact c1; rintro e w' ⟨rfl, nq, rfl⟩))
  go_ret
  refine ⟨rfl, 64, madeCells #[.int .u8 0] 64, ?_, ?_, size_madeCells _ _, by simp, by omega, by decide, ?_⟩
  · have hb2 : ((w.drewN nq).alloc (.cells (madeCells #[.int .u8 0] 64) 5)).heap[b]? = some (.cells #[.slice none 0 0, .int .i64 0, .int .i8 lr] 32 (0, 0)) := (Below.heap_alloc (w.drewN nq) _ b hlt).trans HB.out
    simpa using stored1 hb2
  · rw [Below.heap_setCell _ _ _ _ (by show w.heap.size ≠ b; omega)]
    exact blockTop _ _ _ rfl
  · exact Fr.setCell (X := fun k => k = b) (((Fr.refl _ w).drewN nq).alloc _) (p := ⟨b, 0, none⟩) (fun _ => rfl) _

theorem grew_end {w w2 : World} {b l n k cap2 : Nat} {cells : Array Value} {cur : List Value} {x y v : Value} {lr : Int} (hlt : b < w.heap.size) (hb : w2.heap[b]? = some (.cells #[x, y, .int .i8 lr] 32 (0, 0))) (hN : w2.heap[w.heap.size]? = some (.cells cells 5 (0, 0)))
    (hc : cells.size = cap2) (ht : cells.toList.take l = cur) (hl : l + n ≤ cap2) (hm : cap2 ≤ maxLen) (hbel : Below (w.drewN k).heap.size (w.drewN k) w2) :
    Grew w b l n cur lr (((w2.setCell ⟨b, 0, none⟩ v).setCell ⟨b, 1, none⟩ (.int .i64 0)).setCell ⟨b, 0, none⟩ (.slice (some ⟨w.heap.size, 0, none⟩) (l + n) cap2)) cap2 cells :=
  ⟨stored3 hb, by rw [Below.heap_setCell _ _ _ _ (by show w.heap.size ≠ b; omega), Below.heap_setCell _ _ _ _ (by show w.heap.size ≠ b; omega), Below.heap_setCell _ _ _ _ (by show w.heap.size ≠ b; omega)]; exact hN, hc, ht, hl, hm,
    Fr.setCell (X := fun k => k = b) (Fr.setCell (X := fun k => k = b) (Fr.setCell (X := fun k => k = b) (((Fr.refl _ w).drewN k).trans (Fr.of_below hbel) (fun i hi h => absurd h (by show ¬ w.heap.size ≤ i; omega))) (p := ⟨b, 0, none⟩) (fun _ => rfl) _) (p := ⟨b, 1, none⟩) (fun _ => rfl) _) (p := ⟨b, 0, none⟩) (fun _ => rfl) _⟩

end Go.Proofs.Qxb6616245aDoor
