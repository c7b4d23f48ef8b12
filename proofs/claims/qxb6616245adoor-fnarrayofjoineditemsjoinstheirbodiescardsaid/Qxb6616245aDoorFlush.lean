import Derived.Test.Qxb6616245aDoorBufW
namespace Go.Proofs.Qxb6616245aDoor
open Go.RowKit

/-- bufio.Writer's four cells. -/
def wcells (bb bf n : Nat) : Array Value := #[.nilIface, .slice (some ⟨bf, 0, none⟩) 16384 16384, .int .i64 n, .iface 35 (.pointer (some ⟨bb, 0, none⟩))]

/-- The writer in memory: bb the bytes.Buffer, bw the bufio.Writer, bf its buffer (cells cur, the first n of them waiting); what has gone over: done; what waits: l. All its blocks lie from B on. -/
structure Wr (w : World) (B bb bw bf n : Nat) (go : Option Nat) (cur : List Value) (done l : List UInt8) : Prop where
  lo : B ≤ bb ∧ B ≤ bw ∧ B ≤ bf
  ne : bw ≠ bb ∧ bf ≠ bb ∧ bw ≠ bf
  row : ∀ g, go = some g → B ≤ g ∧ g ≠ bf ∧ g ≠ bw
  wb : w.heap[bw]? = some (.cells (wcells bb bf n) 52 (0, 0))
  fb : w.heap[bf]? = some (.cells cur.toArray 5 (0, 0))
  len : cur.length = 16384
  hn : n ≤ 16384
  buf : Bf w bb go (Lib.byteCells done)
  pend : cur.take n = Lib.byteCells l

theorem Wr.ll {w : World} {B bb bw bf n : Nat} {go : Option Nat} {cur : List Value} {done l : List UInt8} (h : Wr w B bb bw bf n go cur done l) : l.length = n := by
  have := congrArg List.length h.pend
  simp [Lib.byteCells_length] at this
  have h1 := h.len
  have h2 := h.hn
  omega
theorem Wr.wcell {w : World} {B bb bw bf n : Nat} {go : Option Nat} {cur : List Value} {done l : List UInt8} (h : Wr w B bb bw bf n go cur done l) :
    w.cell? ⟨bw, 0, none⟩ = some .nilIface ∧ w.cell? ⟨bw, 1, none⟩ = some (.slice (some ⟨bf, 0, none⟩) 16384 16384) ∧ w.cell? ⟨bw, 2, none⟩ = some (.int .i64 n) ∧ w.cell? ⟨bw, 3, none⟩ = some (.iface 35 (.pointer (some ⟨bb, 0, none⟩))) := by
  refine ⟨?_, ?_, ?_, ?_⟩ <;> rw [Lib.cell_of_heap h.wb] <;> rfl
theorem Wr.carry {w w' : World} {B bb bw bf n : Nat} {go : Option Nat} {cur : List Value} {done l : List UInt8} (h : Wr w B bb bw bf n go cur done l) (hk : ∀ k, B ≤ k → k < w.heap.size → w'.heap[k]? = w.heap[k]?) : Wr w' B bb bw bf n go cur done l :=
  ⟨h.lo, h.ne, h.row, (hk _ h.lo.2.1 (Lib.lt_of_heap h.wb)).trans h.wb, (hk _ h.lo.2.2 (Lib.lt_of_heap h.fb)).trans h.fb, h.len, h.hn,
    h.buf.carry (hk _ h.lo.1 h.buf.lt) (fun g hg => by subst hg; exact hk g (h.row g rfl).1 h.buf.rowLt.1), h.pend⟩
theorem Wr.drewN {w : World} {B bb bw bf n : Nat} {go : Option Nat} {cur : List Value} {done l : List UInt8} (h : Wr w B bb bw bf n go cur done l) (k : Nat) : Wr (w.drewN k) B bb bw bf n go cur done l := h.carry fun _ _ _ => rfl
theorem Wr.alloc {w : World} {B bb bw bf n : Nat} {go : Option Nat} {cur : List Value} {done l : List UInt8} (h : Wr w B bb bw bf n go cur done l) (o : Obj) : Wr (w.alloc o) B bb bw bf n go cur done l := h.carry fun k _ hk => Below.heap_alloc w o k hk

theorem available (B bb bw bf n : Nat) (go : Option Nat) (cur : List Value) (done l : List UInt8) (w : World) (h : Wr w B bb bw bf n go cur done l) :
    Calls Tryd.prog 21 #[.pointer (some ⟨bw, 0, none⟩)] w fun e w' => e = .returned (.int .i64 (16384 - n)) ∧ ∃ k, w' = w.drewN k := by
  obtain ⟨c0, c1, c2, c3⟩ := h.wcell
  have hn := h.hn
  go_enter Tryd.func21, Tryd.ntmps21
  go_wp2
  go_quiet (fail)
  go_wp2
  go_ret
  exact ⟨rfl, _, rfl⟩
theorem buffered (B bb bw bf n : Nat) (go : Option Nat) (cur : List Value) (done l : List UInt8) (w : World) (h : Wr w B bb bw bf n go cur done l) :
    Calls Tryd.prog 22 #[.pointer (some ⟨bw, 0, none⟩)] w fun e w' => e = .returned (.int .i64 n) ∧ w' = w := by
  obtain ⟨c0, c1, c2, c3⟩ := h.wcell
  go_enter Tryd.func22, Tryd.ntmps22
  go_wp2
  go_ret
  exact ⟨rfl, rfl⟩

theorem method_write (a : Addr) (w : World) : (method 208 35 (.pointer (some a)) "Write").run Tryd.prog w = .ok (55, .pointer (some a)) w := by kernel_rfl

theorem Wr.src {w : World} {B bb bw bf n : Nat} {go : Option Nat} {cur : List Value} {done l : List UInt8} (h : Wr w B bb bw bf n go cur done l) : ∀ j v, (Lib.byteCells l)[j]? = some v → w.cell? ⟨bf, 0 + j, none⟩ = some v := by
  intro j v hj
  rw [Nat.zero_add, Lib.cell_of_heap h.fb, List.getElem?_toArray]
  rw [← h.pend, List.getElem?_take] at hj
  split at hj
  · exact hj
  · cases hj

theorem Wr.kept {w w1 w2 : World} {B bb bw bf n : Nat} {go : Option Nat} {cur : List Value} {done l : List UInt8} (h : Wr w B bb bw bf n go cur done l) (e : w1.heap = w.heap) (fr : Fr (fun k => k = bb ∨ go = some k) w1 w2) :
    w2.heap[bw]? = some (.cells (wcells bb bf n) 52 (0, 0)) := by
  have nb : ¬ (bw = bb ∨ go = some bw) := by rintro (e | e); exact h.ne.1 e; exact (h.row _ e).2.2 rfl
  rw [fr.block bw (by rw [e]; exact Lib.lt_of_heap h.wb) nb, e]
  exact h.wb

/-- Behind the write of all that waited. -/
theorem Wr.flushed {w w2 : World} {B bb bw bf n k g' : Nat} {go : Option Nat} {cur : List Value} {done l : List UInt8} (h : Wr w B bb bw bf n go cur done l) (hb : Bf w2 bb (some g') (Lib.byteCells done ++ Lib.byteCells l)) (fr : Fr (fun k => k = bb ∨ go = some k) (w.drewN k) w2)
    (hg : go = some g' ∨ (w.drewN k).heap.size ≤ g') : Wr (w2.setCell ⟨bw, 2, none⟩ (.int .i64 0)) B bb bw bf 0 (some g') cur (done ++ l) [] ∧ Fr (fun k => k = bb ∨ k = bw ∨ go = some k) w (w2.setCell ⟨bw, 2, none⟩ (.int .i64 0)) ∧ (go = some g' ∨ w.heap.size ≤ g') := by
  have hwlt := Lib.lt_of_heap h.wb
  have hflt := Lib.lt_of_heap h.fb
  have nb : ¬ (bw = bb ∨ go = some bw) := by rintro (e | e); exact h.ne.1 e; exact (h.row _ e).2.2 rfl
  have nf : ¬ (bf = bb ∨ go = some bf) := by rintro (e | e); exact h.ne.2.1 e; exact (h.row _ e).2.1 rfl
  have e1 : w2.heap[bw]? = some (.cells (wcells bb bf n) 52 (0, 0)) := (fr.block bw hwlt nb).trans h.wb
  have e2 : w2.heap[bf]? = some (.cells cur.toArray 5 (0, 0)) := (fr.block bf hflt nf).trans h.fb
  have hg1 : B ≤ g' ∧ g' ≠ bf ∧ g' ≠ bw := by
    rcases hg with hg | hg
    · exact h.row g' hg
    · have : w.heap.size ≤ g' := hg
      have := h.lo
      omega
  refine ⟨⟨h.lo, h.ne, fun g e => by cases e; exact hg1, by rw [heap_setCell e1]; rfl, ?_, h.len, Nat.zero_le _, ?_, by simp [Lib.byteCells]⟩, ?_, hg⟩
  · rw [Below.heap_setCell _ _ _ _ (by have := h.ne; show bf ≠ bw; omega)]; exact e2
  · rw [Lib.byteCells_append]
    refine hb.carry (Below.heap_setCell _ _ _ _ (by have := h.ne; show bb ≠ bw; omega)) (fun g e => ?_)
    cases e
    exact Below.heap_setCell _ _ _ _ (by show g' ≠ bw; omega)
  · refine Fr.setCell (X := fun k => k = bb ∨ k = bw ∨ go = some k) ?_ (p := ⟨bw, 2, none⟩) (fun _ => .inr (.inl rfl)) _
    refine Fr.trans (X := fun k => k = bb ∨ k = bw ∨ go = some k) ((Fr.refl _ w).drewN k) fr ?_
    rintro i _ (e | e)
    · exact .inl e
    · exact .inr (.inr e)

set_option maxHeartbeats 1000000 in
theorem flush_some (B bb bw bf n : Nat) (go : Option Nat) (cur : List Value) (done l : List UInt8) (w : World) (h : Wr w B bb bw bf n go cur done l) (hn0 : 1 ≤ n) (hlim : done.length + n ≤ 1099511627776) :
    Calls Tryd.prog 12 #[.pointer (some ⟨bw, 0, none⟩)] w fun e w' => e = .returned .nilIface ∧ ∃ g', Wr w' B bb bw bf 0 (some g') cur (done ++ l) [] ∧ Fr (fun k => k = bb ∨ k = bw ∨ go = some k) w w' ∧ (go = some g' ∨ w.heap.size ≤ g') := by
  obtain ⟨c0, c1, c2, c3⟩ := h.wcell
  have hn := h.hn
  have hni : (n : Int) ≤ 16384 := by omega
  have hmw := method_write ⟨bb, 0, none⟩
  have HW : Hid _ := h
  clear h
  go_enter Tryd.func12, Tryd.ntmps12
  go_wp2
  go_region_with (
    go_at_call 55
    refine (bufWrite bb go (Lib.byteCells done) (Lib.byteCells l) bf 0 n 16384 _ ?_ ?_ hn0 ?_ ?_ ?_ (Lib.byteCells_one _) (Lib.byteCells_one _) ?_).mono ?_
    exact HW.out.buf
    rw [Lib.byteCells_length]; exact HW.out.ll
    exact HW.out.ne.2.1
    exact Lib.lt_of_heap HW.out.fb
    exact HW.out.src
    rw [Lib.byteCells_length]; exact hlim
    rintro e w2 ⟨rfl, g', hb, fr, hg⟩
    have e1 := Wr.kept (w1 := w.drew) HW.out rfl fr
    have d2 : w2.cell? ⟨bw, 2, none⟩ = some (.int .i64 n) := by rw [Lib.cell_of_heap e1]; rfl
    have f2 : w2.frozen? ⟨bw, 2, none⟩ = false := Lib.frozen_of_heap e1 2
    have HBF : Hid (Bf w2 bb (some g') (Lib.byteCells done ++ Lib.byteCells l)) := hb
    have HFR : Hid (Fr (fun k => k = bb ∨ go = some k) w.drew w2) := fr
    have HG : Hid (go = some g' ∨ w.drew.heap.size ≤ g') := hg
    clear hb fr hg e1)
  all_goals
    go_wp2
    go_ret
    exact ⟨rfl, g', HW.out.flushed (k := 1) HBF.out HFR.out HG.out⟩

theorem flush_none (B bb bw bf : Nat) (go : Option Nat) (cur : List Value) (done l : List UInt8) (w : World) (h : Wr w B bb bw bf 0 go cur done l) :
    Calls Tryd.prog 12 #[.pointer (some ⟨bw, 0, none⟩)] w fun e w' => e = .returned .nilIface ∧ w' = w := by
  obtain ⟨c0, c1, c2, c3⟩ := h.wcell
  clear h
  go_enter Tryd.func12, Tryd.ntmps12
  go_wp2
  go_ret
  exact ⟨rfl, rfl⟩
end Go.Proofs.Qxb6616245aDoor
