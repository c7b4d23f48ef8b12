import Derived.Test.Qxb6616145aPlain
namespace Go.Proofs.Qxb6616145a
open Go.RowKit

/-- A row of n values, known whole. -/
def FRow (w : World) (b : Nat) (T : TypeId) (n : Nat) (g : Nat → Value) : Prop := w.heap[b]? = some (.cells ((List.range n).map g).toArray T (0, 0))
theorem FRow.cell {w : World} {b n j : Nat} {T : TypeId} {g : Nat → Value} (h : FRow w b T n g) (hj : j < n) : w.cell? ⟨b, j, none⟩ = some (g j) := by
  rw [cell_heap h, List.getElem?_toArray]
  simp [hj]
theorem range_set {α : Type} (g : Nat → α) (n j : Nat) (v : α) : ((List.range n).map g).set j v = (List.range n).map (upd g j v) := by
  apply List.ext_getElem?
  intro i
  rw [List.getElem?_set]
  by_cases h : j = i
  · subst h
    by_cases hj : j < n
    · simp [hj, upd]
    · simp [hj]
  · rw [if_neg h]
    by_cases hi : i < n
    · simp [hi, upd, Ne.symm h]
    · simp [hi]
theorem FRow.set {w : World} {b n j : Nat} {T : TypeId} {g : Nat → Value} (h : FRow w b T n g) (v : Value) : FRow (w.setCell ⟨b, j, none⟩ v) b T n (upd g j v) := by
  unfold FRow
  rw [heap_setCell h]
  simp only [List.setIfInBounds_toArray, range_set]
theorem FRow.fr {w w' : World} {b n : Nat} {T : TypeId} {g : Nat → Value} (h : FRow w b T n g) (e : w'.heap[b]? = w.heap[b]?) : FRow w' b T n g := e.trans h
theorem FRow.lt {w : World} {b n : Nat} {T : TypeId} {g : Nat → Value} (h : FRow w b T n g) : b < w.heap.size := lt_heap h
theorem made_range (z : Value) (n : Nat) (hz : z.cells = #[z]) : madeCells z.cells n = ((List.range n).map (fun _ => z)).toArray := by
  apply Array.ext'
  rw [hz]
  simp only [madeCells]
  apply List.ext_getElem
  · simp
  · intro j h1 h2
    simp [Nat.mod_one]
theorem infoOf (T : TypeId) (z : Value) (by' : Nat) (h : (Try.prog.info? T).map (fun i => (i.zero, i.size, i.bytes)) = some (some z, 1, by')) : ∃ i, Try.prog.info? T = some i ∧ i.zero = some z ∧ i.size = 1 ∧ i.bytes = by' := by
  obtain ⟨i, hi, he⟩ := Option.map_eq_some_iff.1 h
  simp only [Prod.mk.injEq] at he
  exact ⟨i, hi, he.1, he.2.1, he.2.2⟩
theorem info30 : ∃ i, Try.prog.info? 30 = some i ∧ i.zero = some (.int .u32 0) ∧ i.size = 1 ∧ i.bytes = 4 := infoOf _ _ _ (by kernel_rfl)
theorem info28' : ∃ i, Try.prog.info? 28 = some i ∧ i.zero = some (.pointer none) ∧ i.size = 1 ∧ i.bytes = 8 := infoOf _ _ _ (by kernel_rfl)
theorem make26 (n : Nat) (hn : n ≤ 1099511627776) (w : World) :
    (Instr.makeSlice 26 (.int .i64 n) (.int .i64 n)).run Try.prog w = .ok (.slice (some ⟨w.heap.size, 0, none⟩) n n) (w.alloc (.cells ((List.range n).map (fun _ => Value.pointer none)).toArray 28)) := by
  obtain ⟨i, hi, hz, hs, hb⟩ := info28'
  have hr := run_make (P := Try.prog) w 26 28 i (.pointer none) Try.underlying26 hi hz .i64 .i64 n n (by omega) (by omega) (by rw [hb]; omega) (by omega)
  simp only [Int.toNat_natCast, hs, Nat.mul_one] at hr
  rw [hr, made_range _ _ rfl]
theorem make27 (n : Nat) (hn : n ≤ 1099511627776) (w : World) :
    (Instr.makeSlice 27 (.int .i64 n) (.int .i64 n)).run Try.prog w = .ok (.slice (some ⟨w.heap.size, 0, none⟩) n n) (w.alloc (.cells ((List.range n).map (fun _ => Value.int .u32 0)).toArray 30)) := by
  obtain ⟨i, hi, hz, hs, hb⟩ := info30
  have hr := run_make (P := Try.prog) w 27 30 i (.int .u32 0) Try.underlying27 hi hz .i64 .i64 n n (by omega) (by omega) (by rw [hb]; omega) (by omega)
  simp only [Int.toNat_natCast, hs, Nat.mul_one] at hr
  rw [hr, made_range _ _ rfl]
theorem make22 (n : Nat) (hn : n ≤ 1099511627776) (w : World) :
    (Instr.makeSlice 22 (.int .i64 n) (.int .i64 n)).run Try.prog w = .ok (.slice (some ⟨w.heap.size, 0, none⟩) n n) (w.alloc (.cells ((List.range n).map (fun _ => Value.int .i64 0)).toArray 3)) := by
  obtain ⟨i, hi, hz, hs, hb⟩ := info3
  have hr := run_make (P := Try.prog) w 22 3 i (.int .i64 0) Try.underlying22 hi hz .i64 .i64 n n (by omega) (by omega) (by rw [hb]; omega) (by omega)
  simp only [Int.toNat_natCast, hs, Nat.mul_one] at hr
  rw [hr, made_range _ _ rfl]

theorem WinOk.fr {w w' : World} {B wb : Nat} {pvs : Nat → Value} {gss : Nat → List Grp} (h : WinOk w B wb pvs gss) (hb : ∀ k, k < w.heap.size → w'.heap[k]? = w.heap[k]?) : WinOk w' B wb pvs gss :=
  ⟨(hb _ (lt_heap h.blk)).trans h.blk, fun b hb4 => (h.pool b hb4).fr (fun k hk => hb k (pfoot_lt (h.pool b hb4) hk).1), h.apart⟩

theorem pushA_small {m r : Int} {d : Nat} {ks : List Int} {L K : Nat} : ∀ gs : List AG, (∀ g ∈ gs, g.ds.length ≤ L ∧ g.ks.length ≤ K) → (pushA m r d ks gs).length ≤ gs.length + 1 ∧ ∀ g ∈ pushA m r d ks gs, g.ds.length ≤ L + 1 ∧ g.ks.length ≤ K + ks.length
  | [], _ => by simp [pushA]
  | x :: gs, h => by
    have ih := pushA_small (m := m) (r := r) (d := d) (ks := ks) gs (fun g hg => h g (by simp [hg]))
    have hx := h x (by simp)
    unfold pushA
    split
    · refine ⟨by simp, fun g hg => ?_⟩
      rcases List.mem_cons.1 hg with rfl | hg
      · simp only [List.length_append, List.length_singleton]; omega
      · have := h g (by simp [hg]); omega
    · refine ⟨by simp; exact ih.1, fun g hg => ?_⟩
      rcases List.mem_cons.1 hg with rfl | hg
      · omega
      · exact ih.2 g hg
theorem pool_small (rt rel msk : Nat → Int) (db : Nat → Nat) (kl : Nat → List Int) (b i : Nat) : (pool rt rel msk db kl b i).length ≤ i ∧ ∀ g ∈ pool rt rel msk db kl b i, g.ds.length ≤ i ∧ g.ks.length ≤ sumTo (fun j => (kl j).length) i := by
  induction i with
  | zero => simp [pool]
  | succ i ih =>
    simp only [pool, sumTo]
    split
    · have := pushA_small (m := msk i) (r := rel i) (d := db i) (ks := kl i) _ ih.2
      exact ⟨by omega, this.2⟩
    · exact ⟨by omega, fun g hg => by have := ih.2 g hg; omega⟩

/-- How many are distinct in the first i of a sorted list. -/
def dist (ys : List Int) : Nat → Nat
  | 0 => 0
  | i + 1 => if 0 < i ∧ ys.getD i 0 = ys.getD (i - 1) 0 then dist ys i else dist ys i + 1
end Go.Proofs.Qxb6616145a
