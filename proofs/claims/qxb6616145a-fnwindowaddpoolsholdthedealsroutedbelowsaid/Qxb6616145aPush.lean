import Derived.Test.Qxb6616145aPool
namespace Go.Proofs.Qxb6616145a
open Go.RowKit

def gnil : Grp := ⟨0, 0, .slice none 0 0, 0, 0, [], []⟩
def gat (gs : List Grp) (j : Nat) : Grp := gs.getD j gnil
theorem gat_mem {gs : List Grp} {j : Nat} (h : j < gs.length) : gat gs j ∈ gs := by
  unfold gat List.getD
  rw [List.getElem?_eq_getElem h]
  exact List.getElem_mem h
theorem gat_get {gs : List Grp} {j : Nat} (h : j < gs.length) : gs[j]? = some (gat gs j) := by
  unfold gat List.getD
  rw [List.getElem?_eq_getElem h]
  rfl

/-- The pool's slice, as it is read. -/
theorem PoolOk.read {w : World} {B : Nat} {pv : Value} {gs : List Grp} (h : PoolOk w B pv gs) :
    ∃ pa c, pv = .slice pa gs.length c ∧ gs.length ≤ c ∧ c ≤ 9223372036854775807 ∧ (gs.length = 0 ∨ ∃ pb, pa = some ⟨pb, 0, none⟩ ∧ ∀ j, j < gs.length → w.cell? ⟨pb, j, none⟩ = some (.pointer (some ⟨(gat gs j).blk, 0, none⟩))) := by
  rcases h.row.2 with ⟨rfl, h0⟩ | ⟨g, cap, cur, rfl, hb, hg, hle, hm, hs, ht⟩
  · exact ⟨none, 0, by rw [h0], by omega, by omega, .inl h0⟩
  · refine ⟨_, cap, rfl, hle, hm, .inr ⟨g, rfl, fun j hj => ?_⟩⟩
    rw [Nat.mul_one] at ht
    rw [cell_heap hg]
    have := congrArg (fun l : List Value => l[j]?) ht
    simp only [List.getElem?_take, if_pos hj, Array.getElem?_toList] at this
    rw [this]
    simp [ptrs, gat_get hj]
theorem GrpOk.shape {w : World} {B : Nat} {g : Grp} (h : GrpOk w B g) : w.cell? ⟨g.blk, 0, none⟩ = some (.int .u32 g.mask) ∧ w.cell? ⟨g.blk, 1, none⟩ = some (.int .i64 g.rel) ∧ w.cell? ⟨g.blk, 2, none⟩ = some g.dv ∧ w.cell? ⟨g.blk, 3, none⟩ = some (.map (some g.mb)) := by
  refine ⟨?_, ?_, ?_, ?_⟩ <;> rw [cell_heap h.cells] <;> rfl

/-- The parting of a list at its first match. -/
theorem first_hit {m r : Int} : ∀ (gs : List Grp), (∃ g ∈ gs, g.mask = m ∧ g.rel = r) → ∃ l1 g l2, gs = l1 ++ g :: l2 ∧ (∀ x ∈ l1, ¬ (x.mask = m ∧ x.rel = r)) ∧ g.mask = m ∧ g.rel = r
  | [], h => by obtain ⟨g, hg, _⟩ := h; cases hg
  | x :: gs, h => by
    by_cases hx : x.mask = m ∧ x.rel = r
    · exact ⟨[], x, gs, rfl, (fun y hy => by cases hy), hx.1, hx.2⟩
    · obtain ⟨g, hg, hm⟩ := h
      rcases List.mem_cons.1 hg with rfl | hg
      · exact absurd hm hx
      · obtain ⟨l1, g', l2, rfl, h1, h2⟩ := first_hit gs ⟨g, hg, hm⟩
        exact ⟨x :: l1, g', l2, rfl, (fun y hy => by
          rcases List.mem_cons.1 hy with rfl | hy
          · exact hx
          · exact h1 y hy), h2⟩

def FoundAt (gs : List Grp) (m r i : Int) : Prop :=
  (∃ k : Nat, i = k ∧ k < gs.length ∧ (gat gs k).mask = m ∧ (gat gs k).rel = r ∧ ∀ j, j < k → ¬ ((gat gs j).mask = m ∧ (gat gs j).rel = r)) ∨ (i = -1 ∧ ∀ j, j < gs.length → ¬ ((gat gs j).mask = m ∧ (gat gs j).rel = r))
theorem gat_left {l1 l2 : List Grp} {g : Grp} {j : Nat} (h : j < l1.length) : gat (l1 ++ g :: l2) j ∈ l1 := by
  unfold gat List.getD
  rw [List.getElem?_append_left h, List.getElem?_eq_getElem h]
  exact List.getElem_mem h
theorem gat_mid {l1 l2 : List Grp} {g : Grp} : gat (l1 ++ g :: l2) l1.length = g := by
  unfold gat List.getD
  rw [List.getElem?_append_right (Nat.le_refl _), Nat.sub_self]
  rfl
theorem found_hit {l1 l2 : List Grp} {g : Grp} {m r i : Int} (h : FoundAt (l1 ++ g :: l2) m r i) (h1 : ∀ x ∈ l1, ¬ (x.mask = m ∧ x.rel = r)) (hg : g.mask = m ∧ g.rel = r) : i = (l1.length : Nat) := by
  rcases h with ⟨k, rfl, hk, hm, hr, hj⟩ | ⟨_, hj⟩
  · rcases Nat.lt_trichotomy k l1.length with hlt | rfl | hgt
    · exact absurd ⟨hm, hr⟩ (h1 _ (gat_left hlt))
    · rfl
    · exact absurd (by rw [gat_mid]; exact hg) (hj l1.length hgt)
  · exact absurd (by rw [gat_mid]; exact hg) (hj l1.length (by simp))
theorem found_miss {gs : List Grp} {m r i : Int} (h : FoundAt gs m r i) (h1 : ∀ x ∈ gs, ¬ (x.mask = m ∧ x.rel = r)) : i = -1 := by
  rcases h with ⟨k, _, hk, hm, hr, _⟩ | ⟨h, _⟩
  · exact absurd ⟨hm, hr⟩ (h1 _ (gat_mem hk))
  · exact h

theorem info28 : ∃ i, Try.prog.info? 28 = some i ∧ i.zero = some (.pointer none) ∧ i.size = 1 ∧ i.bytes = 8 := by
  have h : (Try.prog.info? 28).map (fun i => (i.zero, i.size, i.bytes)) = some (some (.pointer none), 1, 8) := by kernel_rfl
  obtain ⟨i, hi, he⟩ := Option.map_eq_some_iff.1 h
  simp only [Prod.mk.injEq] at he
  exact ⟨i, hi, he.1, he.2.1, he.2.2⟩
theorem info74 : ∃ i, Try.prog.info? 74 = some i ∧ i.zero = some (.pointer none) ∧ i.size = 1 ∧ i.bytes = 8 := by
  have h : (Try.prog.info? 74).map (fun i => (i.zero, i.size, i.bytes)) = some (some (.pointer none), 1, 8) := by kernel_rfl
  obtain ⟨i, hi, he⟩ := Option.map_eq_some_iff.1 h
  simp only [Prod.mk.injEq] at he
  exact ⟨i, hi, he.1, he.2.1, he.2.2⟩

/-- What the round's statement reads. -/
def Rs (gb mb tb : Nat) (m : Int) (ks : List Int) (w' : World) : Prop :=
  w'.cell? ⟨gb, 3, none⟩ = some (.map (some mb)) ∧ w'.cell? ⟨tb, 0, none⟩ = some (.int .i64 m) ∧ w'.cell? ⟨tb, 1, none⟩ = some (.int .i64 0) ∧ w'.cell? ⟨tb, 2, none⟩ = some (.pointer none) ∧
    (Instr.lookup 71 (.map (some mb)) (.int .i64 m) false).run Try.prog w' = .ok D0 w' ∧ (SumMap w' mb ks ∧ gb < w'.heap.size ∧ tb < w'.heap.size)
theorem Rs.fr {gb mb tb : Nat} {m : Int} {ks : List Int} {w w' : World} (h : Rs gb mb tb m ks w) (hm : -9223372036854775808 ≤ m ∧ m ≤ 9223372036854775807) (fr : Fr (fun _ => False) w w') : Rs gb mb tb m ks w' := by
  obtain ⟨h1, h2, h3, h4, _, h6, h7, h8⟩ := h
  have s : SumMap w' mb ks := h6.fr (fr.block mb h6.lt id)
  exact ⟨(fr.cell (p := ⟨gb, 3, none⟩) h7 id).trans h1, (fr.cell (p := ⟨tb, 0, none⟩) h8 id).trans h2, (fr.cell (p := ⟨tb, 1, none⟩) h8 id).trans h3, (fr.cell (p := ⟨tb, 2, none⟩) h8 id).trans h4, s.look hm, s, Nat.lt_of_lt_of_le h7 fr.size, Nat.lt_of_lt_of_le h8 fr.size⟩
theorem Rs.five {gb mb tb : Nat} {m : Int} {ks : List Int} {w' : World} (h : Rs gb mb tb m ks w') : w'.cell? ⟨gb, 3, none⟩ = some (.map (some mb)) ∧ w'.cell? ⟨tb, 0, none⟩ = some (.int .i64 m) ∧ w'.cell? ⟨tb, 1, none⟩ = some (.int .i64 0) ∧ w'.cell? ⟨tb, 2, none⟩ = some (.pointer none) ∧
    (Instr.lookup 71 (.map (some mb)) (.int .i64 m) false).run Try.prog w' = .ok D0 w' := ⟨h.1, h.2.1, h.2.2.1, h.2.2.2.1, h.2.2.2.2.1⟩
/-- The round's store. -/
theorem Rs.store {gb mb tb : Nat} {m : Int} {ks : List Int} {w : World} (h : Rs gb mb tb m ks w) (hm : -9223372036854775808 ≤ m ∧ m ≤ 9223372036854775807) (hl : ks.length < 1099511627776) (h1 : gb ≠ mb) (h2 : tb ≠ mb) :
    ∃ w', (Instr.mapUpdate 71 (.map (some mb)) (.int .i64 m) D0).run Try.prog w = .ok () w' ∧ SumMap w' mb (ks ++ [m]) ∧ Fr (fun k => k = mb) w w' ∧ Rs gb mb tb m (ks ++ [m]) w' := by
  obtain ⟨c1, c2, c3, c4, _, c6, c7, c8⟩ := h
  obtain ⟨w', hrun, hs, fr⟩ := c6.put hm hl
  exact ⟨w', hrun, hs, fr, (fr.cell (p := ⟨gb, 3, none⟩) c7 h1).trans c1, (fr.cell (p := ⟨tb, 0, none⟩) c8 h2).trans c2, (fr.cell (p := ⟨tb, 1, none⟩) c8 h2).trans c3, (fr.cell (p := ⟨tb, 2, none⟩) c8 h2).trans c4, hs.look hm, hs, Nat.lt_of_lt_of_le c7 fr.size, Nat.lt_of_lt_of_le c8 fr.size⟩
end Go.Proofs.Qxb6616145a
