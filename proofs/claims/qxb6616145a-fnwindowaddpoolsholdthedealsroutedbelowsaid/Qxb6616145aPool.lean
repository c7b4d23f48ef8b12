import Derived.Test.Qxb6616145aFind
import Derived.Deep.AppendLies
import Derived.Deep.RegionHeldLaw
namespace Go.Proofs.Qxb6616145a
open Go.RowKit

/-- A group, as it lies: its block, its map's block, its deals' slice; and what it holds. -/
structure Grp where
  blk : Nat
  mb : Nat
  dv : Value
  mask : Int
  rel : Int
  ds : List Nat
  ks : List Int
/-- What a group holds. -/
structure AG where
  mask : Int
  rel : Int
  ds : List Nat
  ks : List Int
def Grp.abs (g : Grp) : AG := ⟨g.mask, g.rel, g.ds, g.ks⟩
/-- One deal more. -/
def pushA (m r : Int) (d : Nat) (ks : List Int) : List AG → List AG
  | [] => [⟨m, r, [d], ks⟩]
  | g :: gs => if g.mask = m ∧ g.rel = r then ⟨g.mask, g.rel, g.ds ++ [d], g.ks ++ ks⟩ :: gs else g :: pushA m r d ks gs
theorem pushA_hit {m r : Int} {d : Nat} {ks : List Int} : ∀ (l1 : List AG) (g : AG) (l2 : List AG), (∀ x ∈ l1, ¬ (x.mask = m ∧ x.rel = r)) → g.mask = m → g.rel = r → pushA m r d ks (l1 ++ g :: l2) = l1 ++ ⟨g.mask, g.rel, g.ds ++ [d], g.ks ++ ks⟩ :: l2
  | [], g, l2, _, h1, h2 => by simp [pushA, h1, h2]
  | x :: l1, g, l2, h, h1, h2 => by
    have := h x (by simp)
    simp only [List.cons_append, pushA, if_neg this]
    rw [pushA_hit l1 g l2 (fun y hy => h y (by simp [hy])) h1 h2]
theorem pushA_miss {m r : Int} {d : Nat} {ks : List Int} : ∀ (l : List AG), (∀ x ∈ l, ¬ (x.mask = m ∧ x.rel = r)) → pushA m r d ks l = l ++ [⟨m, r, [d], ks⟩]
  | [], _ => rfl
  | x :: l, h => by
    have := h x (by simp)
    simp only [List.cons_append, pushA, if_neg this]
    rw [pushA_miss l (fun y hy => h y (by simp [hy]))]

def ptrs (l : List Nat) : List Value := l.map fun b => .pointer (some ⟨b, 0, none⟩)
theorem ptrs_one (l : List Nat) : ∀ v ∈ ptrs l, v.oneCell' = true := by
  intro v hv
  obtain ⟨b, _, rfl⟩ := List.mem_map.1 hv
  rfl

def foot (g : Grp) (k : Nat) : Prop := k = g.blk ∨ k = g.mb ∨ g.dv.ownBlock = some k
def grpCells (g : Grp) : Array Value := #[.int .u32 g.mask, .int .i64 g.rel, g.dv, .map (some g.mb)]
structure GrpOk (w : World) (B : Nat) (g : Grp) : Prop where
  lo : B ≤ g.blk ∧ B ≤ g.mb
  cells : w.heap[g.blk]? = some (.cells (grpCells g) 73 (0, 0))
  deals : w.ownsRow B 28 1 g.dv g.ds.length (ptrs g.ds)
  sums : SumMap w g.mb g.ks
def pfoot (pv : Value) (gs : List Grp) (k : Nat) : Prop := pv.ownBlock = some k ∨ ∃ g ∈ gs, foot g k
structure PoolOk (w : World) (B : Nat) (pv : Value) (gs : List Grp) : Prop where
  row : w.ownsRow B 74 1 pv gs.length (ptrs (gs.map (·.blk)))
  grp : ∀ g ∈ gs, GrpOk w B g
  apart : gs.Pairwise (fun g g' => ∀ k, foot g k → ¬ foot g' k)

/-- The kind of a block. -/
theorem own_tag {w : World} {B n : Nat} {e : TypeId} {sz : Nat} {v : Value} {xs : List Value} (h : w.ownsRow B e sz v n xs) {k : Nat} (hk : v.ownBlock = some k) : ∃ cs, w.heap[k]? = some (.cells cs e (0, 0)) := by
  rcases h.2 with ⟨rfl, _⟩ | ⟨g, cap, cur, rfl, _, hg, _⟩
  · cases hk
  · cases hk; exact ⟨cur, hg⟩
theorem sum_tag {w : World} {b : Nat} {ks : List Int} (h : SumMap w b ks) : ∃ es c, w.heap[b]? = some (.map es c) := by
  obtain ⟨es, clock, h1, _⟩ := h
  exact ⟨es, clock, h1⟩
/-- What kind of block a footprint's is. -/
theorem foot_tag {w : World} {B : Nat} {g : Grp} (h : GrpOk w B g) {k : Nat} (hk : foot g k) : (∃ cs, w.heap[k]? = some (.cells cs 73 (0, 0))) ∨ (∃ es c, w.heap[k]? = some (.map es c)) ∨ ∃ cs, w.heap[k]? = some (.cells cs 28 (0, 0)) := by
  rcases hk with rfl | rfl | hk
  · exact .inl ⟨_, h.cells⟩
  · exact .inr (.inl (sum_tag h.sums))
  · exact .inr (.inr (own_tag h.deals hk))
theorem foot_not {w : World} {B : Nat} {g : Grp} (h : GrpOk w B g) {k : Nat} {cs : Array Value} {T : TypeId} (hk : w.heap[k]? = some (.cells cs T (0, 0))) (h1 : T ≠ 73) (h2 : T ≠ 28) : ¬ foot g k := by
  intro hf
  rcases foot_tag h hf with ⟨c, e⟩ | ⟨es, c, e⟩ | ⟨c, e⟩
  · rw [hk] at e; cases e; exact h1 rfl
  · rw [hk] at e; cases e
  · rw [hk] at e; cases e; exact h2 rfl
theorem foot_lt {w : World} {B : Nat} {g : Grp} (h : GrpOk w B g) {k : Nat} (hk : foot g k) : k < w.heap.size ∧ B ≤ k := by
  rcases hk with rfl | rfl | hk
  · exact ⟨lt_heap h.cells, h.lo.1⟩
  · exact ⟨h.sums.lt, h.lo.2⟩
  · exact ⟨(h.deals.lt k hk).2, (h.deals.lt k hk).1⟩
theorem pfoot_lt {w : World} {B : Nat} {pv : Value} {gs : List Grp} (h : PoolOk w B pv gs) {k : Nat} (hk : pfoot pv gs k) : k < w.heap.size ∧ B ≤ k := by
  rcases hk with hk | ⟨g, hg, hk⟩
  · exact ⟨(h.row.lt k hk).2, (h.row.lt k hk).1⟩
  · exact foot_lt (h.grp g hg) hk
theorem pfoot_not {w : World} {B : Nat} {pv : Value} {gs : List Grp} (h : PoolOk w B pv gs) {k : Nat} {cs : Array Value} {T : TypeId} (hk : w.heap[k]? = some (.cells cs T (0, 0))) (h1 : T ≠ 73) (h2 : T ≠ 28) (h3 : T ≠ 74) : ¬ pfoot pv gs k := by
  rintro (hf | ⟨g, hg, hf⟩)
  · obtain ⟨c, e⟩ := own_tag h.row hf
    rw [hk] at e; cases e; exact h3 rfl
  · exact foot_not (h.grp g hg) hk h1 h2 hf

theorem GrpOk.fr {w w' : World} {B : Nat} {g : Grp} (h : GrpOk w B g) (hb : ∀ k, foot g k → w'.heap[k]? = w.heap[k]?) : GrpOk w' B g :=
  ⟨h.lo, (hb _ (.inl rfl)).trans h.cells, own_fr h.deals (fun k hk => hb k (.inr (.inr hk))), h.sums.fr (hb _ (.inr (.inl rfl)))⟩
theorem PoolOk.fr {w w' : World} {B : Nat} {pv : Value} {gs : List Grp} (h : PoolOk w B pv gs) (hb : ∀ k, pfoot pv gs k → w'.heap[k]? = w.heap[k]?) : PoolOk w' B pv gs :=
  ⟨own_fr h.row (fun k hk => hb k (.inl hk)), fun g hg => (h.grp g hg).fr (fun k hk => hb k (.inr ⟨g, hg, hk⟩)), h.apart⟩

/-- One group turned. -/
theorem PoolOk.turn {w w' : World} {B : Nat} {pv : Value} {l1 l2 : List Grp} {g g' : Grp} (h : PoolOk w B pv (l1 ++ g :: l2)) (hblk : g'.blk = g.blk) (hg' : GrpOk w' B g') (hf : ∀ k, foot g' k → foot g k ∨ w.heap.size ≤ k) (fr : Fr (fun k => foot g k) w w') :
    PoolOk w' B pv (l1 ++ g' :: l2) := by
  have hg := h.grp g (by simp)
  have hap := h.apart
  rw [List.pairwise_append, List.pairwise_cons] at hap
  obtain ⟨ap1, ⟨ap2, ap3⟩, ap4⟩ := hap
  have other : ∀ x, (∀ k, foot x k → ¬ foot g k) → GrpOk w B x → GrpOk w' B x := fun x hx hok => hok.fr (fun k hk => fr.block k (foot_lt hok hk).1 (hx k hk))
  have far : ∀ x, (∀ k, foot x k → ¬ foot g k) → GrpOk w B x → ∀ k, foot x k → ¬ foot g' k := fun x hx hok k hk hk' => by
    rcases hf k hk' with h1 | h1
    · exact hx k hk h1
    · have := (foot_lt hok hk).1; omega
  have a1 : ∀ x ∈ l1, ∀ k, foot x k → ¬ foot g k := fun x hx k hk hk' => ap4 x hx g (by simp) k hk hk'
  have a2 : ∀ x ∈ l2, ∀ k, foot x k → ¬ foot g k := fun x hx k hk hk' => ap2 x hx k hk' hk
  refine ⟨?_, ?_, ?_⟩
  · have e : (l1 ++ g' :: l2).map (·.blk) = (l1 ++ g :: l2).map (·.blk) := by simp [hblk]
    have e2 : (l1 ++ g' :: l2).length = (l1 ++ g :: l2).length := by simp
    rw [e, e2]
    refine own_fr h.row (fun k hk => fr.block k (h.row.lt k hk).2 (fun hf => ?_))
    obtain ⟨cs, hcs⟩ := own_tag h.row hk
    exact foot_not hg hcs (by decide) (by decide) hf
  · intro x hx
    simp only [List.mem_append, List.mem_cons] at hx
    rcases hx with hx | rfl | hx
    · exact other x (a1 x hx) (h.grp x (by simp [hx]))
    · exact hg'
    · exact other x (a2 x hx) (h.grp x (by simp [hx]))
  · rw [List.pairwise_append, List.pairwise_cons]
    refine ⟨ap1, ⟨fun x hx k hk hk' => far x (a2 x hx) (h.grp x (by simp [hx])) k hk' hk, ap3⟩, fun x hx y hy k hk hk' => ?_⟩
    simp only [List.mem_cons] at hy
    rcases hy with rfl | hy
    · exact far x (a1 x hx) (h.grp x (by simp [hx])) k hk hk'
    · exact ap4 x hx y (by simp [hy]) k hk hk'
theorem PoolOk.turn_foot {w : World} {pv : Value} {l1 l2 : List Grp} {g g' : Grp} (hf : ∀ k, foot g' k → foot g k ∨ w.heap.size ≤ k) : ∀ k, pfoot pv (l1 ++ g' :: l2) k → pfoot pv (l1 ++ g :: l2) k ∨ w.heap.size ≤ k := by
  rintro k (hk | ⟨x, hx, hk⟩)
  · exact .inl (.inl hk)
  · simp only [List.mem_append, List.mem_cons] at hx
    rcases hx with hx | rfl | hx
    · exact .inl (.inr ⟨x, by simp [hx], hk⟩)
    · rcases hf k hk with h | h
      · exact .inl (.inr ⟨g, by simp, h⟩)
      · exact .inr h
    · exact .inl (.inr ⟨x, by simp [hx], hk⟩)

/-- One group more. -/
theorem PoolOk.snoc {w w' : World} {B : Nat} {pv pv' : Value} {gs : List Grp} {g' : Grp} (h : PoolOk w B pv gs) (hg' : GrpOk w' B g') (hf : ∀ k, foot g' k → w.heap.size ≤ k) (fr : Fr (fun k => pv.ownBlock = some k) w w')
    (hrow : w'.ownsRow B 74 1 pv' (gs.length + 1) (ptrs (gs.map (·.blk)) ++ [.pointer (some ⟨g'.blk, 0, none⟩)])) : PoolOk w' B pv' (gs ++ [g']) := by
  refine ⟨?_, ?_, ?_⟩
  · simpa [ptrs] using hrow
  · intro x hx
    simp only [List.mem_append, List.mem_singleton] at hx
    rcases hx with hx | rfl
    · refine (h.grp x hx).fr (fun k hk => fr.block k (foot_lt (h.grp x hx) hk).1 (fun hq => ?_))
      obtain ⟨cs, hcs⟩ := own_tag h.row hq
      exact foot_not (h.grp x hx) hcs (by decide) (by decide) hk
    · exact hg'
  · rw [List.pairwise_append]
    refine ⟨h.apart, List.pairwise_singleton _ _, fun x hx y hy k hk hk' => ?_⟩
    simp only [List.mem_singleton] at hy
    subst hy
    have := hf k hk'
    have := (foot_lt (h.grp x hx) hk).1
    omega
end Go.Proofs.Qxb6616145a
