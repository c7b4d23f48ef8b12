import Derived.Test.Qxb6616145aSort
namespace Go.Proofs.Qxb6616145a

def AG.key (g : AG) : Int × Int := (g.mask, g.rel)
/-- pushA, at the key's place. -/
theorem pushA_key (m r : Int) (d : Nat) (ks : List Int) : ∀ gs : List AG, (pushA m r d ks gs).map AG.key = if (m, r) ∈ gs.map AG.key then gs.map AG.key else gs.map AG.key ++ [(m, r)]
  | [] => by simp [pushA, AG.key]
  | g :: gs => by
    by_cases h : g.mask = m ∧ g.rel = r
    · obtain ⟨rfl, rfl⟩ := h
      simp [pushA, AG.key]
    · have hne : ¬ (m, r) = g.key := fun e => h (by unfold AG.key at e; cases e; exact ⟨rfl, rfl⟩)
      simp only [pushA, if_neg h, List.map_cons, List.mem_cons, hne, false_or]
      rw [pushA_key m r d ks gs]
      split <;> simp
/-- What stands at a place behind a push. -/
theorem pushA_at (m r : Int) (d : Nat) (ks : List Int) : ∀ (gs : List AG) (g : Nat), (pushA m r d ks gs)[g]? =
    if g = (gs.map AG.key).idxOf (m, r) then some ⟨m, r, ((gs[g]?).map AG.ds).getD [] ++ [d], ((gs[g]?).map AG.ks).getD [] ++ ks⟩ else gs[g]?
  | [], g => by
    cases g with
    | zero => simp [pushA]
    | succ g => simp [pushA]
  | x :: gs, g => by
    by_cases h : x.mask = m ∧ x.rel = r
    · obtain ⟨rfl, rfl⟩ := h
      have e : ((x :: gs).map AG.key).idxOf (x.mask, x.rel) = 0 := by simp [AG.key]
      rw [e]
      cases g with
      | zero => simp [pushA]
      | succ g => simp [pushA]
    · have hne : ¬ x.key = (m, r) := fun e => h (by unfold AG.key at e; cases e; exact ⟨rfl, rfl⟩)
      have e : ((x :: gs).map AG.key).idxOf (m, r) = (gs.map AG.key).idxOf (m, r) + 1 := by
        rw [List.map_cons, List.idxOf_cons, beq_eq_false_iff_ne.2 hne]
        rfl
      rw [e]
      cases g with
      | zero => simp [pushA, if_neg h]
      | succ g =>
        simp only [pushA, if_neg h, List.getElem?_cons_succ, Nat.add_right_cancel_iff]
        exact pushA_at m r d ks gs g

section
variable (rt rel msk : Nat → Int) (db : Nat → Nat) (kl : Nat → List Int)
/-- The pool b after the first i deals. -/
def pool (b : Nat) : Nat → List AG
  | 0 => []
  | i + 1 => if rt i < (b : Int) then pushA (msk i) (rel i) (db i) (kl i) (pool b i) else pool b i
def keys (b : Nat) : Nat → List (Int × Int)
  | 0 => []
  | i + 1 => if rt i < (b : Int) ∧ (msk i, rel i) ∉ keys b i then keys b i ++ [(msk i, rel i)] else keys b i
/-- The group of deal i in pool b. -/
def memb (b i : Nat) : Int := if rt i < (b : Int) then ((keys rt rel msk b i).idxOf (msk i, rel i) : Nat) else -1
/-- The deals of group g among the first i. -/
def inG (b g : Nat) : Nat → List Nat
  | 0 => []
  | i + 1 => if memb rt rel msk b i = g then inG b g i ++ [i] else inG b g i

theorem pool_keys (b : Nat) (i : Nat) : (pool rt rel msk db kl b i).map AG.key = keys rt rel msk b i := by
  induction i with
  | zero => rfl
  | succ i ih =>
    simp only [pool, keys]
    by_cases h : rt i < (b : Int)
    · rw [if_pos h, pushA_key, ih]
      by_cases h2 : (msk i, rel i) ∈ keys rt rel msk b i
      · rw [if_pos h2, if_neg (fun hq => hq.2 h2)]
      · rw [if_neg h2, if_pos ⟨h, h2⟩]
    · rw [if_neg h, if_neg (fun hq => h hq.1), ih]
theorem keys_step (b i : Nat) : (keys rt rel msk b i).length ≤ (keys rt rel msk b (i + 1)).length := by
  simp only [keys]
  split <;> simp
theorem memb_lt (b i : Nat) : memb rt rel msk b i < (keys rt rel msk b (i + 1)).length := by
  simp only [keys, memb]
  by_cases h : rt i < (b : Int)
  · rw [if_pos h]
    by_cases h2 : (msk i, rel i) ∈ keys rt rel msk b i
    · rw [if_neg (fun hq => hq.2 h2)]
      have := List.idxOf_lt_length_iff.2 h2
      omega
    · rw [if_pos ⟨h, h2⟩]
      have : (keys rt rel msk b i).idxOf (msk i, rel i) ≤ (keys rt rel msk b i).length := List.idxOf_le_length
      simp only [List.length_append, List.length_singleton]
      omega
  · rw [if_neg h]
    omega
theorem inG_nil (b g i : Nat) (h : (keys rt rel msk b i).length ≤ g) : inG rt rel msk b g i = [] := by
  induction i with
  | zero => rfl
  | succ i ih =>
    have h1 := keys_step rt rel msk b i
    have h2 := memb_lt rt rel msk b i
    simp only [inG]
    rw [if_neg (by omega)]
    exact ih (by omega)
theorem pool_at (b g i : Nat) : (pool rt rel msk db kl b i)[g]?.map (fun x => (x.ds, x.ks)) = if g < (keys rt rel msk b i).length then some ((inG rt rel msk b g i).map db, (inG rt rel msk b g i).flatMap kl) else none := by
  induction i with
  | zero => simp [pool, keys]
  | succ i ih =>
    have hk := pool_keys rt rel msk db kl b i
    have hl := memb_lt rt rel msk b i
    have hs := keys_step rt rel msk b i
    have hn := inG_nil rt rel msk b g i
    by_cases h : rt i < (b : Int)
    · have em : memb rt rel msk b i = ((keys rt rel msk b i).idxOf (msk i, rel i) : Nat) := by simp only [memb, if_pos h]
      have ep : pool rt rel msk db kl b (i + 1) = pushA (msk i) (rel i) (db i) (kl i) (pool rt rel msk db kl b i) := by simp only [pool, if_pos h]
      rw [ep, pushA_at, hk]
      have hle : (keys rt rel msk b i).idxOf (msk i, rel i) ≤ (keys rt rel msk b i).length := List.idxOf_le_length
      by_cases hg : g = (keys rt rel msk b i).idxOf (msk i, rel i)
      · rw [if_pos hg, if_pos (by omega)]
        have eg : inG rt rel msk b g (i + 1) = inG rt rel msk b g i ++ [i] := by simp only [inG, em, hg, if_true]
        rw [eg]
        by_cases hlt : g < (keys rt rel msk b i).length
        · rw [if_pos hlt] at ih
          obtain ⟨x, hx, e⟩ := Option.map_eq_some_iff.1 ih
          rw [hx]
          simp only [Prod.mk.injEq] at e
          simp [e.1, e.2]
        · rw [if_neg hlt] at ih
          rw [Option.map_eq_none_iff.1 ih, hn (by omega)]
          simp
      · rw [if_neg hg, ih]
        have eg : inG rt rel msk b g (i + 1) = inG rt rel msk b g i := by
          simp only [inG, em]
          rw [if_neg (by omega)]
        rw [eg]
        have ek : (g < (keys rt rel msk b (i + 1)).length) ↔ g < (keys rt rel msk b i).length := by
          simp only [keys]
          by_cases h2 : (msk i, rel i) ∈ keys rt rel msk b i
          · rw [if_neg (fun hq => hq.2 h2)]
          · rw [if_pos ⟨h, h2⟩]
            rw [List.idxOf_eq_length h2] at hg
            simp only [List.length_append, List.length_singleton]
            omega
        simp only [ek]
    · have em : memb rt rel msk b i = -1 := by simp only [memb, if_neg h]
      have e1 : pool rt rel msk db kl b (i + 1) = pool rt rel msk db kl b i := by simp only [pool, if_neg h]
      have e2 : keys rt rel msk b (i + 1) = keys rt rel msk b i := by simp only [keys]; rw [if_neg (fun hq => h hq.1)]
      have e3 : inG rt rel msk b g (i + 1) = inG rt rel msk b g i := by
        simp only [inG, em]; rw [if_neg (by omega)]
      rw [e1, e2, e3, ih]
end
end Go.Proofs.Qxb6616145a
