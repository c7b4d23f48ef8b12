import Derived.Test.Qxb6616145aKeep
namespace Go.Proofs.Qxb6616145a
open Go.Maps

theorem same_int (a b : Int) : (Lit.int .i64 a).sameKey (Lit.int .i64 b) = decide (a = b) := by
  simp [Lit.sameKey]
/-- The keys of a fold: no two alike, and just those that came. -/
theorem fold_lits : ∀ (ks acc : List Int), acc.Nodup → ∃ r : List Int, (lits ks).foldl addKey (lits acc) = lits r ∧ r.Nodup ∧ ∀ x, x ∈ r ↔ x ∈ acc ∨ x ∈ ks
  | [], acc, h => ⟨acc, rfl, h, by simp⟩
  | k :: ks, acc, h => by
    have e : addKey (lits acc) (Lit.int .i64 k) = lits (if k ∈ acc then acc else acc ++ [k]) := by
      unfold addKey
      have : ((lits acc).any fun y => y.sameKey (Lit.int .i64 k)) = decide (k ∈ acc) := by
        rw [lits, List.any_map, Bool.eq_iff_iff, List.any_eq_true]
        simp [same_int]
      rw [this]
      by_cases hk : k ∈ acc
      · simp [hk]
      · simp [hk, lits]
    have hn : (if k ∈ acc then acc else acc ++ [k]).Nodup := by
      split
      · exact h
      · rename_i hk
        rw [List.nodup_append]
        exact ⟨h, by simp, fun a ha b hb e => hk (by simp at hb; rw [← hb, ← e]; exact ha)⟩
    obtain ⟨r, h1, h2, h3⟩ := fold_lits ks _ hn
    refine ⟨r, ?_, h2, fun x => ?_⟩
    · rw [show lits (k :: ks) = Lit.int .i64 k :: lits ks from rfl, List.foldl_cons, e]
      exact h1
    · rw [h3 x]
      split
      · rename_i hk
        simp only [List.mem_cons]
        constructor
        · rintro (h | h)
          · exact .inl h
          · exact .inr (.inr h)
        · rintro (h | h | h)
          · exact .inl h
          · subst h; exact .inl hk
          · exact .inr h
      · simp only [List.mem_append, List.mem_cons, List.not_mem_nil, or_false, or_assoc]

theorem dist_list {ys : List Int} (hs : Srt ys) : ∀ i, i ≤ ys.length → ∃ r : List Int, r.length = dist ys i ∧ r.Nodup ∧ ∀ x, x ∈ r ↔ x ∈ ys.take i
  | 0, _ => ⟨[], rfl, List.nodup_nil, by simp⟩
  | i + 1, hi => by
    obtain ⟨r, h1, h2, h3⟩ := dist_list hs i (by omega)
    have et : ys.take (i + 1) = ys.take i ++ [ys.getD i 0] := by
      rw [List.take_add_one]
      simp [List.getD, show i < ys.length by omega]
    have hle : ∀ j k, j < k → k < ys.length → ys.getD j 0 ≤ ys.getD k 0 := fun j k hjk hk => by
      have := List.pairwise_iff_getElem.1 hs j k (by omega) hk hjk
      unfold leI at this
      simpa [List.getD, hk, show j < ys.length by omega] using this
    rw [et]
    by_cases h : 0 < i ∧ ys.getD i 0 = ys.getD (i - 1) 0
    · refine ⟨r, by simp only [dist, if_pos h]; exact h1, h2, fun x => ?_⟩
      rw [h3 x, List.mem_append]
      constructor
      · exact .inl
      · rintro (hx | hx)
        · exact hx
        · simp only [List.mem_singleton] at hx
          rw [hx, h.2]
          rw [List.mem_take_iff_getElem]
          refine ⟨i - 1, by omega, ?_⟩
          simp [List.getD, show i - 1 < ys.length by omega]
    · have hnew : ys.getD i 0 ∉ r := fun hm => by
        rw [h3, List.mem_take_iff_getElem] at hm
        obtain ⟨j, hj, he⟩ := hm
        have e1 : ys.getD j 0 = ys.getD i 0 := by rw [← he]; simp [List.getD, show j < ys.length by omega]
        have h0 : 0 < i := by omega
        have h4 := hle (i - 1) i (by omega) (by omega)
        have h5 : ys.getD j 0 ≤ ys.getD (i - 1) 0 := by
          by_cases hji : j = i - 1
          · subst hji; exact Int.le_refl _
          · exact hle j (i - 1) (by omega) (by omega)
        exact h ⟨h0, by omega⟩
      refine ⟨r ++ [ys.getD i 0], by simp only [dist, if_neg h, List.length_append, List.length_singleton, h1], ?_, fun x => ?_⟩
      · rw [List.nodup_append]
        exact ⟨h2, by simp, fun a ha b hb e => hnew (by simp at hb; rw [← List.getD_eq_getElem?_getD] at hb; rw [← hb, ← e]; exact ha)⟩
      · rw [List.mem_append, List.mem_append, h3 x]
/-- The count of the distinct ones is the map's size. -/
theorem dist_fold {ys ks : List Int} (hs : Srt ys) (hp : ys.Perm ks) : ((lits ks).foldl addKey []).length = dist ys ys.length := by
  obtain ⟨r, h1, h2, h3⟩ := fold_lits ks [] List.nodup_nil
  obtain ⟨s, q1, q2, q3⟩ := dist_list hs ys.length (Nat.le_refl _)
  rw [show ([] : List Lit) = lits [] from rfl, h1, ← q1, lits, List.length_map]
  refine ((List.perm_ext_iff_of_nodup h2 q2).2 fun x => ?_).length_eq
  rw [h3 x, q3 x, List.take_length, hp.mem_iff]
  simp
theorem dist_le (ys : List Int) : ∀ i, dist ys i ≤ i
  | 0 => Nat.le_refl _
  | i + 1 => by
    have := dist_le ys i
    unfold dist
    split <;> omega
end Go.Proofs.Qxb6616145a
