import Derived.Test.Qxb6616145aRead
namespace Go.Proofs.Qxb6616145a

def leI (a b : Int) : Bool := decide (a ≤ b)
def Srt (l : List Int) : Prop := l.Pairwise (fun a b => leI a b = true)

/-- One pass of the sort. -/
def pass (w : Nat) (hw : 0 < w) (xs : List Int) : List Int :=
  if _h : xs = [] then [] else List.merge (xs.take w) ((xs.drop w).take w) leI ++ pass w hw (xs.drop (2 * w))
termination_by xs.length
decreasing_by
  have : 0 < xs.length := List.length_pos_iff.2 (by assumption)
  simp; omega

theorem pass_nil (w : Nat) (hw : 0 < w) : pass w hw [] = [] := by rw [pass, dif_pos rfl]
theorem pass_cons (w : Nat) (hw : 0 < w) {xs : List Int} (h : xs ≠ []) : pass w hw xs = List.merge (xs.take w) ((xs.drop w).take w) leI ++ pass w hw (xs.drop (2 * w)) := by rw [pass, dif_neg h]

theorem split2 (w : Nat) (xs : List Int) : xs.take w ++ (xs.drop w).take w ++ xs.drop (2 * w) = xs := by
  rw [show 2 * w = w + w by omega, ← List.drop_drop, List.append_assoc, List.take_append_drop, List.take_append_drop]
theorem merge_len (a b : List Int) : (List.merge a b leI).length = a.length + b.length := by
  rw [(List.merge_perm_append (le := leI) (xs := a) (ys := b)).length_eq, List.length_append]
theorem pass_perm (w : Nat) (hw : 0 < w) (xs : List Int) : (pass w hw xs).Perm xs := by
  induction hn : xs.length using Nat.strongRecOn generalizing xs with
  | _ n ih =>
    by_cases h : xs = []
    · subst h; rw [pass_nil]
    · have hp : 0 < xs.length := List.length_pos_iff.2 h
      rw [pass_cons w hw h]
      have h1 := List.merge_perm_append (le := leI) (xs := xs.take w) (ys := (xs.drop w).take w)
      have h2 := ih (xs.drop (2 * w)).length (by simp; omega) (xs.drop (2 * w)) rfl
      refine (h1.append h2).trans ?_
      rw [split2]
theorem pass_len (w : Nat) (hw : 0 < w) (xs : List Int) : (pass w hw xs).length = xs.length := (pass_perm w hw xs).length_eq

/-- Sorted in chunks of w. -/
def Chunks (w : Nat) (xs : List Int) : Prop := ∀ t, Srt ((xs.drop (t * w)).take w)
theorem chunks_one (xs : List Int) : Chunks 1 xs := by
  intro t
  match h : (xs.drop (t * 1)).take 1 with
  | [] => exact List.Pairwise.nil
  | [x] => exact List.pairwise_singleton _ _
  | x :: y :: l =>
    have := congrArg List.length h
    simp at this
    omega
theorem srt_merge {a b : List Int} (ha : Srt a) (hb : Srt b) : Srt (List.merge a b leI) := by
  refine List.pairwise_merge (le := leI) (fun x y z h1 h2 => ?_) (fun x y => ?_) _ _ ha hb
  · simp [leI] at *; omega
  · simp [leI]; omega
theorem chunks_pass (w : Nat) (hw : 0 < w) (xs : List Int) (h : Chunks w xs) : Chunks (2 * w) (pass w hw xs) := by
  induction hn : xs.length using Nat.strongRecOn generalizing xs with
  | _ n ih =>
    by_cases h0 : xs = []
    · subst h0; rw [pass_nil]; intro t; simp [Srt]
    · have hp : 0 < xs.length := List.length_pos_iff.2 h0
      have hd : Chunks w (xs.drop (2 * w)) := fun t => by
        have := h (t + 2)
        rw [List.drop_drop]
        rwa [show (t + 2) * w = 2 * w + t * w by rw [Nat.add_mul]; omega] at this
      have h2 := ih (xs.drop (2 * w)).length (by simp; omega) (xs.drop (2 * w)) hd rfl
      have hm := srt_merge (by simpa using h 0) (by simpa using h 1)
      rw [pass_cons w hw h0]
      have hl := merge_len (xs.take w) ((xs.drop w).take w)
      intro t
      by_cases hx : 2 * w ≤ xs.length
      · have hl2 : (List.merge (xs.take w) ((xs.drop w).take w) leI).length = 2 * w := by rw [hl]; simp; omega
        cases t with
        | zero =>
          rw [Nat.zero_mul, List.drop_zero, List.take_append_of_le_length (by omega), List.take_of_length_le (by omega)]
          exact hm
        | succ t =>
          rw [show (t + 1) * (2 * w) = (List.merge (xs.take w) ((xs.drop w).take w) leI).length + t * (2 * w) by rw [hl2, Nat.add_mul]; omega, ← List.drop_drop, List.drop_left]
          exact h2 t
      · have he : xs.drop (2 * w) = [] := List.drop_eq_nil_of_le (by omega)
        rw [he, pass_nil, List.append_nil]
        cases t with
        | zero => rw [Nat.zero_mul, List.drop_zero]; exact hm.sublist (List.take_sublist _ _)
        | succ t =>
          have : (List.merge (xs.take w) ((xs.drop w).take w) leI).length ≤ (t + 1) * (2 * w) := by
            rw [hl, Nat.add_mul]; simp; omega
          rw [List.drop_eq_nil_of_le this]
          simp [Srt]
theorem chunks_end {w : Nat} {xs : List Int} (h : Chunks w xs) (hl : xs.length ≤ w) : Srt xs := by
  have := h 0
  rw [Nat.zero_mul, List.drop_zero, List.take_of_length_le hl] at this
  exact this
end Go.Proofs.Qxb6616145a
