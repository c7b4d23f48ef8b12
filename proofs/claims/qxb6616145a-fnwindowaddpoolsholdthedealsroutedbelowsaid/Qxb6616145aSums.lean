import Derived.Test.Qxb6616145aDec
import Derived.Maps.Own
import Derived.Maps.OwnOps
import Derived.Maps.OwnSet
import Derived.Maps.Views
namespace Go.Proofs.Qxb6616145a
open Go.RowKit Go.Maps

/-- How the sums' elements read: the zero Decimal, and nothing else. -/
def R0 : Value → Option (DataW Unit × List MemPlace)
  | .agg cs => match cs.toList with
    | [.int .i64 n, .pointer none] => if n = 0 then some (.agg [], []) else none
    | _ => none
  | _ => none
theorem R0_mk : R0 D0 = some (.agg [], []) := rfl
theorem R0_inv {v : Value} {z : DataW Unit × List MemPlace} (h : R0 v = some z) : v = D0 ∧ z = (.agg [], []) := by
  unfold R0 at h
  split at h
  · rename_i cs
    split at h
    · rename_i n hn
      split at h
      · rename_i h0
        subst h0
        cases h
        refine ⟨?_, rfl⟩
        have : cs = #[.int .i64 0, .pointer none] := by
          apply Array.ext'
          exact hn
        rw [this]; rfl
      · cases h
    · cases h
  · cases h

theorem law52 : Keyed Try.prog 52 := int_keyed Try.underlying52
theorem zero55 (w : World) : (zeroValue 55).run Try.prog w = .ok D0 w := by kernel_rfl

def lits (ks : List Int) : List Lit := ks.map fun k => Lit.int .i64 k
/-- The sums of a group: a map whose keys are just these, each at zero. -/
def SumMap (w : World) (b : Nat) (ks : List Int) : Prop := w.ownsMap Try.prog 52 R0 b ks.length (setOf (.agg []) (lits ks))

theorem key52 {m : Int} (h : -9223372036854775808 ≤ m ∧ m ≤ 9223372036854775807) : keyOf Try.prog 52 (.int .i64 m) = some (.int .i64 m) := by
  refine keyOf_int_mk Try.underlying52 ?_
  simp [Lit.wf]
  have e1 : IntKind.i64.min = -9223372036854775808 := by decide
  have e2 : IntKind.i64.max = 9223372036854775807 := by decide
  omega

theorem SumMap.look {w : World} {b : Nat} {ks : List Int} (h : SumMap w b ks) {m : Int} (hm : -9223372036854775808 ≤ m ∧ m ≤ 9223372036854775807) : (Instr.lookup 71 (.map (some b)) (.int .i64 m) false).run Try.prog w = .ok D0 w := by
  obtain ⟨v, ps, hrun, hv⟩ := World.ownsMap.lookup h law52 Try.underlying71 (zero55 w) R0_mk (key52 hm)
  obtain ⟨rfl, _⟩ := R0_inv hv
  exact hrun
theorem isKey (ks : List Int) : ∀ x ∈ lits ks, WideAt.IsKeyLit x := by
  intro x hx
  obtain ⟨k, _, rfl⟩ := List.mem_map.1 hx
  trivial
theorem any_lits (ks : List Int) (m : Int) : (lits ks).any (fun x => x.sameKey (.int .i64 m)) = ks.contains m := by
  induction ks with
  | nil => rfl
  | cons k ks ih =>
    simp only [lits, List.map_cons, List.any_cons, List.contains_cons] at ih ⊢
    rw [ih]
    congr 1
    by_cases h : k = m
    · subst h; simp [Lit.sameKey]
    · have : (Lit.int IntKind.i64 k) ≠ .int .i64 m := fun e => h (by cases e; rfl)
      rw [sameKey_ne this]
      simp [Ne.symm h]
theorem SumMap.lookOk {w : World} {b : Nat} {ks : List Int} (h : SumMap w b ks) {m : Int} (hm : -9223372036854775808 ≤ m ∧ m ≤ 9223372036854775807) : (Instr.lookup 71 (.map (some b)) (.int .i64 m) true).run Try.prog w = .ok (.tuple #[D0, .bool (ks.contains m)]) w := by
  obtain ⟨v, ps, hrun, hv⟩ := World.ownsMap.look_ok h law52 Try.underlying71 (zero55 w) R0_mk (key52 hm)
  obtain ⟨rfl, _⟩ := R0_inv hv
  rw [has_setOf _ _ _ (isKey ks), any_lits] at hrun
  exact hrun
theorem SumMap.len {w : World} {b : Nat} {ks : List Int} (h : SumMap w b ks) (ty : TypeId) : (Builtin.len_ #[71] ty #[.map (some b)]).run Try.prog w = .ok (.int .i64 (((lits ks).foldl addKey []).length : Nat)) w := by
  have := World.ownsMap.len h Try.underlying71 ty
  rw [size_setOf _ _ (isKey ks)] at this
  exact this
theorem SumMap.put {w : World} {b : Nat} {ks : List Int} (h : SumMap w b ks) {m : Int} (hm : -9223372036854775808 ≤ m ∧ m ≤ 9223372036854775807) (hl : ks.length < 1099511627776) :
    ∃ w', (Instr.mapUpdate 71 (.map (some b)) (.int .i64 m) D0).run Try.prog w = .ok () w' ∧ SumMap w' b (ks ++ [m]) ∧ Fr (fun k => k = b) w w' := by
  obtain ⟨w', hrun, hown, hg⟩ := World.ownsMap.update h law52 Try.underlying71 (by unfold maxLen; omega) (key52 hm) R0_mk
  refine ⟨w', hrun, ?_, ⟨hg.os, hg.output, hg.size, fun k hk hn => hg.block k hk (fun e => hn (by cases e; rfl))⟩⟩
  unfold SumMap
  rw [List.length_append, show lits (ks ++ [m]) = lits ks ++ [.int .i64 m] by simp [lits], setOf_snoc]
  exact hown
theorem SumMap.made (w : World) : SumMap (w.alloc (.map #[] 0)) w.heap.size [] := World.ownsMap_made w Try.prog 52 R0
theorem SumMap.fr {w w' : World} {b : Nat} {ks : List Int} (h : SumMap w b ks) (hb : w'.heap[b]? = w.heap[b]?) : SumMap w' b ks := by
  obtain ⟨es, clock, h1, h2⟩ := h
  exact ⟨es, clock, hb.trans h1, h2⟩
theorem SumMap.lt {w : World} {b : Nat} {ks : List Int} (h : SumMap w b ks) : b < w.heap.size := World.ownsMap.lt h
end Go.Proofs.Qxb6616145a
