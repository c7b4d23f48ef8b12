import Derived.Test.Qxb6616145aAll
import Derived.ProofKit
import Derived.OpenShut
import Derived.ChangeOld
import Derived.Below
import Derived.Deep.Slices
namespace Go.Proofs.Qxb6616145a
open Go.ChangeShapes Go.WideShapes Go.ChangeAt Go.RowKit

theorem own : ownKnob Try.prog.godebug = none := by kernel_rfl
theorem laidOut : laidOutB Try.prog = true := by kernel_rfl

/-- A slice whose elements are one cell each, opened. -/
theorem opened {H : Type} {enc : TypeId × Value → H} {W : World} {t e : TypeId} {fuel : Nat} {a : Option Addr} {len cap : Nat} {x : DataW H × List MemPlace} (ht : Try.prog.underlying t = some (.slice e)) (hc : Try.prog.cellsOf e = 1)
    (h : DataW.trod enc Try.prog W 0 (fun _ => true) true fuel t [.slice a len cap] = some x) :
    len ≤ cap ∧ cap ≤ maxLen ∧ ∀ k, k < len → ∃ b off v n y, a = some ⟨b, off, none⟩ ∧ b < W.heap.size ∧ W.cell? ⟨b, off + k, none⟩ = some v ∧ DataW.trod enc Try.prog W 0 (fun _ => true) true n e [v] = some y := by
  rcases Go.Deep.open_slice1 ht hc h with ⟨hcs, _⟩ | ⟨a', l, c, m, n, V, D, Pl, hcs, _, hl, hm, hmm, _, hx⟩
  · simp at hcs
    obtain ⟨rfl, rfl, rfl⟩ := hcs
    exact ⟨Nat.zero_le _, Nat.zero_le _, fun k hk => absurd hk (Nat.not_lt_zero _)⟩
  · simp at hcs
    obtain ⟨rfl, rfl, rfl⟩ := hcs
    simp at hmm
    refine ⟨hl, hm, fun k hk => ?_⟩
    obtain ⟨h1, h2⟩ := hx k (by omega)
    obtain ⟨b, off, spot⟩ := a'
    have hs : spot = none := by simpa [Addr.add] using World.cell?_spot (hx 0 (by omega)).1
    subst hs
    rw [Lib.addr_add] at h1
    exact ⟨b, off, V k, n, _, rfl, block_lt_of_cell h1, h1, h2⟩

/-- A slice of integers. -/
theorem intsOf {H : Type} {enc : TypeId × Value → H} {W : World} {fuel : Nat} {a : Option Addr} {len cap : Nat} {x : DataW H × List MemPlace} (h : DataW.trod enc Try.prog W 0 (fun _ => true) true fuel 22 [.slice a len cap] = some x) :
    len ≤ cap ∧ cap ≤ maxLen ∧ ∃ f : Nat → Int, Ints W W.heap.size a len f ∧ ∀ j, j < len → -9223372036854775808 ≤ f j ∧ f j ≤ 9223372036854775807 := by
  obtain ⟨h1, h2, h3⟩ := opened Try.underlying22 (by kernel_rfl) h
  obtain ⟨f, hf⟩ := Go.Deep.choose_lt (α := Int) (p := fun k z => ∃ b off, a = some ⟨b, off, none⟩ ∧ b < W.heap.size ∧ W.cell? ⟨b, off + k, none⟩ = some (.int .i64 z) ∧ -9223372036854775808 ≤ z ∧ z ≤ 9223372036854775807) (n := len) (fun k hk => by
    obtain ⟨b, off, v, n, y, e1, e2, e3, e4⟩ := h3 k hk
    obtain ⟨z, e5, _, e6⟩ := DataW.trod_int Try.underlying3 e4
    simp at e5
    subst e5
    have hz : -9223372036854775808 ≤ z ∧ z ≤ 9223372036854775807 := by
      simp [Lit.wf] at e6
      have : IntKind.i64.min = -9223372036854775808 := by decide
      have : IntKind.i64.max = 9223372036854775807 := by decide
      omega
    exact ⟨z, b, off, e1, e2, e3, hz⟩)
  refine ⟨h1, h2, f, ?_, fun j hj => ?_⟩
  · by_cases h0 : len = 0
    · exact .inl h0
    · obtain ⟨b, off, ha, hlt, _⟩ := hf 0 (by omega)
      refine .inr ⟨b, off, ha, hlt, fun j hj => ?_⟩
      obtain ⟨b', off', ha', _, hc', _⟩ := hf j hj
      rw [ha] at ha'
      cases ha'
      exact hc'
  · obtain ⟨_, _, _, _, _, hr⟩ := hf j hj
    exact hr
/-- One row of the measures. -/
theorem item {H : Type} {enc : TypeId × Value → H} {W : World} {n : Nat} {v : Value} {y : DataW H × List MemPlace} (h : DataW.trod enc Try.prog W 0 (fun _ => true) true n 22 [v] = some y) :
    ∃ z : Option Addr × Nat × Nat × (Nat → Int), v = .slice z.1 z.2.1 z.2.2.1 ∧ z.2.1 ≤ maxLen ∧ Ints W W.heap.size z.1 z.2.1 z.2.2.2 ∧ ∀ j, j < z.2.1 → -9223372036854775808 ≤ z.2.2.2 j ∧ z.2.2.2 j ≤ 9223372036854775807 := by
  obtain ⟨a, l, c, rfl⟩ : ∃ a l c, v = .slice a l c := by
    rcases Go.Deep.open_slice1 Try.underlying22 (by kernel_rfl) h with ⟨hcs, _⟩ | ⟨a', l, c, m, n, V, D, Pl, hcs, _⟩
    · exact ⟨_, _, _, by simpa using hcs⟩
    · exact ⟨_, _, _, by simpa using hcs⟩
  obtain ⟨h1, h2, f, h3, h4⟩ := intsOf h
  exact ⟨(a, l, c, f), rfl, Nat.le_trans h1 h2, h3, h4⟩

theorem Fr.same {W w' : World} (h : Fr (fun k => W.heap.size ≤ k) W w') {p : MemPlace} (hp : p.block < W.heap.size) : W.sameAt w' p := by
  cases p with
  | cell b o => exact World.cell?_of_block (w := W) (h.block b hp (by show ¬ W.heap.size ≤ b; exact Nat.not_le.2 hp))
  | map b => exact h.block b hp (by show ¬ W.heap.size ≤ b; exact Nat.not_le.2 hp)
theorem Fr.kept {W w' : World} (h : Fr (fun k => W.heap.size ≤ k) W w') (may : MemPlace → Prop) : W.keptBut w' may := by
  refine ⟨h.os, h.output, fun i hi => ?_⟩
  rw [h.block i hi (Nat.not_le.2 hi)]
  split <;> simp_all

set_option maxRecDepth 100000 in
theorem lifted (os : Os) (started : os.Started) (H : Type) (enc : TypeId × Value → H) :
    ReturnsInHanded {} Try.checked os 3 .any (Rows.fnWindowAddPoolsHoldTheDealsRoutedBelowSpec.pre6 enc Try.prog Try.f3 Rows.fnWindowAddPoolsHoldTheDealsRoutedBelowRow.domain false) (Rows.fnWindowAddPoolsHoldTheDealsRoutedBelowSpec.post enc Try.prog Try.f3 false true false false) := by
  refine returnsInHanded_of_change (C := Try.checked) own started (by kernel_rfl) Try.func3
    (ChangeSpec.witness6 (enc := enc) (C := Try.checked) false ⟨#[], #[.slice none 0 0, .slice none 0 0, .slice none 0 0], []⟩ 8 (by kernel_rfl) (by kernel_rfl) (by kernel_rfl) (by kernel_rfl)) ?_
  intro W base args ds gs before hval0 hW _ _
  have hval : ∀ (j : Nat) t v, Try.f3.params[j]? = some t → args[j]? = some v → Value.okWide Try.prog W .any base t v := hval0
  have hW' := hW
  obtain ⟨p, q, hA0, hV, rfl, hfz, hnd⟩ := hW
  have hA : DataW.TrodAll enc Try.prog W 0 (fun _ => true) true Try.f3.params.toList args.toList ds p := hA0
  rw [Try.params3] at hA hval
  obtain ⟨v0, vs0, d0, ds0, p0, q0, hargs, rfl, rfl, h0, r0⟩ := trodAll_cons hA
  obtain ⟨v1, vs1, d1, ds1, p1, q1, rfl, rfl, rfl, h1, r1⟩ := trodAll_cons r0
  obtain ⟨v2, vs2, d2, ds2, p2, q2, rfl, rfl, rfl, h2, r2⟩ := trodAll_cons r1
  obtain ⟨rfl, rfl, rfl⟩ := trodAll_nil r2
  obtain rfl : args = #[v0, v1, v2] := by cases args; simp_all
  obtain ⟨rfl, rfl⟩ := trodVars_none hV
  obtain ⟨a0, n0, c0, rfl⟩ := okWide_slice Try.underlying22 (hval 0 22 v0 rfl rfl)
  obtain ⟨a1, n1, c1, rfl⟩ := okWide_slice Try.underlying23 (hval 1 23 v1 rfl rfl)
  obtain ⟨a2, n2, c2, rfl⟩ := okWide_slice Try.underlying22 (hval 2 22 v2 rfl rfl)
  have k0 := h0
  have k1 := h1
  have k2 := h2
  have lt0 : ∀ x ∈ p0, x.block < W.heap.size := by obtain ⟨m, hm⟩ := k0; exact DataW.trod_lt m _ _ _ hm
  have lt1 : ∀ x ∈ p1, x.block < W.heap.size := by obtain ⟨m, hm⟩ := k1; exact DataW.trod_lt m _ _ _ hm
  have lt2 : ∀ x ∈ p2, x.block < W.heap.size := by obtain ⟨m, hm⟩ := k2; exact DataW.trod_lt m _ _ _ hm
  obtain ⟨f0, hf0⟩ := h0
  obtain ⟨f1, hf1⟩ := h1
  obtain ⟨f2, hf2⟩ := h2
  obtain ⟨u1, u2, rel, i0, -⟩ := intsOf (by simpa [Value.cells] using hf0)
  obtain ⟨u5, u6, rt, i2, hrt⟩ := intsOf (by simpa [Value.cells] using hf2)
  obtain ⟨u3, u4, o1⟩ := opened Try.underlying23 (by kernel_rfl) (by simpa [Value.cells] using hf1)
  obtain ⟨z, hz⟩ := Go.Deep.choose_lt (α := Option Addr × Nat × Nat × (Nat → Int)) (p := fun k z => ∃ b off, a1 = some ⟨b, off, none⟩ ∧ b < W.heap.size ∧ W.cell? ⟨b, off + k, none⟩ = some (.slice z.1 z.2.1 z.2.2.1) ∧ z.2.1 ≤ maxLen ∧ Ints W W.heap.size z.1 z.2.1 z.2.2.2 ∧ ∀ j, j < z.2.1 → -9223372036854775808 ≤ z.2.2.2 j ∧ z.2.2.2 j ≤ 9223372036854775807) (n := n1) (fun k hk => by
    obtain ⟨b, off, v, n, y, e1, e2, e3, e4⟩ := o1 k hk
    obtain ⟨z, rfl, e5, e6, e7⟩ := item e4
    exact ⟨z, b, off, e1, e2, e3, e5, e6, e7⟩)
  have hH : Hdrs W W.heap.size a1 n1 (fun i => (z i).1) (fun i => (z i).2.1) (fun i => (z i).2.2.1) := by
    by_cases h0 : n1 = 0
    · exact .inl h0
    · obtain ⟨b, off, ha, hlt, _⟩ := hz 0 (by omega)
      refine .inr ⟨b, off, ha, hlt, fun i hi => ?_⟩
      obtain ⟨b', off', ha', _, hc', _⟩ := hz i hi
      rw [ha] at ha'
      cases ha'
      exact hc'
  unfold maxLen at u2 u4 u6
  have hcall := law_all a0 a1 a2 n0 n1 n2 c0 c1 c2 rel rt (fun i => (z i).1) (fun i => (z i).2.1) (fun i => (z i).2.2.1) (fun i => (z i).2.2.2) W
    ⟨i0, hH, fun i hi => (by obtain ⟨_, _, _, _, _, _, h6, _⟩ := hz i hi; exact h6), i2⟩ (by omega) (by omega) (by omega)
    (fun i hi => by obtain ⟨_, _, _, _, _, h5, _⟩ := hz i hi; unfold maxLen at h5; exact h5) (fun i hi => by obtain ⟨_, _, _, _, _, _, _, h7⟩ := hz i hi; exact h7) (fun i hi => (hrt i hi).2)
  clear hA0 hval0
  refine hcall.mono ?_
  rintro e W' ⟨rfl, bel⟩
  exact ⟨_, rfl, _, _, _, [], _, [], hW', trodAll_mk1 (shut_bool Try.underlying4 _),
    (trodAll_cons_mk (WideElems.Trod_stays laidOut (by kernel_rfl) (of_decide_eq_true (by kernel_rfl)) k0 (fun x hx => bel.same (lt0 x hx)) (fun x hx => by simpa using lt0 x hx))
      (trodAll_cons_mk (WideElems.Trod_stays laidOut (by kernel_rfl) (of_decide_eq_true (by kernel_rfl)) k1 (fun x hx => bel.same (lt1 x hx)) (fun x hx => by simpa using lt1 x hx))
        (trodAll_cons_mk (WideElems.Trod_stays laidOut (by kernel_rfl) (of_decide_eq_true (by kernel_rfl)) k2 (fun x hx => bel.same (lt2 x hx)) (fun x hx => by simpa using lt2 x hx)) trodAll_mk0))),
    rfl, bel.kept _, fun h => by cases h⟩

theorem over : Rows.fnWindowAddPoolsHoldTheDealsRoutedBelowRow.holds Try.pinned (OpenSpec.ofChange Rows.fnWindowAddPoolsHoldTheDealsRoutedBelowSpec) :=
  OpenClaim.holds_of_wide 3 Try.f3 rfl rfl rfl rfl rfl rfl rfl ⟨rfl, rfl, rfl, rfl, rfl⟩ rfl rfl rfl rfl rfl (by kernel_rfl) Try.func3 (by kernel_rfl)
    (of_decide_eq_true (by kernel_rfl)) (by unfold Func.isWrapper; first | (rw [if_pos (by decide +kernel)]; kernel_rfl) | (rw [if_neg (by decide +kernel)]; exact ⟨rfl, rfl⟩))
    (fun os started H enc _ => lifted os started H enc)

/-- ████ THE STATEMENT ████ -/
theorem proved : Rows.FnWindowAddPoolsHoldTheDealsRoutedBelowSaid :=
  over
#print axioms proved
end Go.Proofs.Qxb6616145a
