import Derived.Test.Qxb6616057aFmtLaid
import Derived.Test.Qxb6616057aFmtParts
namespace Go.Proofs.Qxb6616057aFmt.fnRandomWidthDecomposesID
open Go.ChangeShapes Go.WideShapes Go.ChangeAt Go.RowKit

set_option maxRecDepth 100000 in
theorem lifted (os : Os) (started : os.Started) (H : Type) (enc : TypeId × Value → H) :
    ReturnsInTold none {} Tryf.checked os 4 .any Input.okWide ((OpenSpec.ofChange Rows.fnRandomWidthDecomposesIDSpec).preRow enc Tryf.prog Tryf.f4 Rows.fnRandomWidthDecomposesIDRow.domain false Rows.fnRandomWidthDecomposesIDRow.laid)
      (fun F => ((OpenSpec.ofChange Rows.fnRandomWidthDecomposesIDSpec).at F).post enc Tryf.prog Tryf.f4 false true false false) (aloneAtReturn Tryf.prog) nothingAlways := by
  refine returnsInTold_of_row (C := Tryf.checked) (s := OpenSpec.ofChange Rows.fnRandomWidthDecomposesIDSpec) (by kernel_rfl) own started (by kernel_rfl) Tryf.func4
    (OpenSpec.witness_stopped_at (enc := enc) (C := Tryf.checked) false (laidW Tryf.prog os text) #[.bool false, .int .u8 0, .int .i64 0, .int .u32 0] rfl (by kernel_rfl) (by kernel_rfl) (by kernel_rfl) (OpenSpec.preRow_of_B rfl 8 (by kernel_rfl) (by kernel_rfl) (laidW_met os _))) ?_
  intro F W base args ds gs before _ _ hval0 hW _ _ _ hL _
  have hval : ∀ (j : Nat) t v, Tryf.f4.params[j]? = some t → args[j]? = some v → Value.okWide Tryf.prog W .any base t v := hval0
  have hW' := hW
  obtain ⟨p, q, hA0, hV0, rfl, hfz, hnd⟩ := hW
  have hA : DataW.TrodAll enc Tryf.prog W 0 (fun _ => true) true Tryf.f4.params.toList args.toList ds p := hA0
  have hV : DataW.TrodVars enc Tryf.prog W (fun _ => true) [vname] gs q := hV0
  rw [Tryf.params4] at hA hval
  obtain ⟨v0, vs0, d0, ds0, p0, q0, hargs, rfl, rfl, h0, r0⟩ := trodAll_cons hA
  obtain ⟨v1, vs1, d1, ds1, p1, q1, rfl, rfl, rfl, h1, r1⟩ := trodAll_cons r0
  obtain ⟨v2, vs2, d2, ds2, p2, q2, rfl, rfl, rfl, h2, r2⟩ := trodAll_cons r1
  obtain ⟨v3, vs3, d3, ds3, p3, q3, rfl, rfl, rfl, h3, r3⟩ := trodAll_cons r2
  obtain ⟨rfl, rfl, rfl⟩ := trodAll_nil r3
  obtain rfl : args = #[v0, v1, v2, v3] := by cases args; simp_all
  obtain ⟨a, hv, hpos⟩ := laid_var (show laidMet Tryf.prog vlist W from hL)
  obtain ⟨rfl, rfl⟩ := hV.unique (vars_read1 enc vglobal vtype Tryf.underlying28 hv trivial _)
  obtain ⟨sc, rfl, rfl, rfl⟩ := open_bool Tryf.underlying4 (hval 0 4 v0 rfl rfl) h0
  obtain ⟨nd, rfl, rfl, rfl, w1⟩ := open_int Tryf.underlying5 (hval 1 5 v1 rfl rfl) h1
  have b1 := bd_u8 w1
  obtain ⟨ts, rfl, rfl, rfl, w2⟩ := open_int Tryf.underlying2 (hval 2 2 v2 rfl rfl) h2
  obtain ⟨r, rfl, rfl, rfl, w3⟩ := open_int Tryf.underlying22 (hval 3 22 v3 rfl rfl) h3
  have b3 := bd_u32 w3
  clear hA0 hV0 hval0
  have fin : ∀ (e : Ending) (W' : World), e = .returned (.bool true) ∧ Below W.heap.size W W' → ∃ v, e = .returned v ∧ ((OpenSpec.ofChange Rows.fnRandomWidthDecomposesIDSpec).at F.told).post enc Tryf.prog Tryf.f4 false true false false W #[.bool sc, .int .u8 nd, .int .i64 ts, .int .u32 r] v W' := by
    rintro e W' ⟨rfl, bel⟩
    exact ⟨_, rfl, _, _, _, [], [], [.cell 0 0], hW', trodAll_mk1 (shut_bool Tryf.underlying4 _), (trodAll_cons_mk (shut_bool Tryf.underlying4 _) (trodAll_cons_mk (shut_int Tryf.underlying5 w1) (trodAll_cons_mk (shut_int Tryf.underlying2 w2) (trodAll_cons_mk (shut_int Tryf.underlying22 w3) trodAll_mk0)))),
      vars_read1 enc vglobal vtype Tryf.underlying28 (var?_below bel vglobal hpos hv) trivial _, bel.frame _, fun h => by cases h⟩
  have fin' : ∀ (e : Ending) (W' : World), e = .returned (.bool true) ∧ W' = W → ∃ v, e = .returned v ∧ ((OpenSpec.ofChange Rows.fnRandomWidthDecomposesIDSpec).at F.told).post enc Tryf.prog Tryf.f4 false true false false W #[.bool sc, .int .u8 nd, .int .i64 ts, .int .u32 r] v W' := by
    rintro e W' ⟨he, hw⟩
    exact fin e W' ⟨he, hw ▸ Below.refl _ _⟩
  by_cases c1 : ts < 0 ∨ 8796093022207 < ts
  · exact (parts_ts sc nd ts r W c1).mono fun e W' h => fin' e W' h
  by_cases c2 : 31 < nd
  · exact (parts_big sc nd ts r W (by omega) (by omega) c2).mono fun e W' h => fin' e W' h
  cases sc with
  | true =>
    by_cases c4 : top true ≤ r
    · exact (parts_wide true nd ts r W (by omega) (by omega) (by omega) (by omega) (.inr rfl) c4).mono fun e W' h => fin' e W' h
    · simp [top] at c4
      exact (parts_scaled nd ts r W (by omega) (by omega) (by omega) (by omega) (by omega) (by omega)).mono fun e W' h => fin e W' h
  | false =>
    by_cases c3 : nd = 0
    · subst c3
      by_cases c4 : top false ≤ r
      · exact (parts_wide false 0 ts r W (by omega) (by omega) (by omega) (by omega) (.inl rfl) c4).mono fun e W' h => fin' e W' h
      · simp [top] at c4
        exact (parts_alone ts r W (by omega) (by omega) (by omega) (by omega)).mono fun e W' h => fin e W' h
    · exact (parts_node nd ts r W (by omega) (by omega) (by omega) c3).mono fun e W' h => fin' e W' h

/-- ████ THE STATEMENT ████ -/
theorem proved : Rows.FnRandomWidthDecomposesIDToldSaid :=
  Claim7.holds_of_told_tied_any_at .later 4 Tryf.f4 "fmt.errorf" [] [] _ _ _ _ _ (by kernel_rfl) rfl rfl rfl laidOut (by kernel_rfl) rfl ⟨rfl, rfl, rfl, rfl, rfl, rfl, rfl⟩ rfl rfl (by kernel_rfl) (by kernel_rfl) Tryf.func4 (by kernel_rfl)
    (of_decide_eq_true (by kernel_rfl)) (by unfold Func.isWrapper; rw [if_neg (of_decide_eq_false (by kernel_rfl))]; exact ⟨rfl, rfl⟩) stops.symm rfl stopKnobs.symm (by kernel_rfl)
    (by kernel_rfl) (by kernel_rfl) (by kernel_rfl) (by kernel_rfl) (by kernel_rfl) (by kernel_rfl) (by kernel_rfl) (by kernel_rfl) (by kernel_rfl) rfl (by kernel_rfl) rfl rfl
    rfl rfl
    rfl (by kernel_rfl) (by kernel_rfl) (by kernel_rfl) (by decide) (by kernel_rfl) fnRandomWidthDecomposesID_row_tie
    (OpenClaim.moreEntering_of (by kernel_rfl) (by kernel_rfl) (by kernel_rfl) (by kernel_rfl) (by kernel_rfl) (by kernel_rfl) (by kernel_rfl) (by kernel_rfl) (by kernel_rfl) (by kernel_rfl))
    ⟨_, WideRow.started_initial, quiet _⟩
    (fun os started _ H enc _ => lifted os started H enc)
#print axioms proved
end Go.Proofs.Qxb6616057aFmt.fnRandomWidthDecomposesID
