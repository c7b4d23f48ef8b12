import Derived.Test.Qxb6616057aFmtLaid
import Derived.Test.Qxb6616057aFmtOrder
namespace Go.Proofs.Qxb6616057aFmt.fnTimestampOrdersIDsByTimeThenRandom
open Go.ChangeShapes Go.WideShapes Go.ChangeAt Go.RowKit

set_option maxRecDepth 100000 in
theorem lifted (os : Os) (started : os.Started) (H : Type) (enc : TypeId × Value → H) :
    ReturnsInTold none {} Tryf.checked os 3 .any Input.okWide ((OpenSpec.ofChange Rows.fnTimestampOrdersIDsByTimeThenRandomSpec).preRow enc Tryf.prog Tryf.f3 Rows.fnTimestampOrdersIDsByTimeThenRandomRow.domain false Rows.fnTimestampOrdersIDsByTimeThenRandomRow.laid)
      (fun F => ((OpenSpec.ofChange Rows.fnTimestampOrdersIDsByTimeThenRandomSpec).at F).post enc Tryf.prog Tryf.f3 false true false false) (aloneAtReturn Tryf.prog) nothingAlways := by
  refine returnsInTold_of_row (C := Tryf.checked) (s := OpenSpec.ofChange Rows.fnTimestampOrdersIDsByTimeThenRandomSpec) (by kernel_rfl) own started (by kernel_rfl) Tryf.func3
    (OpenSpec.witness_stopped_at (enc := enc) (C := Tryf.checked) false (laidW Tryf.prog os text) #[.bool false, .int .u8 0, .int .i64 0, .int .i64 0, .int .u32 0, .int .u32 0] rfl (by kernel_rfl) (by kernel_rfl) (by kernel_rfl) (OpenSpec.preRow_of_B rfl 8 (by kernel_rfl) (by kernel_rfl) (laidW_met os _))) ?_
  intro F W base args ds gs before _ _ hval0 hW _ _ _ hL _
  have hval : ∀ (j : Nat) t v, Tryf.f3.params[j]? = some t → args[j]? = some v → Value.okWide Tryf.prog W .any base t v := hval0
  have hW' := hW
  obtain ⟨p, q, hA0, hV0, rfl, hfz, hnd⟩ := hW
  have hA : DataW.TrodAll enc Tryf.prog W 0 (fun _ => true) true Tryf.f3.params.toList args.toList ds p := hA0
  have hV : DataW.TrodVars enc Tryf.prog W (fun _ => true) [vname] gs q := hV0
  rw [Tryf.params3] at hA hval
  obtain ⟨v0, vs0, d0, ds0, p0, q0, hargs, rfl, rfl, h0, rr0⟩ := trodAll_cons hA
  obtain ⟨v1, vs1, d1, ds1, p1, q1, rfl, rfl, rfl, h1, rr1⟩ := trodAll_cons rr0
  obtain ⟨v2, vs2, d2, ds2, p2, q2, rfl, rfl, rfl, h2, rr2⟩ := trodAll_cons rr1
  obtain ⟨v3, vs3, d3, ds3, p3, q3, rfl, rfl, rfl, h3, rr3⟩ := trodAll_cons rr2
  obtain ⟨v4, vs4, d4, ds4, p4, q4, rfl, rfl, rfl, h4, rr4⟩ := trodAll_cons rr3
  obtain ⟨v5, vs5, d5, ds5, p5, q5, rfl, rfl, rfl, h5, rr5⟩ := trodAll_cons rr4
  obtain ⟨rfl, rfl, rfl⟩ := trodAll_nil rr5
  obtain rfl : args = #[v0, v1, v2, v3, v4, v5] := by cases args; simp_all
  obtain ⟨a, hv, hpos⟩ := laid_var (show laidMet Tryf.prog vlist W from hL)
  obtain ⟨rfl, rfl⟩ := hV.unique (vars_read1 enc vglobal vtype Tryf.underlying28 hv trivial _)
  obtain ⟨sc, rfl, rfl, rfl⟩ := open_bool Tryf.underlying4 (hval 0 4 v0 rfl rfl) h0
  obtain ⟨nd, rfl, rfl, rfl, w1⟩ := open_int Tryf.underlying5 (hval 1 5 v1 rfl rfl) h1
  have b1 := bd_u8 w1
  obtain ⟨t1, rfl, rfl, rfl, w2⟩ := open_int Tryf.underlying2 (hval 2 2 v2 rfl rfl) h2
  obtain ⟨t2, rfl, rfl, rfl, w3⟩ := open_int Tryf.underlying2 (hval 3 2 v3 rfl rfl) h3
  obtain ⟨r1, rfl, rfl, rfl, w4⟩ := open_int Tryf.underlying22 (hval 4 22 v4 rfl rfl) h4
  have b4 := bd_u32 w4
  obtain ⟨r2, rfl, rfl, rfl, w5⟩ := open_int Tryf.underlying22 (hval 5 22 v5 rfl rfl) h5
  have b5 := bd_u32 w5
  clear hA0 hV0 hval0
  have fin : ∀ (e : Ending) (W' : World), e = .returned (.bool true) ∧ Below W.heap.size W W' → ∃ v, e = .returned v ∧ ((OpenSpec.ofChange Rows.fnTimestampOrdersIDsByTimeThenRandomSpec).at F.told).post enc Tryf.prog Tryf.f3 false true false false W #[.bool sc, .int .u8 nd, .int .i64 t1, .int .i64 t2, .int .u32 r1, .int .u32 r2] v W' := by
    rintro e W' ⟨rfl, bel⟩
    exact ⟨_, rfl, _, _, _, [], [], [.cell 0 0], hW', trodAll_mk1 (shut_bool Tryf.underlying4 _), (trodAll_cons_mk (shut_bool Tryf.underlying4 _) (trodAll_cons_mk (shut_int Tryf.underlying5 w1) (trodAll_cons_mk (shut_int Tryf.underlying2 w2) (trodAll_cons_mk (shut_int Tryf.underlying2 w3) (trodAll_cons_mk (shut_int Tryf.underlying22 w4) (trodAll_cons_mk (shut_int Tryf.underlying22 w5) trodAll_mk0)))))),
      vars_read1 enc vglobal vtype Tryf.underlying28 (var?_below bel vglobal hpos hv) trivial _, bel.frame _, fun h => by cases h⟩
  have fin' : ∀ (e : Ending) (W' : World), e = .returned (.bool true) ∧ W' = W → ∃ v, e = .returned v ∧ ((OpenSpec.ofChange Rows.fnTimestampOrdersIDsByTimeThenRandomSpec).at F.told).post enc Tryf.prog Tryf.f3 false true false false W #[.bool sc, .int .u8 nd, .int .i64 t1, .int .i64 t2, .int .u32 r1, .int .u32 r2] v W' := by
    rintro e W' ⟨he, hw⟩
    exact fin e W' ⟨he, hw ▸ Below.refl _ _⟩
  by_cases c1 : t1 < 0 ∨ 8796093022207 < t1 ∨ t2 < 0 ∨ 8796093022207 < t2
  · exact (order_ts sc nd t1 t2 r1 r2 W c1).mono fun e W' h => fin' e W' h
  by_cases c2 : 31 < nd
  · exact (order_big sc nd t1 t2 r1 r2 W (by omega) (by omega) (by omega) (by omega) c2).mono fun e W' h => fin' e W' h
  by_cases c3 : nd = 0 ∨ sc = true
  · by_cases c4 : top sc ≤ r1 ∨ top sc ≤ r2
    · exact (order_wide sc nd t1 t2 r1 r2 W (by omega) (by omega) (by omega) (by omega) (by omega) (by omega) c3 c4).mono fun e W' h => fin' e W' h
    · have hA1 := id_bounds sc t1 r1 nd (by omega) (by omega) (by omega) (by omega) (by omega) (by omega) c3
      have hB1 := id_bounds sc t2 r2 nd (by omega) (by omega) (by omega) (by omega) (by omega) (by omega) c3
      have hlt := id_lt sc t1 t2 r1 r2 nd (by omega) (by omega) (by omega) (by omega) (by omega) (by omega)
      exact (order_go sc nd t1 t2 r1 r2 W (by omega) (by omega) (by omega) (by omega) (by omega) (by omega) c3 (by omega) (by omega) (by omega) (by omega) _ _ rfl rfl hA1.1 hA1.2 hB1.1 hB1.2 hlt.1 hlt.2).mono fun e W' h => fin e W' h
  · cases sc with
    | true => exact absurd (.inr rfl) c3
    | false => exact (order_node nd t1 t2 r1 r2 W (by omega) (by omega) (by omega) (by omega) (by omega) (fun h => c3 (.inl h))).mono fun e W' h => fin' e W' h

/-- ████ THE STATEMENT ████ -/
theorem proved : Rows.FnTimestampOrdersIDsByTimeThenRandomToldSaid :=
  Claim7.holds_of_told_tied_any_at .later 3 Tryf.f3 "fmt.errorf" [] [] _ _ _ _ _ (by kernel_rfl) rfl rfl rfl laidOut (by kernel_rfl) rfl ⟨rfl, rfl, rfl, rfl, rfl, rfl, rfl⟩ rfl rfl (by kernel_rfl) (by kernel_rfl) Tryf.func3 (by kernel_rfl)
    (of_decide_eq_true (by kernel_rfl)) (by unfold Func.isWrapper; rw [if_neg (of_decide_eq_false (by kernel_rfl))]; exact ⟨rfl, rfl⟩) stops.symm rfl stopKnobs.symm (by kernel_rfl)
    (by kernel_rfl) (by kernel_rfl) (by kernel_rfl) (by kernel_rfl) (by kernel_rfl) (by kernel_rfl) (by kernel_rfl) (by kernel_rfl) (by kernel_rfl) rfl (by kernel_rfl) rfl rfl
    rfl rfl
    rfl (by kernel_rfl) (by kernel_rfl) (by kernel_rfl) (by decide) (by kernel_rfl) fnTimestampOrdersIDsByTimeThenRandom_row_tie
    (OpenClaim.moreEntering_of (by kernel_rfl) (by kernel_rfl) (by kernel_rfl) (by kernel_rfl) (by kernel_rfl) (by kernel_rfl) (by kernel_rfl) (by kernel_rfl) (by kernel_rfl) (by kernel_rfl))
    ⟨_, WideRow.started_initial, quiet _⟩
    (fun os started _ H enc _ => lifted os started H enc)
#print axioms proved
end Go.Proofs.Qxb6616057aFmt.fnTimestampOrdersIDsByTimeThenRandom
