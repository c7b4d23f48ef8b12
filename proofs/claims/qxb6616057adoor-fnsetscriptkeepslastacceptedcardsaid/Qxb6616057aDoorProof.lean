import Derived.Test.Qxb6616057aDoorMain
import Derived.Test.Qxb6616057aDoorTie
import Derived.Test.Qxb6616057aDoorCards
import Derived.ProofKit
import Derived.OpenShut
import Derived.ChangeOld
import Derived.ChangeVars
import Derived.Below
import Derived.LaidLaws
import Derived.LaidHandle
import Derived.Stop.Joined
import Derived.Stop.LaidErr
import Derived.Deep.Slices
import Derived.SevenTiedAt
namespace Go.Proofs.Qxb6616057aDoor
open Go.ChangeShapes Go.WideShapes Go.ChangeAt Go.RowKit

theorem own : ownKnob Tryd.prog.godebug = none := by kernel_rfl
theorem laidOut : laidOutB Tryd.prog = true := by kernel_rfl
/-- The listed variable's name. -/
def vname : String := Rows.fnSetScriptKeepsLastAcceptedSpec.vars.headD ""
def vlist : List (String × DataW Unit) := Rows.fnSetScriptKeepsLastAcceptedRow.laid
theorem vglobal : Tryd.prog.globalNamed vname = some 0 := by kernel_rfl
theorem vtype : (Tryd.prog.globals[0]?).map (·.type) = some 27 := by kernel_rfl
theorem star : "*" ++ "errors.errorString" = "*errors.errorString" := by decide
theorem row31 (u : TypeId) (h : Tryd.prog.typeName? 3 u = some "*errors.errorString") : u = 31 :=
  typeName_ptr_named (nm := "errors.errorString") (by rw [star]; kernel_rfl) (by kernel_rfl) (by decide) u (by rw [star]; exact h)

/-- A world that meets the condition: the settled one, the variable's cell laid. -/
def laidW (P : Program) (os : Os) (s : ByteArray) : World :=
  let w0 := World.holding P os ⟨#[.cells #[.string s] 52], #[], []⟩
  { w0 with heap := w0.heap.modify 0 fun
      | .cells _ t frozen => .cells #[.iface 31 (.pointer (some ⟨(World.holding P os ⟨#[], #[], []⟩).heap.size, 0, none⟩))] t frozen
      | o => o }
def text : ByteArray := { data := #[102, 108, 97, 107, 101, 58, 32, 118, 97, 108, 117, 101, 32, 111, 117, 116, 115, 105, 100, 101, 32, 116, 104, 101, 32, 85, 108, 105, 100, 45, 70, 108, 97, 107, 101, 32, 114, 97, 110, 103, 101] }

theorem laidW_met (os : Os) (args : Array Value) : laidMet Tryd.prog vlist ((laidW Tryd.prog os text).forCall (fun _ _ => 0) ⟨#[], args, []⟩).memory :=
  laidMet_of_run' 8 (by kernel_rfl) (by kernel_rfl)

/-- A slice whose elements are one cell each, opened. -/
theorem opened {H : Type} {enc : TypeId × Value → H} {W : World} {t e : TypeId} {fuel : Nat} {a : Option Addr} {len cap : Nat} {x : DataW H × List MemPlace} (ht : Tryd.prog.underlying t = some (.slice e)) (hc : Tryd.prog.cellsOf e = 1)
    (h : DataW.trod enc Tryd.prog W 0 (fun _ => true) true fuel t [.slice a len cap] = some x) :
    len ≤ maxLen ∧ ∀ k, k < len → ∃ b off v n y, a = some ⟨b, off, none⟩ ∧ b < W.heap.size ∧ W.cell? ⟨b, off + k, none⟩ = some v ∧ DataW.trod enc Tryd.prog W 0 (fun _ => true) true n e [v] = some y := by
  rcases Go.Deep.open_slice1 ht hc h with ⟨hcs, _⟩ | ⟨a', l, c, m, n, V, D, Pl, hcs, _, hl, hm, hmm, _, hx⟩
  · simp at hcs
    obtain ⟨rfl, rfl, rfl⟩ := hcs
    exact ⟨Nat.zero_le _, fun k hk => absurd hk (Nat.not_lt_zero _)⟩
  · simp at hcs
    obtain ⟨rfl, rfl, rfl⟩ := hcs
    simp at hmm
    refine ⟨by omega, fun k hk => ?_⟩
    obtain ⟨h1, h2⟩ := hx k (by omega)
    obtain ⟨b, off, spot⟩ := a'
    have hs : spot = none := by simpa [Addr.add] using World.cell?_spot (hx 0 (by omega)).1
    subst hs
    rw [add_plain] at h1
    exact ⟨b, off, V k, n, _, rfl, block_lt_of_cell h1, h1, h2⟩

set_option maxRecDepth 100000 in
theorem lifted (os : Os) (started : os.Started) (H : Type) (enc : TypeId × Value → H) :
    ReturnsInHanded {} Tryd.checked os 3 .any (fun w args => (Rows.fnSetScriptKeepsLastAcceptedSpec.pre enc Tryd.prog Tryd.f3 [] false w args ∧ laidMetH Tryd.prog vlist w) ∧ sizedMet enc Tryd.prog Tryd.f3 (OpenSpec.ofChange Rows.fnSetScriptKeepsLastAcceptedSpec) false w args)
      (Rows.fnSetScriptKeepsLastAcceptedSpec.post enc Tryd.prog Tryd.f3 false true false false) := by
  refine returnsInHanded_of_change_and (C := Tryd.checked) (X := fun w _ => laidMetH Tryd.prog vlist w) (fun _ _ _ hh h => h.of_heap hh) own started (by kernel_rfl) Tryd.func3
    (ChangeSpec.witness_at (enc := enc) (C := Tryd.checked) (os := os) (X := fun w _ => laidMetH Tryd.prog vlist w) false (laidW Tryd.prog os text) #[.int .i64 0, .slice none 0 0, .slice none 0 0] 8 rfl (by kernel_rfl) (by kernel_rfl) (by kernel_rfl) (by kernel_rfl) (by kernel_rfl) (laidW_met os _)) ?_
  intro W base args ds gs before hval0 hW _ _ hL _
  have hval : ∀ (j : Nat) t v, Tryd.f3.params[j]? = some t → args[j]? = some v → Value.okWide Tryd.prog W .any base t v := hval0
  have hW' := hW
  obtain ⟨p, q, hA0, hV0, rfl, hfz, hnd⟩ := hW
  have hA : DataW.TrodAll enc Tryd.prog W 0 (fun _ => true) true Tryd.f3.params.toList args.toList ds p := hA0
  have hV : DataW.TrodVars enc Tryd.prog W (fun _ => true) [vname] gs q := hV0
  rw [Tryd.params3] at hA hval
  obtain ⟨v0, v1, v2, d0, d1, d2, p0, p1, p2, rfl, rfl, rfl, h0, h1, h2⟩ := trodAll_three hA
  have hL' : laidMet Tryd.prog vlist W := hL
  obtain ⟨a, s, hv, hc, _, _⟩ := laid_sentinel (g := 0) hL' vglobal vtype Tryd.underlying27 row31 Tryd.underlying31 Tryd.underlying52 rfl rfl Tryd.underlying9 (by kernel_rfl) (by kernel_rfl)
  have hvg : W.cell? ⟨0, 0, none⟩ = some (.iface 31 (.pointer (some a))) := by simpa using World.var?_cell vglobal hv 0
  have hpos : 0 < W.heap.size := block_lt_of_cell hvg
  obtain ⟨rfl, rfl⟩ := hV.unique (vars_read1 enc vglobal vtype Tryd.underlying27 hv trivial _)
  obtain ⟨x0, rfl, rfl, rfl, w0⟩ := open_int Tryd.underlying2 (hval 0 2 v0 rfl rfl) h0
  obtain ⟨a1, len1, cap1, rfl⟩ := okWide_slice Tryd.underlying22 (hval 1 22 v1 rfl rfl)
  have k1 := h1
  have lt1 : ∀ x ∈ p1, x.block < W.heap.size := by obtain ⟨m, hm⟩ := k1; exact DataW.trod_lt m _ _ _ hm
  obtain ⟨a2, len2, cap2, rfl⟩ := okWide_slice Tryd.underlying23 (hval 2 23 v2 rfl rfl)
  have k2 := h2
  have lt2 : ∀ x ∈ p2, x.block < W.heap.size := by obtain ⟨m, hm⟩ := k2; exact DataW.trod_lt m _ _ _ hm
  obtain ⟨f1, hf1⟩ := h1
  obtain ⟨f2, hf2⟩ := h2
  obtain ⟨hl1, o1⟩ := opened Tryd.underlying22 (by kernel_rfl) (by simpa [Value.cells] using hf1)
  obtain ⟨hl2, o2⟩ := opened Tryd.underlying23 (by kernel_rfl) (by simpa [Value.cells] using hf2)
  clear hA0 hV0 hval0
  have fin : ∀ (e : Ending) (W' : World), e = .returned (.bool true) ∧ Below W.heap.size W W' → ∃ v, e = .returned v ∧ Rows.fnSetScriptKeepsLastAcceptedSpec.post enc Tryd.prog Tryd.f3 false true false false W #[.int .i64 x0, .slice a1 len1 cap1, .slice a2 len2 cap2] v W' := by
    rintro e W' ⟨rfl, bel⟩
    exact ⟨_, rfl, _, _, _, [], _, [.cell 0 0], hW', trodAll_mk1 (shut_bool Tryd.underlying4 _), trodAll_mk3 (shut_int Tryd.underlying2 w0) (Below.trod laidOut (by kernel_rfl) (of_decide_eq_true (by kernel_rfl)) k1 bel lt1) (Below.trod laidOut (by kernel_rfl) (of_decide_eq_true (by kernel_rfl)) k2 bel lt2),
      vars_read1 enc vglobal vtype Tryd.underlying27 (var?_below bel vglobal hpos hv) trivial _, bel.frame _, fun h => by cases h⟩
  by_cases c1 : len1 + len2 ≤ 1048576
  · by_cases c2 : 65536 < len1
    · refine (main_wide x0 a1 a2 len1 cap1 len2 cap2 W c1 c2).mono fun e W' ⟨he, hw⟩ => fin e W' ⟨he, ?_⟩
      subst hw; exact Below.refl _ _
    · by_cases c3 : 1048576 < len1 * 8 + len2
      · refine (main_bytes x0 a1 a2 len1 cap1 len2 cap2 W c1 c2 c3).mono fun e W' ⟨he, hw⟩ => fin e W' ⟨he, ?_⟩
        subst hw; exact Below.refl _ _
      · obtain ⟨rd, hrd⟩ := Go.Deep.choose_lt (α := Int) (p := fun k z => ∃ b off, a1 = some ⟨b, off, none⟩ ∧ b < W.heap.size ∧ W.cell? ⟨b, off + k, none⟩ = some (.int .i64 z)) (n := len1) (fun k hk => by
          obtain ⟨b, off, v, n, y, e1, e2, e3, e4⟩ := o1 k hk
          obtain ⟨z, e5, _⟩ := DataW.trod_int Tryd.underlying2 e4
          simp at e5
          subst e5
          exact ⟨z, b, off, e1, e2, e3⟩)
        obtain ⟨bs, hbs⟩ := Go.Deep.choose_lt (α := Bool) (p := fun k z => ∃ b off, a2 = some ⟨b, off, none⟩ ∧ b < W.heap.size ∧ W.cell? ⟨b, off + k, none⟩ = some (.bool z)) (n := len2) (fun k hk => by
          obtain ⟨b, off, v, n, y, e1, e2, e3, e4⟩ := o2 k hk
          obtain ⟨z, e5, _⟩ := DataW.trod_bool Tryd.underlying4 e4
          simp at e5
          subst e5
          exact ⟨z, b, off, e1, e2, e3⟩)
        exact (main_go x0 a1 a2 len1 cap1 len2 cap2 rd bs 31 a W (by omega) (by omega) hvg hpos hrd hbs).mono fun e W' h => fin e W' h
  · refine (main_long x0 a1 a2 len1 cap1 len2 cap2 W hl1 hl2 c1).mono fun e W' ⟨he, hw⟩ => fin e W' ⟨he, ?_⟩
    subst hw; exact Below.refl _ _

theorem row_holds : Rows.FnSetScriptKeepsLastAcceptedSaid :=
  OpenClaim.holds_of_wide 3 Tryd.f3 rfl rfl rfl rfl rfl rfl rfl ⟨rfl, rfl, rfl, rfl, rfl⟩ rfl rfl rfl rfl rfl (by kernel_rfl) Tryd.func3 (by kernel_rfl)
    (of_decide_eq_true (by kernel_rfl)) (by unfold Func.isWrapper; rw [if_neg (of_decide_eq_false (by kernel_rfl))]; exact ⟨rfl, rfl⟩)
    (fun os started H enc _ => lifted os started H enc)

theorem named3 : Tryd.prog.funcNamed Rows.fnSetScriptKeepsLastAcceptedRow.func = some 3 := by kernel_rfl

/-- ████ THE STATEMENT ████ -/
theorem proved : Rows.FnSetScriptKeepsLastAcceptedCardSaid :=
  Claim7.holds_tied_plain_at .later [] [.sentinel] true (true, "ad5d68852644c0edd064b3c083cace135daa2414ce3e96a8b71c635c3e12ad07") false
    row_holds (fun _ h => by cases h) (by kernel_rfl) (fun _ h => by cases h) fnSetScriptKeepsLastAccepted_row_tie rfl ⟨rfl, rfl⟩ (by kernel_rfl) rfl
    (fun f fn hf hfn => by
      obtain rfl : f = 3 := Option.some.inj (named3.symm.trans hf) |>.symm
      obtain rfl : fn = Tryd.f3 := (Option.some.inj (Tryd.func3.symm.trans hfn)).symm
      exact ⟨by kernel_rfl, fun j t ht => by
        rw [Tryd.params3] at ht
        match j, ht with
        | 0, ht => obtain rfl : t = 2 := by simpa using ht.symm
                   exact (show Tryd.prog.wantsStandIn 2 = false by kernel_rfl)
        | 1, ht => obtain rfl : t = 22 := by simpa using ht.symm
                   exact (show Tryd.prog.wantsStandIn 22 = false by kernel_rfl)
        | 2, ht => obtain rfl : t = 23 := by simpa using ht.symm
                   exact (show Tryd.prog.wantsStandIn 23 = false by kernel_rfl)
        | j + 3, ht => simp at ht⟩)
    (by kernel_rfl)
#print axioms proved
end Go.Proofs.Qxb6616057aDoor
