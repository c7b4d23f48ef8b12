import Derived.Test.Qxb6616245aDoorMain
import Derived.Test.Qxb6616245aDoorTie
import Derived.Test.Qxb6616245aDoorCards
import Derived.ProofKit
import Derived.OpenShut
import Derived.ChangeOld
import Derived.ChangeVars
import Derived.Below
import Derived.LaidLaws
import Derived.LaidHandle
import Derived.Stop.Joined
import Derived.Stop.LaidErr
import Derived.Deep.Slices
import Derived.SevenTiedAt
namespace Go.Proofs.Qxb6616245aDoor
open Go.ChangeShapes Go.WideShapes Go.ChangeAt Go.RowKit

theorem own : ownKnob Tryd.prog.godebug = none := by kernel_rfl
theorem laidOut : laidOutB Tryd.prog = true := by kernel_rfl
def vlist : List (String × DataW Unit) := Rows.fnArrayOfJoinedItemsJoinsTheirBodiesRow.laid
theorem ptype : (Tryd.prog.globals[1]?).map (·.type) = some 69 := by kernel_rfl

/-- The table's fact, out of the row's condition. -/
theorem tab_of_laid {W : World} (h : laidMet Tryd.prog vlist W) : Tab W :=
  Lib.tabIs_of_head (g := 1) (name := powName) (k := .u64) (zs := Lib.pow10Tab) (t := 69) (e := 57) (n := 20) powGlobal ptype Tryd.underlying69 Tryd.underlying57 (by kernel_rfl) (by kernel_rfl) h.tail.tail

def cellsOf (k : IntKind) (zs : List Int) : Array Value := (zs.map fun z => Value.int k z).toArray
def put (h : Array Obj) (g : Nat) (cs : Array Value) : Array Obj := h.modify g fun
  | .cells _ t frozen => .cells cs t frozen
  | o => o
def tab32 : List Int := [0, 1, 28, 2, 29, 14, 24, 3, 30, 22, 20, 15, 25, 17, 4, 8, 31, 27, 13, 23, 21, 19, 16, 7, 26, 12, 18, 6, 11, 5, 10, 9]
def tab64 : List Int := [0, 1, 56, 2, 57, 49, 28, 3, 61, 58, 42, 50, 38, 29, 17, 4, 62, 47, 59, 36, 45, 43, 51, 22, 53, 39, 33, 30, 24, 18, 12, 5, 63, 55, 48, 27, 60, 41, 37, 16, 46, 35, 44, 21, 52, 32, 23, 11, 54, 26, 40, 15, 34, 20, 31, 10, 25, 14, 19, 9, 13, 8, 7, 6]
def tabPow : List Int := [1, 10, 100, 1000, 10000, 100000, 1000000, 10000000, 100000000, 1000000000, 10000000000, 100000000000, 1000000000000, 10000000000000, 100000000000000, 1000000000000000, 10000000000000000, 100000000000000000, 1000000000000000000, 10000000000000000000]
/-- A world that meets the condition: the settled one, the listed variables' cells laid. -/
def laidW (P : Program) (os : Os) (s : ByteArray) : World :=
  let w0 := World.holding P os ⟨#[.cells #[.string s] 100], #[], []⟩
  { w0 with heap := put (put (put (put w0.heap 0 #[.iface 78 (.pointer (some ⟨(World.holding P os ⟨#[], #[], []⟩).heap.size, 0, none⟩))]) 1 (cellsOf .u64 tabPow)) 2 (cellsOf .u8 tab32)) 3 (cellsOf .u8 tab64) }
def text : ByteArray := { data := #[115, 104, 111, 114, 116, 32, 119, 114, 105, 116, 101] }

theorem laidW_met (os : Os) (args : Array Value) : laidMet Tryd.prog vlist ((laidW Tryd.prog os text).forCall (fun _ _ => 0) ⟨#[], args, []⟩).memory :=
  laidMet_of_run' 8 (by kernel_rfl) (by kernel_rfl)

/-- A slice whose elements are one cell each, opened. -/
theorem opened {H : Type} {enc : TypeId × Value → H} {W : World} {t e : TypeId} {fuel : Nat} {a : Option Addr} {len cap : Nat} {x : DataW H × List MemPlace} (ht : Tryd.prog.underlying t = some (.slice e)) (hc : Tryd.prog.cellsOf e = 1)
    (h : DataW.trod enc Tryd.prog W 0 (fun _ => true) true fuel t [.slice a len cap] = some x) :
    len ≤ cap ∧ cap ≤ maxLen ∧ ∀ k, k < len → ∃ b off v n y, a = some ⟨b, off, none⟩ ∧ b < W.heap.size ∧ W.cell? ⟨b, off + k, none⟩ = some v ∧ DataW.trod enc Tryd.prog W 0 (fun _ => true) true n e [v] = some y := by
  rcases Go.Deep.open_slice1 ht hc h with ⟨hcs, _⟩ | ⟨a', l, c, m, n, V, D, Pl, hcs, _, hl, hm, hmm, _, hx⟩
  · simp at hcs
    obtain ⟨rfl, rfl, rfl⟩ := hcs
    exact ⟨Nat.zero_le _, Nat.zero_le _, fun k hk => absurd hk (Nat.not_lt_zero _)⟩
  · simp at hcs
    obtain ⟨rfl, rfl, rfl⟩ := hcs
    simp at hmm
    refine ⟨hl, hm, fun k hk => ?_⟩
    obtain ⟨h1, h2⟩ := hx k (by omega)
    obtain ⟨b, off, spot⟩ := a'
    have hs : spot = none := by simpa [Addr.add] using World.cell?_spot (hx 0 (by omega)).1
    subst hs
    rw [Lib.addr_add] at h1
    exact ⟨b, off, V k, n, _, rfl, block_lt_of_cell h1, h1, h2⟩

/-- One item. -/
theorem item {H : Type} {enc : TypeId × Value → H} {W : World} {n : Nat} {v : Value} {y : DataW H × List MemPlace} (h : DataW.trod enc Tryd.prog W 0 (fun _ => true) true n 25 [v] = some y) :
    ∃ z : Option Addr × Nat × List UInt8, v = .slice z.1 z.2.2.length z.2.1 ∧ z.2.2.length ≤ z.2.1 ∧ z.2.1 ≤ maxLen ∧ Rd W W.heap.size z.1 z.2.2 := by
  obtain ⟨a, l, c, rfl⟩ : ∃ a l c, v = .slice a l c := by
    rcases Go.Deep.open_slice1 Tryd.underlying25 (by kernel_rfl) h with ⟨hcs, _⟩ | ⟨a', l, c, m, n, V, D, Pl, hcs, _⟩
    · exact ⟨_, _, _, by simpa using hcs⟩
    · exact ⟨_, _, _, by simpa using hcs⟩
  obtain ⟨h1, h2, h3⟩ := opened Tryd.underlying25 (by kernel_rfl) h
  obtain ⟨f, hf⟩ := Go.Deep.choose_lt (α := UInt8) (p := fun k z => ∃ b off, a = some ⟨b, off, none⟩ ∧ b < W.heap.size ∧ W.cell? ⟨b, off + k, none⟩ = some (.int .u8 z.toNat)) (n := l) (fun k hk => by
    obtain ⟨b, off, v, n, y, e1, e2, e3, e4⟩ := h3 k hk
    obtain ⟨z, e5, _, e6⟩ := DataW.trod_int Tryd.underlying5 e4
    simp at e5
    subst e5
    have hz : 0 ≤ z ∧ z < 256 := by
      simp [Lit.wf] at e6
      have : IntKind.u8.min = 0 := by decide
      have : IntKind.u8.max = 255 := by decide
      omega
    refine ⟨UInt8.ofNat z.toNat, b, off, e1, e2, ?_⟩
    rw [e3, UInt8.toNat_ofNat']
    have : ((z.toNat % 2 ^ 8 : Nat) : Int) = z := by omega
    rw [this])
  refine ⟨(a, c, (List.range l).map f), by simp, by simpa using h1, h2, ?_⟩
  by_cases h0 : l = 0
  · exact .inl (by simp [h0])
  · obtain ⟨b, off, ha, hlt, _⟩ := hf 0 (by omega)
    refine .inr ⟨b, off, ha, hlt, fun j hj => ?_⟩
    simp at hj
    obtain ⟨b', off', ha', _, hc'⟩ := hf j hj
    rw [ha] at ha'
    cases ha'
    rw [hc']
    simp [List.getD, hj]

theorem Fr.same {W w' : World} (h : Fr (fun k => W.heap.size ≤ k) W w') {p : MemPlace} (hp : p.block < W.heap.size) : W.sameAt w' p := by
  cases p with
  | cell b o => exact World.cell?_of_block (w := W) (h.block b hp (by show ¬ W.heap.size ≤ b; exact Nat.not_le.2 hp))
  | map b => exact h.block b hp (by show ¬ W.heap.size ≤ b; exact Nat.not_le.2 hp)
theorem Fr.kept {W w' : World} (h : Fr (fun k => W.heap.size ≤ k) W w') (may : MemPlace → Prop) : W.keptBut w' may := by
  refine ⟨h.os, h.output, fun i hi => ?_⟩
  rw [h.block i hi (Nat.not_le.2 hi)]
  split <;> simp_all

set_option maxRecDepth 100000 in
theorem lifted (os : Os) (started : os.Started) (H : Type) (enc : TypeId × Value → H) :
    ReturnsInHanded {} Tryd.checked os 3 .any (fun w args => (Rows.fnArrayOfJoinedItemsJoinsTheirBodiesSpec.pre enc Tryd.prog Tryd.f3 [] false w args ∧ laidMetH Tryd.prog vlist w) ∧ sizedMet enc Tryd.prog Tryd.f3 (OpenSpec.ofChange Rows.fnArrayOfJoinedItemsJoinsTheirBodiesSpec) false w args)
      (Rows.fnArrayOfJoinedItemsJoinsTheirBodiesSpec.post enc Tryd.prog Tryd.f3 false true false false) := by
  refine returnsInHanded_of_change_and (C := Tryd.checked) (X := fun w _ => laidMetH Tryd.prog vlist w) (fun _ _ _ hh h => h.of_heap hh) own started (by kernel_rfl) Tryd.func3
    (ChangeSpec.witness_at (enc := enc) (C := Tryd.checked) (os := os) (X := fun w _ => laidMetH Tryd.prog vlist w) false (laidW Tryd.prog os text) #[.slice none 0 0, .int .i64 0] 8 rfl (by kernel_rfl) (by kernel_rfl) (by kernel_rfl) (by kernel_rfl) (by kernel_rfl) (laidW_met os _)) ?_
  intro W base args ds gs before hval0 hW _ _ hL _
  have hval : ∀ (j : Nat) t v, Tryd.f3.params[j]? = some t → args[j]? = some v → Value.okWide Tryd.prog W .any base t v := hval0
  have hW' := hW
  obtain ⟨p, q, hA0, hV0, rfl, hfz, hnd⟩ := hW
  have hA : DataW.TrodAll enc Tryd.prog W 0 (fun _ => true) true Tryd.f3.params.toList args.toList ds p := hA0
  have hV : DataW.TrodVars enc Tryd.prog W (fun _ => true) [] gs q := hV0
  obtain ⟨rfl, rfl⟩ : gs = [] ∧ q = [] := by
    cases gs with
    | nil => exact ⟨rfl, hV⟩
    | cons _ _ => exact hV.elim
  rw [Tryd.params3] at hA hval
  obtain ⟨v0, v1, d0, d1, p0, p1, rfl, rfl, rfl, h0, h1⟩ := trodAll_two hA
  have hL' : laidMet Tryd.prog vlist W := hL
  have hT := tab_of_laid hL'
  obtain ⟨x1, rfl, rfl, rfl, w1⟩ := open_int Tryd.underlying3 (hval 1 3 v1 rfl rfl) h1
  obtain ⟨a, len, cap, rfl⟩ := okWide_slice Tryd.underlying22 (hval 0 22 v0 rfl rfl)
  have k0 := h0
  have lt0 : ∀ x ∈ p0, x.block < W.heap.size := by obtain ⟨m, hm⟩ := k0; exact DataW.trod_lt m _ _ _ hm
  obtain ⟨f0, hf0⟩ := h0
  obtain ⟨hl1, hl2, o0⟩ := opened Tryd.underlying22 (by kernel_rfl) (by simpa [Value.cells] using hf0)
  have hsz : 2 ≤ W.heap.size := by
    have h5 := hT.cell powGlobal 0 (by decide)
    have := block_lt_of_cell h5
    exact this
  obtain ⟨z, hz⟩ := Go.Deep.choose_lt (α := Option Addr × Nat × List UInt8) (p := fun k z => ∃ b off, a = some ⟨b, off, none⟩ ∧ b < W.heap.size ∧ W.cell? ⟨b, off + k, none⟩ = some (.slice z.1 z.2.2.length z.2.1) ∧ z.2.2.length ≤ z.2.1 ∧ z.2.1 ≤ maxLen ∧ Rd W W.heap.size z.1 z.2.2) (n := len) (fun k hk => by
    obtain ⟨b, off, v, n, y, e1, e2, e3, e4⟩ := o0 k hk
    obtain ⟨z, rfl, e5, e6, e7⟩ := item e4
    exact ⟨z, b, off, e1, e2, e3, e5, e6, e7⟩)
  have hH : Hdrs W W.heap.size a len (fun i => (z i).1) (fun i => (z i).2.2.length) (fun i => (z i).2.1) := by
    by_cases h0 : len = 0
    · exact .inl h0
    · obtain ⟨b, off, ha, hlt, _⟩ := hz 0 (by omega)
      refine .inr ⟨b, off, ha, hlt, fun i hi => ?_⟩
      obtain ⟨b', off', ha', _, hc', _⟩ := hz i hi
      rw [ha] at ha'
      cases ha'
      exact hc'
  have hx1 : -9223372036854775808 ≤ x1 ∧ x1 ≤ 9223372036854775807 := by
    simp [Lit.wf] at w1
    have e1 : IntKind.i64.min = -9223372036854775808 := by decide
    have e2 : IntKind.i64.max = 9223372036854775807 := by decide
    omega
  have hcall := law_all a len cap x1 (fun i => (z i).1) (fun i => (z i).2.1) (fun i => (z i).2.2) W hsz hT hl1 (by unfold maxLen at hl2; exact hl2) hx1.1 hx1.2 hH
    (fun i hi => by obtain ⟨_, _, _, _, _, h5, h6, _⟩ := hz i hi; unfold maxLen at h6; exact ⟨h5, h6⟩) (fun i hi => by obtain ⟨_, _, _, _, _, _, _, h7⟩ := hz i hi; exact h7)
  clear hA0 hval0
  refine hcall.mono ?_
  rintro e W' ⟨rfl, bel⟩
  exact ⟨_, rfl, _, _, _, [], _, [], hW', trodAll_mk1 (shut_bool Tryd.underlying4 _), trodAll_mk2 (WideElems.Trod_stays laidOut (by kernel_rfl) (of_decide_eq_true (by kernel_rfl)) k0 (fun x hx => bel.same (lt0 x hx)) (fun x hx => by simpa using lt0 x hx)) (shut_int Tryd.underlying3 w1),
    rfl, bel.kept _, fun h => by cases h⟩

theorem row_holds : Rows.FnArrayOfJoinedItemsJoinsTheirBodiesSaid :=
  OpenClaim.holds_of_wide 3 Tryd.f3 rfl rfl rfl rfl rfl rfl rfl ⟨rfl, rfl, rfl, rfl, rfl⟩ rfl rfl rfl rfl rfl (by kernel_rfl) Tryd.func3 (by kernel_rfl)
    (of_decide_eq_true (by kernel_rfl)) (by unfold Func.isWrapper; rw [if_neg (of_decide_eq_false (by kernel_rfl))]; exact ⟨rfl, rfl⟩)
    (fun os started H enc _ => lifted os started H enc)

theorem named3 : Tryd.prog.funcNamed Rows.fnArrayOfJoinedItemsJoinsTheirBodiesRow.func = some 3 := by kernel_rfl

/-- ████ THE STATEMENT ████ -/
theorem proved : Rows.FnArrayOfJoinedItemsJoinsTheirBodiesCardSaid :=
  Claim7.holds_tied_plain_at .later [] [.data, .data, .data, .sentinel] true (true, "3166a9ca646f438177710d9fe35fce3c22ec90b615e209d261b846879b223e85") true
    row_holds (fun _ h => by cases h) (by kernel_rfl) (fun _ h => by cases h) fnArrayOfJoinedItemsJoinsTheirBodies_row_tie rfl ⟨rfl, rfl⟩ (by kernel_rfl) rfl
    (fun f fn hf hfn => by
      obtain rfl : f = 3 := Option.some.inj (named3.symm.trans hf) |>.symm
      obtain rfl : fn = Tryd.f3 := (Option.some.inj (Tryd.func3.symm.trans hfn)).symm
      exact ⟨by kernel_rfl, fun j t ht => by
        rw [Tryd.params3] at ht
        match j, ht with
        | 0, ht => obtain rfl : t = 22 := by simpa using ht.symm
                   exact (show Tryd.prog.wantsStandIn 22 = false by kernel_rfl)
        | 1, ht => obtain rfl : t = 3 := by simpa using ht.symm
                   exact (show Tryd.prog.wantsStandIn 3 = false by kernel_rfl)
        | j + 2, ht => simp at ht⟩)
    (by kernel_rfl)
#print axioms proved
end Go.Proofs.Qxb6616245aDoor
