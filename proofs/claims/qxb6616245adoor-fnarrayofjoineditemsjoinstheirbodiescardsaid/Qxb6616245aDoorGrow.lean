import Derived.Test.Qxb6616245aDoorMem
namespace Go.Proofs.Qxb6616245aDoor
open Go.RowKit

set_option maxHeartbeats 2000000 in
/-- grow on a nil buffer, a long need. -/
theorem grow_big (b n : Nat) (lr : Int) (w : World) (hbk : w.heap[b]? = some (.cells #[.slice none 0 0, .int .i64 0, .int .i8 lr] 32 (0, 0))) (h64 : 64 < n) (hlim : n ≤ 1099511627776) :
    Calls Tryd.prog 58 #[.pointer (some ⟨b, 0, none⟩), .int .i64 n] w fun e w' => e = .returned (.int .i64 0) ∧ ∃ cap2 cells, Grew w b 0 n [] lr w' cap2 cells := by
  have c0 : w.cell? ⟨b, 0, none⟩ = some (.slice none 0 0) := by rw [Lib.cell_of_heap hbk]; rfl
  have c1 : w.cell? ⟨b, 1, none⟩ = some (.int .i64 0) := by rw [Lib.cell_of_heap hbk]; rfl
  have f0 : w.frozen? ⟨b, 0, none⟩ = false := Lib.frozen_of_heap hbk 0
  have f1 : w.frozen? ⟨b, 1, none⟩ = false := Lib.frozen_of_heap hbk 1
  have hlt := Lib.lt_of_heap hbk
  have hnil : ∀ W, (binOp .eql 25 (.slice none 0 0) (.slice none 0 0)).run Tryd.prog W = .ok (.bool true) W := fun W => Lib.run_eql_slice_nil W 25 5 none 0 0 0 0 Tryd.underlying25
  have hwn : IntKind.i64.wrap (n : Int) = n := by rw [IntKind.wrap_i64]; omega
  have HB : Hid _ := hbk
  clear hbk
  go_enter Tryd.func58, Tryd.ntmps58
  go_wp2_with (first
    | (go_at_call 57; refine (Tryd.Buffer_tryGrow_none b none 0 0 n _ ?_ (by omega) (by decide) (by omega)).mono ?_; exact c0; rintro e w' ⟨rfl, rfl⟩)
    | (go_at_call 59; refine (bufLen b 0 0 none _ ?_ ?_ (by decide)).mono ?_; exact c0; exact c1; rintro e w' ⟨rfl, nq, rfl⟩))
  go_region_with (
      go_at_call 60
      refine (Tryd.bytes_growSlice_nil n _ (by omega) (by omega)).mono ?_
      rintro e w2 ⟨cap2, cells, rfl, hN, hcsz, hcap2, hcm2, hbel⟩
      have hbk2 : w2.heap[b]? = some (.cells #[.slice none 0 0, .int .i64 0, .int .i8 lr] 32 (0, 0)) := (hbel.block b (by exact hlt)).trans HB.out
      have d0 : w2.cell? ⟨b, 0, none⟩ = some (.slice none 0 0) := by rw [Lib.cell_of_heap hbk2]; rfl
      have d1 : w2.cell? ⟨b, 1, none⟩ = some (.int .i64 0) := by rw [Lib.cell_of_heap hbk2]; rfl
      have e0 : w2.frozen? ⟨b, 0, none⟩ = false := Lib.frozen_of_heap hbk2 0
      have e1 : w2.frozen? ⟨b, 1, none⟩ = false := Lib.frozen_of_heap hbk2 1
      have HB2 : Hid _ := hbk2
      have HN2 : Hid _ := hN
      have HC2 : Hid _ := hcsz
      have HL2 : Hid _ := hbel
      clear hbk2 hN hcsz hbel)
  all_goals
    go_wp2
    go_ret
    refine ⟨rfl, cap2, cells, ?_⟩
    have hgrew := grew_end (l := 0) (n := n) (v := .slice (some ⟨w.heap.size, 0, none⟩) 0 cap2) hlt HB2.out HN2.out HC2.out (cur := []) (by simp) (by omega) hcm2 HL2.out
    simpa using hgrew

set_option maxHeartbeats 2000000 in
/-- grow on a row without room. -/
theorem grow_row (b g l cap n : Nat) (lr : Int) (cur : Array Value) (w : World) (hbk : w.heap[b]? = some (.cells #[.slice (some ⟨g, 0, none⟩) l cap, .int .i64 0, .int .i8 lr] 32 (0, 0)))
    (hg : w.heap[g]? = some (.cells cur 5 (0, 0))) (hlc : l ≤ cap) (hcm : cap ≤ maxLen) (hcs : cur.size = cap) (hl0 : 1 ≤ l) (h1 : ∀ v ∈ cur.toList.take l, v.oneCell' = true) (hn : 1 ≤ n) (hroom : cap - l < n) (hlim : l + n ≤ 1099511627776) :
    Calls Tryd.prog 58 #[.pointer (some ⟨b, 0, none⟩), .int .i64 n] w fun e w' => e = .returned (.int .i64 l) ∧ ∃ cap2 cells, Grew w b l n (cur.toList.take l) lr w' cap2 cells := by
  have c0 : w.cell? ⟨b, 0, none⟩ = some (.slice (some ⟨g, 0, none⟩) l cap) := by rw [Lib.cell_of_heap hbk]; rfl
  have c1 : w.cell? ⟨b, 1, none⟩ = some (.int .i64 0) := by rw [Lib.cell_of_heap hbk]; rfl
  have f0 : w.frozen? ⟨b, 0, none⟩ = false := Lib.frozen_of_heap hbk 0
  have f1 : w.frozen? ⟨b, 1, none⟩ = false := Lib.frozen_of_heap hbk 1
  have hlt := Lib.lt_of_heap hbk
  have hnil : ∀ W, (binOp .eql 25 (.slice (some ⟨g, 0, none⟩) l cap) (.slice none 0 0)).run Tryd.prog W = .ok (.bool false) W := fun W => Lib.run_eql_slice_nil W 25 5 (some ⟨g, 0, none⟩) l cap 0 0 Tryd.underlying25
  have hwn : IntKind.i64.wrap (n : Int) = n := by rw [IntKind.wrap_i64]; omega
  have hc2 : cap ≤ 2199023255552 := by omega
  have HB : Hid _ := hbk
  have HG : Hid _ := hg
  have HS : Hid _ := hcs
  have H1 : Hid _ := h1
  have HM : Hid _ := hcm
  clear hbk hg hcs h1 hcm
  go_enter Tryd.func58, Tryd.ntmps58
  go_wp2_with (first
    | (go_at_call 57; refine (Tryd.Buffer_tryGrow_none b (some ⟨g, 0, none⟩) l cap n _ ?_ hlc HM.out hroom).mono ?_; exact c0; rintro e w' ⟨rfl, rfl⟩)
    | (go_at_call 59; refine (bufLen b l cap (some ⟨g, 0, none⟩) _ ?_ ?_ (by omega)).mono ?_; exact c0; exact c1; rintro e w' ⟨rfl, nq, rfl⟩))
  go_region_with (
      go_at_call 60
      refine (Tryd.bytes_growSlice_row g l cap n cur _ ?_ HS.out hlc hn (by omega) (by omega) H1.out).mono ?_
      exact HG.out
      rintro e w2 ⟨cap2, cells, rfl, hN, hcsz, htk, hcap2, hcm2, hbel⟩
      have hbk2 : w2.heap[b]? = some (.cells #[.slice (some ⟨g, 0, none⟩) l cap, .int .i64 0, .int .i8 lr] 32 (0, 0)) := (hbel.block b (by exact hlt)).trans HB.out
      have d0 : w2.cell? ⟨b, 0, none⟩ = some (.slice (some ⟨g, 0, none⟩) l cap) := by rw [Lib.cell_of_heap hbk2]; rfl
      have d1 : w2.cell? ⟨b, 1, none⟩ = some (.int .i64 0) := by rw [Lib.cell_of_heap hbk2]; rfl
      have e0 : w2.frozen? ⟨b, 0, none⟩ = false := Lib.frozen_of_heap hbk2 0
      have e1 : w2.frozen? ⟨b, 1, none⟩ = false := Lib.frozen_of_heap hbk2 1
      have HB2 : Hid _ := hbk2
      have HN2 : Hid _ := hN
      have HC2 : Hid _ := hcsz
      have HL2 : Hid _ := hbel
      have HT2 : Hid _ := htk
      clear hbk2 hN hcsz hbel htk)
  all_goals
    go_wp2
    go_ret
    refine ⟨rfl, cap2, cells, ?_⟩
    have hgrew := grew_end (l := l) (n := n) (v := .slice (some ⟨w.heap.size, 0, none⟩) l cap2) hlt HB2.out HN2.out HC2.out HT2.out (by omega) hcm2 HL2.out
    simpa using hgrew
end Go.Proofs.Qxb6616245aDoor
