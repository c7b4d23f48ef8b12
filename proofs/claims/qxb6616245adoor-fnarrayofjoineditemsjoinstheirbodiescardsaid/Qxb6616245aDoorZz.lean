import Derived.Test.Qxb6616245aDoorArr
namespace Go.Proofs.Qxb6616245aDoor
open Go.RowKit

theorem assert_no (a : Addr) (W : World) : (Instr.typeAssert (.iface 35 (.pointer (some a))) 45 39 true).run Tryd.prog W = .ok (.tuple #[.pointer none, .bool false]) W := by kernel_rfl

set_option maxHeartbeats 1000000 in
theorem newWriterSize (bb : Nat) (w : World) :
    Calls Tryd.prog 15 #[.iface 35 (.pointer (some ⟨bb, 0, none⟩)), .int .i64 16384] w fun e w' => e = .returned (.pointer (some ⟨w.heap.size + 1, 0, none⟩)) ∧
      w' = (w.alloc (.cells (madeCells #[.int .u8 0] 16384) 5)).alloc (.cells (wcells bb w.heap.size 0) 52) := by
  have hmk : ∀ W, (Instr.makeSlice 25 (.int .i64 16384) (.int .i64 16384)).run Tryd.prog W = .ok (.slice (some ⟨W.heap.size, 0, none⟩) 16384 16384) (W.alloc (.cells (madeCells #[.int .u8 0] 16384) 5)) := fun W => makeBytes 16384 16384 (Nat.le_refl _) (by decide) W
  have hta := assert_no ⟨bb, 0, none⟩
  go_enter Tryd.func15, Tryd.ntmps15
  go_wp2
  go_ret
  exact ⟨rfl, rfl⟩

theorem newWriter (bb : Nat) (w : World) :
    Calls Tryd.prog 10 #[.iface 35 (.pointer (some ⟨bb, 0, none⟩))] w fun e w' => e = .returned (.pointer (some ⟨w.heap.size + 2, 0, none⟩)) ∧
      w' = ((w.alloc (.cells (madeCells #[.int .u8 0] 16384) 5)).alloc (.cells (wcells bb w.heap.size 0) 52)).alloc (.cells #[.pointer (some ⟨w.heap.size + 1, 0, none⟩)] 41) := by
  go_enter Tryd.func10, Tryd.ntmps10
  go_wp2_with (go_at_call 15; refine (newWriterSize bb w).mono ?_; rintro e w' ⟨rfl, rfl⟩)
  go_ret
  exact ⟨rfl, rfl⟩

theorem bytesOf (b g n c : Nat) (lr : Int) (w : World) (hb : w.heap[b]? = some (.cells #[.slice (some ⟨g, 0, none⟩) n c, .int .i64 0, .int .i8 lr] 32 (0, 0))) (hn : n ≤ c) (hp : 1 ≤ n) :
    Calls Tryd.prog 13 #[.pointer (some ⟨b, 0, none⟩)] w fun e w' => e = .returned (.slice (some ⟨g, 0, none⟩) n c) ∧ ∃ k, w' = w.drewN k := by
  have c0 : w.cell? ⟨b, 0, none⟩ = some (.slice (some ⟨g, 0, none⟩) n c) := by rw [Lib.cell_of_heap hb]; rfl
  have c1 : w.cell? ⟨b, 1, none⟩ = some (.int .i64 0) := by rw [Lib.cell_of_heap hb]; rfl
  clear hb
  go_enter Tryd.func13, Tryd.ntmps13
  go_wp2
  go_quiet (fail)
  go_wp2
  go_ret
  exact ⟨rfl, _, rfl⟩

/-- The world with the new writer. -/
def st (w : World) : World := (((w.alloc (.cells #[.slice none 0 0, .int .i64 0, .int .i8 0] 32)).alloc (.cells (madeCells #[.int .u8 0] 16384) 5)).alloc (.cells (wcells w.heap.size (w.heap.size + 1) 0) 52)).alloc (.cells #[.pointer (some ⟨w.heap.size + 2, 0, none⟩)] 41)

theorem st_fr (w : World) : Fr (fun _ => False) w (st w) := ((((Fr.refl _ w).alloc _).alloc _).alloc _).alloc _
theorem st_size (w : World) : (st w).heap.size = w.heap.size + 4 := by simp [st]
theorem st_at (w : World) : (st w).heap[w.heap.size]? = some (.cells #[.slice none 0 0, .int .i64 0, .int .i8 0] 32 (0, 0)) ∧ (st w).heap[w.heap.size + 1]? = some (.cells (madeCells #[.int .u8 0] 16384) 5 (0, 0)) ∧
    (st w).heap[w.heap.size + 2]? = some (.cells (wcells w.heap.size (w.heap.size + 1) 0) 52 (0, 0)) ∧ (st w).heap[w.heap.size + 3]? = some (.cells #[.pointer (some ⟨w.heap.size + 2, 0, none⟩)] 41 (0, 0)) := by
  refine ⟨?_, ?_, ?_, ?_⟩
  · rw [st, Below.heap_alloc _ _ _ (by simp; omega), Below.heap_alloc _ _ _ (by simp; omega), Below.heap_alloc _ _ _ (by simp)]
    exact blockTop _ _ _ rfl
  · rw [st, Below.heap_alloc _ _ _ (by simp), Below.heap_alloc _ _ _ (by simp)]
    exact blockTop _ _ _ (by simp)
  · rw [st, Below.heap_alloc _ _ _ (by simp)]
    exact blockTop _ _ _ (by simp)
  · rw [st]
    exact blockTop _ _ _ (by simp)

theorem rs_start (w : World) : Rs (st w) w.heap.size (w.heap.size + 3) w.heap.size (w.heap.size + 2) (w.heap.size + 1) [] := by
  obtain ⟨h0, h1, h2, h3⟩ := st_at w
  have hs : (madeCells #[.int .u8 0] 16384).size = 16384 := size_madeCells _ _
  obtain ⟨M, hM⟩ : ∃ M, M = madeCells #[.int .u8 0] 16384 := ⟨_, rfl⟩
  rw [← hM] at h1 hs
  refine ⟨0, none, M.toList, [], [], ⟨by omega, by omega, by simp, h2, ?_, ?_, by omega, ?_, by simp [Lib.byteCells]⟩, rfl, h3, by omega, by omega, by omega, by simp⟩
  · rw [Array.toArray_toList]; exact h1
  · rw [Array.length_toList]; exact hs
  · exact ⟨0, .inl ⟨rfl, rfl, h0⟩⟩

theorem encA_len {xs : Nat → List UInt8} {n : Nat} (h : ∀ i, i < n → (xs i).length ≤ 1048576) (hn : n ≤ 4096) : (encA xs n).length ≤ 8589934592 ∧ 1 ≤ (encA xs n).length := by
  have h1 := bodyTo_len h n (Nat.le_refl _)
  have h2 := digits_le n (by omega)
  simp only [encA, List.length_append, List.length_cons, List.length_nil]
  omega

/-- What ZZArrayBytes hands back. -/
def Got (w w' : World) (v : Value) (x : List UInt8) : Prop := ∃ g c, v = .slice (some ⟨g, 0, none⟩) x.length c ∧ x.length ≤ c ∧ Rd w' w'.heap.size (some ⟨g, 0, none⟩) x ∧ Fr (fun k => w.heap.size ≤ k) w w'

theorem rd_row {w : World} {g c : Nat} {cur : Array Value} {x : List UInt8} (hg : w.heap[g]? = some (.cells cur 5 (0, 0))) (ht : cur.toList.take x.length = Lib.byteCells x) (_ : x.length ≤ c) : Rd w w.heap.size (some ⟨g, 0, none⟩) x := by
  refine .inr ⟨g, 0, rfl, Lib.lt_of_heap hg, fun j hj => ?_⟩
  rw [Lib.cell_of_heap hg, Nat.zero_add]
  have := congrArg (fun l : List Value => l[j]?) ht
  simp only [List.getElem?_take, if_pos hj, Array.getElem?_toList] at this
  rw [this]
  simp [Lib.byteCells, hj, List.getD]

set_option maxRecDepth 4000 in
set_option maxHeartbeats 4000000 in
theorem zzArrayBytes (a : Option Addr) (m c : Nat) (ia : Nat → Option Addr) (ic : Nat → Nat) (xs : Nat → List UInt8) (w : World) (hB : 2 ≤ w.heap.size) (ht : Tab w) (hm : m ≤ 4096) (hI : Items w w.heap.size a m ia ic xs) :
    Calls Tryd.prog 6 #[.slice a m c] w fun e w' => ∃ v, e = .returned v ∧ Got w w' v (encA xs m) := by
  have HI : Hid (Items w w.heap.size a m ia ic xs) := hI
  have HT : Hid (Tab w) := ht
  have HE : Hid ((encA xs m).length ≤ 8589934592 ∧ 1 ≤ (encA xs m).length) := encA_len hI.small hm
  clear hI ht
  go_enter Tryd.func6, Tryd.ntmps6
  go_wp2_with (first
    | (go_at_call 10
       refine (newWriter w.heap.size _).mono ?_
       rintro e w1 ⟨rfl, hw1⟩
       have hw2 : w1 = st w := by rw [hw1]; simp [st]
       subst hw2
       clear hw1)
    | (go_at_call 11
       refine (array w.heap.size (w.heap.size + 3) w.heap.size (w.heap.size + 2) (w.heap.size + 1) [] a m c ia ic xs (st w) (rs_start w) hB (by rw [st_size]; omega) (HT.out.fr (st_fr w)) hm (HI.out.fr ((st_fr w).mono (fun _ _ f => f.elim)) (Nat.le_refl _)) (by decide)).mono ?_
       rintro e w2 ⟨rfl, ⟨n, go, cur, done, l, hW, hout, hr, -⟩, hfr⟩
       have r2 : w2.cell? ⟨w.heap.size + 3, 0, none⟩ = some (.pointer (some ⟨w.heap.size + 2, 0, none⟩)) := by rw [Lib.cell_of_heap hr]; rfl
       have HW : Hid (Wr w2 w.heap.size w.heap.size (w.heap.size + 2) (w.heap.size + 1) n go cur done l) := hW
       have HO : Hid (done ++ l = encA xs m) := hout
       have HFR : Hid (Fr (fun k => w.heap.size ≤ k) w w2) := ((st_fr w).mono (fun _ _ f => f.elim)).trans hfr (fun _ _ e => e)
       clear hW hout hr hfr))
  have hend : ∀ (w3 : World) (go : Option Nat), Bf w3 w.heap.size go (Lib.byteCells (encA xs m)) → Fr (fun k => w.heap.size ≤ k) w w3 → ∃ g c lr, w3.heap[w.heap.size]? = some (.cells #[.slice (some ⟨g, 0, none⟩) (encA xs m).length c, .int .i64 0, .int .i8 lr] 32 (0, 0)) ∧ (encA xs m).length ≤ c ∧
      ∀ k, Got w (w3.drewN k) (.slice (some ⟨g, 0, none⟩) (encA xs m).length c) (encA xs m) := by
    rintro w3 go ⟨lr, ⟨_, h2, _⟩ | ⟨g, cap, cur, _, h2, h3, h4, h5, h6, h7, _⟩⟩ hfr
    · have := congrArg List.length h2
      rw [Lib.byteCells_length] at this
      have h9 := HE.out.2
      simp at this
      rw [this] at h9
      simp at h9
    · rw [Lib.byteCells_length] at h2 h5 h7
      exact ⟨g, cap, lr, h2, h5, fun k => ⟨g, cap, rfl, h5, rd_row (w := w3.drewN k) (c := cap) h3 h7 h5, hfr.drewN k⟩⟩
  have HEND : Hid (∀ (w3 : World) (go : Option Nat), Bf w3 w.heap.size go (Lib.byteCells (encA xs m)) → Fr (fun k => w.heap.size ≤ k) w w3 → ∃ g c lr, w3.heap[w.heap.size]? = some (.cells #[.slice (some ⟨g, 0, none⟩) (encA xs m).length c, .int .i64 0, .int .i8 lr] 32 (0, 0)) ∧ (encA xs m).length ≤ c ∧
      ∀ k, Got w (w3.drewN k) (.slice (some ⟨g, 0, none⟩) (encA xs m).length c) (encA xs m)) := hend
  clear hend
  by_cases h0 : n = 0
  · subst h0
    have hl0 : l = [] := List.eq_nil_of_length_eq_zero HW.out.ll
    obtain ⟨g, c', lr, hb, hle, hgot⟩ := HEND.out w2 go (by have := HW.out.buf; rw [← HO.out, hl0, List.append_nil]; exact this) HFR.out
    have HB : Hid (w2.heap[w.heap.size]? = some (.cells #[.slice (some ⟨g, 0, none⟩) (encA xs m).length c', .int .i64 0, .int .i8 lr] 32 (0, 0))) := hb
    have HGT : Hid (∀ k, Got w (w2.drewN k) (.slice (some ⟨g, 0, none⟩) (encA xs m).length c') (encA xs m)) := hgot
    clear hb hgot
    go_wp2_with (first
      | (go_at_call 12; refine (flush_none w.heap.size w.heap.size (w.heap.size + 2) (w.heap.size + 1) go cur done l w2 HW.out).mono ?_; rintro e w3 ⟨rfl, rfl⟩)
      | (go_at_call 13; refine (bytesOf w.heap.size g _ c' lr _ HB.out hle HE.out.2).mono ?_; rintro e w4 ⟨rfl, k, rfl⟩))
    go_ret
    exact ⟨_, rfl, HGT.out k⟩
  · go_at_call 12
    refine (flush_some w.heap.size w.heap.size (w.heap.size + 2) (w.heap.size + 1) n go cur done l w2 HW.out (by omega) ?_).mono ?_
    · have h1 := congrArg List.length HO.out
      have h2 := HE.out.1
      have h3 := HW.out.ll
      simp only [List.length_append] at h1
      omega
    · rintro e w3 ⟨rfl, g', hW3, hfr3, -⟩
      have hfr : Fr (fun k => w.heap.size ≤ k) w w3 := HFR.out.trans hfr3 (by
        rintro i hi (e | e | e)
        · omega
        · omega
        · exact (HW.out.row _ e).1)
      obtain ⟨g, c', lr, hb, hle, hgot⟩ := HEND.out w3 (some g') (by have := hW3.buf; rw [HO.out] at this; exact this) hfr
      have HB : Hid (w3.heap[w.heap.size]? = some (.cells #[.slice (some ⟨g, 0, none⟩) (encA xs m).length c', .int .i64 0, .int .i8 lr] 32 (0, 0))) := hb
      have HGT : Hid (∀ k, Got w (w3.drewN k) (.slice (some ⟨g, 0, none⟩) (encA xs m).length c') (encA xs m)) := hgot
      clear hb hgot hfr hW3 hfr3
      go_wp2_with (go_at_call 13; refine (bytesOf w.heap.size g _ c' lr _ HB.out hle HE.out.2).mono ?_; rintro e w4 ⟨rfl, k, rfl⟩)
      go_ret
      exact ⟨_, rfl, HGT.out k⟩
end Go.Proofs.Qxb6616245aDoor
