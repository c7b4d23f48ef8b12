import Derived.Test.Qxb6616245aDoorMem
namespace Go.Proofs.Qxb6616245aDoor
open Go.RowKit

set_option maxHeartbeats 1000000 in
/-- Write, where there is room. -/
theorem bufWrite_room (b g l cap : Nat) (lr : Int) (cur : Array Value) (cs : List Value) (pb po n c : Nat) (w : World) (hbk : w.heap[b]? = some (.cells #[.slice (some ⟨g, 0, none⟩) l cap, .int .i64 0, .int .i8 lr] 32 (0, 0)))
    (hg : w.heap[g]? = some (.cells cur 5 (0, 0))) (hcs : cur.size = cap) (hcm : cap ≤ maxLen) (hgb : g ≠ b) (hn : cs.length = n) (h1n : 1 ≤ n) (hpb : pb ≠ b) (hsrc : ∀ j v, cs[j]? = some v → w.cell? ⟨pb, po + j, none⟩ = some v)
    (h1c : ∀ v ∈ cs, v.oneCell' = true) (hroom : l + n ≤ cap) :
    Calls Tryd.prog 55 #[.pointer (some ⟨b, 0, none⟩), .slice (some ⟨pb, po, none⟩) n c] w fun e w' => e = .returned (.tuple #[.int .i64 n, .nilIface]) ∧
      w' = ((w.setCell ⟨b, 2, none⟩ (.int .i8 0)).setCell ⟨b, 0, none⟩ (.slice (some ⟨g, 0, none⟩) (l + n) cap)).setRow g (cur.toList.take l ++ (cs ++ cur.toList.drop (l + cs.length))).toArray := by
  have c2 : w.cell? ⟨b, 2, none⟩ = some (.int .i8 lr) := by rw [Lib.cell_of_heap hbk]; rfl
  have f2 : w.frozen? ⟨b, 2, none⟩ = false := Lib.frozen_of_heap hbk 2
  have hb1 : (w.setCell ⟨b, 2, none⟩ (.int .i8 0)).heap[b]? = some (.cells #[.slice (some ⟨g, 0, none⟩) l cap, .int .i64 0, .int .i8 0] 32 (0, 0)) := by rw [heap_setCell hbk]; rfl
  have c0 : (w.setCell ⟨b, 2, none⟩ (.int .i8 0)).cell? ⟨b, 0, none⟩ = some (.slice (some ⟨g, 0, none⟩) l cap) := by rw [Lib.cell_of_heap hb1]; rfl
  have f0 : (w.setCell ⟨b, 2, none⟩ (.int .i8 0)).frozen? ⟨b, 0, none⟩ = false := Lib.frozen_of_heap hb1 0
  have HW : Hid (((w.setCell ⟨b, 2, none⟩ (.int .i8 0)).setCell ⟨b, 0, none⟩ (.slice (some ⟨g, 0, none⟩) (l + n) cap)).heap[g]? = some (.cells cur 5 (0, 0))) := by
    show _ = _
    rw [Below.heap_setCell _ _ _ _ hgb, Below.heap_setCell _ _ _ _ hgb]; exact hg
  have hd0 : ((w.setCell ⟨b, 2, none⟩ (.int .i8 0)).setCell ⟨b, 0, none⟩ (.slice (some ⟨g, 0, none⟩) (l + n) cap)).cell? ⟨b, 0, none⟩ = some (.slice (some ⟨g, 0, none⟩) (l + n) cap) := World.cell?_setCell_same _ _ _ c0
  have HS : Hid (∀ j v, cs[j]? = some v → ((w.setCell ⟨b, 2, none⟩ (.int .i8 0)).setCell ⟨b, 0, none⟩ (.slice (some ⟨g, 0, none⟩) (l + n) cap)).cell? ((⟨pb, po, none⟩ : Addr).add j) = some v) := by
    intro j v hj
    rw [Lib.addr_add, World.cell?_of_block (w := w) (by rw [Below.heap_setCell _ _ _ _ hpb, Below.heap_setCell _ _ _ _ hpb])]
    exact hsrc j v hj
  have H1 : Hid _ := h1c
  have HN : Hid _ := hn
  have HCS : Hid _ := hcs
  have HCM : Hid _ := hcm
  unfold maxLen at hcm
  clear hsrc h1c hn hcs hb1 hbk hg
  go_enter Tryd.func55, Tryd.ntmps55
  go_wp2_with (first
    | (go_at_call 57; refine (Tryd.Buffer_tryGrow_room b (some ⟨g, 0, none⟩) l cap n _ c0 f0 (by omega) HCM.out (by omega)).mono ?_; rintro e w' ⟨rfl, rfl⟩)
    | (refine wpList_copy_own rfl (.tmp 29) (.tmp 30) 25 25 rfl 5 Tryd.underlying25 size5 g l n (cap - l) ⟨pb, po, none⟩ n c rfl rfl cur 5 HW.out cs ?_ HS.out ?_ H1.out ?_))
  case refine_1 => rw [HN.out]; exact (Nat.min_self n).symm
  case refine_2 => rw [HN.out, HCS.out]; exact hroom
  · go_ret2
    exact ⟨by rw [HN.out]; rfl, rfl⟩

set_option maxHeartbeats 1000000 in
/-- Write, where the buffer must grow: whatever grow does. -/
theorem bufWrite_grow (b l cap0 : Nat) (ao : Option Addr) (lr : Int) (cur0 cs : List Value) (pb po n c : Nat) (w : World) (hbk : w.heap[b]? = some (.cells #[.slice ao l cap0, .int .i64 0, .int .i8 lr] 32 (0, 0)))
    (hlc : l ≤ cap0) (hcm : cap0 ≤ maxLen) (hroom : cap0 - l < n) (hn : cs.length = n) (h1n : 1 ≤ n) (hpb : pb ≠ b) (hplt : pb < w.heap.size) (hsrc : ∀ j v, cs[j]? = some v → w.cell? ⟨pb, po + j, none⟩ = some v)
    (h1c : ∀ v ∈ cs, v.oneCell' = true)
    (hgrow : Calls Tryd.prog 58 #[.pointer (some ⟨b, 0, none⟩), .int .i64 n] (w.setCell ⟨b, 2, none⟩ (.int .i8 0)) fun e w' => e = .returned (.int .i64 l) ∧ ∃ cap2 cells, Grew (w.setCell ⟨b, 2, none⟩ (.int .i8 0)) b l n cur0 0 w' cap2 cells) :
    Calls Tryd.prog 55 #[.pointer (some ⟨b, 0, none⟩), .slice (some ⟨pb, po, none⟩) n c] w fun e w' => e = .returned (.tuple #[.int .i64 n, .nilIface]) ∧
      ∃ w1 cap2 cells, Grew (w.setCell ⟨b, 2, none⟩ (.int .i8 0)) b l n cur0 0 w1 cap2 cells ∧ w' = w1.setRow w.heap.size (cells.toList.take l ++ (cs ++ cells.toList.drop (l + cs.length))).toArray := by
  have c2 : w.cell? ⟨b, 2, none⟩ = some (.int .i8 lr) := by rw [Lib.cell_of_heap hbk]; rfl
  have f2 : w.frozen? ⟨b, 2, none⟩ = false := Lib.frozen_of_heap hbk 2
  have hb1 : (w.setCell ⟨b, 2, none⟩ (.int .i8 0)).heap[b]? = some (.cells #[.slice ao l cap0, .int .i64 0, .int .i8 0] 32 (0, 0)) := by rw [heap_setCell hbk]; rfl
  have c0 : (w.setCell ⟨b, 2, none⟩ (.int .i8 0)).cell? ⟨b, 0, none⟩ = some (.slice ao l cap0) := by rw [Lib.cell_of_heap hb1]; rfl
  have hsz : (w.setCell ⟨b, 2, none⟩ (.int .i8 0)).heap.size = w.heap.size := by simp [World.setCell]
  have HSZ : Hid _ := hsz
  have HGW : Hid (Calls Tryd.prog 58 #[.pointer (some ⟨b, 0, none⟩), .int .i64 n] (w.setCell ⟨b, 2, none⟩ (.int .i8 0)) fun e w' => e = .returned (.int .i64 l) ∧ ∃ cap2 cells, Grew (w.setCell ⟨b, 2, none⟩ (.int .i8 0)) b l n cur0 0 w' cap2 cells) := hgrow
  have HSR : Hid _ := hsrc
  have H1 : Hid _ := h1c
  have HN : Hid _ := hn
  have HCM : Hid _ := hcm
  have HPL : Hid _ := hplt
  clear hgrow hsrc h1c hn hcm hb1 hbk hsz hplt
  go_enter Tryd.func55, Tryd.ntmps55
  go_wp2_with (first
    | (go_at_call 57; refine (Tryd.Buffer_tryGrow_none b ao l cap0 n _ c0 hlc HCM.out hroom).mono ?_; rintro e w' ⟨rfl, rfl⟩)
    | (go_at_call 58; refine HGW.out.mono ?_))
  rintro e w1 ⟨rfl, cap2, cells, hG⟩
  have hb2 := hG.hb
  rw [HSZ.out] at hb2
  have d0 : w1.cell? ⟨b, 0, none⟩ = some (.slice (some ⟨w.heap.size, 0, none⟩) (l + n) cap2) := by rw [Lib.cell_of_heap hb2]; rfl
  have HR : Hid (w1.heap[w.heap.size]? = some (.cells cells 5 (0, 0))) := by have := hG.hr; rw [HSZ.out] at this; exact this
  have hl2 : l + n ≤ cap2 := hG.hl
  have hm2 : cap2 ≤ 9223372036854775807 := hG.hm
  have HCZ : Hid (cells.size = cap2) := hG.hs
  have HS : Hid (∀ j v, cs[j]? = some v → w1.cell? ((⟨pb, po, none⟩ : Addr).add j) = some v) := by
    intro j v hj
    rw [Lib.addr_add, hG.fr.cell (p := ⟨pb, po + j, none⟩) (by rw [HSZ.out]; exact HPL.out) hpb, World.cell?_of_block (w := w) (Below.heap_setCell _ _ _ _ hpb)]
    exact HSR.out j v hj
  have HG : Hid _ := hG
  clear hG hb2
  go_wp2_with (refine wpList_copy_own rfl (.tmp 29) (.tmp 30) 25 25 rfl 5 Tryd.underlying25 size5 w.heap.size l n (cap2 - l) ⟨pb, po, none⟩ n c rfl rfl cells 5 HR.out cs ?_ HS.out ?_ H1.out ?_)
  case refine_1 => rw [HN.out]; exact (Nat.min_self n).symm
  case refine_2 => rw [HN.out, HCZ.out]; exact hl2
  · go_ret2
    exact ⟨by rw [HN.out]; rfl, w1, cap2, cells, HG.out, rfl⟩
end Go.Proofs.Qxb6616245aDoor
