import Derived.Test.Qxb6616245aDoorItoa
import Derived.Laws.OwnMore
namespace Go.Proofs.Qxb6616245aDoor
open Go.RowKit

theorem own_fr {w w' : World} {B n : Nat} {v : Value} {xs : List Value} (h : w.ownsRow B 5 1 v n xs) (fr : Fr (fun _ => False) w w') : w'.ownsRow B 5 1 v n xs := by
  refine ⟨h.1, h.2.imp id ?_⟩
  rintro ⟨g, cap, cur, h1, h2, h3, h4⟩
  exact ⟨g, cap, cur, h1, h2, (fr.block g (Lib.lt_of_heap h3) id).trans h3, h4⟩
theorem own_grown {w0 w w' : World} {B n : Nat} {v : Value} {xs : List Value} (fr : Fr (fun k => B ≤ k) w0 w) (h : w.ownsRow B 5 1 v n xs) (g : w.grownBy w' v.ownBlock) : Fr (fun k => B ≤ k) w0 w' := by
  refine fr.trans (Y := fun k => v.ownBlock = some k) ⟨g.os, g.output, g.size, fun k hk hn => g.block k hk (fun e => hn e.symm)⟩ ?_
  intro i _ e
  rcases h.2 with ⟨rfl, _⟩ | ⟨g', cap, cur, rfl, hb, _⟩
  · cases e
  · cases e; exact hb
theorem own_got {w w' : World} {v : Value} {x : List UInt8} {n : Nat} (h : w'.ownsRow w.heap.size 5 1 v n (Lib.byteCells x)) (hn : 1 ≤ n) (fr : Fr (fun k => w.heap.size ≤ k) w w') : Got w w' v x := by
  have hl : x.length = n := by have := h.1; rw [Lib.byteCells_length] at this; omega
  subst hl
  rcases h.2 with ⟨_, h0⟩ | ⟨g, cap, cur, rfl, hb, hg, hle, hm, hs, ht⟩
  · omega
  · rw [Nat.mul_one] at ht
    exact ⟨g, cap, rfl, hle, rd_row (c := cap) hg ht hle, fr⟩

theorem lit_cells (W : World) (xs : List UInt8) (T : TypeId := 5) : ∀ j u, (Lib.byteCells xs)[j]? = some u → (W.alloc (.cells (Lib.byteCells xs).toArray T)).cell? ((⟨W.heap.size, 0, none⟩ : Addr).add j) = some u := by
  intro j u hj
  rw [Lib.addr_add, Nat.zero_add, World.cell?_alloc_new, List.getElem?_toArray]
  exact hj

/-- The header. -/
def hdr (n : Nat) : List UInt8 := [42] ++ Lib.decDigits n ++ [13, 10]

set_option maxHeartbeats 2000000 in
theorem zzHeader (u : Nat) (hu : u ≤ 4096) (w : World) : Calls Tryd.prog 7 #[.int .i64 u] w fun e w' => ∃ v, e = .returned v ∧ Got w w' v (hdr u) := by
  obtain ⟨i0, hi, hz, hsz, hby⟩ := info5
  have HO1 : Hid ((w.alloc (.cells #[.int .u8 42] 5)).ownsRow w.heap.size 5 1 (.slice (some ⟨w.heap.size, 0, none⟩) 1 1) 1 (Lib.byteCells [42])) := World.ownsRow_lit w #[.int .u8 42] 1 (Nat.le_refl _) (by decide) rfl
  have HDG : Hid ((Lib.decDigits u).length ≤ 20 ∧ 1 ≤ (Lib.decDigits u).length) := ⟨digits_le u (by omega), by rw [Lib.decDigits_length]; exact Lib.nDigits_pos u⟩
  go_enter Tryd.func7, Tryd.ntmps7
  go_wp2_with (first
    | (go_at_call 14
       refine (zzItoa u hu _).mono ?_
       rintro e w1 ⟨v1, rfl, g1, arr, rfl, hg1, harr, hge, hfr⟩
       have HO2 : Hid (w1.ownsRow w.heap.size 5 1 (.slice (some ⟨w.heap.size, 0, none⟩) 1 1) 1 (Lib.byteCells [42])) := own_fr HO1.out hfr
       have HF2 : Hid (Fr (fun k => w.heap.size ≤ k) w w1) := ((Fr.refl _ w).alloc _).trans hfr (fun _ _ f => f.elim)
       have HC2 : Hid (∀ j v, (Lib.byteCells (Lib.decDigits u))[j]? = some v → w1.cell? ((⟨g1, 0, none⟩ : Addr).add j) = some v) := by
         intro j v hj
         rw [Lib.addr_add, Nat.zero_add, Lib.cell_of_heap hg1, ← Array.getElem?_toList, harr]
         exact hj
       clear hg1 harr hge hfr)
    | (at_builtin
       refine wpList_append_own _ rfl (.tmp 5) (.tmp 7) 25 rfl w.heap.size 5 i0 (.int .u8 0) 1 1 Tryd.underlying25 hi hz hsz hby rfl (by decide) _ 1 (Lib.byteCells [42]) rfl HO2.out ⟨g1, 0, none⟩ (Lib.decDigits u).length (Lib.decDigits u).length (Lib.byteCells (Lib.decDigits u)) rfl (by rw [Lib.byteCells_length, Nat.mul_one]) HC2.out (Lib.byteCells_one _) (by have := HDG.out; unfold maxLen; omega) (by have := HDG.out; omega) (by have := HF2.out.size; omega) ?_
       intro v3 w3 hown3 hgr3 _
       have HF3 : Hid (Fr (fun k => w.heap.size ≤ k) w w3) := own_grown HF2.out HO2.out hgr3
       have HO3 : Hid (∀ o, (w3.alloc o).ownsRow w.heap.size 5 1 v3 (1 + (Lib.decDigits u).length) (Lib.byteCells [42] ++ Lib.byteCells (Lib.decDigits u))) := fun o => own_fr hown3 ((Fr.refl _ w3).alloc o)
       clear hown3 hgr3)
    | (at_builtin
       refine wpList_append_own _ rfl (.tmp 9) (.tmp 10) 25 rfl w.heap.size 5 i0 (.int .u8 0) 1 1 Tryd.underlying25 hi hz hsz hby rfl (by decide) _ _ _ rfl (HO3.out _) ⟨w3.heap.size, 0, none⟩ 2 2 (Lib.byteCells [13, 10]) rfl rfl (lit_cells w3 [13, 10]) (Lib.byteCells_one _) (by have := HDG.out; unfold maxLen; omega) (by have := HDG.out; omega) (by have := HF3.out.size; simp; omega) ?_
       intro v4 w4 hown4 hgr4 _
       have HF4 : Hid (Fr (fun k => w.heap.size ≤ k) w w4) := own_grown (HF3.out.alloc _) (HO3.out _) hgr4
       have HO4 : Hid (w4.ownsRow w.heap.size 5 1 v4 (1 + (Lib.decDigits u).length + 2) (Lib.byteCells [42] ++ Lib.byteCells (Lib.decDigits u) ++ Lib.byteCells [13, 10])) := hown4
       clear hown4 hgr4))
  go_ret
  refine ⟨v4, rfl, own_got (n := 1 + (Lib.decDigits u).length + 2) ?_ (by omega) HF4.out⟩
  have := HO4.out
  rw [hdr, Lib.byteCells_append, Lib.byteCells_append]
  exact this
end Go.Proofs.Qxb6616245aDoor
