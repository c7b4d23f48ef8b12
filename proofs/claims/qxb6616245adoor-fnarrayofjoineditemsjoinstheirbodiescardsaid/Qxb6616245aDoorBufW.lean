import Derived.Test.Qxb6616245aDoorBuf
import Derived.Test.Qxb6616245aDoorGrow
namespace Go.Proofs.Qxb6616245aDoor
open Go.RowKit

/-- 'cs' laid behind the first l of L. -/
theorem laid_take {L cs : List Value} {l n : Nat} (hl : l ≤ L.length) (hn : cs.length = n) : (L.take l ++ (cs ++ L.drop (l + cs.length))).take (l + n) = L.take l ++ cs := by
  have h1 : (L.take l).length = l := by simp; omega
  rw [← List.append_assoc, List.take_append_of_le_length (by simp; omega), List.take_of_length_le (by simp; omega)]
theorem laid_len {L cs : List Value} {l : Nat} (hf : l + cs.length ≤ L.length) : (L.take l ++ (cs ++ L.drop (l + cs.length))).length = L.length := by simp; omega

theorem bf_grown {w w1 : World} {b l n cap2 : Nat} {cells : Array Value} {bs cs : List Value} {go : Option Nat} (hblt : b < w.heap.size) (hG : Grew (w.setCell ⟨b, 2, none⟩ (.int .i8 0)) b l n bs 0 w1 cap2 cells) (hbl : bs.length = l) (hn : cs.length = n) (h1n : 1 ≤ n) :
    ∃ g', Bf (w1.setRow w.heap.size (cells.toList.take l ++ (cs ++ cells.toList.drop (l + cs.length))).toArray) b (some g') (bs ++ cs) ∧
      Fr (fun k => k = b ∨ go = some k) w (w1.setRow w.heap.size (cells.toList.take l ++ (cs ++ cells.toList.drop (l + cs.length))).toArray) ∧ (go = some g' ∨ w.heap.size ≤ g') := by
  have hsz : (w.setCell ⟨b, 2, none⟩ (.int .i8 0)).heap.size = w.heap.size := by simp [World.setCell]
  obtain ⟨hb, hr, hs, ht, hl, hm, fr⟩ := hG
  rw [hsz] at hb hr
  have hlen : cells.toList.length = cap2 := by simpa using hs
  refine ⟨w.heap.size, ⟨0, .inr ⟨w.heap.size, cap2, _, rfl, ?_, setRow_heap _ _ _ _ _ _ hr, ?_, ?_, hm, ?_, by omega, by simp; omega⟩⟩, ?_, .inr (Nat.le_refl _)⟩
  · rw [setRow_other _ _ _ _ (by omega), hb]
    simp [hbl, hn]
  · simp; omega
  · simp; omega
  · rw [show (bs ++ cs).length = l + n by simp; omega]
    rw [List.toList_toArray, laid_take (by omega) hn, ht]
  · refine Fr.setRow ?_ (fun h => absurd h (Nat.lt_irrefl _)) _
    refine Fr.trans (X := fun k => k = b ∨ go = some k) (Fr.setCell (X := fun k => k = b ∨ go = some k) (Fr.refl _ w) (p := ⟨b, 2, none⟩) (fun _ => .inl rfl) _) fr ?_
    exact fun i _ h => .inl h

/-- (*bytes.Buffer).Write. -/
theorem bufWrite (b : Nat) (go : Option Nat) (bs cs : List Value) (pb po n c : Nat) (w : World) (h : Bf w b go bs) (hn : cs.length = n) (h1n : 1 ≤ n) (hpb : pb ≠ b) (hplt : pb < w.heap.size)
    (hsrc : ∀ j v, cs[j]? = some v → w.cell? ⟨pb, po + j, none⟩ = some v) (h1 : ∀ v ∈ bs, v.oneCell' = true) (h1c : ∀ v ∈ cs, v.oneCell' = true) (hlim : bs.length + n ≤ 1099511627776) :
    Calls Tryd.prog 55 #[.pointer (some ⟨b, 0, none⟩), .slice (some ⟨pb, po, none⟩) n c] w fun e w' => e = .returned (.tuple #[.int .i64 n, .nilIface]) ∧
      ∃ g', Bf w' b (some g') (bs ++ cs) ∧ Fr (fun k => k = b ∨ go = some k) w w' ∧ (go = some g' ∨ w.heap.size ≤ g') := by
  have hblt := h.lt
  obtain ⟨lr, ⟨rfl, rfl, hbk⟩ | ⟨g, cap, cur, rfl, hbk, hg, hcs, hle, hcm, htk, hgb, hpos⟩⟩ := h
  · have hb1 : (w.setCell ⟨b, 2, none⟩ (.int .i8 0)).heap[b]? = some (.cells #[.slice none 0 0, .int .i64 0, .int .i8 0] 32 (0, 0)) := by rw [heap_setCell hbk]; rfl
    have hgrow : Calls Tryd.prog 58 #[.pointer (some ⟨b, 0, none⟩), .int .i64 n] (w.setCell ⟨b, 2, none⟩ (.int .i8 0)) fun e w' => e = .returned (.int .i64 (0 : Nat)) ∧ ∃ cap2 cells, Grew (w.setCell ⟨b, 2, none⟩ (.int .i8 0)) b 0 n [] 0 w' cap2 cells := by
      by_cases h64 : n ≤ 64
      · exact grow_small b n 0 _ hb1 h1n h64
      · exact grow_big b n 0 _ hb1 (by omega) (by simp at hlim; omega)
    refine (bufWrite_grow b 0 0 none lr [] cs pb po n c w hbk (Nat.le_refl _) (by decide) (by omega) hn h1n hpb hplt hsrc h1c hgrow).mono ?_
    rintro e w' ⟨rfl, w1, cap2, cells, hG, rfl⟩
    exact ⟨rfl, bf_grown hblt hG rfl hn h1n⟩
  · by_cases hroom : bs.length + n ≤ cap
    · refine (bufWrite_room b g bs.length cap lr cur cs pb po n c w hbk hg hcs hcm hgb hn h1n hpb hsrc h1c hroom).mono ?_
      rintro e w' ⟨rfl, rfl⟩
      have hlen : cur.toList.length = cap := by simpa using hcs
      have hb2 : ((w.setCell ⟨b, 2, none⟩ (.int .i8 0)).setCell ⟨b, 0, none⟩ (.slice (some ⟨g, 0, none⟩) (bs.length + n) cap)).heap[b]? = some (.cells #[.slice (some ⟨g, 0, none⟩) (bs.length + n) cap, .int .i64 0, .int .i8 0] 32 (0, 0)) := by
        rw [heap_setCell (heap_setCell hbk)]; rfl
      have hg2 : ((w.setCell ⟨b, 2, none⟩ (.int .i8 0)).setCell ⟨b, 0, none⟩ (.slice (some ⟨g, 0, none⟩) (bs.length + n) cap)).heap[g]? = some (.cells cur 5 (0, 0)) := by
        rw [Below.heap_setCell _ _ _ _ hgb, Below.heap_setCell _ _ _ _ hgb]; exact hg
      refine ⟨rfl, g, ⟨0, .inr ⟨g, cap, _, rfl, ?_, setRow_heap _ _ _ _ _ _ hg2, ?_, by simp; omega, hcm, ?_, hgb, by simp; omega⟩⟩, ?_, .inl rfl⟩
      · rw [setRow_other _ _ _ _ (by omega), hb2]
        simp [hn]
      · simp; omega
      · rw [show (bs ++ cs).length = bs.length + n by simp; omega]
        rw [List.toList_toArray, laid_take (by omega) hn, htk]
      · refine Fr.setRow ?_ (fun _ => .inr rfl) _
        exact Fr.setCell (X := fun k => k = b ∨ some g = some k) (Fr.setCell (X := fun k => k = b ∨ some g = some k) (Fr.refl _ w) (p := ⟨b, 2, none⟩) (fun _ => .inl rfl) _) (p := ⟨b, 0, none⟩) (fun _ => .inl rfl) _
    · have hb1 : (w.setCell ⟨b, 2, none⟩ (.int .i8 0)).heap[b]? = some (.cells #[.slice (some ⟨g, 0, none⟩) bs.length cap, .int .i64 0, .int .i8 0] 32 (0, 0)) := by rw [heap_setCell hbk]; rfl
      have hg1 : (w.setCell ⟨b, 2, none⟩ (.int .i8 0)).heap[g]? = some (.cells cur 5 (0, 0)) := (Below.heap_setCell _ _ _ _ hgb).trans hg
      have hgrow := grow_row b g bs.length cap n 0 cur _ hb1 hg1 hle hcm hcs hpos (by rw [htk]; exact h1) h1n (by omega) hlim
      rw [htk] at hgrow
      refine (bufWrite_grow b bs.length cap (some ⟨g, 0, none⟩) lr bs cs pb po n c w hbk hle hcm (by omega) hn h1n hpb hplt hsrc h1c hgrow).mono ?_
      rintro e w' ⟨rfl, w1, cap2, cells, hG, rfl⟩
      exact ⟨rfl, bf_grown hblt hG rfl hn h1n⟩
end Go.Proofs.Qxb6616245aDoor
