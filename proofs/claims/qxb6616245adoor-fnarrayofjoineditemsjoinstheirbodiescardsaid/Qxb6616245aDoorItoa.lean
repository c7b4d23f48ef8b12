import Derived.Test.Qxb6616245aDoorZz
namespace Go.Proofs.Qxb6616245aDoor
open Go.RowKit

/-- The digits still to come. -/
def dd (u : Nat) : List UInt8 := if u = 0 then [] else Lib.decDigits u
theorem dd_step {u : Nat} (h : 0 < u) : dd u = dd (u / 10) ++ [UInt8.ofNat (48 + u % 10)] := by
  unfold dd
  rw [if_neg (by omega), Lib.decDigits]
  by_cases h10 : u < 10
  · rw [dif_pos h10, if_pos (by omega), Nat.mod_eq_of_lt h10]; rfl
  · rw [dif_neg h10, if_neg (by omega)]

/-- What zzItoa hands back. -/
def ItoaOut (w w' : World) (v : Value) (x : List UInt8) : Prop :=
  ∃ (g : Nat) (arr : Array Value), v = .slice (some ⟨g, 0, none⟩) x.length x.length ∧ w'.heap[g]? = some (.cells arr 5 (0, 0)) ∧ arr.toList = Lib.byteCells x ∧ w.heap.size ≤ g ∧ Fr (fun _ => False) w w'

/-- The loop's relation: u is left, i the place; the row bl holds the digits from i on. -/
def Li (w : World) (bl : Nat) (all : List UInt8) (gk : Nat) (nv iv : Value) (wr : World) : Prop :=
  ∃ (u i : Nat) (arr : List Value) (suf : List UInt8), nv = .int .i64 u ∧ iv = .int .i64 i ∧ u ≤ gk ∧ u ≤ 4096 ∧ wr.heap[bl]? = some (.cells arr.toArray 53 (0, 0)) ∧ arr.length = 24 ∧ i + suf.length = 24 ∧ arr.drop i = Lib.byteCells suf ∧ dd u ++ suf = all ∧ Fr (fun k => k = bl) w wr

theorem drop_set {α : Type} {arr : List α} {i : Nat} {x : α} (h : i < arr.length) : (arr.set i x).drop i = x :: arr.drop (i + 1) := by
  rw [List.drop_eq_getElem_cons (by simpa using h), List.getElem_set_self, List.drop_set_of_lt (by omega)]

set_option maxHeartbeats 2000000 in
theorem zzItoa (u : Nat) (hu : u ≤ 4096) (w : World) : Calls Tryd.prog 14 #[.int .i64 u] w fun e w' => ∃ v, e = .returned v ∧ ItoaOut w w' v (Lib.decDigits u) := by
  by_cases h0 : u = 0
  · subst h0
    go_enter Tryd.func14, Tryd.ntmps14
    go_wp2
    go_ret
    refine ⟨_, rfl, w.heap.size, #[.int .u8 48], ?_, blockTop _ _ _ rfl, ?_, Nat.le_refl _, (Fr.refl _ w).alloc _⟩
    · rw [Lib.decDigits_length, Lib.nDigits_small (by decide)]; rfl
    · rw [Lib.decDigits, dif_pos (by decide)]; rfl
  · have hall : dd u = Lib.decDigits u := if_neg h0
    have hz24 : (Lib.zeros24.toList).length = 24 := rfl
    have H0 : Hid (Li (w.alloc (.cells Lib.zeros24 53)) w.heap.size (Lib.decDigits u) u (.int .i64 u) (.int .i64 24) (w.alloc (.cells Lib.zeros24 53))) :=
      ⟨u, 24, Lib.zeros24.toList, [], rfl, rfl, Nat.le_refl _, hu, blockTop _ _ _ rfl, hz24, rfl, rfl, by rw [hall]; simp, Fr.refl _ _⟩
    have HND : Hid ((Lib.decDigits u).length ≤ 20) := digits_le u (by omega)
    have hui : (u : Int) ≤ 4096 := by omega
    have hup : ¬ (u : Int) = 0 := by omega
    have hal := info53
    clear hall hz24
    go_enter Tryd.func14, Tryd.ntmps14
    go_wp2
    go_loopg [0, 4] u (fun gk nv iv wr => Li (w.alloc (.cells Lib.zeros24 53)) w.heap.size (Lib.decDigits u) gk nv iv wr)
    case atStart => exact H0.out
    case round =>
      obtain ⟨t, i, arr, suf, rfl, rfl, htk, ht, hb, hl, his, hd, hdd, hfr⟩ := hrel
      have hi24 : i ≤ 24 := by omega
      by_cases htz : t = 0
      · subst htz
        have hsuf : suf = Lib.decDigits u := by simpa [dd] using hdd
        have hsl := HND.out
        have hs1 : 1 ≤ suf.length := by rw [hsuf, Lib.decDigits_length]; exact Lib.nDigits_pos u
        rw [← hsuf] at hsl
        obtain ⟨k, hk⟩ : ∃ k, k = suf.length := ⟨_, rfl⟩
        have hmk : ∀ W, (Instr.makeSlice 25 (.int .i64 (24 - (i : Int))) (.int .i64 (24 - (i : Int)))).run Tryd.prog W = .ok (.slice (some ⟨W.heap.size, 0, none⟩) k k) (W.alloc (.cells (madeCells #[.int .u8 0] k) 5)) := fun W => by
          have := makeBytes k k (Nat.le_refl _) (by omega) W
          rw [show (24 - (i : Int)) = (k : Int) by omega]
          exact this
        have hsc : ∀ W, (Instr.sliceAt 53 (.pointer (some ⟨w.heap.size, 0, none⟩)) (some (.int .i64 (i : Int))) none none).run Tryd.prog W = .ok (.slice (some ⟨w.heap.size, i, none⟩) k k) W := fun W => by
          rw [run_sliceAt_array_l W 53 ⟨w.heap.size, 0, none⟩ (by simp [Program.arrayLen, Program.elem, Tryd.underlying53]) .i64 (i : Int) (by omega) (by rw [hal]; omega)]
          rw [hal, show k = 24 - i by omega]
          have hne : ¬ 24 = i := by omega
          go_simp
        have HB : Hid (wr.heap[w.heap.size]? = some (.cells arr.toArray 53 (0, 0))) := hb
        have HCS : Hid (∀ j v, (Lib.byteCells suf)[j]? = some v → (wr.alloc (.cells (madeCells #[.int .u8 0] k) 5)).cell? ((⟨w.heap.size, i, none⟩ : Addr).add j) = some v) := by
          intro j v hj
          rw [Lib.addr_add, World.cell?_of_block (w := wr) (a := ⟨w.heap.size, i + j, none⟩) (Below.heap_alloc wr _ _ (Lib.lt_of_heap hb)), Lib.cell_of_heap hb, List.getElem?_toArray]
          rw [← hd, List.getElem?_drop] at hj
          exact hj
        have HTOP : Hid ((wr.alloc (.cells (madeCells #[.int .u8 0] k) 5)).heap[wr.heap.size]? = some (.cells (madeCells #[.int .u8 0] k) 5 (0, 0))) := blockTop _ _ _ rfl
        have HSF : Hid (suf = Lib.decDigits u) := hsuf
        have HK : Hid (k = suf.length) := hk
        have HFR : Hid (Fr (fun k => k = w.heap.size) (w.alloc (.cells Lib.zeros24 53)) wr) := hfr
        have hik : i + k = 24 := by omega
        have hi0 : (i : Int) < 24 := by omega
        have hcl : (Lib.byteCells suf).length = k := by rw [Lib.byteCells_length, hk]
        clear hb hd hdd hl hfr his hsuf hk hsl hs1
        go_wp2_with (refine wpList_copy_own rfl (.tmp 24) (.tmp 26) 25 25 rfl 5 Tryd.underlying25 size5 wr.heap.size 0 k k ⟨w.heap.size, i, none⟩ k k rfl rfl (madeCells #[.int .u8 0] k) 5 HTOP.out (Lib.byteCells suf) ?_ HCS.out ?_ (Lib.byteCells_one _) ?_)
        case refine_1 => rw [hcl]; exact (Nat.min_self k).symm
        case refine_2 => rw [hcl, size_madeCells]; simp
        · go_ret
          have hsz1 : w.heap.size < wr.heap.size := by
            have := HFR.out.size
            have e : (w.alloc (.cells Lib.zeros24 53)).heap.size = w.heap.size + 1 := by simp
            omega
          have hms : (madeCells #[.int .u8 0] k).size = k := (size_madeCells _ _).trans (by simp)
          have hF0 : Fr (fun k => w.heap.size ≤ k) w wr := ((Fr.refl _ w).alloc _).trans HFR.out (fun i _ e => by show w.heap.size ≤ i; omega)
          refine ⟨_, rfl, wr.heap.size, _, ?_, setRow_heap _ _ _ _ _ _ HTOP.out, ?_, by omega, ?_⟩
          · rw [← HSF.out, ← HK.out]; rfl
          · rw [← HSF.out]
            simp [hms]
          · refine Fr.mono (X := fun k => w.heap.size ≤ k) ?_ (fun i hi e => by omega)
            exact (hF0.alloc _).setRow (fun h => absurd h (by omega)) _
      · have hlen := congrArg List.length hdd
        have hi1 : 1 ≤ i := by
          rw [dd_step (u := t) (by omega)] at hlen
          have := HND.out
          simp only [List.length_append, List.length_cons, List.length_nil] at hlen
          omega
        have hcell : wr.cell? ⟨w.heap.size, i - 1, none⟩ = some (arr[i - 1]'(by omega)) := by
          rw [Lib.cell_of_heap hb, List.getElem?_toArray, List.getElem?_eq_getElem (by omega)]
        have hfz : wr.frozen? ⟨w.heap.size, i - 1, none⟩ = false := Lib.frozen_of_heap hb (i - 1)
        have HB : Hid (wr.heap[w.heap.size]? = some (.cells arr.toArray 53 (0, 0))) := hb
        have HD : Hid (arr.drop i = Lib.byteCells suf) := hd
        have HDD : Hid (dd t ++ suf = Lib.decDigits u) := hdd
        have HL : Hid (arr.length = 24) := hl
        have HFR : Hid (Fr (fun k => k = w.heap.size) (w.alloc (.cells Lib.zeros24 53)) wr) := hfr
        have hti : (t : Int) ≤ 4096 := by omega
        have htp : (0 : Int) < t := by omega
        have hii : (1 : Int) ≤ i := by omega
        have hi24' : (i : Int) ≤ 24 := by omega
        obtain ⟨y, hy⟩ : ∃ y, y = arr[i - 1]'(by omega) := ⟨_, rfl⟩
        rw [← hy] at hcell
        clear hb hd hdd hl hfr hlen hy
        obtain ⟨i, rfl⟩ : ∃ j, i = j + 1 := ⟨i - 1, by omega⟩
        simp only [Nat.add_sub_cancel] at hcell hfz
        go_wp2
        go_roundg (t / 10)
        case measure => omega
        case rel =>
          have hbyte : (((UInt8.ofNat (48 + t % 10)).toNat : Nat) : Int) = 48 + (t : Int) % 10 := by
            have h1 : (UInt8.ofNat (48 + t % 10)).toNat = 48 + t % 10 := by
              rw [UInt8.toNat_ofNat']
              omega
            rw [h1]
            omega
          have hL := HL.out
          refine ⟨t / 10, i, arr.set i (.int .u8 (48 + (t : Int) % 10)), UInt8.ofNat (48 + t % 10) :: suf, by simp, rfl, Nat.le_refl _, by omega, ?_, by simpa using hL, by simp; omega, ?_, ?_, ?_⟩
          · rw [heap_setCell HB.out]
            simp
          · rw [drop_set (by omega), HD.out, ← hbyte]
            rfl
          · rw [← HDD.out, dd_step (u := t) (by omega)]
            simp
          · exact HFR.out.setCell (p := ⟨w.heap.size, i, none⟩) (fun _ => rfl) _
end Go.Proofs.Qxb6616245aDoor
