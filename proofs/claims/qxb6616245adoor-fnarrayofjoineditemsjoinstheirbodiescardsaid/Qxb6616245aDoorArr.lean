import Derived.Test.Qxb6616245aDoorBulk
import Derived.Test.Qxb6616245aDoorSizes
namespace Go.Proofs.Qxb6616245aDoor
open Go.RowKit

theorem Rd.fr {w w' : World} {B : Nat} {a : Option Addr} {x : List UInt8} (h : Rd w B a x) (fr : Fr (fun k => B ≤ k) w w') (hB : B ≤ w.heap.size) : Rd w' B a x := by
  rcases h with h | ⟨b, o, rfl, hlt, hc⟩
  · exact .inl h
  · refine .inr ⟨b, o, rfl, hlt, fun j hj => ?_⟩
    rw [World.cell?_of_block (w := w) (a := ⟨b, o + j, none⟩) (fr.block b (by omega) (by omega))]
    exact hc j hj

/-- The items: n slices, the bytes of each. -/
structure Items (w : World) (B : Nat) (a : Option Addr) (n : Nat) (ia : Nat → Option Addr) (ic : Nat → Nat) (xs : Nat → List UInt8) : Prop where
  hdr : Hdrs w B a n ia (fun i => (xs i).length) ic
  cap : ∀ i, i < n → (xs i).length ≤ ic i ∧ ic i ≤ 9223372036854775807
  small : ∀ i, i < n → (xs i).length ≤ 1048576
  rd : ∀ i, i < n → Rd w B (ia i) (xs i)

theorem Items.fr {w w' : World} {B : Nat} {a : Option Addr} {n : Nat} {ia : Nat → Option Addr} {ic : Nat → Nat} {xs : Nat → List UInt8} (h : Items w B a n ia ic xs) (fr : Fr (fun k => B ≤ k) w w') (hB : B ≤ w.heap.size) : Items w' B a n ia ic xs := by
  refine ⟨?_, h.cap, h.small, fun i hi => (h.rd i hi).fr fr hB⟩
  rcases h.hdr with h0 | ⟨b, o, rfl, hlt, hc⟩
  · exact .inl h0
  · refine .inr ⟨b, o, rfl, hlt, fun i hi => ?_⟩
    rw [World.cell?_of_block (w := w) (a := ⟨b, o + i, none⟩) (fr.block b (by omega) (by omega))]
    exact hc i hi

/-- The first k items, as they go over. -/
def bodyTo (xs : Nat → List UInt8) : Nat → List UInt8
  | 0 => []
  | k + 1 => bodyTo xs k ++ encB (xs k)
/-- The whole array. -/
def encA (xs : Nat → List UInt8) (n : Nat) : List UInt8 := [42] ++ Lib.decDigits n ++ [13, 10] ++ bodyTo xs n

theorem bodyTo_len {xs : Nat → List UInt8} {n : Nat} (h : ∀ i, i < n → (xs i).length ≤ 1048576) : ∀ k, k ≤ n → (bodyTo xs k).length ≤ k * 1048602
  | 0, _ => by simp [bodyTo]
  | k + 1, hk => by
    have h1 := bodyTo_len h k (by omega)
    have h2 := h k (by omega)
    have h3 := digits_le (xs k).length (by omega)
    simp only [bodyTo, encB, List.length_append, List.length_cons, List.length_nil]
    omega

theorem Tab.fr2 {w w' : World} {B : Nat} (h : Tab w) (fr : Fr (fun k => B ≤ k) w w') (hB : 2 ≤ B) (hw : 2 ≤ w.heap.size) : Tab w' := h.two (fr.block 1 (by omega) (by omega))

set_option maxRecDepth 4000 in
set_option maxHeartbeats 8000000 in
theorem array (B rw bb bw bf : Nat) (out : List UInt8) (a : Option Addr) (m c : Nat) (ia : Nat → Option Addr) (ic : Nat → Nat) (xs : Nat → List UInt8) (w : World) (h : Rs w B rw bb bw bf out) (hB : 2 ≤ B) (hBw : B ≤ w.heap.size) (ht : Tab w) (hm : m ≤ 4096) (hI : Items w B a m ia ic xs) (hlim : out.length ≤ 1000) :
    Calls Tryd.prog 11 #[.pointer (some ⟨rw, 0, none⟩), .slice a m c] w fun e w' => e = .returned (.tuple #[]) ∧ Rs w' B rw bb bw bf (out ++ encA xs m) ∧ Fr (fun k => B ≤ k) w w' := by
  obtain ⟨n, go, cur, done, l, hW, hout, hr, n1, n2, n3, n4⟩ := h
  have r0 : w.cell? ⟨rw, 0, none⟩ = some (.pointer (some ⟨bw, 0, none⟩)) := by rw [Lib.cell_of_heap hr]; rfl
  have HW : Hid (Wr w B bb bw bf n go cur done l) := hW
  have HO : Hid (done ++ l = out) := hout
  have HR : Hid (w.heap[rw]? = some (.cells #[.pointer (some ⟨bw, 0, none⟩)] 41 (0, 0))) := hr
  have HI : Hid (Items w B a m ia ic xs) := hI
  have HT : Hid (Tab w) := ht
  have HNE : Hid (rw ≠ bb ∧ rw ≠ bw ∧ rw ≠ bf ∧ go ≠ some rw) := ⟨n1, n2, n3, n4⟩
  have HGO : Hid (∀ g, go = some g → B ≤ g) := fun g e => (hW.row g e).1
  have HDG : Hid ((Lib.decDigits m).length ≤ 20) := digits_le m (by omega)
  have HLL : Hid (done.length + l.length ≤ 1000) := by
    have := hlim; rw [← hout, List.length_append] at this; exact this
  have HLIM : Hid (out.length ≤ 1000) := hlim
  clear hW hout hr hI ht n1 n2 n3 n4 hlim
  go_enter Tryd.func11, Tryd.ntmps11
  go_wp2_with (first
    | (go_at_call 16; refine (availBuf B bb bw bf n go cur done l w HW.out).mono ?_; rintro e w1 ⟨v1, rfl, hA1⟩; have HA1 : Hid (Ap w w1 B bb bw bf n go done l v1 []) := hA1; clear hA1)
    | (at_builtin; refine wpList_append_ap rfl (.tmp 12) (.tmp 13) 25 rfl rfl (HA1.out.alloc _) _ [42] 1 rfl (by decide) rfl (lit w1 5 [42] 1 rfl) (by decide) ?_; intro v2 w2 HA2)
    | (go_at_call 17; refine (appendInt m (by omega) HA2.out (by decide) (HT.out.kp HA2.out.kp hB (by omega) HW.out.lo.1 HW.out.lo.2.1 HW.out.lo.2.2 HGO.out)).mono ?_; rintro e w3 ⟨v3, rfl, hA3⟩; have HA3 : Hid (Ap w w3 B bb bw bf n go done l v3 ([] ++ [42] ++ Lib.decDigits m)) := hA3; clear hA3))
  have r3 : w3.cell? ⟨rw, 0, none⟩ = some (.pointer (some ⟨bw, 0, none⟩)) := kp_cell HA3.out.kp HR.out HNE.out.1 HNE.out.2.1 HNE.out.2.2.1 HNE.out.2.2.2
  have r3' : ∀ o, (w3.alloc o).cell? ⟨rw, 0, none⟩ = some (.pointer (some ⟨bw, 0, none⟩)) := fun o => kp_cell (HA3.out.alloc o).kp HR.out HNE.out.1 HNE.out.2.1 HNE.out.2.2.1 HNE.out.2.2.2
  have HL3 : Hid (([] ++ [42] ++ Lib.decDigits m).length + 2 ≤ 1000000) := by
    have := HDG.out
    show _ ≤ _
    simp only [List.nil_append, List.length_append, List.length_cons, List.length_nil]
    omega
  go_region_law (first
    | (refine step_append_ap rfl (.tmp 23) (.tmp 24) 25 rfl rfl ((HA3.out.drewN 1).alloc _) _ [13, 10] 2 rfl (by decide) rfl (lit w3.drew 5 [13, 10] 2 rfl) HL3.out ?_
       intro v4 w4 HA4
       have r4 : w4.cell? ⟨rw, 0, none⟩ = some (.pointer (some ⟨bw, 0, none⟩)) := kp_cell HA4.out.kp HR.out HNE.out.1 HNE.out.2.1 HNE.out.2.2.1 HNE.out.2.2.2)
    | (go_simp
       go_wp2_with (
         go_at_call 18
         obtain ⟨cur4, sp4, c4, hW4, rfl, hle4, hc4, hg4⟩ := HA4.out.given
         refine (write_all B bb bw bf n go cur4 done l _ sp4 _ c4 w4 hW4 rfl hle4 hc4 hg4 ?_).mono ?_
         have h1 := HLL.out
         have h2 := HL3.out
         simp only [List.length_append, List.length_cons, List.length_nil] at h1 h2 ⊢
         omega
         rintro e w5 ⟨rfl, hq⟩
         have HQ5 : Hid (Wrote w4 go B bb bw bf (done ++ (l ++ ([] ++ [42] ++ Lib.decDigits m ++ [13, 10]))) w5) := hq
         clear hq hW4 hle4 hc4 hg4)))
  all_goals
    have h5 := rs_end (out := out ++ ([42] ++ Lib.decDigits m ++ [13, 10])) HQ5.out HA4.out.kp HR.out HNE.out HW.out.lo HGO.out (by rw [← HO.out]; simp)
    have HS5 : Hid (Rs w5 B rw bb bw bf (out ++ ([42] ++ Lib.decDigits m ++ [13, 10])) ∧ Fr (fun k => B ≤ k) w w5) := h5
    clear h5
    go_wp2
    go_loopg [6, 29] m (fun k _ i wr => ∃ j : Nat, i = .int .i64 j ∧ j + k = m ∧ Rs wr B rw bb bw bf (out ++ ([42] ++ Lib.decDigits m ++ [13, 10] ++ bodyTo xs j)) ∧ Fr (fun k => B ≤ k) w wr)
    case atStart => exact ⟨0, rfl, by omega, by simpa [bodyTo] using HS5.out.1, HS5.out.2⟩
    case round =>
      obtain ⟨j, rfl, hjk, hRs, hfr⟩ := hrel
      have HRs : Hid (Rs wr B rw bb bw bf (out ++ ([42] ++ Lib.decDigits m ++ [13, 10] ++ bodyTo xs j))) := hRs
      have HFR : Hid (Fr (fun k => B ≤ k) w wr) := hfr
      clear hRs hfr
      by_cases hj : j < m
      · have hItem := HI.out.fr HFR.out hBw
        rcases hItem.hdr with h0 | ⟨b, o, rfl, hlt, hc⟩
        · omega
        · have g1 := hc j hj
          have HIT : Hid (Items wr B (some ⟨b, o, none⟩) m ia ic xs) := hItem
          clear hc hItem
          have HJ : Hid (j + gk = m) := hjk
          go_wp2_with (
            go_at_call 19
            refine (bulk B rw bb bw bf _ (xs j) (ia j) (xs j).length (ic j) wr HRs.out hB (Nat.le_trans hBw HFR.out.size) (HT.out.fr2 HFR.out hB (by omega)) rfl (HIT.out.small j hj) (HIT.out.cap j hj).1 (HIT.out.cap j hj).2 (HIT.out.rd j hj) ?_).mono ?_
            have h1 := bodyTo_len HIT.out.small j (Nat.le_of_lt hj)
            have h2 := HLIM.out
            have h3 := HDG.out
            simp only [List.length_append, List.length_cons, List.length_nil]
            omega
            rintro e w6 ⟨rfl, hq⟩
            have HQ6 : Hid (Rs w6 B rw bb bw bf (out ++ ([42] ++ Lib.decDigits m ++ [13, 10] ++ bodyTo xs j) ++ encB (xs j)) ∧ Fr (fun k => B ≤ k) wr w6) := hq
            clear hq)
          go_roundg (gk - 1)
          case measure => omega
          case rel => exact ⟨j + 1, by go_num, by omega, by have := HQ6.out.1; simpa [bodyTo] using this, HFR.out.trans HQ6.out.2 (fun _ _ e => e)⟩
      · obtain rfl : j = m := by omega
        go_wp2
        go_end0
        exact ⟨rfl, HRs.out, HFR.out⟩
end Go.Proofs.Qxb6616245aDoor
