import Derived.Test.Qxb6616245aDoorLaw
namespace Go.Proofs.Qxb6616245aDoor
open Go.RowKit

theorem sumTo_get {f : Nat → Nat} {k n : Nat} (h : k < n) : sumTo f k + f k ≤ sumTo f n := sumTo_le (f := f) (j := k + 1) (k := n) h

set_option maxHeartbeats 1000000 in
theorem zzBytes2 (a : Option Addr) (n c B : Nat) (k0 : Int) (ia : Nat → Option Addr) (il ic : Nat → Nat) (w : World) (hn : n ≤ maxLen) (hil : ∀ i, i < n → il i ≤ maxLen) (H : Hdrs w B a n ia il ic) :
    Calls Tryd.prog 4 #[.slice a n c, .int .i64 k0] w fun e w' => e = .returned (.bool (decide (n + sumTo il n ≤ 1048576))) ∧ w' = w := by
  unfold maxLen at hn hil
  by_cases h20 : n ≤ 1048576
  · obtain ⟨D, hD⟩ : ∃ D, D = decide (n + sumTo il n ≤ 1048576) := ⟨_, rfl⟩
    rw [← hD]
    have HD : Hid (D = decide (n + sumTo il n ≤ 1048576)) := hD
    clear hD
    go_enter Tryd.func4, Tryd.ntmps4
    go_wp2
    go_loop [5, 6] (fun t i => ∃ k s : Nat, k ≤ n ∧ i = .int .i64 k ∧ t = .int .i64 s ∧ s ≤ 1048576 ∧ Hid (s = n + sumTo il k)) (fun _ i => n - (intOf i).toNat)
    case atStart => exact ⟨0, n, Nat.zero_le _, rfl, rfl, h20, rfl⟩
    case round =>
      obtain ⟨k, s, hk, rfl, rfl, hs, HJ⟩ := hrel
      by_cases hlt : k < n
      · rcases H with h | ⟨b, o, rfl, _, hc⟩
        · omega
        · have g1 := hc k hlt
          have hik := hil k hlt
          clear hc
          by_cases h1 : il k ≤ 1048576
          · by_cases h2 : s + il k ≤ 1048576
            · go_wp2
              go_round
              case rel => exact ⟨k + 1, s + il k, by omega, by go_num, by go_num, h2, by show _ = _; simp only [sumTo]; rw [HJ.out]; omega⟩
              case measure => simp [intOf]; omega
            · go_wp2
              go_ret
              have h5 := sumTo_get (f := il) hlt
              have h6 := HJ.out
              exact ⟨ret_bool (by rw [HD.out]; exact (decide_eq_false (by omega)).symm), rfl⟩
          · go_wp2
            go_ret
            have h5 := sumTo_get (f := il) hlt
            exact ⟨ret_bool (by rw [HD.out]; exact (decide_eq_false (by omega)).symm), rfl⟩
      · obtain rfl : k = n := by omega
        go_wp2
        go_ret
        have h6 := HJ.out
        exact ⟨ret_bool (by rw [HD.out]; exact (decide_eq_true (by omega)).symm), rfl⟩
  · have hD : decide (n + sumTo il n ≤ 1048576) = false := decide_eq_false (by omega)
    rw [hD]
    clear hD
    go_enter Tryd.func4, Tryd.ntmps4
    go_wp2
    go_ret
    exact ⟨rfl, rfl⟩

set_option maxHeartbeats 1000000 in
theorem zzSize2 (a : Option Addr) (n c B : Nat) (ia : Nat → Option Addr) (il ic : Nat → Nat) (w : World) (hn : n ≤ 4096) (HI : Hid (∀ i, i < n → il i ≤ 1048576)) (H : Hdrs w B a n ia il ic) :
    Calls Tryd.prog 5 #[.slice a n c, .int .i64 1048576] w fun e w' => ∃ t : Int, e = .returned (.int .i64 t) ∧ w' = w ∧ (t ≤ 1048576 ↔ sumTo (fun i => 24 + il i) n ≤ 1048576) := by
  go_enter Tryd.func5, Tryd.ntmps5
  go_wp2
  go_loop [5, 6] (fun t i => ∃ k s : Nat, k ≤ n ∧ i = .int .i64 k ∧ t = .int .i64 s ∧ s ≤ 1048576 ∧ Hid (s = sumTo (fun i => 24 + il i) k)) (fun _ i => n - (intOf i).toNat)
  case atStart => exact ⟨0, 0, Nat.zero_le _, rfl, rfl, by omega, rfl⟩
  case round =>
    obtain ⟨k, s, hk, rfl, rfl, hs, HJ⟩ := hrel
    by_cases hlt : k < n
    · rcases H with h | ⟨b, o, rfl, _, hc⟩
      · omega
      · have g1 := hc k hlt
        have hik := HI.out k hlt
        clear hc
        by_cases h2 : s + (24 + il k) ≤ 1048576
        · go_wp2
          go_round
          case rel => exact ⟨k + 1, s + (24 + il k), by omega, by go_num, by go_num, h2, by show _ = _; simp only [sumTo]; rw [← HJ.out]⟩
          case measure => simp [intOf]; omega
        · go_wp2
          go_ret
          have h5 := sumTo_get (f := fun i => 24 + il i) hlt
          have h6 := HJ.out
          have h7 : s + (24 + il k) ≤ sumTo (fun i => 24 + il i) n := by rw [h6]; exact h5
          exact ⟨_, rfl, rfl, ⟨fun h => by omega, fun h => by omega⟩⟩
    · obtain rfl : k = n := by omega
      go_wp2
      go_ret
      have h6 := HJ.out
      exact ⟨s, rfl, rfl, ⟨fun _ => by rw [← h6]; exact hs, fun _ => by omega⟩⟩

theorem items_small {xs : Nat → List UInt8} {n : Nat} (h : n + sumTo (fun i => (xs i).length) n ≤ 1048576) : ∀ i, i < n → (xs i).length ≤ 1048576 := by
  intro i hi
  have := sumTo_get (f := fun i => (xs i).length) hi
  omega

set_option maxHeartbeats 1000000 in
theorem law_all (a : Option Addr) (n c : Nat) (k : Int) (ia : Nat → Option Addr) (ic : Nat → Nat) (xs : Nat → List UInt8) (w : World) (hB : 2 ≤ w.heap.size) (ht : Tab w) (hnc : n ≤ c) (hcm : c ≤ 9223372036854775807) (hk1 : -9223372036854775808 ≤ k) (hk2 : k ≤ 9223372036854775807)
    (hH : Hdrs w w.heap.size a n ia (fun i => (xs i).length) ic) (hcap : ∀ i, i < n → (xs i).length ≤ ic i ∧ ic i ≤ 9223372036854775807) (hrd : ∀ i, i < n → Rd w w.heap.size (ia i) (xs i)) :
    Calls Tryd.prog 3 #[.slice a n c, .int .i64 k] w fun e w' => e = .returned (.bool true) ∧ Fr (fun k => w.heap.size ≤ k) w w' := by
  have hzb := zzBytes2 a n c w.heap.size k ia (fun i => (xs i).length) ic w (by unfold maxLen; omega) (fun i hi => by have := hcap i hi; unfold maxLen; omega) hH
  by_cases h1 : n + sumTo (fun i => (xs i).length) n ≤ 1048576
  · rw [decide_eq_true h1] at hzb
    have hsmall := items_small h1
    by_cases h2 : n ≤ 4096
    · have hzs := zzSize2 a n c w.heap.size ia (fun i => (xs i).length) ic w h2 hsmall hH
      by_cases h3 : sumTo (fun i => 24 + (xs i).length) n ≤ 1048576
      · by_cases h4 : 0 ≤ k ∧ k ≤ n
        · obtain ⟨k', rfl⟩ : ∃ k' : Nat, k = k' := ⟨k.toNat, by omega⟩
          refine law_main a n c k' ia ic xs w hB ht h2 (by omega) hnc hcm ⟨hH, hcap, hsmall, hrd⟩ h3 hzb (hzs.mono ?_)
          rintro e w' ⟨t, rfl, rfl, hiff⟩
          exact ⟨t, rfl, rfl, hiff.2 h3⟩
        · have HZB : Hid (Calls Tryd.prog 4 #[.slice a n c, .int .i64 k] w fun e w' => e = .returned (.bool true) ∧ w' = w) := hzb
          have HZS : Hid (Calls Tryd.prog 5 #[.slice a n c, .int .i64 1048576] w fun e w' => ∃ t : Int, e = .returned (.int .i64 t) ∧ w' = w ∧ t ≤ 1048576) := hzs.mono (by rintro e w' ⟨t, rfl, rfl, hiff⟩; exact ⟨t, rfl, rfl, hiff.2 h3⟩)
          clear hzb hzs hsmall h1 h3 hH hcap hrd ht
          by_cases h5 : k < 0
          · go_enter Tryd.func3, Tryd.ntmps3
            go_wp2_with (first
              | (go_at_call 4; refine HZB.out.mono ?_; rintro e w ⟨rfl, rfl⟩)
              | (go_at_call 5; refine HZS.out.mono ?_; rintro e w ⟨t, rfl, rfl, ht'⟩))
            go_ret
            exact ⟨rfl, Fr.refl _ _⟩
          · have h6 : (n : Int) < k := by omega
            go_enter Tryd.func3, Tryd.ntmps3
            go_wp2_with (first
              | (go_at_call 4; refine HZB.out.mono ?_; rintro e w ⟨rfl, rfl⟩)
              | (go_at_call 5; refine HZS.out.mono ?_; rintro e w ⟨t, rfl, rfl, ht'⟩))
            go_ret
            exact ⟨rfl, Fr.refl _ _⟩
      · have HZB : Hid (Calls Tryd.prog 4 #[.slice a n c, .int .i64 k] w fun e w' => e = .returned (.bool true) ∧ w' = w) := hzb
        have HZS : Hid (Calls Tryd.prog 5 #[.slice a n c, .int .i64 1048576] w fun e w' => ∃ t : Int, e = .returned (.int .i64 t) ∧ w' = w ∧ 1048576 < t) := hzs.mono (by rintro e w' ⟨t, rfl, rfl, hiff⟩; exact ⟨t, rfl, rfl, by have := mt hiff.1 h3; omega⟩)
        clear hzb hzs hsmall h1 h3 hH hcap hrd ht
        go_enter Tryd.func3, Tryd.ntmps3
        go_wp2_with (first
          | (go_at_call 4; refine HZB.out.mono ?_; rintro e w ⟨rfl, rfl⟩)
          | (go_at_call 5; refine HZS.out.mono ?_; rintro e w ⟨t, rfl, rfl, ht'⟩))
        go_ret
        exact ⟨rfl, Fr.refl _ _⟩
    · have HZB : Hid (Calls Tryd.prog 4 #[.slice a n c, .int .i64 k] w fun e w' => e = .returned (.bool true) ∧ w' = w) := hzb
      clear hzb hsmall h1 hH hcap hrd ht
      have h2i : (4096 : Int) < n := by omega
      go_enter Tryd.func3, Tryd.ntmps3
      go_wp2_with (go_at_call 4; refine HZB.out.mono ?_; rintro e w ⟨rfl, rfl⟩)
      go_ret
      exact ⟨rfl, Fr.refl _ _⟩
  · rw [decide_eq_false h1] at hzb
    have HZB : Hid (Calls Tryd.prog 4 #[.slice a n c, .int .i64 k] w fun e w' => e = .returned (.bool false) ∧ w' = w) := hzb
    clear hzb h1 hH hcap hrd ht
    go_enter Tryd.func3, Tryd.ntmps3
    go_wp2_with (go_at_call 4; refine HZB.out.mono ?_; rintro e w ⟨rfl, rfl⟩)
    go_ret
    exact ⟨rfl, Fr.refl _ _⟩
end Go.Proofs.Qxb6616245aDoor
