import Derived.Test.Qxb6616245aDoorBase
namespace Go.Proofs.Qxb6616245aDoor
open Go.RowKit

/-- The items' headers. -/
def Hdrs (w : World) (B : Nat) (a : Option Addr) (n : Nat) (ia : Nat → Option Addr) (il ic : Nat → Nat) : Prop :=
  n = 0 ∨ ∃ b o, a = some ⟨b, o, none⟩ ∧ b < B ∧ ∀ i, i < n → w.cell? ⟨b, o + i, none⟩ = some (.slice (ia i) (il i) (ic i))

/-- Sum of the first k terms. -/
def sumTo (f : Nat → Nat) : Nat → Nat
  | 0 => 0
  | k + 1 => sumTo f k + f k
theorem sumTo_le {f : Nat → Nat} {j k : Nat} (h : j ≤ k) : sumTo f j ≤ sumTo f k := by
  induction k with
  | zero => obtain rfl : j = 0 := by omega
            exact Nat.le_refl _
  | succ k ih =>
    rcases Nat.lt_or_ge j (k + 1) with hl | hl
    · have := ih (by omega); simp only [sumTo]; omega
    · obtain rfl : j = k + 1 := by omega
      exact Nat.le_refl _

set_option maxHeartbeats 1000000 in
theorem zzBytes (a : Option Addr) (n c B : Nat) (k0 : Int) (ia : Nat → Option Addr) (il ic : Nat → Nat) (w : World) (hn : n ≤ maxLen) (hil : ∀ i, i < n → il i ≤ maxLen) (H : Hdrs w B a n ia il ic) :
    Calls Tryd.prog 4 #[.slice a n c, .int .i64 k0] w fun e w' => ∃ bv : Bool, e = .returned (.bool bv) ∧ w' = w ∧ (bv = true → ∀ i, i < n → il i ≤ 1048576) := by
  unfold maxLen at hn hil
  by_cases h20 : n ≤ 1048576
  · go_enter Tryd.func4, Tryd.ntmps4
    go_wp2
    go_loop [5, 6] (fun t i => ∃ k s : Nat, k ≤ n ∧ i = .int .i64 k ∧ t = .int .i64 s ∧ s ≤ 1048576 ∧ Hid (∀ j, j < k → il j ≤ 1048576)) (fun _ i => n - (intOf i).toNat)
    case atStart => exact ⟨0, n, Nat.zero_le _, rfl, rfl, h20, fun j hj => absurd hj (Nat.not_lt_zero _)⟩
    case round =>
      obtain ⟨k, s, hk, rfl, rfl, hs, HJ⟩ := hrel
      by_cases hlt : k < n
      · rcases H with h | ⟨b, o, rfl, _, hc⟩
        · omega
        · have g1 := hc k hlt
          have hik := hil k hlt
          clear hc
          by_cases h1 : il k ≤ 1048576
          · by_cases h2 : s + il k ≤ 1048576
            · go_wp2
              go_round
              case rel => exact ⟨k + 1, s + il k, by omega, by go_num, by go_num, h2, fun j hj => by
                rcases Nat.lt_or_ge j k with h5 | h5
                · exact HJ.out j h5
                · obtain rfl : j = k := by omega
                  exact h1⟩
              case measure => simp [intOf]; omega
            · go_wp2
              go_ret
              first | exact ⟨false, rfl, rfl, fun h => by cases h⟩ | exact .inl ⟨rfl, rfl⟩
          · go_wp2
            go_ret
            first | exact ⟨false, rfl, rfl, fun h => by cases h⟩ | exact .inl ⟨rfl, rfl⟩
      · obtain rfl : k = n := by omega
        go_wp2
        go_ret
        first | exact ⟨true, rfl, rfl, fun _ => HJ.out⟩ | exact .inr ⟨rfl, rfl, HJ.out⟩
  · go_enter Tryd.func4, Tryd.ntmps4
    go_wp2
    go_ret
    first | exact ⟨false, rfl, rfl, fun h => by cases h⟩ | exact .inl ⟨rfl, rfl⟩

set_option maxHeartbeats 1000000 in
theorem zzSize (a : Option Addr) (n c B : Nat) (ia : Nat → Option Addr) (il ic : Nat → Nat) (w : World) (hn : n ≤ 4096) (HI : Hid (∀ i, i < n → il i ≤ 1048576)) (H : Hdrs w B a n ia il ic) :
    Calls Tryd.prog 5 #[.slice a n c, .int .i64 1048576] w fun e w' => ∃ t : Int, e = .returned (.int .i64 t) ∧ w' = w ∧ (t ≤ 1048576 → t = sumTo (fun i => 24 + il i) n) := by
  go_enter Tryd.func5, Tryd.ntmps5
  go_wp2
  go_loop [5, 6] (fun t i => ∃ k s : Nat, k ≤ n ∧ i = .int .i64 k ∧ t = .int .i64 s ∧ s ≤ 1048576 ∧ Hid (s = sumTo (fun i => 24 + il i) k)) (fun _ i => n - (intOf i).toNat)
  case atStart => exact ⟨0, 0, Nat.zero_le _, rfl, rfl, by omega, rfl⟩
  case round =>
    obtain ⟨k, s, hk, rfl, rfl, hs, HJ⟩ := hrel
    by_cases hlt : k < n
    · rcases H with h | ⟨b, o, rfl, _, hc⟩
      · omega
      · have g1 := hc k hlt
        have hik := HI.out k hlt
        clear hc
        by_cases h2 : s + (24 + il k) ≤ 1048576
        · go_wp2
          go_round
          case rel => exact ⟨k + 1, s + (24 + il k), by omega, by go_num, by go_num, h2, by show _ = _; simp only [sumTo]; rw [← HJ.out]⟩
          case measure => simp [intOf]; omega
        · go_wp2
          go_ret
          exact ⟨_, rfl, rfl, fun h => by omega⟩
    · obtain rfl : k = n := by omega
      go_wp2
      go_ret
      exact ⟨s, rfl, rfl, fun _ => by rw [HJ.out]⟩

/-- zzHasPrefix, where it is one. -/
theorem prefix_yes (a a' : Option Addr) (n c m c' B : Nat) (p r : List UInt8) (w : World) (hm : p.length = m) (hn : (p ++ r).length = n) (hm2 : n ≤ 4294967296) (hc : n ≤ c) (h1 : Rd w B a (p ++ r)) (h2 : Rd w B a' p) :
    Calls Tryd.prog 8 #[.slice a n c, .slice a' m c'] w fun e w' => e = .returned (.bool true) ∧ ∃ k, w' = w.drewN k := by
  have hle : m ≤ n := by simp at hn; omega
  have h1' : Rd w B a p := by
    rcases h1 with h | ⟨b, o, e, hb, hcell⟩
    · exact .inl (List.append_eq_nil_iff.1 h).1
    · refine .inr ⟨b, o, e, hb, fun j hj => ?_⟩
      rw [hcell j (by simp; omega)]
      simp [List.getD, List.getElem?_append_left hj]
  have hm3 : m ≤ 4294967296 := by omega
  clear hn h1
  go_enter Tryd.func8, Tryd.ntmps8
  go_wp2_with (go_at_call 9; refine (eq_same _ _ _ _ _ B p _ hm hm3 h1' h2).mono ?_; rintro e w' ⟨rfl, k, rfl⟩)
  go_ret
  exact ⟨rfl, k, rfl⟩
end Go.Proofs.Qxb6616245aDoor
