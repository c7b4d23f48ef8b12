import Derived.Test.Qxb6616145aBase
namespace Go.Proofs.Qxb6616145a
open Go.RowKit

/-- What zzDealsTooBig lets through. -/
def Fits (n0 n n2 : Nat) (il : Nat → Nat) : Prop := n0 ≤ 4096 ∧ n ≤ 4096 ∧ n2 ≤ 4096 ∧ 8 * n0 + 24 * n + 8 * n2 + 8 * sumTo il n ≤ 1048576

set_option maxHeartbeats 1000000 in
theorem tooBig (a0 a a2 : Option Addr) (n0 n n2 c0 c c2 B : Nat) (ia : Nat → Option Addr) (il ic : Nat → Nat) (w : World) (hn0 : n0 ≤ 1048576) (hn : n ≤ 1048576) (hn2 : n2 ≤ 1048576) (hil : ∀ i, i < n → il i ≤ 1048576) (H : Hdrs w B a n ia il ic) :
    Calls Try.prog 5 #[.slice a0 n0 c0, .slice a n c, .slice a2 n2 c2] w fun e w' => ∃ bv : Bool, e = .returned (.bool bv) ∧ w' = w ∧ (bv = false ↔ Fits n0 n n2 il) := by
  by_cases h0 : n0 ≤ 4096 ∧ n ≤ 4096 ∧ n2 ≤ 4096
  · obtain ⟨h0, h1, h2⟩ := h0
    go_enter Try.func5, Try.ntmps5
    go_wp2
    go_loop [7, 8] (fun t i => ∃ k s : Nat, k ≤ n ∧ i = .int .i64 k ∧ t = .int .i64 s ∧ s ≤ 1048576 ∧ Hid (s = 8 * n0 + 24 * n + 8 * n2 + 8 * sumTo il k)) (fun _ i => n - (intOf i).toNat)
    case atStart => exact ⟨0, 8 * n0 + 24 * n + 8 * n2, Nat.zero_le _, rfl, by go_num, by omega, rfl⟩
    case round =>
      obtain ⟨k, s, hk, rfl, rfl, hs, HJ⟩ := hrel
      by_cases hlt : k < n
      · rcases H with h | ⟨b, o, rfl, _, hc⟩
        · omega
        · have g1 := hc k hlt
          have hik := hil k hlt
          clear hc
          have h5 := sumTo_get (f := il) hlt
          have h6 := HJ.out
          by_cases h3 : s + 8 * il k ≤ 1048576
          · clear h5 h6
            have h4 : (il k : Int) ≤ (1048576 - (s : Int)) / 8 := by omega
            go_wp2
            go_round
            case rel => exact ⟨k + 1, s + 8 * il k, by omega, by go_num, by go_num, h3, by show _ = _; simp only [sumTo]; rw [HJ.out]; omega⟩
            case measure => simp [intOf]; omega
          · have HF : Hid (¬ Fits n0 n n2 il) := fun hq => by have := hq.2.2.2; omega
            have h4 : (1048576 - (s : Int)) / 8 < (il k : Int) := by omega
            clear h5 h6
            go_wp2
            go_ret
            first
              | exact ⟨true, rfl, rfl, ⟨fun h => (by cases h), fun h => absurd h HF.out⟩⟩
              | exact .inr ⟨rfl, rfl, HF.out⟩
      · obtain rfl : k = n := by omega
        have h6 := HJ.out
        have HF : Hid (Fits n0 k n2 il) := ⟨h0, h1, h2, by omega⟩
        clear h6
        go_wp2
        go_ret
        first
          | exact ⟨false, rfl, rfl, ⟨fun _ => HF.out, fun _ => rfl⟩⟩
          | exact .inl ⟨rfl, rfl, HF.out⟩
  · have HF : Hid (¬ Fits n0 n n2 il) := fun hq => h0 ⟨hq.1, hq.2.1, hq.2.2.1⟩
    by_cases h1 : n0 ≤ 4096
    · by_cases h2 : n ≤ 4096
      · have h3 : (4096 : Int) < n2 := by omega
        clear h0
        go_enter Try.func5, Try.ntmps5
        go_wp2
        go_ret
        first
          | exact ⟨true, rfl, rfl, ⟨fun h => (by cases h), fun h => absurd h HF.out⟩⟩
          | exact .inr ⟨rfl, rfl, HF.out⟩
      · clear h0
        go_enter Try.func5, Try.ntmps5
        go_wp2
        go_ret
        first
          | exact ⟨true, rfl, rfl, ⟨fun h => (by cases h), fun h => absurd h HF.out⟩⟩
          | exact .inr ⟨rfl, rfl, HF.out⟩
    · clear h0
      go_enter Try.func5, Try.ntmps5
      go_wp2
      go_ret
      first
        | exact ⟨true, rfl, rfl, ⟨fun h => (by cases h), fun h => absurd h HF.out⟩⟩
        | exact .inr ⟨rfl, rfl, HF.out⟩

/-- What zzDealsOutOfDomain lets through. -/
def Dom (n : Nat) (rt : Nat → Int) (il : Nat → Nat) (ms : Nat → Nat → Int) : Prop := ∀ i, i < n → -1 ≤ rt i ∧ rt i ≠ 9223372036854775807 ∧ (rt i < 3 → ∀ j, j < il i → 0 ≤ ms i j)

set_option maxHeartbeats 2000000 in
theorem outOfDomain (a a2 : Option Addr) (n1 n2 n c c2 B : Nat) (ia : Nat → Option Addr) (il ic : Nat → Nat) (ms : Nat → Nat → Int) (rt : Nat → Int) (w : World) (hn1 : n ≤ n1) (hn2 : n ≤ n2) (h1 : n1 ≤ 4096) (hil : Hid (∀ i, i < n1 → il i ≤ 1048576)) (H : Hdrs w B a n1 ia il ic) (HI : Hid (∀ i, i < n1 → Ints w B (ia i) (il i) (ms i))) (HR : Ints w B a2 n2 rt) :
    Calls Try.prog 6 #[.slice a n1 c, .slice a2 n2 c2, .int .i64 n, .int .i64 (-1), .int .i64 3] w fun e w' => ∃ bv : Bool, e = .returned (.bool bv) ∧ w' = w ∧ (bv = false ↔ Dom n rt il ms) := by
  have hn : (n : Int) ≤ 4096 := by omega
  go_enter Try.func6, Try.ntmps6
  go_wp2
  go_loop [11, 12] (fun i _ => ∃ k : Nat, k ≤ n ∧ i = .int .i64 k ∧ Hid (∀ i, i < k → -1 ≤ rt i ∧ rt i ≠ 9223372036854775807 ∧ (rt i < 3 → ∀ j, j < il i → 0 ≤ ms i j))) (fun i _ => n - (intOf i).toNat)
  case atStart => exact ⟨0, Nat.zero_le _, rfl, fun j hj => absurd hj (Nat.not_lt_zero _)⟩
  case round =>
    obtain ⟨k, hk, rfl, HJ⟩ := hrel
    by_cases hlt : k < n
    · rcases H with h | ⟨b, o, rfl, hbB, hc⟩
      · omega
      · rcases HR with h | ⟨b2, o2, rfl, hbB2, hc2⟩
        · omega
        · have g1 := hc k (by omega)
          have g2 := hc2 k (by omega)
          have hik := hil.out k (by omega)
          have hIk := HI.out k (by omega)
          clear hc hc2
          have hkn2 : (k : Int) < n2 := by omega
          have hkn1 : (k : Int) < n1 := by omega
          by_cases h3 : rt k < -1
          · have HF : Hid (¬ Dom n rt il ms) := fun hq => by have := (hq k hlt).1; omega
            go_wp2
            go_ret
            first
              | exact ⟨true, rfl, rfl, ⟨fun h => (by cases h), fun h => absurd h HF.out⟩⟩
              | exact .inr ⟨rfl, rfl, HF.out⟩
          · by_cases h4 : rt k = 9223372036854775807
            · have HF : Hid (¬ Dom n rt il ms) := fun hq => (hq k hlt).2.1 h4
              go_wp2
              go_ret
              first
                | exact ⟨true, rfl, rfl, ⟨fun h => (by cases h), fun h => absurd h HF.out⟩⟩
                | exact .inr ⟨rfl, rfl, HF.out⟩
            · by_cases h5 : rt k < 3
              · go_wp2
                go_loop [12] (fun j => ∃ t : Nat, t ≤ il k ∧ j = .int .i64 t ∧ Hid (∀ j, j < t → 0 ≤ ms k j)) (fun j => il k - (intOf j).toNat)
                case atStart => exact ⟨0, Nat.zero_le _, rfl, fun j hj => absurd hj (Nat.not_lt_zero _)⟩
                case round =>
                  obtain ⟨t, ht, rfl, HT⟩ := hrel
                  by_cases htl : t < il k
                  · rcases hIk with h | ⟨b3, o3, e3, hbB3, hc3⟩
                    · omega
                    · have g3 := hc3 t htl
                      clear hc3
                      by_cases h6 : ms k t < 0
                      · have HF : Hid (¬ Dom n rt il ms) := fun hq => by have := (hq k hlt).2.2 h5 t htl; omega
                        go_wp2
                        go_ret
                        first
                          | exact ⟨true, rfl, rfl, ⟨fun h => (by cases h), fun h => absurd h HF.out⟩⟩
                          | exact .inr ⟨rfl, rfl, HF.out⟩
                      · go_wp2
                        go_round
                        case rel => exact ⟨t + 1, by omega, by go_num, fun j hj => by
                          rcases Nat.lt_or_ge j t with h7 | h7
                          · exact HT.out j h7
                          · obtain rfl : j = t := by omega
                            omega⟩
                        case measure => simp [intOf]; omega
                  · obtain rfl : t = il k := by omega
                    go_wp2
                    go_round
                    case rel => exact ⟨k + 1, by omega, by go_num, fun i hi => by
                          rcases Nat.lt_or_ge i k with h7 | h7
                          · exact HJ.out i h7
                          · obtain rfl : i = k := by omega
                            exact ⟨by omega, h4, fun _ => HT.out⟩⟩
                    case measure => simp [intOf]; omega
              · go_wp2
                go_round
                case rel => exact ⟨k + 1, by omega, by go_num, fun i hi => by
                          rcases Nat.lt_or_ge i k with h7 | h7
                          · exact HJ.out i h7
                          · obtain rfl : i = k := by omega
                            exact ⟨by omega, h4, fun h => absurd h h5⟩⟩
                case measure => simp [intOf]; omega
    · obtain rfl : k = n := by omega
      have HF : Hid (Dom k rt il ms) := HJ.out
      go_wp2
      go_ret
      first
        | exact ⟨false, rfl, rfl, ⟨fun _ => HF.out, fun _ => rfl⟩⟩
        | exact .inl ⟨rfl, rfl, HF.out⟩
end Go.Proofs.Qxb6616145a
