import Derived.Test.Qxb6616145aGuard
namespace Go.Proofs.Qxb6616145a
open Go.RowKit

theorem ofInt32 (a : Nat) (ha : a < 4294967296) : (BitVec.ofInt 32 (a : Int)).toNat = a := by
  rw [BitVec.ofInt_natCast, BitVec.toNat_ofNat]; exact Nat.mod_eq_of_lt (by omega)
theorem or_nat (a b : Nat) (ha : a < 4294967296) (hb : b < 4294967296) : bits .or .u32 (a : Int) (b : Int) = ((a ||| b : Nat) : Int) := by
  have hx : a ||| b < 2 ^ 32 := Nat.or_lt_two_pow (by omega) (by omega)
  show IntKind.u32.wrap ((BitVec.ofInt 32 (a : Int) ||| BitVec.ofInt 32 (b : Int)).toNat : Int) = _
  rw [BitVec.toNat_or, ofInt32 a ha, ofInt32 b hb]
  simp [IntKind.wrap, IntKind.bits, IntKind.signed]
  omega
/-- One measure more. -/
def stp (s m : Int) : Int := if 0 ≤ m ∧ m < 32 then bits .or .u32 s (2 ^ m.toNat % 4294967296) else s
def maskTo (f : Nat → Int) : Nat → Int
  | 0 => 0
  | k + 1 => stp (maskTo f k) (f k)
theorem stp_range {s : Int} (m : Int) (h : 0 ≤ s ∧ s < 4294967296) : 0 ≤ stp s m ∧ stp s m < 4294967296 := by
  unfold stp
  split
  · obtain ⟨a, rfl⟩ : ∃ a : Nat, s = a := ⟨s.toNat, by omega⟩
    have h2 : 2 ^ m.toNat % 4294967296 < 4294967296 := Nat.mod_lt _ (by decide)
    have e : ((2 : Int) ^ m.toNat % 4294967296) = ((2 ^ m.toNat % 4294967296 : Nat) : Int) := by simp
    rw [e, or_nat a _ (by omega) h2]
    have : a ||| (2 ^ m.toNat % 4294967296) < 2 ^ 32 := Nat.or_lt_two_pow (by omega) (by omega)
    omega
  · exact h
theorem mask_range (f : Nat → Int) : ∀ k, 0 ≤ maskTo f k ∧ maskTo f k < 4294967296
  | 0 => by simp [maskTo]
  | k + 1 => stp_range _ (mask_range f k)
theorem or_zero {s : Int} (h : 0 ≤ s ∧ s < 4294967296) : bits .or .u32 s 0 = s := by
  obtain ⟨a, rfl⟩ : ∃ a : Nat, s = a := ⟨s.toNat, by omega⟩
  have := or_nat a 0 (by omega) (by decide)
  simpa using this

set_option maxHeartbeats 400000 in
theorem withM (s m : Int) (w : World) (hs : 0 ≤ s ∧ s < 4294967296) (hm : 0 ≤ m) :
    Calls Try.prog 35 #[.int .u32 s, .int .i64 m] w fun e w' => e = .returned (.int .u32 (stp s m)) ∧ w' = w := by
  obtain ⟨k, rfl⟩ : ∃ k : Nat, m = k := ⟨m.toNat, by omega⟩
  by_cases h32 : k < 32
  · have HE : Hid (stp s k = bits .or .u32 s (2 ^ k % 4294967296)) := by
      show _ = _
      unfold stp
      rw [if_pos (by omega)]
      simp
    clear hs hm
    go_enter Try.func35, Try.ntmps35
    go_wp2
    go_ret
    exact ⟨by rw [HE.out]; rfl, rfl⟩
  · have HE : Hid (stp s k = bits .or .u32 s 0) := by
      show _ = _
      unfold stp
      rw [if_neg (by omega), or_zero hs]
    have h3 : ¬ ((k : Int) < 32) := by omega
    have h4 : 32 ≤ k := by omega
    clear hs hm h32
    go_enter Try.func35, Try.ntmps35
    go_wp2
    go_ret
    exact ⟨by rw [HE.out]; rfl, rfl⟩

set_option maxHeartbeats 400000 in
theorem zzMask (a : Option Addr) (n c B : Nat) (f : Nat → Int) (w : World) (H : Ints w B a n f) (hn : n ≤ 1048576) :
    Calls Try.prog 8 #[.slice a n c] w fun e w' => e = .returned (.int .u32 (maskTo f n)) ∧ w' = w := by
  obtain ⟨M, hM⟩ : ∃ M, M = maskTo f n := ⟨_, rfl⟩
  rw [← hM]
  have HM : Hid (M = maskTo f n) := hM
  clear hM
  go_enter Try.func8, Try.ntmps8
  go_wp2
  go_loop [3, 4] (fun t i => ∃ (k : Nat) (s : Int), k ≤ n ∧ i = .int .i64 k ∧ t = .int .u32 s ∧ Hid (s = maskTo f k)) (fun _ i => n - (intOf i).toNat)
  case atStart => exact ⟨0, 0, Nat.zero_le _, rfl, rfl, rfl⟩
  case round =>
    obtain ⟨k, s, hk, rfl, rfl, HJ⟩ := hrel
    by_cases hlt : k < n
    · rcases H with h | ⟨b, o, rfl, hbB, hc⟩
      · omega
      · have g1 := hc k (by omega)
        clear hc
        by_cases h1 : 0 ≤ f k
        · by_cases h2 : f k < 32
          · have hw : IntKind.u64.wrap (f k) = f k := by simp [IntKind.wrap, IntKind.bits, IntKind.signed]; omega
            go_wp2
            go_round
            case rel => exact ⟨k + 1, _, by omega, by go_num, rfl, by show _ = _; simp only [maskTo, stp]; rw [← HJ.out, if_pos ⟨h1, h2⟩]⟩
            case measure => simp [intOf]; omega
          · go_wp2
            go_round
            case rel => exact ⟨k + 1, _, by omega, by go_num, rfl, by show _ = _; simp only [maskTo, stp]; rw [← HJ.out, if_neg (fun h => h2 h.2)]⟩
            case measure => simp [intOf]; omega
        · go_wp2
          go_round
          case rel => exact ⟨k + 1, _, by omega, by go_num, rfl, by show _ = _; simp only [maskTo, stp]; rw [← HJ.out, if_neg (fun h => h1 h.1)]⟩
          case measure => simp [intOf]; omega
    · obtain rfl : k = n := by omega
      go_wp2
      go_ret
      exact ⟨by rw [HM.out, ← HJ.out]; rfl, rfl⟩
end Go.Proofs.Qxb6616145a
