import Derived.Test.Qxb6616145aRows
import Derived.WalkKit
import Derived.WalkSpells
import Derived.WalkLawsBesides
import Derived.Deep.QuietTactic
import Derived.BigQuiet
import Derived.Deep.RegionWith
import Derived.Deep.RegionLaw
import Derived.Deep.LoopGhost
namespace Go.Proofs.Qxb6616145a
open Go.RowKit

theorem ret_bool {a b : Bool} (h : a = b) : Ending.returned (.bool a) = .returned (.bool b) := by rw [h]

/-- Integers at a slice's address, below block B. -/
def Ints (w : World) (B : Nat) (a : Option Addr) (n : Nat) (f : Nat → Int) : Prop :=
  n = 0 ∨ ∃ b o, a = some ⟨b, o, none⟩ ∧ b < B ∧ ∀ j, j < n → w.cell? ⟨b, o + j, none⟩ = some (.int .i64 (f j))
/-- Slice headers. -/
def Hdrs (w : World) (B : Nat) (a : Option Addr) (n : Nat) (ia : Nat → Option Addr) (il ic : Nat → Nat) : Prop :=
  n = 0 ∨ ∃ b o, a = some ⟨b, o, none⟩ ∧ b < B ∧ ∀ i, i < n → w.cell? ⟨b, o + i, none⟩ = some (.slice (ia i) (il i) (ic i))

/-- Sum of the first k terms. -/
def sumTo (f : Nat → Nat) : Nat → Nat
  | 0 => 0
  | k + 1 => sumTo f k + f k
theorem sumTo_le {f : Nat → Nat} {j k : Nat} (h : j ≤ k) : sumTo f j ≤ sumTo f k := by
  induction k with
  | zero => obtain rfl : j = 0 := by omega
            exact Nat.le_refl _
  | succ k ih =>
    rcases Nat.lt_or_ge j (k + 1) with hl | hl
    · have := ih (by omega); simp only [sumTo]; omega
    · obtain rfl : j = k + 1 := by omega
      exact Nat.le_refl _
theorem sumTo_get {f : Nat → Nat} {k n : Nat} (h : k < n) : sumTo f k + f k ≤ sumTo f n := sumTo_le (f := f) (j := k + 1) (k := n) h

set_option maxHeartbeats 1000000 in
theorem zzBytes (a0 a a2 : Option Addr) (n0 n n2 c0 c c2 B : Nat) (ia : Nat → Option Addr) (il ic : Nat → Nat) (w : World) (hn0 : n0 ≤ 9223372036854775807) (hn : n ≤ 9223372036854775807) (hn2 : n2 ≤ 9223372036854775807) (hil : ∀ i, i < n → il i ≤ 9223372036854775807) (H : Hdrs w B a n ia il ic) :
    Calls Try.prog 4 #[.slice a0 n0 c0, .slice a n c, .slice a2 n2 c2] w fun e w' => e = .returned (.bool (decide (n0 + n + sumTo il n + n2 ≤ 1048576))) ∧ w' = w := by
  obtain ⟨D, hD⟩ : ∃ D, D = decide (n0 + n + sumTo il n + n2 ≤ 1048576) := ⟨_, rfl⟩
  rw [← hD]
  have HD : Hid (D = decide (n0 + n + sumTo il n + n2 ≤ 1048576)) := hD
  clear hD
  by_cases h0 : n0 ≤ 1048576
  · by_cases h1 : n ≤ 1048576
    · by_cases h2 : n0 + n ≤ 1048576
      · go_enter Try.func4, Try.ntmps4
        go_wp2
        go_loop [7, 8] (fun t i => ∃ k s : Nat, k ≤ n ∧ i = .int .i64 k ∧ t = .int .i64 s ∧ s ≤ 1048576 ∧ Hid (s = n0 + n + sumTo il k)) (fun _ i => n - (intOf i).toNat)
        case atStart => exact ⟨0, n0 + n, Nat.zero_le _, rfl, by go_num, h2, rfl⟩
        case round =>
          obtain ⟨k, s, hk, rfl, rfl, hs, HJ⟩ := hrel
          by_cases hlt : k < n
          · rcases H with h | ⟨b, o, rfl, _, hc⟩
            · omega
            · have g1 := hc k hlt
              have hik := hil k hlt
              clear hc
              have h5 := sumTo_get (f := il) hlt
              have h6 := HJ.out
              by_cases h3 : il k ≤ 1048576
              · by_cases h4 : s + il k ≤ 1048576
                · clear h5 h6
                  go_wp2
                  go_round
                  case rel => exact ⟨k + 1, s + il k, by omega, by go_num, by go_num, h4, by show _ = _; simp only [sumTo]; rw [HJ.out]; omega⟩
                  case measure => simp [intOf]; omega
                · have HF : Hid (false = D) := by show _ = _; rw [HD.out]; exact (decide_eq_false (by omega)).symm
                  clear h5 h6
                  go_wp2
                  go_ret
                  exact ⟨ret_bool HF.out, rfl⟩
              · have HF : Hid (false = D) := by show _ = _; rw [HD.out]; exact (decide_eq_false (by omega)).symm
                clear h5 h6
                go_wp2
                go_ret
                exact ⟨ret_bool HF.out, rfl⟩
          · obtain rfl : k = n := by omega
            have h6 := HJ.out
            by_cases h7 : n2 ≤ 1048576
            · by_cases h8 : s + n2 ≤ 1048576
              · have HF : Hid (true = D) := by show _ = _; rw [HD.out]; exact (decide_eq_true (by omega)).symm
                clear h6
                go_wp2
                go_ret
                exact ⟨ret_bool HF.out, rfl⟩
              · have HF : Hid (false = D) := by show _ = _; rw [HD.out]; exact (decide_eq_false (by omega)).symm
                clear h6
                go_wp2
                go_ret
                exact ⟨ret_bool HF.out, rfl⟩
            · have HF : Hid (false = D) := by show _ = _; rw [HD.out]; exact (decide_eq_false (by omega)).symm
              clear h6
              go_wp2
              go_ret
              exact ⟨ret_bool HF.out, rfl⟩
      · have HF : Hid (false = D) := by show _ = _; rw [HD.out]; exact (decide_eq_false (by omega)).symm
        go_enter Try.func4, Try.ntmps4
        go_wp2
        go_ret
        exact ⟨ret_bool HF.out, rfl⟩
    · have HF : Hid (false = D) := by show _ = _; rw [HD.out]; exact (decide_eq_false (by omega)).symm
      go_enter Try.func4, Try.ntmps4
      go_wp2
      go_ret
      exact ⟨ret_bool HF.out, rfl⟩
  · have HF : Hid (false = D) := by show _ = _; rw [HD.out]; exact (decide_eq_false (by omega)).symm
    go_enter Try.func4, Try.ntmps4
    go_wp2
    go_ret
    exact ⟨ret_bool HF.out, rfl⟩
end Go.Proofs.Qxb6616145a
