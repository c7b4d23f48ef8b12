import Derived.Test.Qxb6616245aDoorRows
import Derived.WalkKit
import Derived.WalkSpells
import Derived.WalkLawsBesides
import Derived.Deep.QuietTactic
import Derived.BigQuiet
namespace Go.Proofs.Qxb6616245aDoor
open Go.RowKit

theorem ret_bool {a b : Bool} (h : a = b) : Ending.returned (.bool a) = .returned (.bool b) := by rw [h]

/-- The slice's bytes, where they lie: below block B. -/
def Rd (w : World) (B : Nat) (a : Option Addr) (l : List UInt8) : Prop :=
  l = [] ∨ ∃ b o, a = some ⟨b, o, none⟩ ∧ b < B ∧ ∀ j, j < l.length → w.cell? ⟨b, o + j, none⟩ = some (.int .u8 (l.getD j 0).toNat)

set_option maxHeartbeats 400000 in
/-- zzEq at two slices of the same bytes. -/
theorem eq_same (a a' : Option Addr) (n c c' B : Nat) (l : List UInt8) (w : World) (hn : l.length = n) (hm : n ≤ 4294967296) (h1 : Rd w B a l) (h2 : Rd w B a' l) :
    Calls Tryd.prog 9 #[.slice a n c, .slice a' n c'] w fun e w' => e = .returned (.bool true) ∧ ∃ k, w' = w.drewN k := by
  rcases h1 with rfl | ⟨b, o, rfl, _, hc⟩
  · obtain rfl : n = 0 := by simpa using hn.symm
    go_enter Tryd.func9, Tryd.ntmps9
    go_wp2
    go_loop [5] (fun i => i = .int .i64 0) (fun _ => 0)
    case atStart => rfl
    case round =>
      subst hrel
      go_wp2
      go_ret
      exact ⟨rfl, 0, rfl⟩
  · rcases h2 with rfl | ⟨b', o', rfl, _, hc'⟩
    · obtain rfl : n = 0 := by simpa using hn.symm
      go_enter Tryd.func9, Tryd.ntmps9
      go_wp2
      go_loop [5] (fun i => i = .int .i64 0) (fun _ => 0)
      case atStart => rfl
      case round =>
        subst hrel
        go_wp2
        go_ret
        exact ⟨rfl, 0, rfl⟩
    · have HC : Hid _ := hc
      have HC' : Hid _ := hc'
      have HN : Hid _ := hn
      clear hc hc' hn
      go_enter Tryd.func9, Tryd.ntmps9
      go_wp2
      go_loopw [5] (fun i wr => ∃ k nq : Nat, k ≤ n ∧ i = .int .i64 k ∧ wr = w.drewN nq) (fun i _ => n - (intOf i).toNat)
      case atStart => exact ⟨0, 0, Nat.zero_le _, rfl, rfl⟩
      case round =>
        obtain ⟨k, nq, hk, rfl, rfl⟩ := hrel
        by_cases hlt : k < n
        · have g1 := HC.out k (by rw [HN.out]; exact hlt)
          have g2 := HC'.out k (by rw [HN.out]; exact hlt)
          go_wp2
          go_quiet (fail)
          go_wp2
          go_roundw
          case rel => exact ⟨k + 1, _, by omega, by go_num, rfl⟩
          case measure => simp [intOf]; omega
        · go_wp2
          go_ret
          exact ⟨rfl, nq, rfl⟩
end Go.Proofs.Qxb6616245aDoor
