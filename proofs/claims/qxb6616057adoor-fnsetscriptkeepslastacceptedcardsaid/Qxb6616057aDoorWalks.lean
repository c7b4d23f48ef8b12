import Derived.Test.Qxb6616057aDoorRows
import Derived.WalkKit
import Derived.WalkSpells
import Derived.WalkLawsBesides
namespace Go.Proofs.Qxb6616057aDoor
open Go.RowKit

/-- What the script leaves behind k reads. -/
def acc (s : Int) (rd : Nat → Int) (fl : Nat → Bool) : Nat → Int
  | 0 => s
  | k + 1 => if fl k then acc s rd fl k else rd k

theorem acc_yes {s : Int} {rd : Nat → Int} {fl : Nat → Bool} {k : Nat} (h : fl k = true) : acc s rd fl (k + 1) = acc s rd fl k := by
  simp [acc, h]
theorem acc_no {s : Int} {rd : Nat → Int} {fl : Nat → Bool} {k : Nat} (h : fl k = false) : acc s rd fl (k + 1) = rd k := by
  simp [acc, h]
/-- From j on nothing is accepted: what stood at j stands at the end. -/
theorem acc_same {s : Int} {rd : Nat → Int} {fl : Nat → Bool} {j n : Nat} (hjn : j ≤ n) (h : ∀ k, j ≤ k → k < n → fl k = true) : acc s rd fl n = acc s rd fl j := by
  induction n with
  | zero => obtain rfl : j = 0 := by omega
            rfl
  | succ n ih =>
    rcases Nat.lt_or_ge j (n + 1) with hl | hl
    · rw [acc_yes (h n (by omega) (by omega))]
      exact ih (by omega) fun k h1 h2 => h k h1 (by omega)
    · obtain rfl : j = n + 1 := by omega
      rfl

theorem bytes_yes (s : Int) (a1 a2 : Option Addr) (n c1 m c2 : Nat) (w : World) (h : n + m ≤ 1048576) :
    Calls Tryd.prog 4 #[.int .i64 s, .slice a1 n c1, .slice a2 m c2] w fun e w' => e = .returned (.bool true) ∧ w' = w := by
  go_enter Tryd.func4, Tryd.ntmps4
  go_wp2
  go_ret
  exact ⟨rfl, rfl⟩

theorem bytes_no (s : Int) (a1 a2 : Option Addr) (n c1 m c2 : Nat) (w : World) (hn : n ≤ maxLen) (hm : m ≤ maxLen) (h : ¬ n + m ≤ 1048576) :
    Calls Tryd.prog 4 #[.int .i64 s, .slice a1 n c1, .slice a2 m c2] w fun e w' => e = .returned (.bool false) ∧ w' = w := by
  unfold maxLen at hn hm
  go_enter Tryd.func4, Tryd.ntmps4
  go_wp2
  all_goals (go_ret; exact ⟨rfl, rfl⟩)

theorem setErr (p a : Addr) (t : TypeId) (v : Int) (w : World) (hg : w.cell? ⟨0, 0, none⟩ = some (.iface t (.pointer (some a)))) :
    Calls Tryd.prog 5 #[.pointer (some p), .int .i64 v] w fun e w' => e = .returned (.iface t (.pointer (some a))) ∧ w' = w := by
  go_enter Tryd.func5, Tryd.ntmps5
  go_wp2
  go_ret
  exact ⟨rfl, rfl⟩

theorem setOK (p : Addr) (v x : Int) (w : World) (hc : w.cell? p = some (.int .i64 x)) (hf : w.frozen? p = false) :
    Calls Tryd.prog 6 #[.pointer (some p), .int .i64 v] w fun e w' => e = .returned .nilIface ∧ w' = w.setCell p (.int .i64 v) := by
  go_enter Tryd.func6, Tryd.ntmps6
  go_wp2
  go_ret
  exact ⟨rfl, rfl⟩
end Go.Proofs.Qxb6616057aDoor
