import Derived.Test.Qxb6616057aFmtRows
import Derived.Test.Qxb6616057aFmtBits
import Derived.WalkKit
import Derived.WalkSpells
import Derived.WalkLawsBesides
import Derived.Deep.QuietTactic
import Derived.BigQuiet
namespace Go.Proofs.Qxb6616057aFmt
open Go.RowKit

theorem valid_yes (sc : Bool) (nd : Int) (w : World) (h1 : 0 ≤ nd) (h2 : nd ≤ 31) (h3 : nd = 0 ∨ sc = true) :
    Calls Tryf.prog 6 #[.bool sc, .int .u8 nd] w fun e w' => e = .returned (.bool true) ∧ w' = w := by
  rcases h3 with rfl | rfl
  all_goals
    go_enter Tryf.func6, Tryf.ntmps6
    go_wp2
  all_goals (go_ret; exact ⟨rfl, rfl⟩)

theorem valid_big (sc : Bool) (nd : Int) (w : World) (h2 : 31 < nd) :
    Calls Tryf.prog 6 #[.bool sc, .int .u8 nd] w fun e w' => e = .returned (.bool false) ∧ w' = w := by
  go_enter Tryf.func6, Tryf.ntmps6
  go_wp2
  go_ret
  exact ⟨rfl, rfl⟩

theorem valid_node (nd : Int) (w : World) (h2 : nd ≤ 31) (h3 : ¬ nd = 0) :
    Calls Tryf.prog 6 #[.bool false, .int .u8 nd] w fun e w' => e = .returned (.bool false) ∧ w' = w := by
  have h4 : (nd == 0) = false := by simpa using h3
  go_enter Tryf.func6, Tryf.ntmps6
  go_wp2
  go_ret
  exact ⟨rfl, rfl⟩

/-- What the law asks of the generator's memory: Scalable and Node. -/
def Gen (w : World) (b : Nat) (sc : Bool) (nd : Int) : Prop := w.cell? ⟨b, 4, none⟩ = some (.bool sc) ∧ w.cell? ⟨b, 5, none⟩ = some (.int .u8 nd)

set_option maxHeartbeats 400000 in
theorem newGen (sc : Bool) (nd : Int) (w : World) (h1 : 0 ≤ nd) (h2 : nd ≤ 31) (h3 : nd = 0 ∨ sc = true) :
    Calls Tryf.prog 8 #[.bool sc, .int .u8 nd] w fun e w' => e = .returned (.tuple #[.pointer (some ⟨w.heap.size + 1, 0, none⟩), .nilIface]) ∧ Below w.heap.size w w' ∧ Gen w' (w.heap.size + 1) sc nd := by
  have fin : ∀ o : Obj, Below w.heap.size w ((w.alloc o).alloc (.cells #[.int .u64 0, .int .i64 0, .pointer none, .int .i64 0, .bool sc, .int .u8 nd, .nilFunc, .nilIface, .int .i32 0, .int .u32 0, .int .i64 0, .bool false, .nilIface, .int .u8 0, .int .u8 0, .int .u8 0] 59)) ∧
      Gen ((w.alloc o).alloc (.cells #[.int .u64 0, .int .i64 0, .pointer none, .int .i64 0, .bool sc, .int .u8 nd, .nilFunc, .nilIface, .int .i32 0, .int .u32 0, .int .i64 0, .bool false, .nilIface, .int .u8 0, .int .u8 0, .int .u8 0] 59)) (w.heap.size + 1) sc nd := fun o =>
    ⟨((Below.refl _ _).alloc (Nat.le_refl _) _).alloc (by simp) _, by simp, by simp⟩
  have HF : Hid _ := fin
  clear fin
  by_cases h0 : nd = 0
  · subst h0
    go_enter Tryf.func8, Tryf.ntmps8
    go_wp2
    go_ret2
    exact ⟨rfl, HF.out _⟩
  · obtain rfl : sc = true := by rcases h3 with h | h; exact absurd h h0; exact h
    have h4 : (nd == 0) = false := by simpa using h0
    have h5 : (nd != 0) = true := by simpa using h0
    go_enter Tryf.func8, Tryf.ntmps8
    go_wp2
    go_ret2
    exact ⟨rfl, HF.out _⟩

theorem width (sc : Bool) (b : Nat) (nd : Int) (w : World) (hg : Gen w b sc nd) :
    Calls Tryf.prog 14 #[.pointer (some ⟨b, 0, none⟩)] w fun e w' => e = .returned (.int .i64 (if sc then 15 else 20)) ∧ w' = w := by
  obtain ⟨hs, _⟩ := hg
  cases sc
  all_goals
    go_enter Tryf.func14, Tryf.ntmps14
    go_wp2
    go_ret
    exact ⟨rfl, rfl⟩

theorem zzwidth (sc : Bool) (b : Nat) (nd : Int) (w : World) (hg : Gen w b sc nd) :
    Calls Tryf.prog 11 #[.pointer (some ⟨b, 0, none⟩)] w fun e w' => e = .returned (.int .i64 (if sc then 15 else 20)) ∧ w' = w := by
  cases sc
  all_goals
    go_enter Tryf.func11, Tryf.ntmps11
    go_wp2_with (go_at_call 14; refine (width _ b nd _ hg).mono ?_; rintro e w' ⟨rfl, rfl⟩)
    go_ret
    exact ⟨rfl, rfl⟩

theorem ret_int {k : IntKind} {a b : Int} (h : a = b) : Ending.returned (.int k a) = .returned (.int k b) := by rw [h]

theorem id_true (b : Nat) (nd ts r : Int) (w : World) (hg : Gen w b true nd) (h1 : 0 ≤ nd) (h2 : nd ≤ 31) (h3 : 0 ≤ ts) (h4 : ts ≤ 8796093022207) (h5 : 0 ≤ r) (h6 : r ≤ 32767) :
    Calls Tryf.prog 13 #[.pointer (some ⟨b, 0, none⟩), .int .i64 ts, .int .u32 r] w fun e w' => e = .returned (.int .i64 (idOf true ts r nd)) ∧ ∃ n, w' = w.drewN n := by
  obtain ⟨hs, hn⟩ := hg
  go_enter Tryf.func13, Tryf.ntmps13
  go_wp2
  go_quiet ((go_at_call 14; exact Calls.quiet_of_same (width _ b nd _ ⟨hs, hn⟩)))
  go_wp2
  go_ret
  exact ⟨ret_int (id_scaled ts r nd h3 h4 h5 h6 h1 h2), _, rfl⟩

theorem id_false (b : Nat) (ts r : Int) (w : World) (hg : Gen w b false 0) (h3 : 0 ≤ ts) (h4 : ts ≤ 8796093022207) (h5 : 0 ≤ r) (h6 : r ≤ 1048575) :
    Calls Tryf.prog 13 #[.pointer (some ⟨b, 0, none⟩), .int .i64 ts, .int .u32 r] w fun e w' => e = .returned (.int .i64 (idOf false ts r 0)) ∧ ∃ n, w' = w.drewN n := by
  obtain ⟨hs, hn⟩ := hg
  go_enter Tryf.func13, Tryf.ntmps13
  go_wp2
  go_quiet ((go_at_call 14; exact Calls.quiet_of_same (width _ b 0 _ ⟨hs, hn⟩)))
  go_wp2
  all_goals
    go_ret
    exact ⟨ret_int (id_alone ts r h3 h4 h5 h6), _, rfl⟩

/-- The ID that a generator builds. -/
theorem zzid (sc : Bool) (b : Nat) (nd ts r : Int) (w : World) (hg : Gen w b sc nd) (h1 : 0 ≤ nd) (h2 : nd ≤ 31) (h7 : nd = 0 ∨ sc = true) (h3 : 0 ≤ ts) (h4 : ts ≤ 8796093022207) (h5 : 0 ≤ r) (h6 : r < top sc) :
    Calls Tryf.prog 9 #[.pointer (some ⟨b, 0, none⟩), .int .i64 ts, .int .u32 r] w fun e w' => e = .returned (.int .i64 (idOf sc ts r nd)) ∧ ∃ n, w' = w.drewN n := by
  cases sc
  · obtain rfl : nd = 0 := by simpa using h7
    have h8 : r ≤ 1048575 := by simp [top] at h6; omega
    go_enter Tryf.func9, Tryf.ntmps9
    go_wp2_with (go_at_call 13; refine (id_false b ts r _ hg h3 h4 h5 h8).mono ?_; rintro e w' ⟨rfl, n, rfl⟩)
    go_ret
    exact ⟨rfl, n, rfl⟩
  · have h8 : r ≤ 32767 := by simp [top] at h6; omega
    go_enter Tryf.func9, Tryf.ntmps9
    go_wp2_with (go_at_call 13; refine (id_true b nd ts r _ hg h1 h2 h3 h4 h5 h8).mono ?_; rintro e w' ⟨rfl, n, rfl⟩)
    go_ret
    exact ⟨rfl, n, rfl⟩

theorem Gen.drewN {w : World} {b : Nat} {sc : Bool} {nd : Int} (h : Gen w b sc nd) (n : Nat) : Gen (w.drewN n) b sc nd := h
end Go.Proofs.Qxb6616057aFmt
